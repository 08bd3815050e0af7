import JvmDerived
import JvmDerived.Pilot.@@N@@Statement
import JvmDerived.Pilot.@@N@@Code
set_option linter.unusedVariables false
set_option linter.unusedSimpArgs false
namespace Jvm.Pilot.@@N@@
open Jvm Jvm.ClassFile Sem Op Lib Jvm.Free Jvm.Stand Jvm.LawKit Jvm.RoadKit Bundle Jvm.Pilot.@@N@@.Jvm.D
/-! 1. the words of the mirrors: a named value, a check, a call -/
def own_lt {α β : Type} (x : α) (f : α → Option β) : Option β := f x
def own_ck {β : Type} (P : Prop) [Decidable P] (x : Option β) : Option β := if P then x else none
def own_bd {α β : Type} (x : Option α) (f : α → Option β) : Option β := x.bind f
theorem own_lt_e {α β : Type} {x : α} {f : α → Option β} {r : β} (h : own_lt x f = some r) : ∃ v, v = x ∧ f v = some r := ⟨x, rfl, h⟩
theorem own_ck_e {β : Type} {P : Prop} [Decidable P] {x : Option β} {r : β} (h : own_ck P x = some r) : P ∧ x = some r := by
  unfold own_ck at h
  by_cases q : P
  · rw [if_pos q] at h; exact ⟨q, h⟩
  · rw [if_neg q] at h; cases h
theorem own_bd_e {α β : Type} {x : Option α} {f : α → Option β} {r : β} (h : own_bd x f = some r) : ∃ v, x = some v ∧ f v = some r := by
  unfold own_bd at h
  cases x with
  | none => cases h
  | some v => exact ⟨v, rfl, h⟩
abbrev own_inb {α : Type} (bs : List α) (j : Int32) : Prop := ¬ j < 0 ∧ j.toNatClampNeg < bs.length
def own_rd {α : Type} [OfNat α 0] (bs : List α) (j : Int32) : α := bs.getD j.toNatClampNeg 0
def own_wr {α : Type} (bs : List α) (j : Int32) (v : α) : List α := bs.set j.toNatClampNeg v
def own_sz {α : Type} (bs : List α) : Int32 := bs.length.toInt32
def own_cp (bs ds : List Int32) (sp dp nn : Int32) : List Int32 := ds.take dp.toNatClampNeg ++ (List.range nn.toNatClampNeg).map (fun i => bs.getD (sp.toNatClampNeg + i) 0) ++ ds.drop (dp.toNatClampNeg + nn.toNatClampNeg)
abbrev own_cpok (bs ds : List Int32) (sp dp nn : Int32) : Prop := ¬ sp < 0 ∧ ¬ dp < 0 ∧ ¬ nn < 0 ∧ sp.toNatClampNeg + nn.toNatClampNeg ≤ bs.length ∧ dp.toNatClampNeg + nn.toNatClampNeg ≤ ds.length
/-! 2. a run that comes to an end as Q says -/
def own_Goes (p : Program) (e : Env) (below : List Frame) (s : State) (Q : Option Value → Heap → List Loc → Prop) (ce sl : Nat) (A : State) : Prop :=
  ∃ s₂ o, Steps p.tables e below A s₂ ∧ s₂.status = .running ∧ Ended s₂ below o ∧ ∃ v L, o = .returned v ∧ Q v s₂.heap L ∧ FrameEnd s o s₂ L ce sl
section Own
variable {p : Program} {l : Launch} {e : Env} {R : Room} {s : State} {m : MethodId} {args : Array Value} {below : List Frame} {meth : Method} {c : Code} {T : State} {locs : List Loc} {cells slots : Nat} {Z : State} {h h' : Heap} {Q : Option Value → Heap → List Loc → Prop} {ce sl : Nat}
theorem own_Goes.via {A B : State} (q : ∀ t, Steps p.tables e below B t → Steps p.tables e below A t) (g : own_Goes p e below s Q ce sl B) : own_Goes p e below s Q ce sl A := by
  obtain ⟨s₂, o, h1, r⟩ := g
  exact ⟨s₂, o, q _ h1, r⟩
theorem own_Goes.tr {A B : State} (q : Steps p.tables e below A B) (g : own_Goes p e below s Q ce sl B) : own_Goes p e below s Q ce sl A := g.via fun _ k => q.trans k
theorem own_retV (X : Stand p l e R s m args below meth c T locs cells slots) (hx : p.tables.exec = Jvm.exec) {pc : Nat} {Ls : Array Slot} (hret : meth.sig.returnType = none) (hlk : meth.locks = false) (hd : decode c.code pc = .ok (.return_, 1)) (eT : T.heap = h) (hQ : Q none h locs) (hc : cells ≤ ce) (hs : slots ≤ sl) :
    own_Goes p e below s Q ce sl (T.setTop (mkF m pc Ls [])) := by
  obtain ⟨fs, hr, hrun, hended, hW, hsame⟩ := X.leave (v := none) (fun _ => rfl) hlk
  refine ⟨_, _, ?_, hrun, hended, _, _, rfl, ?_, ⟨_, rfl⟩, hW, hsame.mono hc hs⟩
  · exact X.returnOut hx hret hd hr
  · show Q none T.heap locs
    rw [eT]; exact hQ
theorem own_retI (X : Stand p l e R s m args below meth c T locs cells slots) (hx : p.tables.exec = Jvm.exec) {pc : Nat} {Ls : Array Slot} {z : Int32} {rest : List Value} (hret : meth.sig.returnType = some .int) (hlk : meth.locks = false) (hd : decode c.code pc = .ok (.ireturn, 1)) (eT : T.heap = h) (hQ : Q (some (.int z)) h locs) (hc : cells ≤ ce) (hs : slots ≤ sl) :
    own_Goes p e below s Q ce sl (T.setTop (mkF m pc Ls (.int z :: rest))) := by
  obtain ⟨fs, hr, hrun, hended, hW, hsame⟩ := X.leave (v := some (.int z)) (fun h => by rw [hret] at h; cases h) hlk
  refine ⟨_, _, ?_, hrun, hended, _, _, rfl, ?_, ⟨_, rfl⟩, hW, hsame.mono hc hs⟩
  · exact retOut X hx hret rfl (Or.inl ⟨rfl, Or.inl rfl, z, rfl⟩) hd hr
  · show Q _ T.heap locs
    rw [eT]; exact hQ
theorem own_retJ (X : Stand p l e R s m args below meth c T locs cells slots) (hx : p.tables.exec = Jvm.exec) {pc : Nat} {Ls : Array Slot} {z : Int64} {rest : List Value} (hret : meth.sig.returnType = some .long) (hlk : meth.locks = false) (hd : decode c.code pc = .ok (.lreturn, 1)) (eT : T.heap = h) (hQ : Q (some (.long z)) h locs) (hc : cells ≤ ce) (hs : slots ≤ sl) :
    own_Goes p e below s Q ce sl (T.setTop (mkF m pc Ls (.long z :: rest))) := by
  obtain ⟨fs, hr, hrun, hended, hW, hsame⟩ := X.leave (v := some (.long z)) (fun h => by rw [hret] at h; cases h) hlk
  refine ⟨_, _, ?_, hrun, hended, _, _, rfl, ?_, ⟨_, rfl⟩, hW, hsame.mono hc hs⟩
  · exact retOut X hx hret rfl (Or.inr (Or.inl ⟨rfl, rfl, z, rfl⟩)) hd hr
  · show Q _ T.heap locs
    rw [eT]; exact hQ
theorem own_retR (X : Stand p l e R s m args below meth c T locs cells slots) (hx : p.tables.exec = Jvm.exec) {pc : Nat} {Ls : Array Slot} {t : FieldType} {w : Value} {rest : List Value} (hret : meth.sig.returnType = some t) (hlk : meth.locks = false) (hd : decode c.code pc = .ok (.areturn, 1)) (ht : t.isReference = true) (eT : T.heap = h) (hw : w.isRef = true) (hQ : Q (some w) h locs) (hc : cells ≤ ce) (hs : slots ≤ sl) :
    own_Goes p e below s Q ce sl (T.setTop (mkF m pc Ls (w :: rest))) := by
  obtain ⟨fs, hr, hrun, hended, hW, hsame⟩ := X.leave (v := some w) (fun h => by rw [hret] at h; cases h) hlk
  refine ⟨_, _, ?_, hrun, hended, _, _, rfl, ?_, ⟨_, rfl⟩, hW, hsame.mono hc hs⟩
  · exact retOut X hx hret (by cases t <;> first | (cases ht; done) | rfl) (Or.inr (Or.inr (Or.inr (Or.inr ⟨rfl, ht, hw⟩)))) hd hr
  · show Q _ T.heap locs
    rw [eT]; exact hQ
theorem own_retN (X : Stand p l e R s m args below meth c T locs cells slots) (hx : p.tables.exec = Jvm.exec) {pc : Nat} {Ls : Array Slot} {z v : Int32} {t : FieldType} {rest : List Value} (hret : meth.sig.returnType = some t) (hlk : meth.locks = false) (ht : t = .boolean ∨ t = .byte ∨ t = .char ∨ t = .short) (hd : decode c.code pc = .ok (.ireturn, 1)) (eT : T.heap = h) (hv : nar t z = v) (hQ : Q (some (.int v)) h locs) (hc : cells ≤ ce) (hs : slots ≤ sl) :
    own_Goes p e below s Q ce sl (T.setTop (mkF m pc Ls (.int z :: rest))) := by
  subst hv
  obtain ⟨fs, hr, hrun, hended, hW, hsame⟩ := X.leave (v := some (.int (nar t z))) (fun h => by rw [hret] at h; cases h) hlk
  refine ⟨_, _, ?_, hrun, hended, _, _, rfl, ?_, ⟨_, rfl⟩, hW, hsame.mono hc hs⟩
  · exact retN X hx hret ht hd hr
  · show Q _ T.heap locs
    rw [eT]; exact hQ
/-! 3. single steps -/
theorem own_irem {g : JFrame} {target : State} (X : Stand p l e R s m args below meth c T locs cells slots) (hx : p.tables.exec = Jvm.exec) (hg : g.method = m) {x y : Int32} {rest : List Value} (hd : decode c.code g.pc = .ok (.irem, 1)) (hs : g.stack = .int y :: .int x :: rest) (hy : y ≠ 0)
    (hr : Steps p.tables e below (T.setTop { g with pc := g.pc + 1, stack := .int (x % y) :: rest }) target) : Steps p.tables e below (T.setTop g) target := iremM X hx hg hd hs hy hr
theorem own_lrem {g : JFrame} {target : State} (X : Stand p l e R s m args below meth c T locs cells slots) (hx : p.tables.exec = Jvm.exec) (hg : g.method = m) {x y : Int64} {rest : List Value} (hd : decode c.code g.pc = .ok (.lrem, 1)) (hs : g.stack = .long y :: .long x :: rest) (hy : y ≠ 0)
    (hr : Steps p.tables e below (T.setTop { g with pc := g.pc + 1, stack := .long (x % y) :: rest }) target) : Steps p.tables e below (T.setTop g) target :=
  XS.lrem X.here hx hg hd hs hy (by rw [lrem_mod]; exact hr)
theorem own_tltL {x y : Int64} (q : x < y) : ifCond.holds .lt (lcmpW x y) = true ∧ ifCond.holds .ge (lcmpW x y) = false := by
  rw [if0, if0]; exact ⟨(tlt ((lw_lt x y).mpr q)).1, (tlt ((lw_lt x y).mpr q)).2.1⟩
theorem own_fltL {x y : Int64} (q : ¬ x < y) : ifCond.holds .lt (lcmpW x y) = false ∧ ifCond.holds .ge (lcmpW x y) = true := by
  rw [if0, if0]; exact ⟨(flt fun z => q ((lw_lt x y).mp z)).1, (flt fun z => q ((lw_lt x y).mp z)).2.1⟩
theorem own_tgtL {x y : Int64} (q : y < x) : ifCond.holds .gt (lcmpW x y) = true ∧ ifCond.holds .le (lcmpW x y) = false := by
  rw [if0, if0]; exact ⟨(tlt ((lw_gt x y).mpr q)).2.2.1, (tlt ((lw_gt x y).mpr q)).2.2.2⟩
theorem own_fgtL {x y : Int64} (q : ¬ y < x) : ifCond.holds .gt (lcmpW x y) = false ∧ ifCond.holds .le (lcmpW x y) = true := by
  rw [if0, if0]; exact ⟨(flt fun z => q ((lw_gt x y).mp z)).2.2.1, (flt fun z => q ((lw_gt x y).mp z)).2.2.2⟩
theorem own_teqL {x y : Int64} (q : x = y) : ifCond.holds .eq (lcmpW x y) = true ∧ ifCond.holds .ne (lcmpW x y) = false := by
  rw [if0, if0]; exact ⟨(teq ((lw_eq x y).mpr q)).1, (teq ((lw_eq x y).mpr q)).2⟩
theorem own_feqL {x y : Int64} (q : ¬ x = y) : ifCond.holds .eq (lcmpW x y) = false ∧ ifCond.holds .ne (lcmpW x y) = true := by
  rw [if0, if0]; exact ⟨(feq fun z => q ((lw_eq x y).mp z)).1, (feq fun z => q ((lw_eq x y).mp z)).2⟩
theorem own_st1 {L : Array Slot} {i : Nat} {v : Value} {o : Slot} {L' : Array Slot} (hold : L[i]? = some o) (ho : One o) (hv : v.category = 1) (hL : L.setIfInBounds i (.val v) = L' := by rfl) : storeLocals L i v = some L' := hL ▸ XS.store1 hold ho hv
theorem own_privSel {s : State} {args : Array Value} {y : MethodName} {n : Nat} (wi : (Cond.instantiable y.cls n).before args s = true) (hp : s.PrivateAt y) (hinst : (Cond.instanceMethod y).before args s = true) (hy : y.cls ≠ "java/lang/invoke/MethodHandle" ∧ y.cls ≠ "java/lang/invoke/VarHandle") : (Cond.selects y.cls y y).before args s = true := by
  obtain ⟨c, k, h1, h2, -, h3, -⟩ := Cond.instantiable_spec wi
  exact selects_self_of_private h1 h2 (Bool.or_eq_false_iff.mp h3).1 hp hinst hy
theorem own_st2 {L L' : Array Slot} {i : Nat} {x : Int64} {o1 o2 : Slot} (h1 : L[i]? = some o1) (h2 : L[i + 1]? = some o2) (q1 : One o1) (q2 : One o2) (hL : (L.setIfInBounds i (.val (.long x))).setIfInBounds (i + 1) .second = L' := by rfl) : storeLocals L i (.long x) = some L' := by
  subst hL
  obtain ⟨b1, g1⟩ := Array.getElem?_eq_some_iff.mp h1
  obtain ⟨b2, g2⟩ := Array.getElem?_eq_some_iff.mp h2
  have hc : (Value.long x).category = 2 := rfl
  rcases q1 with rfl | ⟨w, rfl, hw⟩ <;> rcases q2 with rfl | ⟨w', rfl, hw'⟩ <;> simp [storeLocals, storeSelf, setAt, hc, *]
/-! 4. arrays: what lies in them, as a list -/
def own_Ar (Z : State) (h : Heap) (a : Addr) (ty : FieldType) (vs : List Value) : Prop := ∃ c : Cell, Arr Z h a c ty ∧ c.slots.toList = vs ∧ vs.length < 2 ^ 31 ∧ ∀ v ∈ vs, fits ty v = true
variable {a b : Addr} {ty : FieldType} {vs : List Value}
theorem own_Ar.lt (F : own_Ar Z h a ty vs) : a < h.size := by obtain ⟨c, A, -⟩ := F; exact A.lt
theorem own_Ar.ext (F : own_Ar Z h a ty vs) (E : Ext h h') : own_Ar Z h' a ty vs := by obtain ⟨c, A, r⟩ := F; exact ⟨c, A.ext E, r⟩
theorem own_Ar.other {k : Nat} {v : Value} (F : own_Ar Z h b ty vs) (W : Wr h h' a k v) (q : b ≠ a) : own_Ar Z h' b ty vs := by obtain ⟨c, A, r⟩ := F; exact ⟨c, A.other W q, r⟩
theorem own_Ar.keep {ws : List Addr} (F : own_Ar Z h a ty vs) (K : Keep h h' ws) (q : a ∉ ws) : own_Ar Z h' a ty vs := by obtain ⟨c, A, r⟩ := F; exact ⟨c, ⟨K.2.1 a c A.1 q, A.2⟩, r⟩
theorem own_Ar.size {c : Cell} (q : c.slots.toList = vs) : c.slots.size = vs.length := by rw [← q]; simp
theorem own_in {c : Cell} {j : Int32} (q : c.slots.toList = vs) (hj : own_inb vs j) : ¬ (j < 0 ∨ c.slots.size ≤ j.toNatClampNeg) := by
  rw [own_Ar.size q]
  rintro (r | r)
  · exact hj.1 r
  · exact absurd hj.2 (Nat.not_lt.mpr r)
theorem own_get {c : Cell} {i : Nat} (q : c.slots.toList = vs) (d : Value) (hi : i < vs.length) : c.slots[i]? = some (vs.getD i d) := by
  have e : c.slots = vs.toArray := by rw [← q]
  rw [e]
  simp [List.getD, hi]
theorem own_set {c : Cell} {i : Nat} {v : Value} (q : c.slots.toList = vs) : (c.setSlot i v).slots.toList = vs.set i v := by
  have e : c.slots = vs.toArray := by rw [← q]
  simp [Cell.setSlot, e]
theorem own_fits {i : Nat} {v : Value} (q : ∀ v ∈ vs, fits ty v = true) (hv : fits ty v = true) : ∀ u ∈ vs.set i v, fits ty u = true := fun u hu => by
  rcases List.mem_or_eq_of_mem_set hu with r | r
  · exact q u r
  · rw [r]; exact hv
theorem own_mapGet {bs : List Int32} {i : Nat} (hi : i < bs.length) : (bs.map Value.int).getD i (.int 0) = .int (bs.getD i 0) := by simp [List.getD, hi]
theorem own_mapGetJ {bs : List Int64} {i : Nat} (hi : i < bs.length) : (bs.map Value.long).getD i (.long 0) = .long (bs.getD i 0) := by simp [List.getD, hi]
theorem own_mapSet {bs : List Int32} {i : Nat} {v : Int32} : (bs.map Value.int).set i (.int v) = (bs.set i v).map Value.int := by simp
theorem own_mapSetJ {bs : List Int64} {i : Nat} {v : Int64} : (bs.map Value.long).set i (.long v) = (bs.set i v).map Value.long := by simp
theorem own_inbM {α : Type} {f : α → Value} {bs : List α} {j : Int32} (q : own_inb bs j) : own_inb (bs.map f) j := ⟨q.1, by rw [List.length_map]; exact q.2⟩
theorem own_wrk {α : Type} {bs : List α} {j : Int32} {v : α} (k : Nat) (hk : j.toNatClampNeg = k) : own_wr bs j v = bs.set k v := by rw [own_wr, hk]
theorem own_rdk {α : Type} [OfNat α 0] {bs : List α} {j : Int32} (k : Nat) (hk : j.toNatClampNeg = k) : own_rd bs j = bs.getD k 0 := by rw [own_rd, hk]
theorem own_inbk {α : Type} {bs : List α} {j : Int32} (k n : Nat) (h0 : ¬ j < 0) (hk : j.toNatClampNeg = k) (hl : bs.length = n) (hkn : k < n) : own_inb bs j := ⟨h0, by rw [hk, hl]; exact hkn⟩
theorem own_len {α : Type} {f : α → Value} {bs : List α} (X : Stand p l e R s m args below meth c T locs cells slots) (hx : p.tables.exec = Jvm.exec) (hZ : Z.Warmed39 s.vm) (eT : T.heap = h) (A : own_Ar Z h a ty (bs.map f)) {g : JFrame} (hg : g.method = m) {rest : List Value} (hs : g.stack = .ref a :: rest) (hd : decode c.code g.pc = .ok (.arraylength, 1)) {target : State}
    (hr : Steps p.tables e below (T.setTop { g with pc := g.pc + 1, stack := .int (own_sz bs) :: rest }) target) : Steps p.tables e below (T.setTop g) target := by
  obtain ⟨cl, A, q, -⟩ := A
  refine X.arraylength hx (by rw [eT]; exact A.1) (State.isArrayOf_alike hZ.alike A.2.1) hg hs hd _ ?_
  rw [own_Ar.size q, List.length_map]; exact hr
theorem own_ldI {bs : List Int32} {j v : Int32} (X : Stand p l e R s m args below meth c T locs cells slots) (hx : p.tables.exec = Jvm.exec) (hZ : Z.Warmed39 s.vm) (eT : T.heap = h) (A : own_Ar Z h a .int (bs.map Value.int)) (hj : own_inb bs j) (hv : own_rd bs j = v) {g : JFrame} (hg : g.method = m) {rest : List Value} (hs : g.stack = .int j :: .ref a :: rest) (hd : decode c.code g.pc = .ok (.iaload, 1)) {target : State}
    (hr : Steps p.tables e below (T.setTop { g with pc := g.pc + 1, stack := .int v :: rest }) target) : Steps p.tables e below (T.setTop g) target := by
  subst hv
  obtain ⟨cl, A, q, -⟩ := A
  exact X.iaload hx (by rw [eT]; exact A.1) (State.isArrayOf_alike hZ.alike A.2.1) A.2.2 (own_in q (own_inbM hj)) ((own_get q (.int 0) (own_inbM hj).2).trans (congrArg some (own_mapGet hj.2))) hg hs hd _ hr
theorem own_ldB {bs : List Int32} {j v : Int32} (X : Stand p l e R s m args below meth c T locs cells slots) (hx : p.tables.exec = Jvm.exec) (hZ : Z.Warmed39 s.vm) (eT : T.heap = h) (A : own_Ar Z h a .byte (bs.map Value.int)) (hj : own_inb bs j) (hv : own_rd bs j = v) {g : JFrame} (hg : g.method = m) {rest : List Value} (hs : g.stack = .int j :: .ref a :: rest) (hd : decode c.code g.pc = .ok (.baload, 1)) {target : State}
    (hr : Steps p.tables e below (T.setTop { g with pc := g.pc + 1, stack := .int v :: rest }) target) : Steps p.tables e below (T.setTop g) target := by
  subst hv
  obtain ⟨cl, A, q, -⟩ := A
  exact X.baloadBytes hx (by rw [eT]; exact A.1) (State.isArrayOf_alike hZ.alike A.2.1) A.2.2 (own_in q (own_inbM hj)) ((own_get q (.int 0) (own_inbM hj).2).trans (congrArg some (own_mapGet hj.2))) hg hs hd _ hr
theorem own_ldZ {bs : List Int32} {j v : Int32} (X : Stand p l e R s m args below meth c T locs cells slots) (hx : p.tables.exec = Jvm.exec) (hZ : Z.Warmed39 s.vm) (eT : T.heap = h) (A : own_Ar Z h a .boolean (bs.map Value.int)) (hj : own_inb bs j) (hv : own_rd bs j = v) {g : JFrame} (hg : g.method = m) {rest : List Value} (hs : g.stack = .int j :: .ref a :: rest) (hd : decode c.code g.pc = .ok (.baload, 1)) {target : State}
    (hr : Steps p.tables e below (T.setTop { g with pc := g.pc + 1, stack := .int v :: rest }) target) : Steps p.tables e below (T.setTop g) target := by
  subst hv
  obtain ⟨cl, A, q, -⟩ := A
  exact X.baloadBooleans hx (by rw [eT]; exact A.1) (State.isArrayOf_alike hZ.alike A.2.1) A.2.2 (own_in q (own_inbM hj)) ((own_get q (.int 0) (own_inbM hj).2).trans (congrArg some (own_mapGet hj.2))) hg hs hd _ hr
theorem own_ldJ {bs : List Int64} {j : Int32} {v : Int64} (X : Stand p l e R s m args below meth c T locs cells slots) (hx : p.tables.exec = Jvm.exec) (hZ : Z.Warmed39 s.vm) (eT : T.heap = h) (A : own_Ar Z h a .long (bs.map Value.long)) (hj : own_inb bs j) (hv : own_rd bs j = v) {g : JFrame} (hg : g.method = m) {rest : List Value} (hs : g.stack = .int j :: .ref a :: rest) (hd : decode c.code g.pc = .ok (.laload, 1)) {target : State}
    (hr : Steps p.tables e below (T.setTop { g with pc := g.pc + 1, stack := .long v :: rest }) target) : Steps p.tables e below (T.setTop g) target := by
  subst hv
  obtain ⟨cl, A, q, -⟩ := A
  exact X.laload hx (by rw [eT]; exact A.1) (State.isArrayOf_alike hZ.alike A.2.1) A.2.2 (own_in q (own_inbM hj)) ((own_get q (.long 0) (own_inbM hj).2).trans (congrArg some (own_mapGetJ hj.2))) hg hs hd _ hr
theorem own_stI {bs : List Int32} {j x : Int32} (X : Stand p l e R s m args below meth c T locs cells slots) (hx : p.tables.exec = Jvm.exec) (hZ : Z.Warmed39 s.vm) (eT : T.heap = h) (A : own_Ar Z h a .int (bs.map Value.int)) (hj : own_inb bs j) {g : JFrame} (hg : g.method = m) {rest : List Value} (hs : g.stack = .int x :: .int j :: .ref a :: rest) (hd : decode c.code g.pc = .ok (.iastore, 1)) :
    ∃ T' h', Stand p l e R s m args below meth c T' (locs ++ [⟨a, j.toNatClampNeg⟩]) cells slots ∧ T'.heap = h' ∧ Wr h h' a j.toNatClampNeg (.int x) ∧ own_Ar Z h' a .int ((own_wr bs j x).map Value.int) ∧ ∀ target, Steps p.tables e below (T'.setTop { g with pc := g.pc + 1, stack := rest }) target → Steps p.tables e below (T.setTop g) target := by
  obtain ⟨cl, A, q, r, ft⟩ := A
  obtain ⟨T', h', X', e', W, st⟩ := stI X hx hZ eT A (own_in q (own_inbM hj)) hg hs hd
  exact ⟨T', h', X', e', W, ⟨_, A.same W, (own_set q).trans own_mapSet, by simpa [own_wr] using r, own_mapSet ▸ own_fits ft rfl⟩, st⟩
theorem own_stB {bs : List Int32} {j x : Int32} (X : Stand p l e R s m args below meth c T locs cells slots) (hx : p.tables.exec = Jvm.exec) (hZ : Z.Warmed39 s.vm) (eT : T.heap = h) (A : own_Ar Z h a .byte (bs.map Value.int)) (hj : own_inb bs j) {g : JFrame} (hg : g.method = m) {rest : List Value} (hs : g.stack = .int x :: .int j :: .ref a :: rest) (hd : decode c.code g.pc = .ok (.bastore, 1)) :
    ∃ T' h', Stand p l e R s m args below meth c T' (locs ++ [⟨a, j.toNatClampNeg⟩]) cells slots ∧ T'.heap = h' ∧ Wr h h' a j.toNatClampNeg (.int x.toInt8.toInt32) ∧ own_Ar Z h' a .byte ((own_wr bs j x.toInt8.toInt32).map Value.int) ∧ ∀ target, Steps p.tables e below (T'.setTop { g with pc := g.pc + 1, stack := rest }) target → Steps p.tables e below (T.setTop g) target := by
  obtain ⟨cl, A, q, r, ft⟩ := A
  obtain ⟨T', h', X', e', W, st⟩ := stB X hx hZ eT A (own_in q (own_inbM hj)) hg hs hd
  exact ⟨T', h', X', e', W, ⟨_, A.same W, (own_set q).trans own_mapSet, by simpa [own_wr] using r, own_mapSet ▸ own_fits ft (fits_nar_byte _)⟩, st⟩
theorem own_stZ {bs : List Int32} {j x : Int32} (X : Stand p l e R s m args below meth c T locs cells slots) (hx : p.tables.exec = Jvm.exec) (hZ : Z.Warmed39 s.vm) (eT : T.heap = h) (A : own_Ar Z h a .boolean (bs.map Value.int)) (hj : own_inb bs j) {g : JFrame} (hg : g.method = m) {rest : List Value} (hs : g.stack = .int x :: .int j :: .ref a :: rest) (hd : decode c.code g.pc = .ok (.bastore, 1)) :
    ∃ T' h', Stand p l e R s m args below meth c T' (locs ++ [⟨a, j.toNatClampNeg⟩]) cells slots ∧ T'.heap = h' ∧ Wr h h' a j.toNatClampNeg (.int (x &&& 1)) ∧ own_Ar Z h' a .boolean ((own_wr bs j (x &&& 1)).map Value.int) ∧ ∀ target, Steps p.tables e below (T'.setTop { g with pc := g.pc + 1, stack := rest }) target → Steps p.tables e below (T.setTop g) target := by
  obtain ⟨cl, A, q, r, ft⟩ := A
  obtain ⟨T', h', X', e', W, st⟩ := stZ X hx hZ eT A (own_in q (own_inbM hj)) hg hs hd
  exact ⟨T', h', X', e', W, ⟨_, A.same W, (own_set q).trans own_mapSet, by simpa [own_wr] using r, own_mapSet ▸ own_fits ft (fits_nar_bool _)⟩, st⟩
theorem own_stJ {bs : List Int64} {j : Int32} {x : Int64} (X : Stand p l e R s m args below meth c T locs cells slots) (hx : p.tables.exec = Jvm.exec) (hZ : Z.Warmed39 s.vm) (eT : T.heap = h) (A : own_Ar Z h a .long (bs.map Value.long)) (hj : own_inb bs j) {g : JFrame} (hg : g.method = m) {rest : List Value} (hs : g.stack = .long x :: .int j :: .ref a :: rest) (hd : decode c.code g.pc = .ok (.lastore, 1)) :
    ∃ T' h', Stand p l e R s m args below meth c T' (locs ++ [⟨a, j.toNatClampNeg⟩]) cells slots ∧ T'.heap = h' ∧ Wr h h' a j.toNatClampNeg (.long x) ∧ own_Ar Z h' a .long ((own_wr bs j x).map Value.long) ∧ ∀ target, Steps p.tables e below (T'.setTop { g with pc := g.pc + 1, stack := rest }) target → Steps p.tables e below (T.setTop g) target := by
  obtain ⟨cl, A, q, r, ft⟩ := A
  obtain ⟨T', h', X', e', W, st⟩ := stJ X hx hZ eT A (own_in q (own_inbM hj)) hg hs hd
  exact ⟨T', h', X', e', W, ⟨_, A.same W, (own_set q).trans own_mapSetJ, by simpa [own_wr] using r, own_mapSetJ ▸ own_fits ft rfl⟩, st⟩
theorem own_newI {k : ClassId} {n : Int32} {kk : Nat} (A : Arr Z h a (newA k ty n) ty) (q : ¬ n < 0) (hd : defaultValue ty = .int 0) (hk : n.toNatClampNeg = kk) : own_Ar Z h a ty ((List.replicate kk (0 : Int32)).map Value.int) := hk ▸
  ⟨_, A, by simp [newA, hd], by rw [List.length_map, List.length_replicate]; exact (back32 q).2, fun v hv => by
    rw [List.map_replicate] at hv
    rw [(List.mem_replicate.mp hv).2, ← hd]; cases ty <;> rfl⟩
theorem own_newJ {k : ClassId} {n : Int32} {kk : Nat} (A : Arr Z h a (newA k ty n) ty) (q : ¬ n < 0) (hd : defaultValue ty = .long 0) (hk : n.toNatClampNeg = kk) : own_Ar Z h a ty ((List.replicate kk (0 : Int64)).map Value.long) := hk ▸
  ⟨_, A, by simp [newA, hd], by rw [List.length_map, List.length_replicate]; exact (back32 q).2, fun v hv => by
    rw [List.map_replicate] at hv
    rw [(List.mem_replicate.mp hv).2, ← hd]; cases ty <;> rfl⟩
/-! 5. System.arraycopy of bytes -/
theorem own_lenI {n : Nat} (q : n < 2 ^ 31) : (Int32.ofNat n).toNatClampNeg = n ∧ ¬ Int32.ofNat n < 0 := by
  have e : (Int32.ofNat n).toInt = n := Int32.toInt_ofNat_of_lt q
  refine ⟨by rw [Int32.toNatClampNeg, e]; omega, ?_⟩
  rw [Int32.lt_iff_toInt_lt, e]
  have z : (0 : Int32).toInt = 0 := rfl
  omega
theorem own_arv {bs : List Int32} (A : own_Ar Z h a ty (bs.map Value.int)) : ∃ k, Arv Z h a k ty (Int32.ofNat bs.length) (bs.map Value.int) (.int 0) := by
  obtain ⟨c, A, q, r, ft⟩ := A
  have hl := own_lenI (n := bs.length) (by simpa using r)
  have sz : c.slots.size = bs.length := by rw [own_Ar.size q, List.length_map]
  refine ⟨c.cls, c, A, rfl, by rw [sz, hl.1], hl.2, fun i hi => own_get q _ (by rw [← own_Ar.size q]; exact hi), fun i hi => ?_⟩
  have hi' : i < (bs.map Value.int).length := by rw [← own_Ar.size q]; exact hi
  have e : (bs.map Value.int).getD i (.int 0) = (bs.map Value.int)[i] := by simp only [List.getD_eq_getElem?_getD, List.getElem?_eq_getElem hi', Option.getD_some]
  rw [e]
  exact ft _ (List.getElem_mem hi')
theorem own_varr {k : ClassId} {n : Int32} {bs : List Int32} (A : Arv Z h a k ty n (bs.map Value.int) (.int 0)) (hn : n.toNatClampNeg = bs.length) : own_Ar Z h a ty (bs.map Value.int) := by
  obtain ⟨c, A, -, S, q, H, G⟩ := A
  have sz : c.slots.size = (bs.map Value.int).length := by rw [S, hn, List.length_map]
  have lt : bs.length < 2 ^ 31 := by rw [← hn]; exact (back32 q).2
  have e : c.slots.toList = bs.map Value.int := by
    apply List.ext_getElem?
    intro i
    by_cases hi : i < c.slots.size
    · have := H i hi
      rw [Array.getElem?_toList, this, List.getElem?_eq_getElem (by rw [← sz]; exact hi)]
      congr 1
      simp only [List.getD_eq_getElem?_getD, List.getElem?_eq_getElem (show i < (bs.map Value.int).length by rw [← sz]; exact hi), Option.getD_some]
    · rw [Array.getElem?_toList, Array.getElem?_eq_none (by omega), List.getElem?_eq_none (by omega)]
  refine ⟨c, A, e, by rw [List.length_map]; exact lt, fun v hv => ?_⟩
  obtain ⟨i, hi, rfl⟩ := List.getElem_of_mem hv
  have := G i (by rw [sz]; exact hi)
  rw [List.getD_eq_getElem?_getD, List.getElem?_eq_getElem hi, Option.getD_some] at this
  exact this
theorem own_cpy {a0 : Array Value} {own : String} {index : Nat} {bs ds : List Int32} {sp dp nn : Int32} {n0 : Nat} (X : Stand p l e R s m args below meth c T locs cells slots) (hx : p.tables.exec = Jvm.exec) (hZ : Z.Warmed39 s.vm) (hown : s.vm.findClass own = some m.cls)
    (w1 : (Cond.methodLink own index Jvm.Stand.acN).before a0 Z = true) (w2 : (Cond.native Jvm.Stand.acN).before a0 Z = true) (w3 : (Cond.static Jvm.Stand.acN).before a0 Z = true) (w4 : (Cond.initialized "java/lang/System").before a0 Z = true) (eT : T.heap = h)
    (A : own_Ar Z h a .byte (bs.map Value.int)) (B : own_Ar Z h b .byte (ds.map Value.int)) (ok : own_cpok bs ds sp dp nn) (N : Fr n0 locs) (ge : n0 ≤ b)
    {g : JFrame} (hg : g.method = m) (hsize : g.locals.size = c.maxLocals) {rest : List Value} (hs : g.stack = .int nn :: .int dp :: .ref b :: .int sp :: .ref a :: rest) (hd : decode c.code g.pc = .ok (.invokestatic index, 3))
    (hf : 1 ≤ R.frames) {W : Nat} (hW : 2 * g.monitorRoom + (rest.map fun v => v.category).sum ≤ W) (hlo : W + (nativeFrameWords "java/lang/System" "arraycopy" 5 + 11) ≤ R.locals) :
    ∃ T' h' L, Stand p l e R s m args below meth c T' L cells slots ∧ T'.heap = h' ∧ Fr n0 L ∧ Keep h h' [b] ∧ own_Ar Z h' b .byte ((own_cp bs ds sp dp nn).map Value.int) ∧
      ∀ target, Steps p.tables e below (T'.setTop { g with pc := g.pc + 3, stack := rest }) target → Steps p.tables e below (T.setTop g) target := by
  have lb : bs.length < 2 ^ 31 := by obtain ⟨c, -, -, r, -⟩ := A; simpa using r
  have ld : ds.length < 2 ^ 31 := by obtain ⟨c, -, -, r, -⟩ := B; simpa using r
  obtain ⟨k, A⟩ := own_arv A
  obtain ⟨k', B⟩ := own_arv B
  obtain ⟨h1, h2, h3, h4, h5⟩ := ok
  obtain ⟨T', h', L, X', e', F, K, V, st⟩ := cpA X hx hZ hown w1 w2 w3 w4 eT A B (Or.inl ⟨rfl, rfl⟩) h1 h2 h3 (by rw [(own_lenI lb).1]; exact h4) (by rw [(own_lenI ld).1]; exact h5) rfl (by rw [List.length_map]; exact h5) N ge hg hsize hs hd hf hW hlo
  have eq : (ds.map Value.int).take dp.toNatClampNeg ++ ((List.range nn.toNatClampNeg).map fun i => (bs.map Value.int).getD (sp.toNatClampNeg + i) (.int 0)) ++ (ds.map Value.int).drop (dp.toNatClampNeg + nn.toNatClampNeg) = (own_cp bs ds sp dp nn).map Value.int := by
    rw [own_cp, List.map_append, List.map_append, List.map_take, List.map_drop, List.map_map]
    congr 2
    apply List.map_congr_left
    intro i hi
    exact own_mapGet (by have := List.mem_range.mp hi; omega)
  rw [eq] at V
  refine ⟨T', h', L, X', e', F, K, own_varr V ?_, st⟩
  rw [(own_lenI ld).1, own_cp]
  simp only [List.length_append, List.length_take, List.length_map, List.length_range, List.length_drop]
  omega
end Own
theorem w0 {a0 : Array Value} {Z : State} (hw : ∀ d ∈ tables_1, d.before a0 Z = true) : ((Jvm.Cond.arrayClass Jvm.ClassFile.FieldType.byte)).before a0 Z = true := hw _ (List.mem_of_getElem? (i := 0) rfl)
theorem w1 {a0 : Array Value} {Z : State} (hw : ∀ d ∈ tables_1, d.before a0 Z = true) : ((Jvm.Cond.classLink "com/example/keyslate/keyslate/session/TlvReaderNextTagPinLaw" (7 : Nat) "com/example/keyslate/keyslate/session/TlvReader")).before a0 Z = true := hw _ (List.mem_of_getElem? (i := 1) rfl)
theorem w2 {a0 : Array Value} {Z : State} (hw : ∀ d ∈ tables_1, d.before a0 Z = true) : ((Jvm.Cond.instantiable "com/example/keyslate/keyslate/session/TlvReader" (2 : Nat))).before a0 Z = true := hw _ (List.mem_of_getElem? (i := 2) rfl)
theorem w3 {a0 : Array Value} {Z : State} (hw : ∀ d ∈ tables_1, d.before a0 Z = true) : ((Jvm.Cond.initialized "com/example/keyslate/keyslate/session/TlvReader")).before a0 Z = true := hw _ (List.mem_of_getElem? (i := 3) rfl)
theorem w4 {a0 : Array Value} {Z : State} (hw : ∀ d ∈ tables_1, d.before a0 Z = true) : ((Jvm.Cond.methodLink "com/example/keyslate/keyslate/session/TlvReaderNextTagPinLaw" (9 : Nat) ({ cls := "com/example/keyslate/keyslate/session/TlvReader", name := "<init>", desc := "([B)V" } : Jvm.MethodName))).before a0 Z = true := hw _ (List.mem_of_getElem? (i := 4) rfl)
theorem w5 {a0 : Array Value} {Z : State} (hw : ∀ d ∈ tables_1, d.before a0 Z = true) : ((Jvm.Cond.instanceMethod ({ cls := "com/example/keyslate/keyslate/session/TlvReader", name := "<init>", desc := "([B)V" } : Jvm.MethodName))).before a0 Z = true := hw _ (List.mem_of_getElem? (i := 5) rfl)
theorem w6 {a0 : Array Value} {Z : State} (hw : ∀ d ∈ tables_1, d.before a0 Z = true) : ((Jvm.Cond.code ({ cls := "com/example/keyslate/keyslate/session/TlvReader", name := "<init>", desc := "([B)V" } : Jvm.MethodName) prog_12_method_1_code (2 : Nat) (Option.none : Option Jvm.ClassFile.FieldType))).before a0 Z = true := hw _ (List.mem_of_getElem? (i := 6) rfl)
theorem w7 {a0 : Array Value} {Z : State} (hw : ∀ d ∈ tables_1, d.before a0 Z = true) : ((Jvm.Cond.methodLink "com/example/keyslate/keyslate/session/TlvReader" (1 : Nat) ({ cls := "java/lang/Object", name := "<init>", desc := "()V" } : Jvm.MethodName))).before a0 Z = true := hw _ (List.mem_of_getElem? (i := 7) rfl)
theorem w8 {a0 : Array Value} {Z : State} (hw : ∀ d ∈ tables_1, d.before a0 Z = true) : ((Jvm.Cond.instanceMethod ({ cls := "java/lang/Object", name := "<init>", desc := "()V" } : Jvm.MethodName))).before a0 Z = true := hw _ (List.mem_of_getElem? (i := 8) rfl)
theorem w9 {a0 : Array Value} {Z : State} (hw : ∀ d ∈ tables_1, d.before a0 Z = true) : ((Jvm.Cond.code ({ cls := "java/lang/Object", name := "<init>", desc := "()V" } : Jvm.MethodName) object_method_1_code (1 : Nat) (Option.none : Option Jvm.ClassFile.FieldType))).before a0 Z = true := hw _ (List.mem_of_getElem? (i := 9) rfl)
theorem w10 {a0 : Array Value} {Z : State} (hw : ∀ d ∈ tables_1, d.before a0 Z = true) : ((Jvm.Cond.fieldLink "com/example/keyslate/keyslate/session/TlvReader" (7 : Nat) "com/example/keyslate/keyslate/session/TlvReader" "data" "[B")).before a0 Z = true := hw _ (List.mem_of_getElem? (i := 10) rfl)
theorem w11 {a0 : Array Value} {Z : State} (hw : ∀ d ∈ tables_1, d.before a0 Z = true) : ((Jvm.Cond.laysFinal "com/example/keyslate/keyslate/session/TlvReader" "com/example/keyslate/keyslate/session/TlvReader" "data" "[B")).before a0 Z = true := hw _ (List.mem_of_getElem? (i := 11) rfl)
theorem w12 {a0 : Array Value} {Z : State} (hw : ∀ d ∈ tables_1, d.before a0 Z = true) : ((Jvm.Cond.methodLink "com/example/keyslate/keyslate/session/TlvReaderNextTagPinLaw" (12 : Nat) ({ cls := "com/example/keyslate/keyslate/session/TlvReader", name := "nextTag", desc := "()I" } : Jvm.MethodName))).before a0 Z = true := hw _ (List.mem_of_getElem? (i := 12) rfl)
theorem w13 {a0 : Array Value} {Z : State} (hw : ∀ d ∈ tables_1, d.before a0 Z = true) : ((Jvm.Cond.declares ({ cls := "com/example/keyslate/keyslate/session/TlvReader", name := "nextTag", desc := "()I" } : Jvm.MethodName))).before a0 Z = true := hw _ (List.mem_of_getElem? (i := 13) rfl)
theorem w14 {a0 : Array Value} {Z : State} (hw : ∀ d ∈ tables_1, d.before a0 Z = true) : ((Jvm.Cond.instanceMethod ({ cls := "com/example/keyslate/keyslate/session/TlvReader", name := "nextTag", desc := "()I" } : Jvm.MethodName))).before a0 Z = true := hw _ (List.mem_of_getElem? (i := 14) rfl)
theorem w15 {a0 : Array Value} {Z : State} (hw : ∀ d ∈ tables_1, d.before a0 Z = true) : ((Jvm.Cond.selects "com/example/keyslate/keyslate/session/TlvReader" ({ cls := "com/example/keyslate/keyslate/session/TlvReader", name := "nextTag", desc := "()I" } : Jvm.MethodName) ({ cls := "com/example/keyslate/keyslate/session/TlvReader", name := "nextTag", desc := "()I" } : Jvm.MethodName))).before a0 Z = true := hw _ (List.mem_of_getElem? (i := 15) rfl)
theorem w16 {a0 : Array Value} {Z : State} (hw : ∀ d ∈ tables_1, d.before a0 Z = true) : ((Jvm.Cond.code ({ cls := "com/example/keyslate/keyslate/session/TlvReader", name := "nextTag", desc := "()I" } : Jvm.MethodName) prog_12_method_2_code (1 : Nat) (Option.some Jvm.ClassFile.FieldType.int))).before a0 Z = true := hw _ (List.mem_of_getElem? (i := 16) rfl)
theorem w17 {a0 : Array Value} {Z : State} (hw : ∀ d ∈ tables_1, d.before a0 Z = true) : ((Jvm.Cond.fieldLink "com/example/keyslate/keyslate/session/TlvReader" (13 : Nat) "com/example/keyslate/keyslate/session/TlvReader" "offset" "I")).before a0 Z = true := hw _ (List.mem_of_getElem? (i := 17) rfl)
theorem w18 {a0 : Array Value} {Z : State} (hw : ∀ d ∈ tables_1, d.before a0 Z = true) : ((Jvm.Cond.lays "com/example/keyslate/keyslate/session/TlvReader" "com/example/keyslate/keyslate/session/TlvReader" "offset" "I")).before a0 Z = true := hw _ (List.mem_of_getElem? (i := 18) rfl)
theorem w19 {a0 : Array Value} {Z : State} (hw : ∀ d ∈ tables_1, d.before a0 Z = true) : ((Jvm.Cond.methodLink "com/example/keyslate/keyslate/session/TlvReaderNextTagPinLaw" (16 : Nat) ({ cls := "com/example/keyslate/keyslate/session/TlvReaderNextTagPinLaw", name := "mod256", desc := "(I)I" } : Jvm.MethodName))).before a0 Z = true := hw _ (List.mem_of_getElem? (i := 19) rfl)
theorem w20 {a0 : Array Value} {Z : State} (hw : ∀ d ∈ tables_1, d.before a0 Z = true) : ((Jvm.Cond.static ({ cls := "com/example/keyslate/keyslate/session/TlvReaderNextTagPinLaw", name := "mod256", desc := "(I)I" } : Jvm.MethodName))).before a0 Z = true := hw _ (List.mem_of_getElem? (i := 20) rfl)
theorem w21 {a0 : Array Value} {Z : State} (hw : ∀ d ∈ tables_1, d.before a0 Z = true) : ((Jvm.Cond.initialized "com/example/keyslate/keyslate/session/TlvReaderNextTagPinLaw")).before a0 Z = true := hw _ (List.mem_of_getElem? (i := 21) rfl)
theorem w22 {a0 : Array Value} {Z : State} (hw : ∀ d ∈ tables_1, d.before a0 Z = true) : ((Jvm.Cond.code ({ cls := "com/example/keyslate/keyslate/session/TlvReaderNextTagPinLaw", name := "mod256", desc := "(I)I" } : Jvm.MethodName) method_2_code (2 : Nat) (Option.some Jvm.ClassFile.FieldType.int))).before a0 Z = true := hw _ (List.mem_of_getElem? (i := 22) rfl)
theorem w23 {a0 : Array Value} {Z : State} (hw : ∀ d ∈ tables_1, d.before a0 Z = true) : ((Jvm.Cond.methodLink "com/example/keyslate/keyslate/session/TlvReaderNextTagPinLaw" (22 : Nat) ({ cls := "com/example/keyslate/keyslate/session/TlvReader", name := "read", desc := "(I)[B" } : Jvm.MethodName))).before a0 Z = true := hw _ (List.mem_of_getElem? (i := 23) rfl)
theorem w24 {a0 : Array Value} {Z : State} (hw : ∀ d ∈ tables_1, d.before a0 Z = true) : ((Jvm.Cond.declares ({ cls := "com/example/keyslate/keyslate/session/TlvReader", name := "read", desc := "(I)[B" } : Jvm.MethodName))).before a0 Z = true := hw _ (List.mem_of_getElem? (i := 24) rfl)
theorem w25 {a0 : Array Value} {Z : State} (hw : ∀ d ∈ tables_1, d.before a0 Z = true) : ((Jvm.Cond.instanceMethod ({ cls := "com/example/keyslate/keyslate/session/TlvReader", name := "read", desc := "(I)[B" } : Jvm.MethodName))).before a0 Z = true := hw _ (List.mem_of_getElem? (i := 25) rfl)
theorem w26 {a0 : Array Value} {Z : State} (hw : ∀ d ∈ tables_1, d.before a0 Z = true) : ((Jvm.Cond.selects "com/example/keyslate/keyslate/session/TlvReader" ({ cls := "com/example/keyslate/keyslate/session/TlvReader", name := "read", desc := "(I)[B" } : Jvm.MethodName) ({ cls := "com/example/keyslate/keyslate/session/TlvReader", name := "read", desc := "(I)[B" } : Jvm.MethodName))).before a0 Z = true := hw _ (List.mem_of_getElem? (i := 26) rfl)
theorem w27 {a0 : Array Value} {Z : State} (hw : ∀ d ∈ tables_1, d.before a0 Z = true) : ((Jvm.Cond.code ({ cls := "com/example/keyslate/keyslate/session/TlvReader", name := "read", desc := "(I)[B" } : Jvm.MethodName) prog_12_method_3_code (5 : Nat) (Option.some (Jvm.ClassFile.FieldType.array Jvm.ClassFile.FieldType.byte)))).before a0 Z = true := hw _ (List.mem_of_getElem? (i := 27) rfl)
theorem w28 {a0 : Array Value} {Z : State} (hw : ∀ d ∈ tables_1, d.before a0 Z = true) : ((Jvm.Cond.methodLink "com/example/keyslate/keyslate/session/TlvReader" (17 : Nat) ({ cls := "com/example/keyslate/keyslate/session/TlvReader", name := "nextTag", desc := "()I" } : Jvm.MethodName))).before a0 Z = true := hw _ (List.mem_of_getElem? (i := 28) rfl)
theorem w29 {a0 : Array Value} {Z : State} (hw : ∀ d ∈ tables_1, d.before a0 Z = true) : ((Jvm.Cond.methodLink "com/example/keyslate/keyslate/session/TlvReader" (40 : Nat) ({ cls := "com/example/keyslate/keyslate/session/TlvReader", name := "lengthByte", desc := "(II)I" } : Jvm.MethodName))).before a0 Z = true := hw _ (List.mem_of_getElem? (i := 29) rfl)
theorem w30 {a0 : Array Value} {Z : State} (hw : ∀ d ∈ tables_1, d.before a0 Z = true) : ((Jvm.Cond.instanceMethod ({ cls := "com/example/keyslate/keyslate/session/TlvReader", name := "lengthByte", desc := "(II)I" } : Jvm.MethodName))).before a0 Z = true := hw _ (List.mem_of_getElem? (i := 30) rfl)
theorem w31 {a0 : Array Value} {Z : State} (hw : ∀ d ∈ tables_1, d.before a0 Z = true) : ((Jvm.Cond.privateMethod ({ cls := "com/example/keyslate/keyslate/session/TlvReader", name := "lengthByte", desc := "(II)I" } : Jvm.MethodName))).before a0 Z = true := hw _ (List.mem_of_getElem? (i := 31) rfl)
theorem w32 {a0 : Array Value} {Z : State} (hw : ∀ d ∈ tables_1, d.before a0 Z = true) : ((Jvm.Cond.code ({ cls := "com/example/keyslate/keyslate/session/TlvReader", name := "lengthByte", desc := "(II)I" } : Jvm.MethodName) prog_12_method_6_code (3 : Nat) (Option.some Jvm.ClassFile.FieldType.int))).before a0 Z = true := hw _ (List.mem_of_getElem? (i := 32) rfl)
theorem w33 {a0 : Array Value} {Z : State} (hw : ∀ d ∈ tables_1, d.before a0 Z = true) : ((Jvm.Cond.methodLink "com/example/keyslate/keyslate/session/TlvReader" (48 : Nat) ({ cls := "java/lang/System", name := "arraycopy", desc := "(Ljava/lang/Object;ILjava/lang/Object;II)V" } : Jvm.MethodName))).before a0 Z = true := hw _ (List.mem_of_getElem? (i := 33) rfl)
theorem w34 {a0 : Array Value} {Z : State} (hw : ∀ d ∈ tables_1, d.before a0 Z = true) : ((Jvm.Cond.static ({ cls := "java/lang/System", name := "arraycopy", desc := "(Ljava/lang/Object;ILjava/lang/Object;II)V" } : Jvm.MethodName))).before a0 Z = true := hw _ (List.mem_of_getElem? (i := 34) rfl)
theorem w35 {a0 : Array Value} {Z : State} (hw : ∀ d ∈ tables_1, d.before a0 Z = true) : ((Jvm.Cond.initialized "java/lang/System")).before a0 Z = true := hw _ (List.mem_of_getElem? (i := 35) rfl)
theorem w36 {a0 : Array Value} {Z : State} (hw : ∀ d ∈ tables_1, d.before a0 Z = true) : ((Jvm.Cond.native ({ cls := "java/lang/System", name := "arraycopy", desc := "(Ljava/lang/Object;ILjava/lang/Object;II)V" } : Jvm.MethodName))).before a0 Z = true := hw _ (List.mem_of_getElem? (i := 36) rfl)
theorem pn_com_example_keyslate_keyslate_session_TlvReader : plainName "com/example/keyslate/keyslate/session/TlvReader" = true := by first | (simp [plainName, overriddenIn]; done) | decide +kernel
theorem pn_com_example_keyslate_keyslate_session_TlvReaderNextTagPinLaw : plainName "com/example/keyslate/keyslate/session/TlvReaderNextTagPinLaw" = true := by first | (simp [plainName, overriddenIn]; done) | decide +kernel
theorem pd_0 : parseMethodDescriptor "([B)V" = some ⟨[(.array .byte)], none⟩ := by decide +kernel
theorem pd_1 : parseMethodDescriptor "()I" = some ⟨[], some .int⟩ := by decide +kernel
theorem pd_2 : parseMethodDescriptor "(I)I" = some ⟨[.int], some .int⟩ := by decide +kernel
theorem pd_3 : parseMethodDescriptor "(II)I" = some ⟨[.int, .int], some .int⟩ := by decide +kernel
theorem pd_4 : parseMethodDescriptor "(I)[B" = some ⟨[.int], some (.array .byte)⟩ := by decide +kernel
theorem dTlvReader_mk_0 : decode prog_12_method_1_code 0 = .ok (.aload_n 0, 1) := by decide +kernel
theorem dTlvReader_mk_1 : decode prog_12_method_1_code 1 = .ok (.invokespecial 1, 3) := by decide +kernel
theorem dTlvReader_mk_4 : decode prog_12_method_1_code 4 = .ok (.aload_n 0, 1) := by decide +kernel
theorem dTlvReader_mk_5 : decode prog_12_method_1_code 5 = .ok (.aload_n 1, 1) := by decide +kernel
theorem dTlvReader_mk_6 : decode prog_12_method_1_code 6 = .ok (.putfield 7, 3) := by decide +kernel
theorem dTlvReader_mk_9 : decode prog_12_method_1_code 9 = .ok (.return_, 1) := by decide +kernel
theorem dTlvReader_nextTag_0 : decode prog_12_method_2_code 0 = .ok (.aload_n 0, 1) := by decide +kernel
theorem dTlvReader_nextTag_1 : decode prog_12_method_2_code 1 = .ok (.getfield 13, 3) := by decide +kernel
theorem dTlvReader_nextTag_4 : decode prog_12_method_2_code 4 = .ok (.aload_n 0, 1) := by decide +kernel
theorem dTlvReader_nextTag_5 : decode prog_12_method_2_code 5 = .ok (.getfield 7, 3) := by decide +kernel
theorem dTlvReader_nextTag_8 : decode prog_12_method_2_code 8 = .ok (.arraylength, 1) := by decide +kernel
theorem dTlvReader_nextTag_9 : decode prog_12_method_2_code 9 = .ok (.if_icmp .ge 19, 3) := by decide +kernel
theorem dTlvReader_nextTag_12 : decode prog_12_method_2_code 12 = .ok (.aload_n 0, 1) := by decide +kernel
theorem dTlvReader_nextTag_13 : decode prog_12_method_2_code 13 = .ok (.getfield 7, 3) := by decide +kernel
theorem dTlvReader_nextTag_16 : decode prog_12_method_2_code 16 = .ok (.aload_n 0, 1) := by decide +kernel
theorem dTlvReader_nextTag_17 : decode prog_12_method_2_code 17 = .ok (.getfield 13, 3) := by decide +kernel
theorem dTlvReader_nextTag_20 : decode prog_12_method_2_code 20 = .ok (.baload, 1) := by decide +kernel
theorem dTlvReader_nextTag_21 : decode prog_12_method_2_code 21 = .ok (.sipush 255, 3) := by decide +kernel
theorem dTlvReader_nextTag_24 : decode prog_12_method_2_code 24 = .ok (.iand, 1) := by decide +kernel
theorem dTlvReader_nextTag_25 : decode prog_12_method_2_code 25 = .ok (.goto 4, 3) := by decide +kernel
theorem dTlvReader_nextTag_28 : decode prog_12_method_2_code 28 = .ok (.iconst (-1), 1) := by decide +kernel
theorem dTlvReader_nextTag_29 : decode prog_12_method_2_code 29 = .ok (.ireturn, 1) := by decide +kernel
theorem dTlvReaderNextTagPinLaw_mod256_0 : decode method_2_code 0 = .ok (.iload_n 0, 1) := by decide +kernel
theorem dTlvReaderNextTagPinLaw_mod256_1 : decode method_2_code 1 = .ok (.sipush 256, 3) := by decide +kernel
theorem dTlvReaderNextTagPinLaw_mod256_4 : decode method_2_code 4 = .ok (.irem, 1) := by decide +kernel
theorem dTlvReaderNextTagPinLaw_mod256_5 : decode method_2_code 5 = .ok (.istore_n 1, 1) := by decide +kernel
theorem dTlvReaderNextTagPinLaw_mod256_6 : decode method_2_code 6 = .ok (.iload_n 1, 1) := by decide +kernel
theorem dTlvReaderNextTagPinLaw_mod256_7 : decode method_2_code 7 = .ok (.ifCond .ge 9, 3) := by decide +kernel
theorem dTlvReaderNextTagPinLaw_mod256_10 : decode method_2_code 10 = .ok (.iload_n 1, 1) := by decide +kernel
theorem dTlvReaderNextTagPinLaw_mod256_11 : decode method_2_code 11 = .ok (.sipush 256, 3) := by decide +kernel
theorem dTlvReaderNextTagPinLaw_mod256_14 : decode method_2_code 14 = .ok (.iadd, 1) := by decide +kernel
theorem dTlvReaderNextTagPinLaw_mod256_15 : decode method_2_code 15 = .ok (.istore_n 1, 1) := by decide +kernel
theorem dTlvReaderNextTagPinLaw_mod256_16 : decode method_2_code 16 = .ok (.iload_n 1, 1) := by decide +kernel
theorem dTlvReaderNextTagPinLaw_mod256_17 : decode method_2_code 17 = .ok (.ireturn, 1) := by decide +kernel
theorem dTlvReader_read_0 : decode prog_12_method_3_code 0 = .ok (.aload_n 0, 1) := by decide +kernel
theorem dTlvReader_read_1 : decode prog_12_method_3_code 1 = .ok (.invokevirtual 17, 3) := by decide +kernel
theorem dTlvReader_read_4 : decode prog_12_method_3_code 4 = .ok (.iload_n 1, 1) := by decide +kernel
theorem dTlvReader_read_5 : decode prog_12_method_3_code 5 = .ok (.if_icmp .eq 27, 3) := by decide +kernel
theorem dTlvReader_read_32 : decode prog_12_method_3_code 32 = .ok (.aload_n 0, 1) := by decide +kernel
theorem dTlvReader_read_33 : decode prog_12_method_3_code 33 = .ok (.getfield 13, 3) := by decide +kernel
theorem dTlvReader_read_36 : decode prog_12_method_3_code 36 = .ok (.iconst 2, 1) := by decide +kernel
theorem dTlvReader_read_37 : decode prog_12_method_3_code 37 = .ok (.iadd, 1) := by decide +kernel
theorem dTlvReader_read_38 : decode prog_12_method_3_code 38 = .ok (.istore_n 2, 1) := by decide +kernel
theorem dTlvReader_read_39 : decode prog_12_method_3_code 39 = .ok (.aload_n 0, 1) := by decide +kernel
theorem dTlvReader_read_40 : decode prog_12_method_3_code 40 = .ok (.aload_n 0, 1) := by decide +kernel
theorem dTlvReader_read_41 : decode prog_12_method_3_code 41 = .ok (.getfield 13, 3) := by decide +kernel
theorem dTlvReader_read_44 : decode prog_12_method_3_code 44 = .ok (.iconst 1, 1) := by decide +kernel
theorem dTlvReader_read_45 : decode prog_12_method_3_code 45 = .ok (.iadd, 1) := by decide +kernel
theorem dTlvReader_read_46 : decode prog_12_method_3_code 46 = .ok (.iload_n 1, 1) := by decide +kernel
theorem dTlvReader_read_47 : decode prog_12_method_3_code 47 = .ok (.invokevirtual 40, 3) := by decide +kernel
theorem dTlvReader_read_50 : decode prog_12_method_3_code 50 = .ok (.istore_n 3, 1) := by decide +kernel
theorem dTlvReader_read_51 : decode prog_12_method_3_code 51 = .ok (.iload_n 3, 1) := by decide +kernel
theorem dTlvReader_read_52 : decode prog_12_method_3_code 52 = .ok (.sipush 129, 3) := by decide +kernel
theorem dTlvReader_read_55 : decode prog_12_method_3_code 55 = .ok (.if_icmp .ne 16, 3) := by decide +kernel
theorem dTlvReader_read_58 : decode prog_12_method_3_code 58 = .ok (.aload_n 0, 1) := by decide +kernel
theorem dTlvReader_read_59 : decode prog_12_method_3_code 59 = .ok (.iload_n 2, 1) := by decide +kernel
theorem dTlvReader_read_60 : decode prog_12_method_3_code 60 = .ok (.iload_n 1, 1) := by decide +kernel
theorem dTlvReader_read_61 : decode prog_12_method_3_code 61 = .ok (.invokevirtual 40, 3) := by decide +kernel
theorem dTlvReader_read_64 : decode prog_12_method_3_code 64 = .ok (.istore_n 3, 1) := by decide +kernel
theorem dTlvReader_read_65 : decode prog_12_method_3_code 65 = .ok (.iinc 2 1, 3) := by decide +kernel
theorem dTlvReader_read_68 : decode prog_12_method_3_code 68 = .ok (.goto 33, 3) := by decide +kernel
theorem dTlvReader_read_71 : decode prog_12_method_3_code 71 = .ok (.iload_n 3, 1) := by decide +kernel
theorem dTlvReader_read_72 : decode prog_12_method_3_code 72 = .ok (.bipush 127, 2) := by decide +kernel
theorem dTlvReader_read_74 : decode prog_12_method_3_code 74 = .ok (.if_icmp .le 27, 3) := by decide +kernel
theorem dTlvReader_read_101 : decode prog_12_method_3_code 101 = .ok (.iload_n 2, 1) := by decide +kernel
theorem dTlvReader_read_102 : decode prog_12_method_3_code 102 = .ok (.iload_n 3, 1) := by decide +kernel
theorem dTlvReader_read_103 : decode prog_12_method_3_code 103 = .ok (.iadd, 1) := by decide +kernel
theorem dTlvReader_read_104 : decode prog_12_method_3_code 104 = .ok (.aload_n 0, 1) := by decide +kernel
theorem dTlvReader_read_105 : decode prog_12_method_3_code 105 = .ok (.getfield 7, 3) := by decide +kernel
theorem dTlvReader_read_108 : decode prog_12_method_3_code 108 = .ok (.arraylength, 1) := by decide +kernel
theorem dTlvReader_read_109 : decode prog_12_method_3_code 109 = .ok (.if_icmp .le 27, 3) := by decide +kernel
theorem dTlvReader_read_136 : decode prog_12_method_3_code 136 = .ok (.iload_n 3, 1) := by decide +kernel
theorem dTlvReader_read_137 : decode prog_12_method_3_code 137 = .ok (.newarray .byte, 2) := by decide +kernel
theorem dTlvReader_read_139 : decode prog_12_method_3_code 139 = .ok (.astore 4, 2) := by decide +kernel
theorem dTlvReader_read_141 : decode prog_12_method_3_code 141 = .ok (.aload_n 0, 1) := by decide +kernel
theorem dTlvReader_read_142 : decode prog_12_method_3_code 142 = .ok (.getfield 7, 3) := by decide +kernel
theorem dTlvReader_read_145 : decode prog_12_method_3_code 145 = .ok (.iload_n 2, 1) := by decide +kernel
theorem dTlvReader_read_146 : decode prog_12_method_3_code 146 = .ok (.aload 4, 2) := by decide +kernel
theorem dTlvReader_read_148 : decode prog_12_method_3_code 148 = .ok (.iconst 0, 1) := by decide +kernel
theorem dTlvReader_read_149 : decode prog_12_method_3_code 149 = .ok (.iload_n 3, 1) := by decide +kernel
theorem dTlvReader_read_150 : decode prog_12_method_3_code 150 = .ok (.invokestatic 48, 3) := by decide +kernel
theorem dTlvReader_read_153 : decode prog_12_method_3_code 153 = .ok (.aload_n 0, 1) := by decide +kernel
theorem dTlvReader_read_154 : decode prog_12_method_3_code 154 = .ok (.iload_n 2, 1) := by decide +kernel
theorem dTlvReader_read_155 : decode prog_12_method_3_code 155 = .ok (.iload_n 3, 1) := by decide +kernel
theorem dTlvReader_read_156 : decode prog_12_method_3_code 156 = .ok (.iadd, 1) := by decide +kernel
theorem dTlvReader_read_157 : decode prog_12_method_3_code 157 = .ok (.putfield 13, 3) := by decide +kernel
theorem dTlvReader_read_160 : decode prog_12_method_3_code 160 = .ok (.aload 4, 2) := by decide +kernel
theorem dTlvReader_read_162 : decode prog_12_method_3_code 162 = .ok (.areturn, 1) := by decide +kernel
theorem dTlvReader_lengthByte_0 : decode prog_12_method_6_code 0 = .ok (.iload_n 1, 1) := by decide +kernel
theorem dTlvReader_lengthByte_1 : decode prog_12_method_6_code 1 = .ok (.aload_n 0, 1) := by decide +kernel
theorem dTlvReader_lengthByte_2 : decode prog_12_method_6_code 2 = .ok (.getfield 7, 3) := by decide +kernel
theorem dTlvReader_lengthByte_5 : decode prog_12_method_6_code 5 = .ok (.arraylength, 1) := by decide +kernel
theorem dTlvReader_lengthByte_6 : decode prog_12_method_6_code 6 = .ok (.if_icmp .lt 27, 3) := by decide +kernel
theorem dTlvReader_lengthByte_33 : decode prog_12_method_6_code 33 = .ok (.aload_n 0, 1) := by decide +kernel
theorem dTlvReader_lengthByte_34 : decode prog_12_method_6_code 34 = .ok (.getfield 7, 3) := by decide +kernel
theorem dTlvReader_lengthByte_37 : decode prog_12_method_6_code 37 = .ok (.iload_n 1, 1) := by decide +kernel
theorem dTlvReader_lengthByte_38 : decode prog_12_method_6_code 38 = .ok (.baload, 1) := by decide +kernel
theorem dTlvReader_lengthByte_39 : decode prog_12_method_6_code 39 = .ok (.sipush 255, 3) := by decide +kernel
theorem dTlvReader_lengthByte_42 : decode prog_12_method_6_code 42 = .ok (.iand, 1) := by decide +kernel
theorem dTlvReader_lengthByte_43 : decode prog_12_method_6_code 43 = .ok (.ireturn, 1) := by decide +kernel
/-! com/example/keyslate/keyslate/session/TlvReader.<init>:([B)V -/
def f_TlvReader_mk (f_a1_offset : Int32) (bs_a2 : List Int32) : Option (Int32) :=
  some f_a1_offset
def Q_TlvReader_mk (Z : State) (hE : Heap) (n0 : Nat) (a1 : Addr) (a2 : Addr) (r : Int32) (v : Option Value) (h : Heap) (L : List Loc) : Prop := v = none ∧ Fr n0 L ∧ Keep hE h [a1] ∧ Exa Z h a1 "com/example/keyslate/keyslate/session/TlvReader" ∧ Fld Z h a1 "com/example/keyslate/keyslate/session/TlvReader" "data" "[B" (.ref a2) ∧ Fld Z h a1 "com/example/keyslate/keyslate/session/TlvReader" "offset" "I" (.int r)
def Cx_TlvReader_mk (p : Program) (s : State) (m : MethodId) (meth : Method) (c : Code) (Z : State) (a0 : Array Value) : Prop := p.tables.exec = Jvm.exec ∧ Z.Warmed39 s.vm ∧ (∀ d ∈ tables_1, d.before a0 Z = true) ∧ c.code = prog_12_method_1_code ∧ c.maxLocals = 2 ∧ s.vm.findClass "com/example/keyslate/keyslate/session/TlvReader" = some m.cls ∧ meth.sig.returnType = none ∧ meth.locks = false ∧ meth.name = "<init>"
set_option maxRecDepth 65536 in
set_option maxHeartbeats 4000000 in
theorem b_TlvReader_mk {p : Program} {l : Launch} {e : Env} {s : State} {m : MethodId} {args : Array Value} {below : List Frame} {meth : Method} {c : Code} {Z : State} {a0 : Array Value} {n0 : Nat} {hE : Heap} (cx : Cx_TlvReader_mk p s m meth c Z a0) (a1 : Addr) (a2 : Addr) :
    ∀ {T : State} {locs : List Loc} {h : Heap} (X : Stand p l e ({ frames := 1, cells := 0, slots := 0, locals := 12 } : Room) s m args below meth c T locs 0 0) (eT : T.heap = h) (N : Fr n0 locs) (K : Keep hE h [a1]) (z : n0 ≤ h.size) (f_a1_offset : Int32) (bs_a2 : List Int32) (E_a1 : Exa Z h a1 "com/example/keyslate/keyslate/session/TlvReader") (F_a1_data : Fld Z h a1 "com/example/keyslate/keyslate/session/TlvReader" "data" "[B" .null) (F_a1_offset : Fld Z h a1 "com/example/keyslate/keyslate/session/TlvReader" "offset" "I" (.int f_a1_offset)) (g_a1 : n0 ≤ a1) (A_a2 : own_Ar Z h a2 .byte (bs_a2.map Value.int)) (g_a2 : n0 ≤ a2) (ne_a1_a2 : a1 ≠ a2) (r : Int32), f_TlvReader_mk f_a1_offset bs_a2 = some r → own_Goes p e below s (Q_TlvReader_mk Z hE n0 a1 a2 r) 0 0 (T.setTop (mkF m 0 #[.val (.ref a1), .val (.ref a2)] [])) := by
  have cx' := cx
  obtain ⟨hx, hZ, hw, hby, hml, hown, hret, hlk, hnm⟩ := cx'
  intro T locs h X eT N K z f_a1_offset bs_a2 E_a1 F_a1_data F_a1_offset g_a1 A_a2 g_a2 ne_a1_a2 r hF
  unfold f_TlvReader_mk at hF
  refine own_Goes.via (B := T.setTop (mkF m 1 #[.val (.ref a1), .val (.ref a2)] [(.ref a1)])) (fun t k => ?_) ?_
  · show Steps p.tables e below (T.setTop (mkF m 0 #[.val (.ref a1), .val (.ref a2)] [])) t
    refine XS.aloadN X.here hx rfl (hb hby dTlvReader_mk_0) rfl rfl ?_
    exact k
  obtain ⟨T21, X21, e21, st21⟩ := initO X hx hZ hown (w7 hw) (w8 hw) (w9 hw) eT (g := (mkF m 1 #[.val (.ref a1), .val (.ref a2)] [(.ref a1)])) rfl (by rw [hml]; rfl) rfl (hb hby dTlvReader_mk_1) (by decide) (W := 0) (by show 2 * 0 + _ ≤ _; exact Nat.le_of_eq rfl) (by decide)
  refine own_Goes.via st21 ?_
  show own_Goes _ _ _ _ _ _ _ (T21.setTop (mkF m 4 #[.val (.ref a1), .val (.ref a2)] []))
  refine own_Goes.via (B := T21.setTop (mkF m 6 #[.val (.ref a1), .val (.ref a2)] [(.ref a2), (.ref a1)])) (fun t k => ?_) ?_
  · show Steps p.tables e below (T21.setTop (mkF m 4 #[.val (.ref a1), .val (.ref a2)] [])) t
    refine XS.aloadN X21.here hx rfl (hb hby dTlvReader_mk_4) rfl rfl ?_
    show Steps p.tables e below (T21.setTop (mkF m 5 #[.val (.ref a1), .val (.ref a2)] [(.ref a1)])) t
    refine XS.aloadN X21.here hx rfl (hb hby dTlvReader_mk_5) rfl rfl ?_
    exact k
  obtain ⟨T22, h22, X22, e22, W22, st22⟩ := putF X21 hx hZ hown (host := "") (Or.inl (w10 hw)) Via.refl e21 F_a1_data E_a1 (Or.inr ⟨(w11 hw), rfl, hnm⟩) (w2 hw) (ty := (.array .byte)) (by decide) rfl rfl (g := (mkF m 6 #[.val (.ref a1), .val (.ref a2)] [(.ref a2), (.ref a1)])) rfl rfl (hb hby dTlvReader_mk_6)
  refine own_Goes.via st22 ?_
  have E22_a1 := E_a1.wr W22
  have F22_a1_offset := F_a1_offset.other W22 (Or.inr (slot_ne (Or.inl (w18 hw)) (Or.inr (w11 hw)) (by decide) (t := .int) (t' := (.array .byte)) (by decide) (by decide)))
  have A22_a2 := A_a2.other W22 (Ne.symm ne_a1_a2)
  have F22_a1_data := F_a1_data.same W22
  have z22 := Nat.le_trans z (Keep.of_wr W22).1
  have K22_ := K.wr W22 (Or.inl (List.mem_of_getElem? (i := 0) rfl))
  have N22 := Fr.snoc X22 N g_a1
  show own_Goes _ _ _ _ _ _ _ (T22.setTop (mkF m 9 #[.val (.ref a1), .val (.ref a2)] []))
  obtain rfl : f_a1_offset = r := Option.some.inj hF
  exact own_retV X22 hx hret hlk (hb hby dTlvReader_mk_9) e22 ⟨rfl, N22, K22_, E22_a1, F22_a1_data, F22_a1_offset⟩ (by decide) (by decide)
theorem ef_TlvReader_mk (m : MethodId) (x0 : Addr) (x1 : Addr) : entryFrame m #[(.ref x0), (.ref x1)] 2 = mkF m 0 #[.val (.ref x0), .val (.ref x1)] [] := by first | (simp [entryFrame, mkF, argsToLocals, Value.category]; done) | rfl
set_option maxRecDepth 65536 in
set_option maxHeartbeats 4000000 in
theorem rm_TlvReader_mk (l : Launch) (Z : State) (a0 : Array Value) (hw : ∀ d ∈ tables_1, d.before a0 Z = true) (ws : List Jvm.Cond) (hE : Heap) (n0 : Nat) (z : n0 ≤ hE.size) (a1 : Addr) (a2 : Addr) (f_a1_offset : Int32) (bs_a2 : List Int32) (E_a1 : Exa Z hE a1 "com/example/keyslate/keyslate/session/TlvReader") (F_a1_data : Fld Z hE a1 "com/example/keyslate/keyslate/session/TlvReader" "data" "[B" .null) (F_a1_offset : Fld Z hE a1 "com/example/keyslate/keyslate/session/TlvReader" "offset" "I" (.int f_a1_offset)) (g_a1 : n0 ≤ a1) (A_a2 : own_Ar Z hE a2 .byte (bs_a2.map Value.int)) (g_a2 : n0 ≤ a2) (ne_a1_a2 : a1 ≠ a2) (r : Int32) (hF : (f_TlvReader_mk f_a1_offset bs_a2) = some r) :
    MetFree l (⟨"com/example/keyslate/keyslate/session/TlvReader", "<init>", "([B)V"⟩ : MethodName) (head1 (Jvm.Cond.code (⟨"com/example/keyslate/keyslate/session/TlvReader", "<init>", "([B)V"⟩ : MethodName) prog_12_method_1_code 2 none :: ws) ({ frames := 1, cells := 0, slots := 0, locals := 12 } : Room)) (fun a U => a = #[(.ref a1), (.ref a2)] ∧ Z.Warmed39 U.vm ∧ U.heap = hE) (fun _ _ _ _ _ => True) (fun _ U o U' => ∃ v L, o = .returned v ∧ (Q_TlvReader_mk Z hE n0 a1 a2 r) v U'.heap L ∧ FrameEnd U o U' L ({ frames := 1, cells := 0, slots := 0, locals := 12 } : Room).cells ({ frames := 1, cells := 0, slots := 0, locals := 12 } : Room).slots) := by
  refine MetFree.of_bodySF (plainFor_of_name pn_com_example_keyslate_keyslate_session_TlvReader) hisR ?_
  intro p e s m args below meth c s₁ Bd hml0 hP hK
  obtain ⟨rfl, hZ, hh⟩ := hP
  have X0 : Stand p l e ({ frames := 1, cells := 0, slots := 0, locals := 12 } : Room) s m #[(.ref a1), (.ref a2)] below meth c s₁ [] 0 0 := Stand.of_body Bd
  have e0 : s₁.heap = hE := by rw [← hh, Bd.state]; rfl
  have cx : Cx_TlvReader_mk p s m meth c Z a0 := ⟨Bd.exec, hZ, hw, Bd.bytes, hml0, findClass_of_methodNamed Bd.named, Bd.returns, Bd.notSynchronized, (name_of_methodNamed Bd.named Bd.method).1⟩
  show own_Goes p e below s (Q_TlvReader_mk Z hE n0 a1 a2 r) ({ frames := 1, cells := 0, slots := 0, locals := 12 } : Room).cells ({ frames := 1, cells := 0, slots := 0, locals := 12 } : Room).slots (s₁.setTop (entryFrame m #[(.ref a1), (.ref a2)] 2))
  rw [ef_TlvReader_mk]
  exact b_TlvReader_mk cx a1 a2 X0 e0 (Fr.nil n0) (Keep.refl _ _) z f_a1_offset bs_a2 E_a1 F_a1_data F_a1_offset g_a1 A_a2 g_a2 ne_a1_a2 _ hF
/-! com/example/keyslate/keyslate/session/TlvReader.nextTag:()I -/
def f_TlvReader_nextTag (f_a1_offset : Int32) (bs_a2 : List Int32) : Option (Int32) :=
  if f_a1_offset < (own_sz bs_a2) then
    own_ck (own_inb bs_a2 f_a1_offset) <|
    some ((own_rd bs_a2 f_a1_offset) &&& (255 : Int32))
  else
    some (-1 : Int32)
def Q_TlvReader_nextTag (Z : State) (hE : Heap) (n0 : Nat) (a1 : Addr) (a2 : Addr) (r : Int32) (v : Option Value) (h : Heap) (L : List Loc) : Prop := v = some (.int r) ∧ Fr n0 L ∧ h = hE
def Cx_TlvReader_nextTag (p : Program) (s : State) (m : MethodId) (meth : Method) (c : Code) (Z : State) (a0 : Array Value) : Prop := p.tables.exec = Jvm.exec ∧ Z.Warmed39 s.vm ∧ (∀ d ∈ tables_1, d.before a0 Z = true) ∧ c.code = prog_12_method_2_code ∧ c.maxLocals = 1 ∧ s.vm.findClass "com/example/keyslate/keyslate/session/TlvReader" = some m.cls ∧ meth.sig.returnType = some .int ∧ meth.locks = false ∧ meth.name = "nextTag"
set_option maxRecDepth 65536 in
set_option maxHeartbeats 4000000 in
theorem b_TlvReader_nextTag {p : Program} {l : Launch} {e : Env} {s : State} {m : MethodId} {args : Array Value} {below : List Frame} {meth : Method} {c : Code} {Z : State} {a0 : Array Value} {n0 : Nat} {hE : Heap} (cx : Cx_TlvReader_nextTag p s m meth c Z a0) (a1 : Addr) (a2 : Addr) :
    ∀ {T : State} {locs : List Loc} (X : Stand p l e ({ frames := 0, cells := 0, slots := 0, locals := 0 } : Room) s m args below meth c T locs 0 0) (eT : T.heap = hE) (N : Fr n0 locs) (z : n0 ≤ hE.size) (f_a1_offset : Int32) (bs_a2 : List Int32) (E_a1 : Exa Z hE a1 "com/example/keyslate/keyslate/session/TlvReader") (F_a1_data : Fld Z hE a1 "com/example/keyslate/keyslate/session/TlvReader" "data" "[B" (.ref a2)) (F_a1_offset : Fld Z hE a1 "com/example/keyslate/keyslate/session/TlvReader" "offset" "I" (.int f_a1_offset)) (g_a1 : n0 ≤ a1) (A_a2 : own_Ar Z hE a2 .byte (bs_a2.map Value.int)) (g_a2 : n0 ≤ a2) (ne_a1_a2 : a1 ≠ a2) (r : Int32), f_TlvReader_nextTag f_a1_offset bs_a2 = some r → own_Goes p e below s (Q_TlvReader_nextTag Z hE n0 a1 a2 r) 0 0 (T.setTop (mkF m 0 #[.val (.ref a1)] [])) := by
  have cx' := cx
  obtain ⟨hx, hZ, hw, hby, hml, hown, hret, hlk, hnm⟩ := cx'
  intro T locs X eT N z f_a1_offset bs_a2 E_a1 F_a1_data F_a1_offset g_a1 A_a2 g_a2 ne_a1_a2 r hF
  unfold f_TlvReader_nextTag at hF
  refine own_Goes.via (B := T.setTop (mkF m 1 #[.val (.ref a1)] [(.ref a1)])) (fun t k => ?_) ?_
  · show Steps p.tables e below (T.setTop (mkF m 0 #[.val (.ref a1)] [])) t
    refine XS.aloadN X.here hx rfl (hb hby dTlvReader_nextTag_0) rfl rfl ?_
    exact k
  obtain ⟨T36, X36, e36, st36⟩ := getF X hx hZ hown (host := "") (Or.inl (w17 hw)) Via.refl eT F_a1_offset (g := (mkF m 1 #[.val (.ref a1)] [(.ref a1)])) rfl rfl (hb hby dTlvReader_nextTag_1)
  refine own_Goes.via st36 ?_
  show own_Goes _ _ _ _ _ _ _ (T36.setTop (mkF m 4 #[.val (.ref a1)] [(.int f_a1_offset)]))
  refine own_Goes.via (B := T36.setTop (mkF m 5 #[.val (.ref a1)] [(.ref a1), (.int f_a1_offset)])) (fun t k => ?_) ?_
  · show Steps p.tables e below (T36.setTop (mkF m 4 #[.val (.ref a1)] [(.int f_a1_offset)])) t
    refine XS.aloadN X36.here hx rfl (hb hby dTlvReader_nextTag_4) rfl rfl ?_
    exact k
  obtain ⟨T37, X37, e37, st37⟩ := getF X36 hx hZ hown (host := "") (Or.inl (w10 hw)) Via.refl e36 F_a1_data (g := (mkF m 5 #[.val (.ref a1)] [(.ref a1), (.int f_a1_offset)])) rfl rfl (hb hby dTlvReader_nextTag_5)
  refine own_Goes.via st37 ?_
  show own_Goes _ _ _ _ _ _ _ (T37.setTop (mkF m 8 #[.val (.ref a1)] [(.ref a2), (.int f_a1_offset)]))
  refine own_Goes.via (B := T37.setTop (mkF m 9 #[.val (.ref a1)] [(.int (own_sz bs_a2)), (.int f_a1_offset)])) (fun t k => ?_) ?_
  · show Steps p.tables e below (T37.setTop (mkF m 8 #[.val (.ref a1)] [(.ref a2), (.int f_a1_offset)])) t
    refine own_len X37 hx hZ e37 A_a2 (g := (mkF m 8 #[.val (.ref a1)] [(.ref a2), (.int f_a1_offset)])) rfl rfl (hb hby dTlvReader_nextTag_8) ?_
    exact k
  by_cases hc9 : f_a1_offset < (own_sz bs_a2)
  · rw [if_pos hc9] at hF
    refine own_Goes.via (B := T37.setTop (mkF m 13 #[.val (.ref a1)] [(.ref a1)])) (fun t k => ?_) ?_
    · show Steps p.tables e below (T37.setTop (mkF m 9 #[.val (.ref a1)] [(.int (own_sz bs_a2)), (.int f_a1_offset)])) t
      refine XS.icmpNo X37.here hx rfl (hb hby dTlvReader_nextTag_9) rfl (tlt hc9).2.1 ?_
      show Steps p.tables e below (T37.setTop (mkF m 12 #[.val (.ref a1)] [])) t
      refine XS.aloadN X37.here hx rfl (hb hby dTlvReader_nextTag_12) rfl rfl ?_
      exact k
    obtain ⟨T38, X38, e38, st38⟩ := getF X37 hx hZ hown (host := "") (Or.inl (w10 hw)) Via.refl e37 F_a1_data (g := (mkF m 13 #[.val (.ref a1)] [(.ref a1)])) rfl rfl (hb hby dTlvReader_nextTag_13)
    refine own_Goes.via st38 ?_
    show own_Goes _ _ _ _ _ _ _ (T38.setTop (mkF m 16 #[.val (.ref a1)] [(.ref a2)]))
    refine own_Goes.via (B := T38.setTop (mkF m 17 #[.val (.ref a1)] [(.ref a1), (.ref a2)])) (fun t k => ?_) ?_
    · show Steps p.tables e below (T38.setTop (mkF m 16 #[.val (.ref a1)] [(.ref a2)])) t
      refine XS.aloadN X38.here hx rfl (hb hby dTlvReader_nextTag_16) rfl rfl ?_
      exact k
    obtain ⟨T39, X39, e39, st39⟩ := getF X38 hx hZ hown (host := "") (Or.inl (w17 hw)) Via.refl e38 F_a1_offset (g := (mkF m 17 #[.val (.ref a1)] [(.ref a1), (.ref a2)])) rfl rfl (hb hby dTlvReader_nextTag_17)
    refine own_Goes.via st39 ?_
    show own_Goes _ _ _ _ _ _ _ (T39.setTop (mkF m 20 #[.val (.ref a1)] [(.int f_a1_offset), (.ref a2)]))
    obtain ⟨hi20, hF⟩ := own_ck_e hF
    refine own_Goes.via (B := T39.setTop (mkF m 29 #[.val (.ref a1)] [(.int ((own_rd bs_a2 f_a1_offset) &&& (255 : Int32)))])) (fun t k => ?_) ?_
    · show Steps p.tables e below (T39.setTop (mkF m 20 #[.val (.ref a1)] [(.int f_a1_offset), (.ref a2)])) t
      refine own_ldB X39 hx hZ e39 A_a2 hi20 rfl (g := (mkF m 20 #[.val (.ref a1)] [(.int f_a1_offset), (.ref a2)])) rfl rfl (hb hby dTlvReader_nextTag_20) ?_
      show Steps p.tables e below (T39.setTop (mkF m 21 #[.val (.ref a1)] [(.int (own_rd bs_a2 f_a1_offset))])) t
      refine XS.sipush X39.here hx rfl (hb hby dTlvReader_nextTag_21) ?_
      show Steps p.tables e below (T39.setTop (mkF m 24 #[.val (.ref a1)] [(.int (255 : Int32)), (.int (own_rd bs_a2 f_a1_offset))])) t
      refine XS.iand X39.here hx rfl (hb hby dTlvReader_nextTag_24) rfl ?_
      show Steps p.tables e below (T39.setTop (mkF m 25 #[.val (.ref a1)] [(.int ((own_rd bs_a2 f_a1_offset) &&& (255 : Int32)))])) t
      refine XS.goto X39.here hx rfl (pc0 := 25) (pc' := 29) rfl (hb hby dTlvReader_nextTag_25) (by decide) (by decide) ?_
      exact k
    obtain rfl : ((own_rd bs_a2 f_a1_offset) &&& (255 : Int32)) = r := Option.some.inj hF
    exact own_retI X39 hx hret hlk (hb hby dTlvReader_nextTag_29) e39 ⟨rfl, N, rfl⟩ (by decide) (by decide)
  · rw [if_neg hc9] at hF
    refine own_Goes.via (B := T37.setTop (mkF m 29 #[.val (.ref a1)] [(.int (-1 : Int32))])) (fun t k => ?_) ?_
    · show Steps p.tables e below (T37.setTop (mkF m 9 #[.val (.ref a1)] [(.int (own_sz bs_a2)), (.int f_a1_offset)])) t
      refine XS.icmpYes X37.here hx rfl (pc0 := 9) (pc' := 28) rfl (hb hby dTlvReader_nextTag_9) rfl (flt hc9).2.1 (by decide) (by decide) ?_
      show Steps p.tables e below (T37.setTop (mkF m 28 #[.val (.ref a1)] [])) t
      refine XS.iconst X37.here hx rfl (hb hby dTlvReader_nextTag_28) ?_
      exact k
    obtain rfl : (-1 : Int32) = r := Option.some.inj hF
    exact own_retI X37 hx hret hlk (hb hby dTlvReader_nextTag_29) e37 ⟨rfl, N, rfl⟩ (by decide) (by decide)
theorem ef_TlvReader_nextTag (m : MethodId) (x0 : Addr) : entryFrame m #[(.ref x0)] 1 = mkF m 0 #[.val (.ref x0)] [] := by first | (simp [entryFrame, mkF, argsToLocals, Value.category]; done) | rfl
set_option maxRecDepth 65536 in
set_option maxHeartbeats 4000000 in
theorem rm_TlvReader_nextTag (l : Launch) (Z : State) (a0 : Array Value) (hw : ∀ d ∈ tables_1, d.before a0 Z = true) (ws : List Jvm.Cond) (hE : Heap) (n0 : Nat) (z : n0 ≤ hE.size) (a1 : Addr) (a2 : Addr) (f_a1_offset : Int32) (bs_a2 : List Int32) (E_a1 : Exa Z hE a1 "com/example/keyslate/keyslate/session/TlvReader") (F_a1_data : Fld Z hE a1 "com/example/keyslate/keyslate/session/TlvReader" "data" "[B" (.ref a2)) (F_a1_offset : Fld Z hE a1 "com/example/keyslate/keyslate/session/TlvReader" "offset" "I" (.int f_a1_offset)) (g_a1 : n0 ≤ a1) (A_a2 : own_Ar Z hE a2 .byte (bs_a2.map Value.int)) (g_a2 : n0 ≤ a2) (ne_a1_a2 : a1 ≠ a2) (r : Int32) (hF : (f_TlvReader_nextTag f_a1_offset bs_a2) = some r) :
    MetFree l (⟨"com/example/keyslate/keyslate/session/TlvReader", "nextTag", "()I"⟩ : MethodName) (head1 (Jvm.Cond.code (⟨"com/example/keyslate/keyslate/session/TlvReader", "nextTag", "()I"⟩ : MethodName) prog_12_method_2_code 1 (some .int) :: ws) ({ frames := 0, cells := 0, slots := 0, locals := 0 } : Room)) (fun a U => a = #[(.ref a1)] ∧ Z.Warmed39 U.vm ∧ U.heap = hE) (fun _ _ _ _ _ => True) (fun _ U o U' => ∃ v L, o = .returned v ∧ (Q_TlvReader_nextTag Z hE n0 a1 a2 r) v U'.heap L ∧ FrameEnd U o U' L ({ frames := 0, cells := 0, slots := 0, locals := 0 } : Room).cells ({ frames := 0, cells := 0, slots := 0, locals := 0 } : Room).slots) := by
  refine MetFree.of_bodySF (plainFor_of_name pn_com_example_keyslate_keyslate_session_TlvReader) hisR ?_
  intro p e s m args below meth c s₁ Bd hml0 hP hK
  obtain ⟨rfl, hZ, hh⟩ := hP
  have X0 : Stand p l e ({ frames := 0, cells := 0, slots := 0, locals := 0 } : Room) s m #[(.ref a1)] below meth c s₁ [] 0 0 := Stand.of_body Bd
  have e0 : s₁.heap = hE := by rw [← hh, Bd.state]; rfl
  have cx : Cx_TlvReader_nextTag p s m meth c Z a0 := ⟨Bd.exec, hZ, hw, Bd.bytes, hml0, findClass_of_methodNamed Bd.named, Bd.returns, Bd.notSynchronized, (name_of_methodNamed Bd.named Bd.method).1⟩
  show own_Goes p e below s (Q_TlvReader_nextTag Z hE n0 a1 a2 r) ({ frames := 0, cells := 0, slots := 0, locals := 0 } : Room).cells ({ frames := 0, cells := 0, slots := 0, locals := 0 } : Room).slots (s₁.setTop (entryFrame m #[(.ref a1)] 1))
  rw [ef_TlvReader_nextTag]
  exact b_TlvReader_nextTag cx a1 a2 X0 e0 (Fr.nil n0) z f_a1_offset bs_a2 E_a1 F_a1_data F_a1_offset g_a1 A_a2 g_a2 ne_a1_a2 _ hF
/-! com/example/keyslate/keyslate/session/TlvReaderNextTagPinLaw.mod256:(I)I -/
def f_TlvReaderNextTagPinLaw_mod256 (v0 : Int32) : Option (Int32) :=
  own_lt (v0 % (256 : Int32)) fun x50 =>
  if x50 < (0 : Int32) then
    own_lt (x50 + (256 : Int32)) fun x51 =>
    some x51
  else
    some x50
def Q_TlvReaderNextTagPinLaw_mod256 (Z : State) (hE : Heap) (n0 : Nat)  (r : Int32) (v : Option Value) (h : Heap) (L : List Loc) : Prop := v = some (.int r) ∧ Fr n0 L ∧ h = hE
def Cx_TlvReaderNextTagPinLaw_mod256 (p : Program) (s : State) (m : MethodId) (meth : Method) (c : Code) (Z : State) (a0 : Array Value) : Prop := p.tables.exec = Jvm.exec ∧ Z.Warmed39 s.vm ∧ (∀ d ∈ tables_1, d.before a0 Z = true) ∧ c.code = method_2_code ∧ c.maxLocals = 2 ∧ s.vm.findClass "com/example/keyslate/keyslate/session/TlvReaderNextTagPinLaw" = some m.cls ∧ meth.sig.returnType = some .int ∧ meth.locks = false ∧ meth.name = "mod256"
set_option maxRecDepth 65536 in
set_option maxHeartbeats 4000000 in
theorem b_TlvReaderNextTagPinLaw_mod256 {p : Program} {l : Launch} {e : Env} {s : State} {m : MethodId} {args : Array Value} {below : List Frame} {meth : Method} {c : Code} {Z : State} {a0 : Array Value} {n0 : Nat} {hE : Heap} (cx : Cx_TlvReaderNextTagPinLaw_mod256 p s m meth c Z a0) :
    ∀ {T : State} {locs : List Loc} (X : Stand p l e ({ frames := 0, cells := 0, slots := 0, locals := 0 } : Room) s m args below meth c T locs 0 0) (eT : T.heap = hE) (N : Fr n0 locs) (z : n0 ≤ hE.size) (v0 : Int32) (r : Int32), f_TlvReaderNextTagPinLaw_mod256 v0 = some r → own_Goes p e below s (Q_TlvReaderNextTagPinLaw_mod256 Z hE n0 r) 0 0 (T.setTop (mkF m 0 #[.val (.int v0), .unset] [])) := by
  have cx' := cx
  obtain ⟨hx, hZ, hw, hby, hml, hown, hret, hlk, hnm⟩ := cx'
  intro T locs X eT N z v0 r hF
  unfold f_TlvReaderNextTagPinLaw_mod256 at hF
  refine own_Goes.via (B := T.setTop (mkF m 5 #[.val (.int v0), .unset] [(.int (v0 % (256 : Int32)))])) (fun t k => ?_) ?_
  · show Steps p.tables e below (T.setTop (mkF m 0 #[.val (.int v0), .unset] [])) t
    refine XS.iloadN X.here hx rfl (hb hby dTlvReaderNextTagPinLaw_mod256_0) rfl ?_
    show Steps p.tables e below (T.setTop (mkF m 1 #[.val (.int v0), .unset] [(.int v0)])) t
    refine XS.sipush X.here hx rfl (hb hby dTlvReaderNextTagPinLaw_mod256_1) ?_
    show Steps p.tables e below (T.setTop (mkF m 4 #[.val (.int v0), .unset] [(.int (256 : Int32)), (.int v0)])) t
    refine own_irem X hx rfl (hb hby dTlvReaderNextTagPinLaw_mod256_4) rfl (by decide) ?_
    exact k
  obtain ⟨x50, hx50, hF⟩ := own_lt_e hF
  rw [← hx50]
  refine own_Goes.via (B := T.setTop (mkF m 7 #[.val (.int v0), .val (.int x50)] [(.int x50)])) (fun t k => ?_) ?_
  · show Steps p.tables e below (T.setTop (mkF m 5 #[.val (.int v0), .unset] [(.int x50)])) t
    refine XS.istoreN X.here hx rfl (hb hby dTlvReaderNextTagPinLaw_mod256_5) rfl (l' := #[.val (.int v0), .val (.int x50)]) rfl ?_
    show Steps p.tables e below (T.setTop (mkF m 6 #[.val (.int v0), .val (.int x50)] [])) t
    refine XS.iloadN X.here hx rfl (hb hby dTlvReaderNextTagPinLaw_mod256_6) rfl ?_
    exact k
  by_cases hc7 : x50 < (0 : Int32)
  · rw [if_pos hc7] at hF
    refine own_Goes.via (B := T.setTop (mkF m 15 #[.val (.int v0), .val (.int x50)] [(.int (x50 + (256 : Int32)))])) (fun t k => ?_) ?_
    · show Steps p.tables e below (T.setTop (mkF m 7 #[.val (.int v0), .val (.int x50)] [(.int x50)])) t
      refine XS.ifNo X.here hx rfl (hb hby dTlvReaderNextTagPinLaw_mod256_7) rfl ((if0 _ _).trans (tlt hc7).2.1) ?_
      show Steps p.tables e below (T.setTop (mkF m 10 #[.val (.int v0), .val (.int x50)] [])) t
      refine XS.iloadN X.here hx rfl (hb hby dTlvReaderNextTagPinLaw_mod256_10) rfl ?_
      show Steps p.tables e below (T.setTop (mkF m 11 #[.val (.int v0), .val (.int x50)] [(.int x50)])) t
      refine XS.sipush X.here hx rfl (hb hby dTlvReaderNextTagPinLaw_mod256_11) ?_
      show Steps p.tables e below (T.setTop (mkF m 14 #[.val (.int v0), .val (.int x50)] [(.int (256 : Int32)), (.int x50)])) t
      refine XS.iadd X.here hx rfl (hb hby dTlvReaderNextTagPinLaw_mod256_14) rfl ?_
      exact k
    obtain ⟨x51, hx51, hF⟩ := own_lt_e hF
    rw [← hx51]
    refine own_Goes.via (B := T.setTop (mkF m 17 #[.val (.int v0), .val (.int x51)] [(.int x51)])) (fun t k => ?_) ?_
    · show Steps p.tables e below (T.setTop (mkF m 15 #[.val (.int v0), .val (.int x50)] [(.int x51)])) t
      refine XS.istoreN X.here hx rfl (hb hby dTlvReaderNextTagPinLaw_mod256_15) rfl (l' := #[.val (.int v0), .val (.int x51)]) rfl ?_
      show Steps p.tables e below (T.setTop (mkF m 16 #[.val (.int v0), .val (.int x51)] [])) t
      refine XS.iloadN X.here hx rfl (hb hby dTlvReaderNextTagPinLaw_mod256_16) rfl ?_
      exact k
    obtain rfl : x51 = r := Option.some.inj hF
    exact own_retI X hx hret hlk (hb hby dTlvReaderNextTagPinLaw_mod256_17) eT ⟨rfl, N, rfl⟩ (by decide) (by decide)
  · rw [if_neg hc7] at hF
    refine own_Goes.via (B := T.setTop (mkF m 17 #[.val (.int v0), .val (.int x50)] [(.int x50)])) (fun t k => ?_) ?_
    · show Steps p.tables e below (T.setTop (mkF m 7 #[.val (.int v0), .val (.int x50)] [(.int x50)])) t
      refine XS.ifYes X.here hx rfl (pc0 := 7) (pc' := 16) rfl (hb hby dTlvReaderNextTagPinLaw_mod256_7) rfl ((if0 _ _).trans (flt hc7).2.1) (by decide) (by decide) ?_
      show Steps p.tables e below (T.setTop (mkF m 16 #[.val (.int v0), .val (.int x50)] [])) t
      refine XS.iloadN X.here hx rfl (hb hby dTlvReaderNextTagPinLaw_mod256_16) rfl ?_
      exact k
    obtain rfl : x50 = r := Option.some.inj hF
    exact own_retI X hx hret hlk (hb hby dTlvReaderNextTagPinLaw_mod256_17) eT ⟨rfl, N, rfl⟩ (by decide) (by decide)
theorem ef_TlvReaderNextTagPinLaw_mod256 (m : MethodId) (x0 : Int32) : entryFrame m #[(.int x0)] 2 = mkF m 0 #[.val (.int x0), .unset] [] := by first | (simp [entryFrame, mkF, argsToLocals, Value.category]; done) | rfl
set_option maxRecDepth 65536 in
set_option maxHeartbeats 4000000 in
theorem rm_TlvReaderNextTagPinLaw_mod256 (l : Launch) (Z : State) (a0 : Array Value) (hw : ∀ d ∈ tables_1, d.before a0 Z = true) (ws : List Jvm.Cond) (hE : Heap) (n0 : Nat) (z : n0 ≤ hE.size)  (v0 : Int32) (r : Int32) (hF : (f_TlvReaderNextTagPinLaw_mod256 v0) = some r) :
    MetFree l (⟨"com/example/keyslate/keyslate/session/TlvReaderNextTagPinLaw", "mod256", "(I)I"⟩ : MethodName) (head1 (Jvm.Cond.code (⟨"com/example/keyslate/keyslate/session/TlvReaderNextTagPinLaw", "mod256", "(I)I"⟩ : MethodName) method_2_code 2 (some .int) :: ws) ({ frames := 0, cells := 0, slots := 0, locals := 0 } : Room)) (fun a U => a = #[(.int v0)] ∧ Z.Warmed39 U.vm ∧ U.heap = hE) (fun _ _ _ _ _ => True) (fun _ U o U' => ∃ v L, o = .returned v ∧ (Q_TlvReaderNextTagPinLaw_mod256 Z hE n0 r) v U'.heap L ∧ FrameEnd U o U' L ({ frames := 0, cells := 0, slots := 0, locals := 0 } : Room).cells ({ frames := 0, cells := 0, slots := 0, locals := 0 } : Room).slots) := by
  refine MetFree.of_bodySF (plainFor_of_name pn_com_example_keyslate_keyslate_session_TlvReaderNextTagPinLaw) hisR ?_
  intro p e s m args below meth c s₁ Bd hml0 hP hK
  obtain ⟨rfl, hZ, hh⟩ := hP
  have X0 : Stand p l e ({ frames := 0, cells := 0, slots := 0, locals := 0 } : Room) s m #[(.int v0)] below meth c s₁ [] 0 0 := Stand.of_body Bd
  have e0 : s₁.heap = hE := by rw [← hh, Bd.state]; rfl
  have cx : Cx_TlvReaderNextTagPinLaw_mod256 p s m meth c Z a0 := ⟨Bd.exec, hZ, hw, Bd.bytes, hml0, findClass_of_methodNamed Bd.named, Bd.returns, Bd.notSynchronized, (name_of_methodNamed Bd.named Bd.method).1⟩
  show own_Goes p e below s (Q_TlvReaderNextTagPinLaw_mod256 Z hE n0 r) ({ frames := 0, cells := 0, slots := 0, locals := 0 } : Room).cells ({ frames := 0, cells := 0, slots := 0, locals := 0 } : Room).slots (s₁.setTop (entryFrame m #[(.int v0)] 2))
  rw [ef_TlvReaderNextTagPinLaw_mod256]
  exact b_TlvReaderNextTagPinLaw_mod256 cx X0 e0 (Fr.nil n0) z v0 _ hF
/-! com/example/keyslate/keyslate/session/TlvReader.lengthByte:(II)I -/
def f_TlvReader_lengthByte (v1 : Int32) (v2 : Int32) (f_a1_offset : Int32) (bs_a2 : List Int32) : Option (Int32) :=
  if v1 < (own_sz bs_a2) then
    own_ck (own_inb bs_a2 v1) <|
    some ((own_rd bs_a2 v1) &&& (255 : Int32))
  else
    none
def Q_TlvReader_lengthByte (Z : State) (hE : Heap) (n0 : Nat) (a1 : Addr) (a2 : Addr) (r : Int32) (v : Option Value) (h : Heap) (L : List Loc) : Prop := v = some (.int r) ∧ Fr n0 L ∧ h = hE
def Cx_TlvReader_lengthByte (p : Program) (s : State) (m : MethodId) (meth : Method) (c : Code) (Z : State) (a0 : Array Value) : Prop := p.tables.exec = Jvm.exec ∧ Z.Warmed39 s.vm ∧ (∀ d ∈ tables_1, d.before a0 Z = true) ∧ c.code = prog_12_method_6_code ∧ c.maxLocals = 3 ∧ s.vm.findClass "com/example/keyslate/keyslate/session/TlvReader" = some m.cls ∧ meth.sig.returnType = some .int ∧ meth.locks = false ∧ meth.name = "lengthByte"
set_option maxRecDepth 65536 in
set_option maxHeartbeats 4000000 in
theorem b_TlvReader_lengthByte {p : Program} {l : Launch} {e : Env} {s : State} {m : MethodId} {args : Array Value} {below : List Frame} {meth : Method} {c : Code} {Z : State} {a0 : Array Value} {n0 : Nat} {hE : Heap} (cx : Cx_TlvReader_lengthByte p s m meth c Z a0) (a1 : Addr) (a2 : Addr) :
    ∀ {T : State} {locs : List Loc} (X : Stand p l e ({ frames := 0, cells := 0, slots := 0, locals := 0 } : Room) s m args below meth c T locs 0 0) (eT : T.heap = hE) (N : Fr n0 locs) (z : n0 ≤ hE.size) (v1 : Int32) (v2 : Int32) (f_a1_offset : Int32) (bs_a2 : List Int32) (E_a1 : Exa Z hE a1 "com/example/keyslate/keyslate/session/TlvReader") (F_a1_data : Fld Z hE a1 "com/example/keyslate/keyslate/session/TlvReader" "data" "[B" (.ref a2)) (F_a1_offset : Fld Z hE a1 "com/example/keyslate/keyslate/session/TlvReader" "offset" "I" (.int f_a1_offset)) (g_a1 : n0 ≤ a1) (A_a2 : own_Ar Z hE a2 .byte (bs_a2.map Value.int)) (g_a2 : n0 ≤ a2) (ne_a1_a2 : a1 ≠ a2) (r : Int32), f_TlvReader_lengthByte v1 v2 f_a1_offset bs_a2 = some r → own_Goes p e below s (Q_TlvReader_lengthByte Z hE n0 a1 a2 r) 0 0 (T.setTop (mkF m 0 #[.val (.ref a1), .val (.int v1), .val (.int v2)] [])) := by
  have cx' := cx
  obtain ⟨hx, hZ, hw, hby, hml, hown, hret, hlk, hnm⟩ := cx'
  intro T locs X eT N z v1 v2 f_a1_offset bs_a2 E_a1 F_a1_data F_a1_offset g_a1 A_a2 g_a2 ne_a1_a2 r hF
  unfold f_TlvReader_lengthByte at hF
  refine own_Goes.via (B := T.setTop (mkF m 2 #[.val (.ref a1), .val (.int v1), .val (.int v2)] [(.ref a1), (.int v1)])) (fun t k => ?_) ?_
  · show Steps p.tables e below (T.setTop (mkF m 0 #[.val (.ref a1), .val (.int v1), .val (.int v2)] [])) t
    refine XS.iloadN X.here hx rfl (hb hby dTlvReader_lengthByte_0) rfl ?_
    show Steps p.tables e below (T.setTop (mkF m 1 #[.val (.ref a1), .val (.int v1), .val (.int v2)] [(.int v1)])) t
    refine XS.aloadN X.here hx rfl (hb hby dTlvReader_lengthByte_1) rfl rfl ?_
    exact k
  obtain ⟨T65, X65, e65, st65⟩ := getF X hx hZ hown (host := "") (Or.inl (w10 hw)) Via.refl eT F_a1_data (g := (mkF m 2 #[.val (.ref a1), .val (.int v1), .val (.int v2)] [(.ref a1), (.int v1)])) rfl rfl (hb hby dTlvReader_lengthByte_2)
  refine own_Goes.via st65 ?_
  show own_Goes _ _ _ _ _ _ _ (T65.setTop (mkF m 5 #[.val (.ref a1), .val (.int v1), .val (.int v2)] [(.ref a2), (.int v1)]))
  refine own_Goes.via (B := T65.setTop (mkF m 6 #[.val (.ref a1), .val (.int v1), .val (.int v2)] [(.int (own_sz bs_a2)), (.int v1)])) (fun t k => ?_) ?_
  · show Steps p.tables e below (T65.setTop (mkF m 5 #[.val (.ref a1), .val (.int v1), .val (.int v2)] [(.ref a2), (.int v1)])) t
    refine own_len X65 hx hZ e65 A_a2 (g := (mkF m 5 #[.val (.ref a1), .val (.int v1), .val (.int v2)] [(.ref a2), (.int v1)])) rfl rfl (hb hby dTlvReader_lengthByte_5) ?_
    exact k
  by_cases hc6 : v1 < (own_sz bs_a2)
  · rw [if_pos hc6] at hF
    refine own_Goes.via (B := T65.setTop (mkF m 34 #[.val (.ref a1), .val (.int v1), .val (.int v2)] [(.ref a1)])) (fun t k => ?_) ?_
    · show Steps p.tables e below (T65.setTop (mkF m 6 #[.val (.ref a1), .val (.int v1), .val (.int v2)] [(.int (own_sz bs_a2)), (.int v1)])) t
      refine XS.icmpYes X65.here hx rfl (pc0 := 6) (pc' := 33) rfl (hb hby dTlvReader_lengthByte_6) rfl (tlt hc6).1 (by decide) (by decide) ?_
      show Steps p.tables e below (T65.setTop (mkF m 33 #[.val (.ref a1), .val (.int v1), .val (.int v2)] [])) t
      refine XS.aloadN X65.here hx rfl (hb hby dTlvReader_lengthByte_33) rfl rfl ?_
      exact k
    obtain ⟨T66, X66, e66, st66⟩ := getF X65 hx hZ hown (host := "") (Or.inl (w10 hw)) Via.refl e65 F_a1_data (g := (mkF m 34 #[.val (.ref a1), .val (.int v1), .val (.int v2)] [(.ref a1)])) rfl rfl (hb hby dTlvReader_lengthByte_34)
    refine own_Goes.via st66 ?_
    show own_Goes _ _ _ _ _ _ _ (T66.setTop (mkF m 37 #[.val (.ref a1), .val (.int v1), .val (.int v2)] [(.ref a2)]))
    refine own_Goes.via (B := T66.setTop (mkF m 38 #[.val (.ref a1), .val (.int v1), .val (.int v2)] [(.int v1), (.ref a2)])) (fun t k => ?_) ?_
    · show Steps p.tables e below (T66.setTop (mkF m 37 #[.val (.ref a1), .val (.int v1), .val (.int v2)] [(.ref a2)])) t
      refine XS.iloadN X66.here hx rfl (hb hby dTlvReader_lengthByte_37) rfl ?_
      exact k
    obtain ⟨hi38, hF⟩ := own_ck_e hF
    refine own_Goes.via (B := T66.setTop (mkF m 43 #[.val (.ref a1), .val (.int v1), .val (.int v2)] [(.int ((own_rd bs_a2 v1) &&& (255 : Int32)))])) (fun t k => ?_) ?_
    · show Steps p.tables e below (T66.setTop (mkF m 38 #[.val (.ref a1), .val (.int v1), .val (.int v2)] [(.int v1), (.ref a2)])) t
      refine own_ldB X66 hx hZ e66 A_a2 hi38 rfl (g := (mkF m 38 #[.val (.ref a1), .val (.int v1), .val (.int v2)] [(.int v1), (.ref a2)])) rfl rfl (hb hby dTlvReader_lengthByte_38) ?_
      show Steps p.tables e below (T66.setTop (mkF m 39 #[.val (.ref a1), .val (.int v1), .val (.int v2)] [(.int (own_rd bs_a2 v1))])) t
      refine XS.sipush X66.here hx rfl (hb hby dTlvReader_lengthByte_39) ?_
      show Steps p.tables e below (T66.setTop (mkF m 42 #[.val (.ref a1), .val (.int v1), .val (.int v2)] [(.int (255 : Int32)), (.int (own_rd bs_a2 v1))])) t
      refine XS.iand X66.here hx rfl (hb hby dTlvReader_lengthByte_42) rfl ?_
      exact k
    obtain rfl : ((own_rd bs_a2 v1) &&& (255 : Int32)) = r := Option.some.inj hF
    exact own_retI X66 hx hret hlk (hb hby dTlvReader_lengthByte_43) e66 ⟨rfl, N, rfl⟩ (by decide) (by decide)
  · rw [if_neg hc6] at hF
    refine own_Goes.via (B := T65.setTop (mkF m 9 #[.val (.ref a1), .val (.int v1), .val (.int v2)] [])) (fun t k => ?_) ?_
    · show Steps p.tables e below (T65.setTop (mkF m 6 #[.val (.ref a1), .val (.int v1), .val (.int v2)] [(.int (own_sz bs_a2)), (.int v1)])) t
      refine XS.icmpNo X65.here hx rfl (hb hby dTlvReader_lengthByte_6) rfl (flt hc6).1 ?_
      exact k
    cases hF      -- no return at 9
theorem ef_TlvReader_lengthByte (m : MethodId) (x0 : Addr) (x1 : Int32) (x2 : Int32) : entryFrame m #[(.ref x0), (.int x1), (.int x2)] 3 = mkF m 0 #[.val (.ref x0), .val (.int x1), .val (.int x2)] [] := by first | (simp [entryFrame, mkF, argsToLocals, Value.category]; done) | rfl
set_option maxRecDepth 65536 in
set_option maxHeartbeats 4000000 in
theorem rm_TlvReader_lengthByte (l : Launch) (Z : State) (a0 : Array Value) (hw : ∀ d ∈ tables_1, d.before a0 Z = true) (ws : List Jvm.Cond) (hE : Heap) (n0 : Nat) (z : n0 ≤ hE.size) (a1 : Addr) (a2 : Addr) (v1 : Int32) (v2 : Int32) (f_a1_offset : Int32) (bs_a2 : List Int32) (E_a1 : Exa Z hE a1 "com/example/keyslate/keyslate/session/TlvReader") (F_a1_data : Fld Z hE a1 "com/example/keyslate/keyslate/session/TlvReader" "data" "[B" (.ref a2)) (F_a1_offset : Fld Z hE a1 "com/example/keyslate/keyslate/session/TlvReader" "offset" "I" (.int f_a1_offset)) (g_a1 : n0 ≤ a1) (A_a2 : own_Ar Z hE a2 .byte (bs_a2.map Value.int)) (g_a2 : n0 ≤ a2) (ne_a1_a2 : a1 ≠ a2) (r : Int32) (hF : (f_TlvReader_lengthByte v1 v2 f_a1_offset bs_a2) = some r) :
    MetFree l (⟨"com/example/keyslate/keyslate/session/TlvReader", "lengthByte", "(II)I"⟩ : MethodName) (head1 (Jvm.Cond.code (⟨"com/example/keyslate/keyslate/session/TlvReader", "lengthByte", "(II)I"⟩ : MethodName) prog_12_method_6_code 3 (some .int) :: ws) ({ frames := 0, cells := 0, slots := 0, locals := 0 } : Room)) (fun a U => a = #[(.ref a1), (.int v1), (.int v2)] ∧ Z.Warmed39 U.vm ∧ U.heap = hE) (fun _ _ _ _ _ => True) (fun _ U o U' => ∃ v L, o = .returned v ∧ (Q_TlvReader_lengthByte Z hE n0 a1 a2 r) v U'.heap L ∧ FrameEnd U o U' L ({ frames := 0, cells := 0, slots := 0, locals := 0 } : Room).cells ({ frames := 0, cells := 0, slots := 0, locals := 0 } : Room).slots) := by
  refine MetFree.of_bodySF (plainFor_of_name pn_com_example_keyslate_keyslate_session_TlvReader) hisR ?_
  intro p e s m args below meth c s₁ Bd hml0 hP hK
  obtain ⟨rfl, hZ, hh⟩ := hP
  have X0 : Stand p l e ({ frames := 0, cells := 0, slots := 0, locals := 0 } : Room) s m #[(.ref a1), (.int v1), (.int v2)] below meth c s₁ [] 0 0 := Stand.of_body Bd
  have e0 : s₁.heap = hE := by rw [← hh, Bd.state]; rfl
  have cx : Cx_TlvReader_lengthByte p s m meth c Z a0 := ⟨Bd.exec, hZ, hw, Bd.bytes, hml0, findClass_of_methodNamed Bd.named, Bd.returns, Bd.notSynchronized, (name_of_methodNamed Bd.named Bd.method).1⟩
  show own_Goes p e below s (Q_TlvReader_lengthByte Z hE n0 a1 a2 r) ({ frames := 0, cells := 0, slots := 0, locals := 0 } : Room).cells ({ frames := 0, cells := 0, slots := 0, locals := 0 } : Room).slots (s₁.setTop (entryFrame m #[(.ref a1), (.int v1), (.int v2)] 3))
  rw [ef_TlvReader_lengthByte]
  exact b_TlvReader_lengthByte cx a1 a2 X0 e0 (Fr.nil n0) z v1 v2 f_a1_offset bs_a2 E_a1 F_a1_data F_a1_offset g_a1 A_a2 g_a2 ne_a1_a2 _ hF
/-! com/example/keyslate/keyslate/session/TlvReader.read:(I)[B -/
def f_TlvReader_read_101 (v1 : Int32) (v2 : Int32) (v3 : Int32) (f_a1_offset : Int32) (bs_a2 : List Int32) : Option (Int32 × (List Int32)) :=
  if (own_sz bs_a2) < (v2 + v3) then
    none
  else
    own_ck (¬ v3 < 0 ∧ v3.toNatClampNeg ≤ 8) <|
    own_ck (own_cpok bs_a2 (List.replicate v3.toNatClampNeg (0 : Int32)) v2 (0 : Int32) v3) <|
    own_lt (own_cp bs_a2 (List.replicate v3.toNatClampNeg (0 : Int32)) v2 (0 : Int32) v3) fun bs111 =>
    own_lt (v2 + v3) fun x112 =>
    some (x112, bs111)
def f_TlvReader_read (v1 : Int32) (f_a1_offset : Int32) (bs_a2 : List Int32) : Option (Int32 × (List Int32)) :=
  own_bd (f_TlvReader_nextTag f_a1_offset bs_a2) fun r114 =>
  if r114 = v1 then
    own_lt (f_a1_offset + (2 : Int32)) fun x116 =>
    own_lt (f_a1_offset + (1 : Int32)) fun x118 =>
    own_bd (f_TlvReader_lengthByte x118 v1 f_a1_offset bs_a2) fun r119 =>
    if r119 = (129 : Int32) then
      own_bd (f_TlvReader_lengthByte x116 v1 f_a1_offset bs_a2) fun r120 =>
      own_lt (x116 + (1 : Int32)) fun x121 =>
      (f_TlvReader_read_101 v1 x121 r120 f_a1_offset bs_a2)
    else
      if (127 : Int32) < r119 then
        none
      else
        (f_TlvReader_read_101 v1 x116 r119 f_a1_offset bs_a2)
  else
    none
def Q_TlvReader_read (Z : State) (hE : Heap) (n0 : Nat) (a1 : Addr) (a2 : Addr) (r : Int32 × (List Int32)) (v : Option Value) (h : Heap) (L : List Loc) : Prop := ∃ b1 : Addr, v = some (.ref b1) ∧ Fr n0 L ∧ Keep hE h [a1] ∧ Exa Z h a1 "com/example/keyslate/keyslate/session/TlvReader" ∧ Fld Z h a1 "com/example/keyslate/keyslate/session/TlvReader" "data" "[B" (.ref a2) ∧ Fld Z h a1 "com/example/keyslate/keyslate/session/TlvReader" "offset" "I" (.int r.1) ∧ n0 ≤ b1 ∧ hE.size ≤ b1 ∧ own_Ar Z h b1 .byte (r.2.map Value.int)
def Cx_TlvReader_read (p : Program) (s : State) (m : MethodId) (meth : Method) (c : Code) (Z : State) (a0 : Array Value) : Prop := p.tables.exec = Jvm.exec ∧ Z.Warmed39 s.vm ∧ (∀ d ∈ tables_1, d.before a0 Z = true) ∧ c.code = prog_12_method_3_code ∧ c.maxLocals = 5 ∧ s.vm.findClass "com/example/keyslate/keyslate/session/TlvReader" = some m.cls ∧ meth.sig.returnType = some (.array .byte) ∧ meth.locks = false ∧ meth.name = "read"
set_option maxRecDepth 65536 in
set_option maxHeartbeats 4000000 in
theorem b_TlvReader_read_101 {p : Program} {l : Launch} {e : Env} {s : State} {m : MethodId} {args : Array Value} {below : List Frame} {meth : Method} {c : Code} {Z : State} {a0 : Array Value} {n0 : Nat} {hE : Heap} (cx : Cx_TlvReader_read p s m meth c Z a0) (a1 : Addr) (a2 : Addr) :
    ∀ {T : State} {locs : List Loc} {h : Heap} (X : Stand p l e ({ frames := 1, cells := 1, slots := 8, locals := 18 } : Room) s m args below meth c T locs 0 0) (eT : T.heap = h) (N : Fr n0 locs) (K : Keep hE h [a1]) (z : n0 ≤ h.size) (v1 : Int32) (v2 : Int32) (v3 : Int32) (f_a1_offset : Int32) (bs_a2 : List Int32) (d4 : Slot) (o_d4 : One d4) (E_a1 : Exa Z h a1 "com/example/keyslate/keyslate/session/TlvReader") (F_a1_data : Fld Z h a1 "com/example/keyslate/keyslate/session/TlvReader" "data" "[B" (.ref a2)) (F_a1_offset : Fld Z h a1 "com/example/keyslate/keyslate/session/TlvReader" "offset" "I" (.int f_a1_offset)) (g_a1 : n0 ≤ a1) (A_a2 : own_Ar Z h a2 .byte (bs_a2.map Value.int)) (g_a2 : n0 ≤ a2) (ne_a1_a2 : a1 ≠ a2) (r : Int32 × (List Int32)), f_TlvReader_read_101 v1 v2 v3 f_a1_offset bs_a2 = some r → own_Goes p e below s (Q_TlvReader_read Z hE n0 a1 a2 r) 1 8 (T.setTop (mkF m 101 #[.val (.ref a1), .val (.int v1), .val (.int v2), .val (.int v3), d4] [])) := by
  have cx' := cx
  obtain ⟨hx, hZ, hw, hby, hml, hown, hret, hlk, hnm⟩ := cx'
  intro T locs h X eT N K z v1 v2 v3 f_a1_offset bs_a2 d4 o_d4 E_a1 F_a1_data F_a1_offset g_a1 A_a2 g_a2 ne_a1_a2 r hF
  unfold f_TlvReader_read_101 at hF
  refine own_Goes.via (B := T.setTop (mkF m 105 #[.val (.ref a1), .val (.int v1), .val (.int v2), .val (.int v3), d4] [(.ref a1), (.int (v2 + v3))])) (fun t k => ?_) ?_
  · show Steps p.tables e below (T.setTop (mkF m 101 #[.val (.ref a1), .val (.int v1), .val (.int v2), .val (.int v3), d4] [])) t
    refine XS.iloadN X.here hx rfl (hb hby dTlvReader_read_101) rfl ?_
    show Steps p.tables e below (T.setTop (mkF m 102 #[.val (.ref a1), .val (.int v1), .val (.int v2), .val (.int v3), d4] [(.int v2)])) t
    refine XS.iloadN X.here hx rfl (hb hby dTlvReader_read_102) rfl ?_
    show Steps p.tables e below (T.setTop (mkF m 103 #[.val (.ref a1), .val (.int v1), .val (.int v2), .val (.int v3), d4] [(.int v3), (.int v2)])) t
    refine XS.iadd X.here hx rfl (hb hby dTlvReader_read_103) rfl ?_
    show Steps p.tables e below (T.setTop (mkF m 104 #[.val (.ref a1), .val (.int v1), .val (.int v2), .val (.int v3), d4] [(.int (v2 + v3))])) t
    refine XS.aloadN X.here hx rfl (hb hby dTlvReader_read_104) rfl rfl ?_
    exact k
  obtain ⟨T107, X107, e107, st107⟩ := getF X hx hZ hown (host := "") (Or.inl (w10 hw)) Via.refl eT F_a1_data (g := (mkF m 105 #[.val (.ref a1), .val (.int v1), .val (.int v2), .val (.int v3), d4] [(.ref a1), (.int (v2 + v3))])) rfl rfl (hb hby dTlvReader_read_105)
  refine own_Goes.via st107 ?_
  show own_Goes _ _ _ _ _ _ _ (T107.setTop (mkF m 108 #[.val (.ref a1), .val (.int v1), .val (.int v2), .val (.int v3), d4] [(.ref a2), (.int (v2 + v3))]))
  refine own_Goes.via (B := T107.setTop (mkF m 109 #[.val (.ref a1), .val (.int v1), .val (.int v2), .val (.int v3), d4] [(.int (own_sz bs_a2)), (.int (v2 + v3))])) (fun t k => ?_) ?_
  · show Steps p.tables e below (T107.setTop (mkF m 108 #[.val (.ref a1), .val (.int v1), .val (.int v2), .val (.int v3), d4] [(.ref a2), (.int (v2 + v3))])) t
    refine own_len X107 hx hZ e107 A_a2 (g := (mkF m 108 #[.val (.ref a1), .val (.int v1), .val (.int v2), .val (.int v3), d4] [(.ref a2), (.int (v2 + v3))])) rfl rfl (hb hby dTlvReader_read_108) ?_
    exact k
  by_cases hc109 : (own_sz bs_a2) < (v2 + v3)
  · rw [if_pos hc109] at hF
    refine own_Goes.via (B := T107.setTop (mkF m 112 #[.val (.ref a1), .val (.int v1), .val (.int v2), .val (.int v3), d4] [])) (fun t k => ?_) ?_
    · show Steps p.tables e below (T107.setTop (mkF m 109 #[.val (.ref a1), .val (.int v1), .val (.int v2), .val (.int v3), d4] [(.int (own_sz bs_a2)), (.int (v2 + v3))])) t
      refine XS.icmpNo X107.here hx rfl (hb hby dTlvReader_read_109) rfl (tlt hc109).2.2.2 ?_
      exact k
    cases hF      -- no return at 112
  · rw [if_neg hc109] at hF
    refine own_Goes.via (B := T107.setTop (mkF m 137 #[.val (.ref a1), .val (.int v1), .val (.int v2), .val (.int v3), d4] [(.int v3)])) (fun t k => ?_) ?_
    · show Steps p.tables e below (T107.setTop (mkF m 109 #[.val (.ref a1), .val (.int v1), .val (.int v2), .val (.int v3), d4] [(.int (own_sz bs_a2)), (.int (v2 + v3))])) t
      refine XS.icmpYes X107.here hx rfl (pc0 := 109) (pc' := 136) rfl (hb hby dTlvReader_read_109) rfl (flt hc109).2.2.2 (by decide) (by decide) ?_
      show Steps p.tables e below (T107.setTop (mkF m 136 #[.val (.ref a1), .val (.int v1), .val (.int v2), .val (.int v3), d4] [])) t
      refine XS.iloadN X107.here hx rfl (hb hby dTlvReader_read_136) rfl ?_
      exact k
    obtain ⟨hn137, hF⟩ := own_ck_e hF
    obtain ⟨T108, h108, k108, X108, e108, E108, A108, st108⟩ := newP X107 hx hZ (aty := .byte) (w0 hw) e107 (g := (mkF m 137 #[.val (.ref a1), .val (.int v1), .val (.int v2), .val (.int v3), d4] [(.int v3)])) rfl (hb hby dTlvReader_read_137) rfl hn137.1 (cap := 8) hn137.2 (by decide) (by decide) (by decide)
    obtain ⟨c108, q108⟩ : ∃ z, z = h.size := ⟨_, rfl⟩
    rw [← q108] at A108 st108
    have A108_c108 : own_Ar Z h108 c108 .byte ((List.replicate v3.toNatClampNeg (0 : Int32)).map Value.int) := own_newI A108 hn137.1 rfl rfl
    have g108_c108 : n0 ≤ c108 := Nat.le_trans z (Nat.le_of_eq q108.symm)
    have nE108_c108 : hE.size ≤ c108 := Nat.le_trans K.1 (Nat.le_of_eq q108.symm)
    have ne_a1_c108 : a1 ≠ c108 := Nat.ne_of_lt (Nat.lt_of_lt_of_le E_a1.lt (Nat.le_of_eq q108.symm))
    have ne_a2_c108 : a2 ≠ c108 := Nat.ne_of_lt (Nat.lt_of_lt_of_le A_a2.lt (Nat.le_of_eq q108.symm))
    have E108_a1 := E_a1.ext E108
    have F108_a1_data := F_a1_data.ext E108
    have F108_a1_offset := F_a1_offset.ext E108
    have A108_a2 := A_a2.ext E108
    have z108 := Nat.le_trans z E108.1
    have K108_ := K.ext E108
    refine own_Goes.via st108 ?_
    show own_Goes _ _ _ _ _ _ _ (T108.setTop (mkF m 139 #[.val (.ref a1), .val (.int v1), .val (.int v2), .val (.int v3), d4] [(.ref c108)]))
    refine own_Goes.via (B := T108.setTop (mkF m 142 #[.val (.ref a1), .val (.int v1), .val (.int v2), .val (.int v3), .val (.ref c108)] [(.ref a1)])) (fun t k => ?_) ?_
    · show Steps p.tables e below (T108.setTop (mkF m 139 #[.val (.ref a1), .val (.int v1), .val (.int v2), .val (.int v3), d4] [(.ref c108)])) t
      refine XS.astoreS X108.here hx rfl (hb hby dTlvReader_read_139) rfl rfl rfl rfl o_d4 ?_
      show Steps p.tables e below (T108.setTop (mkF m 141 #[.val (.ref a1), .val (.int v1), .val (.int v2), .val (.int v3), .val (.ref c108)] [])) t
      refine XS.aloadN X108.here hx rfl (hb hby dTlvReader_read_141) rfl rfl ?_
      exact k
    obtain ⟨T109, X109, e109, st109⟩ := getF X108 hx hZ hown (host := "") (Or.inl (w10 hw)) Via.refl e108 F108_a1_data (g := (mkF m 142 #[.val (.ref a1), .val (.int v1), .val (.int v2), .val (.int v3), .val (.ref c108)] [(.ref a1)])) rfl rfl (hb hby dTlvReader_read_142)
    refine own_Goes.via st109 ?_
    show own_Goes _ _ _ _ _ _ _ (T109.setTop (mkF m 145 #[.val (.ref a1), .val (.int v1), .val (.int v2), .val (.int v3), .val (.ref c108)] [(.ref a2)]))
    refine own_Goes.via (B := T109.setTop (mkF m 150 #[.val (.ref a1), .val (.int v1), .val (.int v2), .val (.int v3), .val (.ref c108)] [(.int v3), (.int (0 : Int32)), (.ref c108), (.int v2), (.ref a2)])) (fun t k => ?_) ?_
    · show Steps p.tables e below (T109.setTop (mkF m 145 #[.val (.ref a1), .val (.int v1), .val (.int v2), .val (.int v3), .val (.ref c108)] [(.ref a2)])) t
      refine XS.iloadN X109.here hx rfl (hb hby dTlvReader_read_145) rfl ?_
      show Steps p.tables e below (T109.setTop (mkF m 146 #[.val (.ref a1), .val (.int v1), .val (.int v2), .val (.int v3), .val (.ref c108)] [(.int v2), (.ref a2)])) t
      refine XS.aload X109.here hx rfl (hb hby dTlvReader_read_146) rfl rfl ?_
      show Steps p.tables e below (T109.setTop (mkF m 148 #[.val (.ref a1), .val (.int v1), .val (.int v2), .val (.int v3), .val (.ref c108)] [(.ref c108), (.int v2), (.ref a2)])) t
      refine XS.iconst X109.here hx rfl (hb hby dTlvReader_read_148) ?_
      show Steps p.tables e below (T109.setTop (mkF m 149 #[.val (.ref a1), .val (.int v1), .val (.int v2), .val (.int v3), .val (.ref c108)] [(.int (0 : Int32)), (.ref c108), (.int v2), (.ref a2)])) t
      refine XS.iloadN X109.here hx rfl (hb hby dTlvReader_read_149) rfl ?_
      exact k
    obtain ⟨hcp150, hF⟩ := own_ck_e hF
    obtain ⟨T110, h110, L110, X110, e110, N110, K110, A110_c108, st110⟩ := own_cpy X109 hx hZ hown (w33 hw) (w36 hw) (w34 hw) (w35 hw) e109 A108_a2 A108_c108 hcp150 N g108_c108 (g := (mkF m 150 #[.val (.ref a1), .val (.int v1), .val (.int v2), .val (.int v3), .val (.ref c108)] [(.int v3), (.int (0 : Int32)), (.ref c108), (.int v2), (.ref a2)])) rfl (by rw [hml]; rfl) rfl (hb hby dTlvReader_read_150) (by decide) (W := 0) (by show 2 * 0 + _ ≤ _; exact Nat.le_of_eq rfl) (by decide)
    refine own_Goes.via st110 ?_
    have E110_a1 := E108_a1.keep K110
    have F110_a1_data := F108_a1_data.keep K110 (ninS ne_a1_c108 nin0)
    have F110_a1_offset := F108_a1_offset.keep K110 (ninS ne_a1_c108 nin0)
    have A110_a2 := A108_a2.keep K110 (ninS ne_a2_c108 nin0)
    have K110_ := K108_.trans K110 (allS (Or.inr nE108_c108) all0)
    have z110_ := Nat.le_trans z108 K110.1
    show own_Goes _ _ _ _ _ _ _ (T110.setTop (mkF m 153 #[.val (.ref a1), .val (.int v1), .val (.int v2), .val (.int v3), .val (.ref c108)] []))
    obtain ⟨bs111, hbs111, hF⟩ := own_lt_e hF
    rw [← hbs111] at A110_c108
    refine own_Goes.via (B := T110.setTop (mkF m 157 #[.val (.ref a1), .val (.int v1), .val (.int v2), .val (.int v3), .val (.ref c108)] [(.int (v2 + v3)), (.ref a1)])) (fun t k => ?_) ?_
    · show Steps p.tables e below (T110.setTop (mkF m 153 #[.val (.ref a1), .val (.int v1), .val (.int v2), .val (.int v3), .val (.ref c108)] [])) t
      refine XS.aloadN X110.here hx rfl (hb hby dTlvReader_read_153) rfl rfl ?_
      show Steps p.tables e below (T110.setTop (mkF m 154 #[.val (.ref a1), .val (.int v1), .val (.int v2), .val (.int v3), .val (.ref c108)] [(.ref a1)])) t
      refine XS.iloadN X110.here hx rfl (hb hby dTlvReader_read_154) rfl ?_
      show Steps p.tables e below (T110.setTop (mkF m 155 #[.val (.ref a1), .val (.int v1), .val (.int v2), .val (.int v3), .val (.ref c108)] [(.int v2), (.ref a1)])) t
      refine XS.iloadN X110.here hx rfl (hb hby dTlvReader_read_155) rfl ?_
      show Steps p.tables e below (T110.setTop (mkF m 156 #[.val (.ref a1), .val (.int v1), .val (.int v2), .val (.int v3), .val (.ref c108)] [(.int v3), (.int v2), (.ref a1)])) t
      refine XS.iadd X110.here hx rfl (hb hby dTlvReader_read_156) rfl ?_
      exact k
    obtain ⟨x112, hx112, hF⟩ := own_lt_e hF
    rw [← hx112]
    obtain ⟨T113, h113, X113, e113, W113, st113⟩ := putF X110 hx hZ hown (host := "") (Or.inl (w17 hw)) Via.refl e110 F110_a1_offset E110_a1 (Or.inl (w18 hw)) (w2 hw) (ty := .int) (by decide) rfl rfl (g := (mkF m 157 #[.val (.ref a1), .val (.int v1), .val (.int v2), .val (.int v3), .val (.ref c108)] [(.int x112), (.ref a1)])) rfl rfl (hb hby dTlvReader_read_157)
    refine own_Goes.via st113 ?_
    have E113_a1 := E110_a1.wr W113
    have F113_a1_data := F110_a1_data.other W113 (Or.inr (slot_ne (Or.inr (w11 hw)) (Or.inl (w18 hw)) (by decide) (t := (.array .byte)) (t' := .int) (by decide) (by decide)))
    have A113_a2 := A110_a2.other W113 (Ne.symm ne_a1_a2)
    have A113_c108 := A110_c108.other W113 (Ne.symm ne_a1_c108)
    have F113_a1_offset := F110_a1_offset.same W113
    have z113 := Nat.le_trans z110_ (Keep.of_wr W113).1
    have K113_ := K110_.wr W113 (Or.inl (List.mem_of_getElem? (i := 0) rfl))
    have N113 := Fr.snoc X113 N110 g_a1
    show own_Goes _ _ _ _ _ _ _ (T113.setTop (mkF m 160 #[.val (.ref a1), .val (.int v1), .val (.int v2), .val (.int v3), .val (.ref c108)] []))
    refine own_Goes.via (B := T113.setTop (mkF m 162 #[.val (.ref a1), .val (.int v1), .val (.int v2), .val (.int v3), .val (.ref c108)] [(.ref c108)])) (fun t k => ?_) ?_
    · show Steps p.tables e below (T113.setTop (mkF m 160 #[.val (.ref a1), .val (.int v1), .val (.int v2), .val (.int v3), .val (.ref c108)] [])) t
      refine XS.aload X113.here hx rfl (hb hby dTlvReader_read_160) rfl rfl ?_
      exact k
    obtain rfl : (x112, bs111) = r := Option.some.inj hF
    exact own_retR X113 hx hret hlk (hb hby dTlvReader_read_162) rfl e113 rfl ⟨c108, rfl, N113, K113_, E113_a1, F113_a1_data, F113_a1_offset, g108_c108, nE108_c108, A113_c108⟩ (by decide) (by decide)
set_option maxRecDepth 65536 in
set_option maxHeartbeats 4000000 in
theorem b_TlvReader_read {p : Program} {l : Launch} {e : Env} {s : State} {m : MethodId} {args : Array Value} {below : List Frame} {meth : Method} {c : Code} {Z : State} {a0 : Array Value} {n0 : Nat} {hE : Heap} (cx : Cx_TlvReader_read p s m meth c Z a0) (a1 : Addr) (a2 : Addr) :
    ∀ {T : State} {locs : List Loc} {h : Heap} (X : Stand p l e ({ frames := 1, cells := 1, slots := 8, locals := 18 } : Room) s m args below meth c T locs 0 0) (eT : T.heap = h) (N : Fr n0 locs) (K : Keep hE h [a1]) (z : n0 ≤ h.size) (v1 : Int32) (f_a1_offset : Int32) (bs_a2 : List Int32) (E_a1 : Exa Z h a1 "com/example/keyslate/keyslate/session/TlvReader") (F_a1_data : Fld Z h a1 "com/example/keyslate/keyslate/session/TlvReader" "data" "[B" (.ref a2)) (F_a1_offset : Fld Z h a1 "com/example/keyslate/keyslate/session/TlvReader" "offset" "I" (.int f_a1_offset)) (g_a1 : n0 ≤ a1) (A_a2 : own_Ar Z h a2 .byte (bs_a2.map Value.int)) (g_a2 : n0 ≤ a2) (ne_a1_a2 : a1 ≠ a2) (r : Int32 × (List Int32)), f_TlvReader_read v1 f_a1_offset bs_a2 = some r → own_Goes p e below s (Q_TlvReader_read Z hE n0 a1 a2 r) 1 8 (T.setTop (mkF m 0 #[.val (.ref a1), .val (.int v1), .unset, .unset, .unset] [])) := by
  have cx' := cx
  obtain ⟨hx, hZ, hw, hby, hml, hown, hret, hlk, hnm⟩ := cx'
  intro T locs h X eT N K z v1 f_a1_offset bs_a2 E_a1 F_a1_data F_a1_offset g_a1 A_a2 g_a2 ne_a1_a2 r hF
  unfold f_TlvReader_read at hF
  refine own_Goes.via (B := T.setTop (mkF m 1 #[.val (.ref a1), .val (.int v1), .unset, .unset, .unset] [(.ref a1)])) (fun t k => ?_) ?_
  · show Steps p.tables e below (T.setTop (mkF m 0 #[.val (.ref a1), .val (.int v1), .unset, .unset, .unset] [])) t
    refine XS.aloadN X.here hx rfl (hb hby dTlvReader_read_0) rfl rfl ?_
    exact k
  obtain ⟨r114, hr114, hF⟩ := own_bd_e hF
  obtain ⟨cq114, kq114, q114a, q114b, q114c⟩ := isOf hZ eT E_a1
  obtain ⟨_, _, ⟨T114, L114, k114, n114⟩, -, X114, ⟨Lc114, hQ114, l114, y114, z114⟩, st114⟩ := X.virtualBack hx (y := (⟨"com/example/keyslate/keyslate/session/TlvReader", "nextTag", "()I"⟩ : MethodName)) (z := (⟨"com/example/keyslate/keyslate/session/TlvReader", "nextTag", "()I"⟩ : MethodName)) hown (mvT hZ (w28 hw)) (mvT hZ (w13 hw)) (notFace_of_selects (args := #[]) (mvT hZ (w15 hw))) (mvT hZ (w15 hw)) (mvT hZ (w14 hw)) (by decide) (backOf (W := 0) (rm_TlvReader_nextTag l Z a0 hw [] h n0 z a1 a2 f_a1_offset bs_a2 E_a1 F_a1_data F_a1_offset g_a1 A_a2 g_a2 ne_a1_a2 r114 hr114) hZ (w16 hw) (w3 hw) (by decide) (by decide)) q114a q114c (g := (mkF m 1 #[.val (.ref a1), .val (.int v1), .unset, .unset, .unset] [(.ref a1)])) rfl (by rw [hml]; rfl) (Steps.refl _) (argsL := []) (rest := []) (lenOf pd_1 rfl) rfl (by show 2 * 0 + _ ≤ _; exact Nat.le_of_eq rfl) (hb hby dTlvReader_read_1) (fun _ _ => ⟨rfl, eT, (by decide : 0 + 0 ≤ _), (by decide : 0 + 0 ≤ _)⟩)
  dsimp only [Pt.U, Pt.locs, Pt.cells, Pt.slots] at X114 l114 y114 z114 st114 hQ114
  subst l114 y114 z114
  obtain ⟨rfl, N114q, e114⟩ := hQ114
  have N114 := Fr.app N N114q
  refine own_Goes.tr st114 ?_
  show own_Goes _ _ _ _ _ _ _ (T114.setTop (mkF m 4 #[.val (.ref a1), .val (.int v1), .unset, .unset, .unset] [(.int r114)]))
  refine own_Goes.via (B := T114.setTop (mkF m 5 #[.val (.ref a1), .val (.int v1), .unset, .unset, .unset] [(.int v1), (.int r114)])) (fun t k => ?_) ?_
  · show Steps p.tables e below (T114.setTop (mkF m 4 #[.val (.ref a1), .val (.int v1), .unset, .unset, .unset] [(.int r114)])) t
    refine XS.iloadN X114.here hx rfl (hb hby dTlvReader_read_4) rfl ?_
    exact k
  by_cases hc5 : r114 = v1
  · rw [if_pos hc5] at hF
    refine own_Goes.via (B := T114.setTop (mkF m 33 #[.val (.ref a1), .val (.int v1), .unset, .unset, .unset] [(.ref a1)])) (fun t k => ?_) ?_
    · show Steps p.tables e below (T114.setTop (mkF m 5 #[.val (.ref a1), .val (.int v1), .unset, .unset, .unset] [(.int v1), (.int r114)])) t
      refine XS.icmpYes X114.here hx rfl (pc0 := 5) (pc' := 32) rfl (hb hby dTlvReader_read_5) rfl (teq hc5).1 (by decide) (by decide) ?_
      show Steps p.tables e below (T114.setTop (mkF m 32 #[.val (.ref a1), .val (.int v1), .unset, .unset, .unset] [])) t
      refine XS.aloadN X114.here hx rfl (hb hby dTlvReader_read_32) rfl rfl ?_
      exact k
    obtain ⟨T115, X115, e115, st115⟩ := getF X114 hx hZ hown (host := "") (Or.inl (w17 hw)) Via.refl e114 F_a1_offset (g := (mkF m 33 #[.val (.ref a1), .val (.int v1), .unset, .unset, .unset] [(.ref a1)])) rfl rfl (hb hby dTlvReader_read_33)
    refine own_Goes.via st115 ?_
    show own_Goes _ _ _ _ _ _ _ (T115.setTop (mkF m 36 #[.val (.ref a1), .val (.int v1), .unset, .unset, .unset] [(.int f_a1_offset)]))
    refine own_Goes.via (B := T115.setTop (mkF m 38 #[.val (.ref a1), .val (.int v1), .unset, .unset, .unset] [(.int (f_a1_offset + (2 : Int32)))])) (fun t k => ?_) ?_
    · show Steps p.tables e below (T115.setTop (mkF m 36 #[.val (.ref a1), .val (.int v1), .unset, .unset, .unset] [(.int f_a1_offset)])) t
      refine XS.iconst X115.here hx rfl (hb hby dTlvReader_read_36) ?_
      show Steps p.tables e below (T115.setTop (mkF m 37 #[.val (.ref a1), .val (.int v1), .unset, .unset, .unset] [(.int (2 : Int32)), (.int f_a1_offset)])) t
      refine XS.iadd X115.here hx rfl (hb hby dTlvReader_read_37) rfl ?_
      exact k
    obtain ⟨x116, hx116, hF⟩ := own_lt_e hF
    rw [← hx116]
    refine own_Goes.via (B := T115.setTop (mkF m 41 #[.val (.ref a1), .val (.int v1), .val (.int x116), .unset, .unset] [(.ref a1), (.ref a1)])) (fun t k => ?_) ?_
    · show Steps p.tables e below (T115.setTop (mkF m 38 #[.val (.ref a1), .val (.int v1), .unset, .unset, .unset] [(.int x116)])) t
      refine XS.istoreN X115.here hx rfl (hb hby dTlvReader_read_38) rfl (l' := #[.val (.ref a1), .val (.int v1), .val (.int x116), .unset, .unset]) rfl ?_
      show Steps p.tables e below (T115.setTop (mkF m 39 #[.val (.ref a1), .val (.int v1), .val (.int x116), .unset, .unset] [])) t
      refine XS.aloadN X115.here hx rfl (hb hby dTlvReader_read_39) rfl rfl ?_
      show Steps p.tables e below (T115.setTop (mkF m 40 #[.val (.ref a1), .val (.int v1), .val (.int x116), .unset, .unset] [(.ref a1)])) t
      refine XS.aloadN X115.here hx rfl (hb hby dTlvReader_read_40) rfl rfl ?_
      exact k
    obtain ⟨T117, X117, e117, st117⟩ := getF X115 hx hZ hown (host := "") (Or.inl (w17 hw)) Via.refl e115 F_a1_offset (g := (mkF m 41 #[.val (.ref a1), .val (.int v1), .val (.int x116), .unset, .unset] [(.ref a1), (.ref a1)])) rfl rfl (hb hby dTlvReader_read_41)
    refine own_Goes.via st117 ?_
    show own_Goes _ _ _ _ _ _ _ (T117.setTop (mkF m 44 #[.val (.ref a1), .val (.int v1), .val (.int x116), .unset, .unset] [(.int f_a1_offset), (.ref a1)]))
    refine own_Goes.via (B := T117.setTop (mkF m 47 #[.val (.ref a1), .val (.int v1), .val (.int x116), .unset, .unset] [(.int v1), (.int (f_a1_offset + (1 : Int32))), (.ref a1)])) (fun t k => ?_) ?_
    · show Steps p.tables e below (T117.setTop (mkF m 44 #[.val (.ref a1), .val (.int v1), .val (.int x116), .unset, .unset] [(.int f_a1_offset), (.ref a1)])) t
      refine XS.iconst X117.here hx rfl (hb hby dTlvReader_read_44) ?_
      show Steps p.tables e below (T117.setTop (mkF m 45 #[.val (.ref a1), .val (.int v1), .val (.int x116), .unset, .unset] [(.int (1 : Int32)), (.int f_a1_offset), (.ref a1)])) t
      refine XS.iadd X117.here hx rfl (hb hby dTlvReader_read_45) rfl ?_
      show Steps p.tables e below (T117.setTop (mkF m 46 #[.val (.ref a1), .val (.int v1), .val (.int x116), .unset, .unset] [(.int (f_a1_offset + (1 : Int32))), (.ref a1)])) t
      refine XS.iloadN X117.here hx rfl (hb hby dTlvReader_read_46) rfl ?_
      exact k
    obtain ⟨x118, hx118, hF⟩ := own_lt_e hF
    rw [← hx118]
    obtain ⟨r119, hr119, hF⟩ := own_bd_e hF
    obtain ⟨cq119, q119, q119'⟩ := E_a1.cell
    obtain ⟨_, _, ⟨T119, L119, k119, n119⟩, -, X119, ⟨Lc119, hQ119, l119, y119, z119⟩, st119⟩ := X117.privateBack hx (y := (⟨"com/example/keyslate/keyslate/session/TlvReader", "lengthByte", "(II)I"⟩ : MethodName)) hown (mvT hZ (w29 hw)) (mvT hZ (w30 hw)) (own_privSel (y := (⟨"com/example/keyslate/keyslate/session/TlvReader", "lengthByte", "(II)I"⟩ : MethodName)) (mvT hZ (w2 hw)) (Cond.privateMethod_at (mvP hZ (w31 hw) (args := #[]))) (mvT hZ (w30 hw)) (by decide)) (Cond.privateMethod_at (mvP hZ (w31 hw) (args := #[]))) (mvT hZ (w32 hw)) (by decide) (backOf (W := 0) (rm_TlvReader_lengthByte l Z a0 hw [] h n0 z a1 a2 x118 v1 f_a1_offset bs_a2 E_a1 F_a1_data F_a1_offset g_a1 A_a2 g_a2 ne_a1_a2 r119 hr119) hZ (w32 hw) (w3 hw) (by decide) (by decide)) (g := (mkF m 47 #[.val (.ref a1), .val (.int v1), .val (.int x116), .unset, .unset] [(.int v1), (.int x118), (.ref a1)])) rfl (by rw [hml]; rfl) (Steps.refl _) (a := a1) (by rw [e117]; exact q119) q119' (argsL := [(.int x118), (.int v1)]) (rest := []) (lenOf pd_3 rfl) rfl (by show 2 * 0 + _ ≤ _; exact Nat.le_of_eq rfl) (hb hby dTlvReader_read_47) (fun _ _ => ⟨rfl, e117, (by decide : 0 + 0 ≤ _), (by decide : 0 + 0 ≤ _)⟩)
    dsimp only [Pt.U, Pt.locs, Pt.cells, Pt.slots] at X119 l119 y119 z119 st119 hQ119
    subst l119 y119 z119
    obtain ⟨rfl, N119q, e119⟩ := hQ119
    have N119 := Fr.app N114 N119q
    refine own_Goes.tr st119 ?_
    show own_Goes _ _ _ _ _ _ _ (T119.setTop (mkF m 50 #[.val (.ref a1), .val (.int v1), .val (.int x116), .unset, .unset] [(.int r119)]))
    refine own_Goes.via (B := T119.setTop (mkF m 55 #[.val (.ref a1), .val (.int v1), .val (.int x116), .val (.int r119), .unset] [(.int (129 : Int32)), (.int r119)])) (fun t k => ?_) ?_
    · show Steps p.tables e below (T119.setTop (mkF m 50 #[.val (.ref a1), .val (.int v1), .val (.int x116), .unset, .unset] [(.int r119)])) t
      refine XS.istoreN X119.here hx rfl (hb hby dTlvReader_read_50) rfl (l' := #[.val (.ref a1), .val (.int v1), .val (.int x116), .val (.int r119), .unset]) rfl ?_
      show Steps p.tables e below (T119.setTop (mkF m 51 #[.val (.ref a1), .val (.int v1), .val (.int x116), .val (.int r119), .unset] [])) t
      refine XS.iloadN X119.here hx rfl (hb hby dTlvReader_read_51) rfl ?_
      show Steps p.tables e below (T119.setTop (mkF m 52 #[.val (.ref a1), .val (.int v1), .val (.int x116), .val (.int r119), .unset] [(.int r119)])) t
      refine XS.sipush X119.here hx rfl (hb hby dTlvReader_read_52) ?_
      exact k
    by_cases hc55 : r119 = (129 : Int32)
    · rw [if_pos hc55] at hF
      refine own_Goes.via (B := T119.setTop (mkF m 61 #[.val (.ref a1), .val (.int v1), .val (.int x116), .val (.int r119), .unset] [(.int v1), (.int x116), (.ref a1)])) (fun t k => ?_) ?_
      · show Steps p.tables e below (T119.setTop (mkF m 55 #[.val (.ref a1), .val (.int v1), .val (.int x116), .val (.int r119), .unset] [(.int (129 : Int32)), (.int r119)])) t
        refine XS.icmpNo X119.here hx rfl (hb hby dTlvReader_read_55) rfl (teq hc55).2 ?_
        show Steps p.tables e below (T119.setTop (mkF m 58 #[.val (.ref a1), .val (.int v1), .val (.int x116), .val (.int r119), .unset] [])) t
        refine XS.aloadN X119.here hx rfl (hb hby dTlvReader_read_58) rfl rfl ?_
        show Steps p.tables e below (T119.setTop (mkF m 59 #[.val (.ref a1), .val (.int v1), .val (.int x116), .val (.int r119), .unset] [(.ref a1)])) t
        refine XS.iloadN X119.here hx rfl (hb hby dTlvReader_read_59) rfl ?_
        show Steps p.tables e below (T119.setTop (mkF m 60 #[.val (.ref a1), .val (.int v1), .val (.int x116), .val (.int r119), .unset] [(.int x116), (.ref a1)])) t
        refine XS.iloadN X119.here hx rfl (hb hby dTlvReader_read_60) rfl ?_
        exact k
      obtain ⟨r120, hr120, hF⟩ := own_bd_e hF
      obtain ⟨cq120, q120, q120'⟩ := E_a1.cell
      obtain ⟨_, _, ⟨T120, L120, k120, n120⟩, -, X120, ⟨Lc120, hQ120, l120, y120, z120⟩, st120⟩ := X119.privateBack hx (y := (⟨"com/example/keyslate/keyslate/session/TlvReader", "lengthByte", "(II)I"⟩ : MethodName)) hown (mvT hZ (w29 hw)) (mvT hZ (w30 hw)) (own_privSel (y := (⟨"com/example/keyslate/keyslate/session/TlvReader", "lengthByte", "(II)I"⟩ : MethodName)) (mvT hZ (w2 hw)) (Cond.privateMethod_at (mvP hZ (w31 hw) (args := #[]))) (mvT hZ (w30 hw)) (by decide)) (Cond.privateMethod_at (mvP hZ (w31 hw) (args := #[]))) (mvT hZ (w32 hw)) (by decide) (backOf (W := 0) (rm_TlvReader_lengthByte l Z a0 hw [] h n0 z a1 a2 x116 v1 f_a1_offset bs_a2 E_a1 F_a1_data F_a1_offset g_a1 A_a2 g_a2 ne_a1_a2 r120 hr120) hZ (w32 hw) (w3 hw) (by decide) (by decide)) (g := (mkF m 61 #[.val (.ref a1), .val (.int v1), .val (.int x116), .val (.int r119), .unset] [(.int v1), (.int x116), (.ref a1)])) rfl (by rw [hml]; rfl) (Steps.refl _) (a := a1) (by rw [e119]; exact q120) q120' (argsL := [(.int x116), (.int v1)]) (rest := []) (lenOf pd_3 rfl) rfl (by show 2 * 0 + _ ≤ _; exact Nat.le_of_eq rfl) (hb hby dTlvReader_read_61) (fun _ _ => ⟨rfl, e119, (by decide : 0 + 0 ≤ _), (by decide : 0 + 0 ≤ _)⟩)
      dsimp only [Pt.U, Pt.locs, Pt.cells, Pt.slots] at X120 l120 y120 z120 st120 hQ120
      subst l120 y120 z120
      obtain ⟨rfl, N120q, e120⟩ := hQ120
      have N120 := Fr.app N119 N120q
      refine own_Goes.tr st120 ?_
      show own_Goes _ _ _ _ _ _ _ (T120.setTop (mkF m 64 #[.val (.ref a1), .val (.int v1), .val (.int x116), .val (.int r119), .unset] [(.int r120)]))
      refine own_Goes.via (B := T120.setTop (mkF m 68 #[.val (.ref a1), .val (.int v1), .val (.int (x116 + (1 : Int32))), .val (.int r120), .unset] [])) (fun t k => ?_) ?_
      · show Steps p.tables e below (T120.setTop (mkF m 64 #[.val (.ref a1), .val (.int v1), .val (.int x116), .val (.int r119), .unset] [(.int r120)])) t
        refine XS.istoreN X120.here hx rfl (hb hby dTlvReader_read_64) rfl (l' := #[.val (.ref a1), .val (.int v1), .val (.int x116), .val (.int r120), .unset]) rfl ?_
        show Steps p.tables e below (T120.setTop (mkF m 65 #[.val (.ref a1), .val (.int v1), .val (.int x116), .val (.int r120), .unset] [])) t
        refine XS.iinc X120.here hx rfl (hb hby dTlvReader_read_65) rfl (l' := #[.val (.ref a1), .val (.int v1), .val (.int (x116 + (1 : Int32))), .val (.int r120), .unset]) rfl ?_
        exact k
      obtain ⟨x121, hx121, hF⟩ := own_lt_e hF
      rw [← hx121]
      refine own_Goes.via (B := T120.setTop (mkF m 101 #[.val (.ref a1), .val (.int v1), .val (.int x121), .val (.int r120), .unset] [])) (fun t k => ?_) ?_
      · show Steps p.tables e below (T120.setTop (mkF m 68 #[.val (.ref a1), .val (.int v1), .val (.int x121), .val (.int r120), .unset] [])) t
        refine XS.goto X120.here hx rfl (pc0 := 68) (pc' := 101) rfl (hb hby dTlvReader_read_68) (by decide) (by decide) ?_
        exact k
      exact b_TlvReader_read_101 cx a1 a2 X120 e120 N120 K z v1 x121 r120 f_a1_offset bs_a2 (.unset) One.u E_a1 F_a1_data F_a1_offset g_a1 A_a2 g_a2 ne_a1_a2 _ hF
    · rw [if_neg hc55] at hF
      refine own_Goes.via (B := T119.setTop (mkF m 74 #[.val (.ref a1), .val (.int v1), .val (.int x116), .val (.int r119), .unset] [(.int (127 : Int32)), (.int r119)])) (fun t k => ?_) ?_
      · show Steps p.tables e below (T119.setTop (mkF m 55 #[.val (.ref a1), .val (.int v1), .val (.int x116), .val (.int r119), .unset] [(.int (129 : Int32)), (.int r119)])) t
        refine XS.icmpYes X119.here hx rfl (pc0 := 55) (pc' := 71) rfl (hb hby dTlvReader_read_55) rfl (feq hc55).2 (by decide) (by decide) ?_
        show Steps p.tables e below (T119.setTop (mkF m 71 #[.val (.ref a1), .val (.int v1), .val (.int x116), .val (.int r119), .unset] [])) t
        refine XS.iloadN X119.here hx rfl (hb hby dTlvReader_read_71) rfl ?_
        show Steps p.tables e below (T119.setTop (mkF m 72 #[.val (.ref a1), .val (.int v1), .val (.int x116), .val (.int r119), .unset] [(.int r119)])) t
        refine XS.bipush X119.here hx rfl (hb hby dTlvReader_read_72) ?_
        exact k
      by_cases hc74 : (127 : Int32) < r119
      · rw [if_pos hc74] at hF
        refine own_Goes.via (B := T119.setTop (mkF m 77 #[.val (.ref a1), .val (.int v1), .val (.int x116), .val (.int r119), .unset] [])) (fun t k => ?_) ?_
        · show Steps p.tables e below (T119.setTop (mkF m 74 #[.val (.ref a1), .val (.int v1), .val (.int x116), .val (.int r119), .unset] [(.int (127 : Int32)), (.int r119)])) t
          refine XS.icmpNo X119.here hx rfl (hb hby dTlvReader_read_74) rfl (tlt hc74).2.2.2 ?_
          exact k
        cases hF      -- no return at 77
      · rw [if_neg hc74] at hF
        refine own_Goes.via (B := T119.setTop (mkF m 101 #[.val (.ref a1), .val (.int v1), .val (.int x116), .val (.int r119), .unset] [])) (fun t k => ?_) ?_
        · show Steps p.tables e below (T119.setTop (mkF m 74 #[.val (.ref a1), .val (.int v1), .val (.int x116), .val (.int r119), .unset] [(.int (127 : Int32)), (.int r119)])) t
          refine XS.icmpYes X119.here hx rfl (pc0 := 74) (pc' := 101) rfl (hb hby dTlvReader_read_74) rfl (flt hc74).2.2.2 (by decide) (by decide) ?_
          exact k
        exact b_TlvReader_read_101 cx a1 a2 X119 e119 N119 K z v1 x116 r119 f_a1_offset bs_a2 (.unset) One.u E_a1 F_a1_data F_a1_offset g_a1 A_a2 g_a2 ne_a1_a2 _ hF
  · rw [if_neg hc5] at hF
    refine own_Goes.via (B := T114.setTop (mkF m 8 #[.val (.ref a1), .val (.int v1), .unset, .unset, .unset] [])) (fun t k => ?_) ?_
    · show Steps p.tables e below (T114.setTop (mkF m 5 #[.val (.ref a1), .val (.int v1), .unset, .unset, .unset] [(.int v1), (.int r114)])) t
      refine XS.icmpNo X114.here hx rfl (hb hby dTlvReader_read_5) rfl (feq hc5).1 ?_
      exact k
    cases hF      -- no return at 8
theorem ef_TlvReader_read (m : MethodId) (x0 : Addr) (x1 : Int32) : entryFrame m #[(.ref x0), (.int x1)] 5 = mkF m 0 #[.val (.ref x0), .val (.int x1), .unset, .unset, .unset] [] := by first | (simp [entryFrame, mkF, argsToLocals, Value.category]; done) | rfl
set_option maxRecDepth 65536 in
set_option maxHeartbeats 4000000 in
theorem rm_TlvReader_read (l : Launch) (Z : State) (a0 : Array Value) (hw : ∀ d ∈ tables_1, d.before a0 Z = true) (ws : List Jvm.Cond) (hE : Heap) (n0 : Nat) (z : n0 ≤ hE.size) (a1 : Addr) (a2 : Addr) (v1 : Int32) (f_a1_offset : Int32) (bs_a2 : List Int32) (E_a1 : Exa Z hE a1 "com/example/keyslate/keyslate/session/TlvReader") (F_a1_data : Fld Z hE a1 "com/example/keyslate/keyslate/session/TlvReader" "data" "[B" (.ref a2)) (F_a1_offset : Fld Z hE a1 "com/example/keyslate/keyslate/session/TlvReader" "offset" "I" (.int f_a1_offset)) (g_a1 : n0 ≤ a1) (A_a2 : own_Ar Z hE a2 .byte (bs_a2.map Value.int)) (g_a2 : n0 ≤ a2) (ne_a1_a2 : a1 ≠ a2) (r : Int32 × (List Int32)) (hF : (f_TlvReader_read v1 f_a1_offset bs_a2) = some r) :
    MetFree l (⟨"com/example/keyslate/keyslate/session/TlvReader", "read", "(I)[B"⟩ : MethodName) (head1 (Jvm.Cond.code (⟨"com/example/keyslate/keyslate/session/TlvReader", "read", "(I)[B"⟩ : MethodName) prog_12_method_3_code 5 (some (.array .byte)) :: ws) ({ frames := 1, cells := 1, slots := 8, locals := 18 } : Room)) (fun a U => a = #[(.ref a1), (.int v1)] ∧ Z.Warmed39 U.vm ∧ U.heap = hE) (fun _ _ _ _ _ => True) (fun _ U o U' => ∃ v L, o = .returned v ∧ (Q_TlvReader_read Z hE n0 a1 a2 r) v U'.heap L ∧ FrameEnd U o U' L ({ frames := 1, cells := 1, slots := 8, locals := 18 } : Room).cells ({ frames := 1, cells := 1, slots := 8, locals := 18 } : Room).slots) := by
  refine MetFree.of_bodySF (plainFor_of_name pn_com_example_keyslate_keyslate_session_TlvReader) hisR ?_
  intro p e s m args below meth c s₁ Bd hml0 hP hK
  obtain ⟨rfl, hZ, hh⟩ := hP
  have X0 : Stand p l e ({ frames := 1, cells := 1, slots := 8, locals := 18 } : Room) s m #[(.ref a1), (.int v1)] below meth c s₁ [] 0 0 := Stand.of_body Bd
  have e0 : s₁.heap = hE := by rw [← hh, Bd.state]; rfl
  have cx : Cx_TlvReader_read p s m meth c Z a0 := ⟨Bd.exec, hZ, hw, Bd.bytes, hml0, findClass_of_methodNamed Bd.named, Bd.returns, Bd.notSynchronized, (name_of_methodNamed Bd.named Bd.method).1⟩
  show own_Goes p e below s (Q_TlvReader_read Z hE n0 a1 a2 r) ({ frames := 1, cells := 1, slots := 8, locals := 18 } : Room).cells ({ frames := 1, cells := 1, slots := 8, locals := 18 } : Room).slots (s₁.setTop (entryFrame m #[(.ref a1), (.int v1)] 5))
  rw [ef_TlvReader_read]
  exact b_TlvReader_read cx a1 a2 X0 e0 (Fr.nil n0) (Keep.refl _ _) z v1 f_a1_offset bs_a2 E_a1 F_a1_data F_a1_offset g_a1 A_a2 g_a2 ne_a1_a2 _ hF
/-! com/example/keyslate/keyslate/session/TlvReaderNextTagPinLaw.law:(IIII)Z -/
def f_law_80 (v0 : Int32) (v2 : Int32) (v4 : Int32) (v5 : Int32) (bs_b1 : List Int32) : Option (Int32) :=
  own_bd (f_TlvReader_mk (0 : Int32) ([] : List Int32)) fun r191 =>
  own_bd (f_TlvReader_nextTag r191 ([] : List Int32)) fun r192 =>
  if r192 = (-1 : Int32) then
    own_bd (f_TlvReader_mk (0 : Int32) bs_b1) fun r194 =>
    own_bd (f_TlvReader_nextTag r194 bs_b1) fun r195 =>
    own_bd (f_TlvReaderNextTagPinLaw_mod256 v0) fun r196 =>
    if r195 = r196 then
      own_bd (f_TlvReader_nextTag r194 bs_b1) fun r197 =>
      if r197 = r195 then
        own_bd (f_TlvReader_read r195 r194 bs_b1) fun r198 =>
        if (own_sz r198.2) = v4 then
          own_bd (f_TlvReader_nextTag r198.1 bs_b1) fun r199 =>
          if v5 = (0 : Int32) then
            if r199 = (-1 : Int32) then
              some (1 : Int32)
            else
              some (0 : Int32)
          else
            own_bd (f_TlvReaderNextTagPinLaw_mod256 v2) fun r200 =>
            if r199 = r200 then
              some (1 : Int32)
            else
              some (0 : Int32)
        else
          some (0 : Int32)
      else
        some (0 : Int32)
    else
      some (0 : Int32)
  else
    some (0 : Int32)
def f_law_32 (v0 : Int32) (v1 : Int32) (v2 : Int32) (v4 : Int32) (v5 : Int32) (t0 : Int32) (t1 : Int32) : Option (Int32) :=
  own_lt (t1 + t0) fun x209 =>
  own_ck (¬ x209 < 0 ∧ x209.toNatClampNeg ≤ 8) <|
  own_lt (v0.toInt8.toInt32) fun x211 =>
  own_ck (own_inb (List.replicate x209.toNatClampNeg (0 : Int32)) (0 : Int32)) <|
  own_lt (own_wr (List.replicate x209.toNatClampNeg (0 : Int32)) (0 : Int32) (x211.toInt8.toInt32)) fun bs213 =>
  own_lt (v4.toInt8.toInt32) fun x214 =>
  own_ck (own_inb bs213 (1 : Int32)) <|
  own_lt (own_wr bs213 (1 : Int32) (x214.toInt8.toInt32)) fun bs216 =>
  if v4 = (1 : Int32) then
    own_lt (v1.toInt8.toInt32) fun x217 =>
    own_ck (own_inb bs216 (2 : Int32)) <|
    own_lt (own_wr bs216 (2 : Int32) (x217.toInt8.toInt32)) fun bs219 =>
    if v5 = (0 : Int32) then
      (f_law_80 v0 v2 v4 v5 bs219)
    else
      own_lt (v2.toInt8.toInt32) fun x220 =>
      own_lt ((2 : Int32) + v4) fun x221 =>
      own_ck (own_inb bs219 x221) <|
      own_lt (own_wr bs219 x221 (x220.toInt8.toInt32)) fun bs223 =>
      (f_law_80 v0 v2 v4 v5 bs223)
  else
    if v5 = (0 : Int32) then
      (f_law_80 v0 v2 v4 v5 bs216)
    else
      own_lt (v2.toInt8.toInt32) fun x224 =>
      own_lt ((2 : Int32) + v4) fun x225 =>
      own_ck (own_inb bs216 x225) <|
      own_lt (own_wr bs216 x225 (x224.toInt8.toInt32)) fun bs227 =>
      (f_law_80 v0 v2 v4 v5 bs227)
def f_law (v0 : Int32) (v1 : Int32) (v2 : Int32) (v3 : Int32) : Option (Int32) :=
  own_lt (v3 &&& (1 : Int32)) fun x228 =>
  if (v3 &&& (2 : Int32)) = (0 : Int32) then
    (f_law_32 v0 v1 v2 x228 (0 : Int32) (0 : Int32) ((2 : Int32) + x228))
  else
    (f_law_32 v0 v1 v2 x228 (1 : Int32) (1 : Int32) ((2 : Int32) + x228))
def Q_law (Z : State) (hE : Heap) (n0 : Nat)  (r : Int32) (v : Option Value) (h : Heap) (L : List Loc) : Prop := v = some (.int r) ∧ Fr n0 L ∧ Keep hE h []
def Cx_law (p : Program) (s : State) (m : MethodId) (meth : Method) (c : Code) (Z : State) (a0 : Array Value) : Prop := p.tables.exec = Jvm.exec ∧ Z.Warmed39 s.vm ∧ (∀ d ∈ tables_1, d.before a0 Z = true) ∧ c.code = code ∧ c.maxLocals = 14 ∧ s.vm.findClass "com/example/keyslate/keyslate/session/TlvReaderNextTagPinLaw" = some m.cls ∧ meth.sig.returnType = some .boolean ∧ meth.locks = false ∧ meth.name = "law"
set_option maxRecDepth 65536 in
set_option maxHeartbeats 4000000 in
theorem b_law_80 {p : Program} {l : Launch} {e : Env} {s : State} {m : MethodId} {args : Array Value} {below : List Frame} {meth : Method} {c : Code} {Z : State} {a0 : Array Value} {n0 : Nat} {hE : Heap} (cx : Cx_law p s m meth c Z a0) :
    ∀ {T : State} {locs : List Loc} {h : Heap} (X : Stand p l e room_1 s m args below meth c T locs 1 8) (eT : T.heap = h) (N : Fr n0 locs) (K : Keep hE h []) (z : n0 ≤ h.size) (b1 : Addr) (v0 : Int32) (v2 : Int32) (v4 : Int32) (v5 : Int32) (bs_b1 : List Int32) (d1 : Slot) (d3 : Slot) (d6 : Slot) (d8 : Slot) (d9 : Slot) (d10 : Slot) (d11 : Slot) (d12 : Slot) (d13 : Slot) (o_d1 : One d1) (o_d3 : One d3) (o_d6 : One d6) (o_d8 : One d8) (o_d9 : One d9) (o_d10 : One d10) (o_d11 : One d11) (o_d12 : One d12) (o_d13 : One d13) (A_b1 : own_Ar Z h b1 .byte (bs_b1.map Value.int)) (g_b1 : n0 ≤ b1) (nE_b1 : hE.size ≤ b1) (r : Int32), f_law_80 v0 v2 v4 v5 bs_b1 = some r → own_Goes p e below s (Q_law Z hE n0 r) 5 20 (T.setTop (mkF m 80 #[.val (.int v0), d1, .val (.int v2), d3, .val (.int v4), .val (.int v5), d6, .val (.ref b1), d8, d9, d10, d11, d12, d13] [])) := by
  have cx' := cx
  obtain ⟨hx, hZ, hw, hby, hml, hown, hret, hlk, hnm⟩ := cx'
  intro T locs h X eT N K z b1 v0 v2 v4 v5 bs_b1 d1 d3 d6 d8 d9 d10 d11 d12 d13 o_d1 o_d3 o_d6 o_d8 o_d9 o_d10 o_d11 o_d12 o_d13 A_b1 g_b1 nE_b1 r hF
  unfold f_law_80 at hF
  obtain ⟨T189, h189, X189, e189, E189, A189, D189, -, st189⟩ := newO X hx hZ hown (w1 hw) (w2 hw) (w3 hw) eT (g := (mkF m 80 #[.val (.int v0), d1, .val (.int v2), d3, .val (.int v4), .val (.int v5), d6, .val (.ref b1), d8, d9, d10, d11, d12, d13] [])) rfl (hb hby at_80) (by decide) (by decide)
  obtain ⟨c189, q189⟩ : ∃ z, z = h.size := ⟨_, rfl⟩
  rw [← q189] at A189 D189 st189
  have F189_c189_data : Fld Z h189 c189 "com/example/keyslate/keyslate/session/TlvReader" "data" "[B" .null := D189 (Or.inr (w11 hw)) (ty := (.array .byte)) (by decide)
  have F189_c189_offset : Fld Z h189 c189 "com/example/keyslate/keyslate/session/TlvReader" "offset" "I" (.int (0 : Int32)) := D189 (Or.inl (w18 hw)) (ty := .int) (by decide)
  have g189_c189 : n0 ≤ c189 := Nat.le_trans z (Nat.le_of_eq q189.symm)
  have nE189_c189 : hE.size ≤ c189 := Nat.le_trans K.1 (Nat.le_of_eq q189.symm)
  have ne_b1_c189 : b1 ≠ c189 := Nat.ne_of_lt (Nat.lt_of_lt_of_le A_b1.lt (Nat.le_of_eq q189.symm))
  have A189_b1 := A_b1.ext E189
  have z189 := Nat.le_trans z E189.1
  have K189_ := K.ext E189
  refine own_Goes.via st189 ?_
  show own_Goes _ _ _ _ _ _ _ (T189.setTop (mkF m 83 #[.val (.int v0), d1, .val (.int v2), d3, .val (.int v4), .val (.int v5), d6, .val (.ref b1), d8, d9, d10, d11, d12, d13] [(.ref c189)]))
  refine own_Goes.via (B := T189.setTop (mkF m 85 #[.val (.int v0), d1, .val (.int v2), d3, .val (.int v4), .val (.int v5), d6, .val (.ref b1), d8, d9, d10, d11, d12, d13] [(.int (0 : Int32)), (.ref c189), (.ref c189)])) (fun t k => ?_) ?_
  · show Steps p.tables e below (T189.setTop (mkF m 83 #[.val (.int v0), d1, .val (.int v2), d3, .val (.int v4), .val (.int v5), d6, .val (.ref b1), d8, d9, d10, d11, d12, d13] [(.ref c189)])) t
    refine XS.dup X189.here hx rfl (hb hby at_83) rfl rfl ?_
    show Steps p.tables e below (T189.setTop (mkF m 84 #[.val (.int v0), d1, .val (.int v2), d3, .val (.int v4), .val (.int v5), d6, .val (.ref b1), d8, d9, d10, d11, d12, d13] [(.ref c189), (.ref c189)])) t
    refine XS.iconst X189.here hx rfl (hb hby at_84) ?_
    exact k
  obtain ⟨T190, h190, k190, X190, e190, E190, A190, st190⟩ := newP X189 hx hZ (aty := .byte) (w0 hw) e189 (g := (mkF m 85 #[.val (.int v0), d1, .val (.int v2), d3, .val (.int v4), .val (.int v5), d6, .val (.ref b1), d8, d9, d10, d11, d12, d13] [(.int (0 : Int32)), (.ref c189), (.ref c189)])) rfl (hb hby at_85) rfl (by decide) (cap := 0) (by decide) (by decide) (by decide) (by decide)
  obtain ⟨c190, q190⟩ : ∃ z, z = h189.size := ⟨_, rfl⟩
  rw [← q190] at A190 st190
  have A190_c190 : own_Ar Z h190 c190 .byte (([] : List Int32).map Value.int) := own_newI A190 (by decide) rfl (kk := 0) (by decide)
  have g190_c190 : n0 ≤ c190 := Nat.le_trans z189 (Nat.le_of_eq q190.symm)
  have nE190_c190 : hE.size ≤ c190 := Nat.le_trans K189_.1 (Nat.le_of_eq q190.symm)
  have ne_b1_c190 : b1 ≠ c190 := Nat.ne_of_lt (Nat.lt_of_lt_of_le A189_b1.lt (Nat.le_of_eq q190.symm))
  have ne_c189_c190 : c189 ≠ c190 := Nat.ne_of_lt (Nat.lt_of_lt_of_le A189.lt (Nat.le_of_eq q190.symm))
  have A190_b1 := A189_b1.ext E190
  have F190_c189_data := F189_c189_data.ext E190
  have F190_c189_offset := F189_c189_offset.ext E190
  have E190_c189 := A189.ext E190
  have z190 := Nat.le_trans z189 E190.1
  have K190_ := K189_.ext E190
  refine own_Goes.via st190 ?_
  show own_Goes _ _ _ _ _ _ _ (T190.setTop (mkF m 87 #[.val (.int v0), d1, .val (.int v2), d3, .val (.int v4), .val (.int v5), d6, .val (.ref b1), d8, d9, d10, d11, d12, d13] [(.ref c190), (.ref c189), (.ref c189)]))
  obtain ⟨r191, hr191, hF⟩ := own_bd_e hF
  obtain ⟨_, _, ⟨T191, L191, k191, n191⟩, -, X191, ⟨Lc191, hQ191, l191, y191, z191⟩, st191⟩ := X190.specialBack hx (y := (⟨"com/example/keyslate/keyslate/session/TlvReader", "<init>", "([B)V"⟩ : MethodName)) rfl hown (mvT hZ (w4 hw)) (mvT hZ (w5 hw)) (mvT hZ (w6 hw)) (by decide) (backOf (W := 1) (rm_TlvReader_mk l Z a0 hw [] h190 n0 z190 c189 c190 (0 : Int32) ([] : List Int32) E190_c189 F190_c189_data F190_c189_offset g189_c189 A190_c190 g190_c190 ne_c189_c190 r191 hr191) hZ (w6 hw) (w3 hw) (by decide) (by decide)) (g := (mkF m 87 #[.val (.int v0), d1, .val (.int v2), d3, .val (.int v4), .val (.int v5), d6, .val (.ref b1), d8, d9, d10, d11, d12, d13] [(.ref c190), (.ref c189), (.ref c189)])) rfl (by rw [hml]; rfl) (Steps.refl _) (a := c189) (argsL := [(.ref c190)]) (rest := [(.ref c189)]) (lenOf pd_0 rfl) rfl (by show 2 * 0 + _ ≤ _; exact Nat.le_of_eq rfl) (hb hby at_87) (fun _ _ => ⟨rfl, e190, (by decide : 3 + 0 ≤ _), (by decide : 10 + 0 ≤ _)⟩)
  dsimp only [Pt.U, Pt.locs, Pt.cells, Pt.slots] at X191 l191 y191 z191 st191 hQ191
  subst l191 y191 z191
  obtain ⟨rfl, N191q, K191, E191_c189, F191_c189_data, F191_c189_offset⟩ := hQ191
  have N191 := Fr.app N N191q
  have A191_b1 := A190_b1.keep K191 (ninS ne_b1_c189 nin0)
  have A191_c190 := A190_c190.keep K191 (ninS (Ne.symm ne_c189_c190) nin0)
  have K191_ := K190_.trans K191 (allS (Or.inr nE189_c189) all0)
  have z191_ := Nat.le_trans z190 K191.1
  refine own_Goes.tr st191 ?_
  show own_Goes _ _ _ _ _ _ _ (T191.setTop (mkF m 90 #[.val (.int v0), d1, .val (.int v2), d3, .val (.int v4), .val (.int v5), d6, .val (.ref b1), d8, d9, d10, d11, d12, d13] [(.ref c189)]))
  refine own_Goes.via (B := T191.setTop (mkF m 94 #[.val (.int v0), d1, .val (.int v2), d3, .val (.int v4), .val (.int v5), d6, .val (.ref b1), .val (.ref c189), d9, d10, d11, d12, d13] [(.ref c189)])) (fun t k => ?_) ?_
  · show Steps p.tables e below (T191.setTop (mkF m 90 #[.val (.int v0), d1, .val (.int v2), d3, .val (.int v4), .val (.int v5), d6, .val (.ref b1), d8, d9, d10, d11, d12, d13] [(.ref c189)])) t
    refine XS.astoreS X191.here hx rfl (hb hby at_90) rfl rfl rfl rfl o_d8 ?_
    show Steps p.tables e below (T191.setTop (mkF m 92 #[.val (.int v0), d1, .val (.int v2), d3, .val (.int v4), .val (.int v5), d6, .val (.ref b1), .val (.ref c189), d9, d10, d11, d12, d13] [])) t
    refine XS.aload X191.here hx rfl (hb hby at_92) rfl rfl ?_
    exact k
  obtain ⟨r192, hr192, hF⟩ := own_bd_e hF
  obtain ⟨cq192, kq192, q192a, q192b, q192c⟩ := isOf hZ rfl E191_c189
  obtain ⟨_, _, ⟨T192, L192, k192, n192⟩, -, X192, ⟨Lc192, hQ192, l192, y192, z192⟩, st192⟩ := X191.virtualBack hx (y := (⟨"com/example/keyslate/keyslate/session/TlvReader", "nextTag", "()I"⟩ : MethodName)) (z := (⟨"com/example/keyslate/keyslate/session/TlvReader", "nextTag", "()I"⟩ : MethodName)) hown (mvT hZ (w12 hw)) (mvT hZ (w13 hw)) (notFace_of_selects (args := #[]) (mvT hZ (w15 hw))) (mvT hZ (w15 hw)) (mvT hZ (w14 hw)) (by decide) (backOf (W := 0) (rm_TlvReader_nextTag l Z a0 hw [] T191.heap n0 z191_ c189 c190 r191 ([] : List Int32) E191_c189 F191_c189_data F191_c189_offset g189_c189 A191_c190 g190_c190 ne_c189_c190 r192 hr192) hZ (w16 hw) (w3 hw) (by decide) (by decide)) q192a q192c (g := (mkF m 94 #[.val (.int v0), d1, .val (.int v2), d3, .val (.int v4), .val (.int v5), d6, .val (.ref b1), .val (.ref c189), d9, d10, d11, d12, d13] [(.ref c189)])) rfl (by rw [hml]; rfl) (Steps.refl _) (argsL := []) (rest := []) (lenOf pd_1 rfl) rfl (by show 2 * 0 + _ ≤ _; exact Nat.le_of_eq rfl) (hb hby at_94) (fun _ _ => ⟨rfl, rfl, (by decide : 3 + 0 ≤ _), (by decide : 10 + 0 ≤ _)⟩)
  dsimp only [Pt.U, Pt.locs, Pt.cells, Pt.slots] at X192 l192 y192 z192 st192 hQ192
  subst l192 y192 z192
  obtain ⟨rfl, N192q, e192⟩ := hQ192
  have N192 := Fr.app N191 N192q
  refine own_Goes.tr st192 ?_
  show own_Goes _ _ _ _ _ _ _ (T192.setTop (mkF m 97 #[.val (.int v0), d1, .val (.int v2), d3, .val (.int v4), .val (.int v5), d6, .val (.ref b1), .val (.ref c189), d9, d10, d11, d12, d13] [(.int r192)]))
  refine own_Goes.via (B := T192.setTop (mkF m 98 #[.val (.int v0), d1, .val (.int v2), d3, .val (.int v4), .val (.int v5), d6, .val (.ref b1), .val (.ref c189), d9, d10, d11, d12, d13] [(.int (-1 : Int32)), (.int r192)])) (fun t k => ?_) ?_
  · show Steps p.tables e below (T192.setTop (mkF m 97 #[.val (.int v0), d1, .val (.int v2), d3, .val (.int v4), .val (.int v5), d6, .val (.ref b1), .val (.ref c189), d9, d10, d11, d12, d13] [(.int r192)])) t
    refine XS.iconst X192.here hx rfl (hb hby at_97) ?_
    exact k
  by_cases hc98 : r192 = (-1 : Int32)
  · rw [if_pos hc98] at hF
    refine own_Goes.via (B := T192.setTop (mkF m 103 #[.val (.int v0), d1, .val (.int v2), d3, .val (.int v4), .val (.int v5), d6, .val (.ref b1), .val (.ref c189), d9, d10, d11, d12, d13] [])) (fun t k => ?_) ?_
    · show Steps p.tables e below (T192.setTop (mkF m 98 #[.val (.int v0), d1, .val (.int v2), d3, .val (.int v4), .val (.int v5), d6, .val (.ref b1), .val (.ref c189), d9, d10, d11, d12, d13] [(.int (-1 : Int32)), (.int r192)])) t
      refine XS.icmpYes X192.here hx rfl (pc0 := 98) (pc' := 103) rfl (hb hby at_98) rfl (teq hc98).1 (by decide) (by decide) ?_
      exact k
    obtain ⟨T193, h193, X193, e193, E193, A193, D193, -, st193⟩ := newO X192 hx hZ hown (w1 hw) (w2 hw) (w3 hw) e192 (g := (mkF m 103 #[.val (.int v0), d1, .val (.int v2), d3, .val (.int v4), .val (.int v5), d6, .val (.ref b1), .val (.ref c189), d9, d10, d11, d12, d13] [])) rfl (hb hby at_103) (by decide) (by decide)
    obtain ⟨c193, q193⟩ : ∃ z, z = T191.heap.size := ⟨_, rfl⟩
    rw [← q193] at A193 D193 st193
    have F193_c193_data : Fld Z h193 c193 "com/example/keyslate/keyslate/session/TlvReader" "data" "[B" .null := D193 (Or.inr (w11 hw)) (ty := (.array .byte)) (by decide)
    have F193_c193_offset : Fld Z h193 c193 "com/example/keyslate/keyslate/session/TlvReader" "offset" "I" (.int (0 : Int32)) := D193 (Or.inl (w18 hw)) (ty := .int) (by decide)
    have g193_c193 : n0 ≤ c193 := Nat.le_trans z191_ (Nat.le_of_eq q193.symm)
    have nE193_c193 : hE.size ≤ c193 := Nat.le_trans K191_.1 (Nat.le_of_eq q193.symm)
    have ne_b1_c193 : b1 ≠ c193 := Nat.ne_of_lt (Nat.lt_of_lt_of_le A191_b1.lt (Nat.le_of_eq q193.symm))
    have ne_c189_c193 : c189 ≠ c193 := Nat.ne_of_lt (Nat.lt_of_lt_of_le E191_c189.lt (Nat.le_of_eq q193.symm))
    have ne_c190_c193 : c190 ≠ c193 := Nat.ne_of_lt (Nat.lt_of_lt_of_le A191_c190.lt (Nat.le_of_eq q193.symm))
    have A193_b1 := A191_b1.ext E193
    have F193_c189_data := F191_c189_data.ext E193
    have F193_c189_offset := F191_c189_offset.ext E193
    have E193_c189 := E191_c189.ext E193
    have A193_c190 := A191_c190.ext E193
    have z193 := Nat.le_trans z191_ E193.1
    have K193_ := K191_.ext E193
    refine own_Goes.via st193 ?_
    show own_Goes _ _ _ _ _ _ _ (T193.setTop (mkF m 106 #[.val (.int v0), d1, .val (.int v2), d3, .val (.int v4), .val (.int v5), d6, .val (.ref b1), .val (.ref c189), d9, d10, d11, d12, d13] [(.ref c193)]))
    refine own_Goes.via (B := T193.setTop (mkF m 109 #[.val (.int v0), d1, .val (.int v2), d3, .val (.int v4), .val (.int v5), d6, .val (.ref b1), .val (.ref c189), d9, d10, d11, d12, d13] [(.ref b1), (.ref c193), (.ref c193)])) (fun t k => ?_) ?_
    · show Steps p.tables e below (T193.setTop (mkF m 106 #[.val (.int v0), d1, .val (.int v2), d3, .val (.int v4), .val (.int v5), d6, .val (.ref b1), .val (.ref c189), d9, d10, d11, d12, d13] [(.ref c193)])) t
      refine XS.dup X193.here hx rfl (hb hby at_106) rfl rfl ?_
      show Steps p.tables e below (T193.setTop (mkF m 107 #[.val (.int v0), d1, .val (.int v2), d3, .val (.int v4), .val (.int v5), d6, .val (.ref b1), .val (.ref c189), d9, d10, d11, d12, d13] [(.ref c193), (.ref c193)])) t
      refine XS.aload X193.here hx rfl (hb hby at_107) rfl rfl ?_
      exact k
    obtain ⟨r194, hr194, hF⟩ := own_bd_e hF
    obtain ⟨_, _, ⟨T194, L194, k194, n194⟩, -, X194, ⟨Lc194, hQ194, l194, y194, z194⟩, st194⟩ := X193.specialBack hx (y := (⟨"com/example/keyslate/keyslate/session/TlvReader", "<init>", "([B)V"⟩ : MethodName)) rfl hown (mvT hZ (w4 hw)) (mvT hZ (w5 hw)) (mvT hZ (w6 hw)) (by decide) (backOf (W := 1) (rm_TlvReader_mk l Z a0 hw [] h193 n0 z193 c193 b1 (0 : Int32) bs_b1 A193 F193_c193_data F193_c193_offset g193_c193 A193_b1 g_b1 (Ne.symm ne_b1_c193) r194 hr194) hZ (w6 hw) (w3 hw) (by decide) (by decide)) (g := (mkF m 109 #[.val (.int v0), d1, .val (.int v2), d3, .val (.int v4), .val (.int v5), d6, .val (.ref b1), .val (.ref c189), d9, d10, d11, d12, d13] [(.ref b1), (.ref c193), (.ref c193)])) rfl (by rw [hml]; rfl) (Steps.refl _) (a := c193) (argsL := [(.ref b1)]) (rest := [(.ref c193)]) (lenOf pd_0 rfl) rfl (by show 2 * 0 + _ ≤ _; exact Nat.le_of_eq rfl) (hb hby at_109) (fun _ _ => ⟨rfl, e193, (by decide : 4 + 0 ≤ _), (by decide : 12 + 0 ≤ _)⟩)
    dsimp only [Pt.U, Pt.locs, Pt.cells, Pt.slots] at X194 l194 y194 z194 st194 hQ194
    subst l194 y194 z194
    obtain ⟨rfl, N194q, K194, E194_c193, F194_c193_data, F194_c193_offset⟩ := hQ194
    have N194 := Fr.app N192 N194q
    have A194_b1 := A193_b1.keep K194 (ninS ne_b1_c193 nin0)
    have F194_c189_data := F193_c189_data.keep K194 (ninS ne_c189_c193 nin0)
    have F194_c189_offset := F193_c189_offset.keep K194 (ninS ne_c189_c193 nin0)
    have E194_c189 := E193_c189.keep K194
    have A194_c190 := A193_c190.keep K194 (ninS ne_c190_c193 nin0)
    have K194_ := K193_.trans K194 (allS (Or.inr nE193_c193) all0)
    have z194_ := Nat.le_trans z193 K194.1
    refine own_Goes.tr st194 ?_
    show own_Goes _ _ _ _ _ _ _ (T194.setTop (mkF m 112 #[.val (.int v0), d1, .val (.int v2), d3, .val (.int v4), .val (.int v5), d6, .val (.ref b1), .val (.ref c189), d9, d10, d11, d12, d13] [(.ref c193)]))
    refine own_Goes.via (B := T194.setTop (mkF m 116 #[.val (.int v0), d1, .val (.int v2), d3, .val (.int v4), .val (.int v5), d6, .val (.ref b1), .val (.ref c189), .val (.ref c193), d10, d11, d12, d13] [(.ref c193)])) (fun t k => ?_) ?_
    · show Steps p.tables e below (T194.setTop (mkF m 112 #[.val (.int v0), d1, .val (.int v2), d3, .val (.int v4), .val (.int v5), d6, .val (.ref b1), .val (.ref c189), d9, d10, d11, d12, d13] [(.ref c193)])) t
      refine XS.astoreS X194.here hx rfl (hb hby at_112) rfl rfl rfl rfl o_d9 ?_
      show Steps p.tables e below (T194.setTop (mkF m 114 #[.val (.int v0), d1, .val (.int v2), d3, .val (.int v4), .val (.int v5), d6, .val (.ref b1), .val (.ref c189), .val (.ref c193), d10, d11, d12, d13] [])) t
      refine XS.aload X194.here hx rfl (hb hby at_114) rfl rfl ?_
      exact k
    obtain ⟨r195, hr195, hF⟩ := own_bd_e hF
    obtain ⟨cq195, kq195, q195a, q195b, q195c⟩ := isOf hZ rfl E194_c193
    obtain ⟨_, _, ⟨T195, L195, k195, n195⟩, -, X195, ⟨Lc195, hQ195, l195, y195, z195⟩, st195⟩ := X194.virtualBack hx (y := (⟨"com/example/keyslate/keyslate/session/TlvReader", "nextTag", "()I"⟩ : MethodName)) (z := (⟨"com/example/keyslate/keyslate/session/TlvReader", "nextTag", "()I"⟩ : MethodName)) hown (mvT hZ (w12 hw)) (mvT hZ (w13 hw)) (notFace_of_selects (args := #[]) (mvT hZ (w15 hw))) (mvT hZ (w15 hw)) (mvT hZ (w14 hw)) (by decide) (backOf (W := 0) (rm_TlvReader_nextTag l Z a0 hw [] T194.heap n0 z194_ c193 b1 r194 bs_b1 E194_c193 F194_c193_data F194_c193_offset g193_c193 A194_b1 g_b1 (Ne.symm ne_b1_c193) r195 hr195) hZ (w16 hw) (w3 hw) (by decide) (by decide)) q195a q195c (g := (mkF m 116 #[.val (.int v0), d1, .val (.int v2), d3, .val (.int v4), .val (.int v5), d6, .val (.ref b1), .val (.ref c189), .val (.ref c193), d10, d11, d12, d13] [(.ref c193)])) rfl (by rw [hml]; rfl) (Steps.refl _) (argsL := []) (rest := []) (lenOf pd_1 rfl) rfl (by show 2 * 0 + _ ≤ _; exact Nat.le_of_eq rfl) (hb hby at_116) (fun _ _ => ⟨rfl, rfl, (by decide : 4 + 0 ≤ _), (by decide : 12 + 0 ≤ _)⟩)
    dsimp only [Pt.U, Pt.locs, Pt.cells, Pt.slots] at X195 l195 y195 z195 st195 hQ195
    subst l195 y195 z195
    obtain ⟨rfl, N195q, e195⟩ := hQ195
    have N195 := Fr.app N194 N195q
    refine own_Goes.tr st195 ?_
    show own_Goes _ _ _ _ _ _ _ (T195.setTop (mkF m 119 #[.val (.int v0), d1, .val (.int v2), d3, .val (.int v4), .val (.int v5), d6, .val (.ref b1), .val (.ref c189), .val (.ref c193), d10, d11, d12, d13] [(.int r195)]))
    refine own_Goes.via (B := T195.setTop (mkF m 124 #[.val (.int v0), d1, .val (.int v2), d3, .val (.int v4), .val (.int v5), d6, .val (.ref b1), .val (.ref c189), .val (.ref c193), .val (.int r195), d11, d12, d13] [(.int v0), (.int r195)])) (fun t k => ?_) ?_
    · show Steps p.tables e below (T195.setTop (mkF m 119 #[.val (.int v0), d1, .val (.int v2), d3, .val (.int v4), .val (.int v5), d6, .val (.ref b1), .val (.ref c189), .val (.ref c193), d10, d11, d12, d13] [(.int r195)])) t
      refine XS.istoreS X195.here hx rfl (hb hby at_119) rfl rfl o_d10 ?_
      show Steps p.tables e below (T195.setTop (mkF m 121 #[.val (.int v0), d1, .val (.int v2), d3, .val (.int v4), .val (.int v5), d6, .val (.ref b1), .val (.ref c189), .val (.ref c193), .val (.int r195), d11, d12, d13] [])) t
      refine XS.iload X195.here hx rfl (hb hby at_121) rfl ?_
      show Steps p.tables e below (T195.setTop (mkF m 123 #[.val (.int v0), d1, .val (.int v2), d3, .val (.int v4), .val (.int v5), d6, .val (.ref b1), .val (.ref c189), .val (.ref c193), .val (.int r195), d11, d12, d13] [(.int r195)])) t
      refine XS.iloadN X195.here hx rfl (hb hby at_123) rfl ?_
      exact k
    obtain ⟨r196, hr196, hF⟩ := own_bd_e hF
    obtain ⟨_, _, ⟨T196, L196, k196, n196⟩, -, X196, ⟨Lc196, hQ196, l196, y196, z196⟩, st196⟩ := Jvm.LawKit.callS X195 hx (y := (⟨"com/example/keyslate/keyslate/session/TlvReaderNextTagPinLaw", "mod256", "(I)I"⟩ : MethodName)) hown (mvT hZ (w19 hw)) (mvT hZ (w20 hw)) (mvT hZ (w21 hw)) (mvT hZ (w22 hw)) (by decide) (backOf (W := 1) (rm_TlvReaderNextTagPinLaw_mod256 l Z a0 hw [] T194.heap n0 z194_ v0 r196 hr196) hZ (w22 hw) (w21 hw) (by decide) (by decide)) (g := (mkF m 124 #[.val (.int v0), d1, .val (.int v2), d3, .val (.int v4), .val (.int v5), d6, .val (.ref b1), .val (.ref c189), .val (.ref c193), .val (.int r195), d11, d12, d13] [(.int v0), (.int r195)])) rfl (by rw [hml]; rfl) (argsL := [(.int v0)]) (rest := [(.int r195)]) (lenOf pd_2 rfl) rfl (by show 2 * 0 + _ ≤ _; exact Nat.le_of_eq rfl) (hb hby at_124) (fun _ _ => ⟨rfl, e195, (by decide : 4 + 0 ≤ _), (by decide : 12 + 0 ≤ _)⟩)
    dsimp only [Pt.U, Pt.locs, Pt.cells, Pt.slots] at X196 l196 y196 z196 st196 hQ196
    subst l196 y196 z196
    obtain ⟨rfl, N196q, e196⟩ := hQ196
    have N196 := Fr.app N195 N196q
    refine own_Goes.via st196 ?_
    show own_Goes _ _ _ _ _ _ _ (T196.setTop (mkF m 127 #[.val (.int v0), d1, .val (.int v2), d3, .val (.int v4), .val (.int v5), d6, .val (.ref b1), .val (.ref c189), .val (.ref c193), .val (.int r195), d11, d12, d13] [(.int r196), (.int r195)]))
    by_cases hc127 : r195 = r196
    · rw [if_pos hc127] at hF
      refine own_Goes.via (B := T196.setTop (mkF m 134 #[.val (.int v0), d1, .val (.int v2), d3, .val (.int v4), .val (.int v5), d6, .val (.ref b1), .val (.ref c189), .val (.ref c193), .val (.int r195), d11, d12, d13] [(.ref c193)])) (fun t k => ?_) ?_
      · show Steps p.tables e below (T196.setTop (mkF m 127 #[.val (.int v0), d1, .val (.int v2), d3, .val (.int v4), .val (.int v5), d6, .val (.ref b1), .val (.ref c189), .val (.ref c193), .val (.int r195), d11, d12, d13] [(.int r196), (.int r195)])) t
        refine XS.icmpYes X196.here hx rfl (pc0 := 127) (pc' := 132) rfl (hb hby at_127) rfl (teq hc127).1 (by decide) (by decide) ?_
        show Steps p.tables e below (T196.setTop (mkF m 132 #[.val (.int v0), d1, .val (.int v2), d3, .val (.int v4), .val (.int v5), d6, .val (.ref b1), .val (.ref c189), .val (.ref c193), .val (.int r195), d11, d12, d13] [])) t
        refine XS.aload X196.here hx rfl (hb hby at_132) rfl rfl ?_
        exact k
      obtain ⟨r197, hr197, hF⟩ := own_bd_e hF
      obtain ⟨cq197, kq197, q197a, q197b, q197c⟩ := isOf hZ e196 E194_c193
      obtain ⟨_, _, ⟨T197, L197, k197, n197⟩, -, X197, ⟨Lc197, hQ197, l197, y197, z197⟩, st197⟩ := X196.virtualBack hx (y := (⟨"com/example/keyslate/keyslate/session/TlvReader", "nextTag", "()I"⟩ : MethodName)) (z := (⟨"com/example/keyslate/keyslate/session/TlvReader", "nextTag", "()I"⟩ : MethodName)) hown (mvT hZ (w12 hw)) (mvT hZ (w13 hw)) (notFace_of_selects (args := #[]) (mvT hZ (w15 hw))) (mvT hZ (w15 hw)) (mvT hZ (w14 hw)) (by decide) (backOf (W := 0) (rm_TlvReader_nextTag l Z a0 hw [] T194.heap n0 z194_ c193 b1 r194 bs_b1 E194_c193 F194_c193_data F194_c193_offset g193_c193 A194_b1 g_b1 (Ne.symm ne_b1_c193) r197 hr197) hZ (w16 hw) (w3 hw) (by decide) (by decide)) q197a q197c (g := (mkF m 134 #[.val (.int v0), d1, .val (.int v2), d3, .val (.int v4), .val (.int v5), d6, .val (.ref b1), .val (.ref c189), .val (.ref c193), .val (.int r195), d11, d12, d13] [(.ref c193)])) rfl (by rw [hml]; rfl) (Steps.refl _) (argsL := []) (rest := []) (lenOf pd_1 rfl) rfl (by show 2 * 0 + _ ≤ _; exact Nat.le_of_eq rfl) (hb hby at_134) (fun _ _ => ⟨rfl, e196, (by decide : 4 + 0 ≤ _), (by decide : 12 + 0 ≤ _)⟩)
      dsimp only [Pt.U, Pt.locs, Pt.cells, Pt.slots] at X197 l197 y197 z197 st197 hQ197
      subst l197 y197 z197
      obtain ⟨rfl, N197q, e197⟩ := hQ197
      have N197 := Fr.app N196 N197q
      refine own_Goes.tr st197 ?_
      show own_Goes _ _ _ _ _ _ _ (T197.setTop (mkF m 137 #[.val (.int v0), d1, .val (.int v2), d3, .val (.int v4), .val (.int v5), d6, .val (.ref b1), .val (.ref c189), .val (.ref c193), .val (.int r195), d11, d12, d13] [(.int r197)]))
      refine own_Goes.via (B := T197.setTop (mkF m 139 #[.val (.int v0), d1, .val (.int v2), d3, .val (.int v4), .val (.int v5), d6, .val (.ref b1), .val (.ref c189), .val (.ref c193), .val (.int r195), d11, d12, d13] [(.int r195), (.int r197)])) (fun t k => ?_) ?_
      · show Steps p.tables e below (T197.setTop (mkF m 137 #[.val (.int v0), d1, .val (.int v2), d3, .val (.int v4), .val (.int v5), d6, .val (.ref b1), .val (.ref c189), .val (.ref c193), .val (.int r195), d11, d12, d13] [(.int r197)])) t
        refine XS.iload X197.here hx rfl (hb hby at_137) rfl ?_
        exact k
      by_cases hc139 : r197 = r195
      · rw [if_pos hc139] at hF
        refine own_Goes.via (B := T197.setTop (mkF m 148 #[.val (.int v0), d1, .val (.int v2), d3, .val (.int v4), .val (.int v5), d6, .val (.ref b1), .val (.ref c189), .val (.ref c193), .val (.int r195), d11, d12, d13] [(.int r195), (.ref c193)])) (fun t k => ?_) ?_
        · show Steps p.tables e below (T197.setTop (mkF m 139 #[.val (.int v0), d1, .val (.int v2), d3, .val (.int v4), .val (.int v5), d6, .val (.ref b1), .val (.ref c189), .val (.ref c193), .val (.int r195), d11, d12, d13] [(.int r195), (.int r197)])) t
          refine XS.icmpYes X197.here hx rfl (pc0 := 139) (pc' := 144) rfl (hb hby at_139) rfl (teq hc139).1 (by decide) (by decide) ?_
          show Steps p.tables e below (T197.setTop (mkF m 144 #[.val (.int v0), d1, .val (.int v2), d3, .val (.int v4), .val (.int v5), d6, .val (.ref b1), .val (.ref c189), .val (.ref c193), .val (.int r195), d11, d12, d13] [])) t
          refine XS.aload X197.here hx rfl (hb hby at_144) rfl rfl ?_
          show Steps p.tables e below (T197.setTop (mkF m 146 #[.val (.int v0), d1, .val (.int v2), d3, .val (.int v4), .val (.int v5), d6, .val (.ref b1), .val (.ref c189), .val (.ref c193), .val (.int r195), d11, d12, d13] [(.ref c193)])) t
          refine XS.iload X197.here hx rfl (hb hby at_146) rfl ?_
          exact k
        obtain ⟨r198, hr198, hF⟩ := own_bd_e hF
        obtain ⟨cq198, kq198, q198a, q198b, q198c⟩ := isOf hZ e197 E194_c193
        obtain ⟨_, _, ⟨T198, L198, k198, n198⟩, -, X198, ⟨Lc198, hQ198, l198, y198, z198⟩, st198⟩ := X197.virtualBack hx (y := (⟨"com/example/keyslate/keyslate/session/TlvReader", "read", "(I)[B"⟩ : MethodName)) (z := (⟨"com/example/keyslate/keyslate/session/TlvReader", "read", "(I)[B"⟩ : MethodName)) hown (mvT hZ (w23 hw)) (mvT hZ (w24 hw)) (notFace_of_selects (args := #[]) (mvT hZ (w26 hw))) (mvT hZ (w26 hw)) (mvT hZ (w25 hw)) (by decide) (backOf (W := 0) (rm_TlvReader_read l Z a0 hw [] T194.heap n0 z194_ c193 b1 r195 r194 bs_b1 E194_c193 F194_c193_data F194_c193_offset g193_c193 A194_b1 g_b1 (Ne.symm ne_b1_c193) r198 hr198) hZ (w27 hw) (w3 hw) (by decide) (by decide)) q198a q198c (g := (mkF m 148 #[.val (.int v0), d1, .val (.int v2), d3, .val (.int v4), .val (.int v5), d6, .val (.ref b1), .val (.ref c189), .val (.ref c193), .val (.int r195), d11, d12, d13] [(.int r195), (.ref c193)])) rfl (by rw [hml]; rfl) (Steps.refl _) (argsL := [(.int r195)]) (rest := []) (lenOf pd_4 rfl) rfl (by show 2 * 0 + _ ≤ _; exact Nat.le_of_eq rfl) (hb hby at_148) (fun _ _ => ⟨rfl, e197, (by decide : 4 + 1 ≤ _), (by decide : 12 + 8 ≤ _)⟩)
        dsimp only [Pt.U, Pt.locs, Pt.cells, Pt.slots] at X198 l198 y198 z198 st198 hQ198
        subst l198 y198 z198
        obtain ⟨c198_0, rfl, N198q, K198, E198_c193, F198_c193_data, F198_c193_offset, g198_c198_0, s198_c198_0, A198_c198_0⟩ := hQ198
        have N198 := Fr.app N197 N198q
        have ne_b1_c198_0 : b1 ≠ c198_0 := Nat.ne_of_lt (Nat.lt_of_lt_of_le A194_b1.lt s198_c198_0)
        have ne_c189_c198_0 : c189 ≠ c198_0 := Nat.ne_of_lt (Nat.lt_of_lt_of_le E194_c189.lt s198_c198_0)
        have ne_c190_c198_0 : c190 ≠ c198_0 := Nat.ne_of_lt (Nat.lt_of_lt_of_le A194_c190.lt s198_c198_0)
        have ne_c193_c198_0 : c193 ≠ c198_0 := Nat.ne_of_lt (Nat.lt_of_lt_of_le E194_c193.lt s198_c198_0)
        have A198_b1 := A194_b1.keep K198 (ninS ne_b1_c193 nin0)
        have F198_c189_data := F194_c189_data.keep K198 (ninS ne_c189_c193 nin0)
        have F198_c189_offset := F194_c189_offset.keep K198 (ninS ne_c189_c193 nin0)
        have E198_c189 := E194_c189.keep K198
        have A198_c190 := A194_c190.keep K198 (ninS ne_c190_c193 nin0)
        have nE198_c198_0 : hE.size ≤ c198_0 := Nat.le_trans K194_.1 s198_c198_0
        have K198_ := K194_.trans K198 (allS (Or.inr nE193_c193) all0)
        have z198_ := Nat.le_trans z194_ K198.1
        refine own_Goes.tr st198 ?_
        show own_Goes _ _ _ _ _ _ _ (T198.setTop (mkF m 151 #[.val (.int v0), d1, .val (.int v2), d3, .val (.int v4), .val (.int v5), d6, .val (.ref b1), .val (.ref c189), .val (.ref c193), .val (.int r195), d11, d12, d13] [(.ref c198_0)]))
        refine own_Goes.via (B := T198.setTop (mkF m 158 #[.val (.int v0), d1, .val (.int v2), d3, .val (.int v4), .val (.int v5), d6, .val (.ref b1), .val (.ref c189), .val (.ref c193), .val (.int r195), .val (.ref c198_0), d12, d13] [(.int v4), (.int (own_sz r198.2))])) (fun t k => ?_) ?_
        · show Steps p.tables e below (T198.setTop (mkF m 151 #[.val (.int v0), d1, .val (.int v2), d3, .val (.int v4), .val (.int v5), d6, .val (.ref b1), .val (.ref c189), .val (.ref c193), .val (.int r195), d11, d12, d13] [(.ref c198_0)])) t
          refine XS.astoreS X198.here hx rfl (hb hby at_151) rfl rfl rfl rfl o_d11 ?_
          show Steps p.tables e below (T198.setTop (mkF m 153 #[.val (.int v0), d1, .val (.int v2), d3, .val (.int v4), .val (.int v5), d6, .val (.ref b1), .val (.ref c189), .val (.ref c193), .val (.int r195), .val (.ref c198_0), d12, d13] [])) t
          refine XS.aload X198.here hx rfl (hb hby at_153) rfl rfl ?_
          show Steps p.tables e below (T198.setTop (mkF m 155 #[.val (.int v0), d1, .val (.int v2), d3, .val (.int v4), .val (.int v5), d6, .val (.ref b1), .val (.ref c189), .val (.ref c193), .val (.int r195), .val (.ref c198_0), d12, d13] [(.ref c198_0)])) t
          refine own_len X198 hx hZ rfl A198_c198_0 (g := (mkF m 155 #[.val (.int v0), d1, .val (.int v2), d3, .val (.int v4), .val (.int v5), d6, .val (.ref b1), .val (.ref c189), .val (.ref c193), .val (.int r195), .val (.ref c198_0), d12, d13] [(.ref c198_0)])) rfl rfl (hb hby at_155) ?_
          show Steps p.tables e below (T198.setTop (mkF m 156 #[.val (.int v0), d1, .val (.int v2), d3, .val (.int v4), .val (.int v5), d6, .val (.ref b1), .val (.ref c189), .val (.ref c193), .val (.int r195), .val (.ref c198_0), d12, d13] [(.int (own_sz r198.2))])) t
          refine XS.iload X198.here hx rfl (hb hby at_156) rfl ?_
          exact k
        by_cases hc158 : (own_sz r198.2) = v4
        · rw [if_pos hc158] at hF
          refine own_Goes.via (B := T198.setTop (mkF m 165 #[.val (.int v0), d1, .val (.int v2), d3, .val (.int v4), .val (.int v5), d6, .val (.ref b1), .val (.ref c189), .val (.ref c193), .val (.int r195), .val (.ref c198_0), d12, d13] [(.ref c193)])) (fun t k => ?_) ?_
          · show Steps p.tables e below (T198.setTop (mkF m 158 #[.val (.int v0), d1, .val (.int v2), d3, .val (.int v4), .val (.int v5), d6, .val (.ref b1), .val (.ref c189), .val (.ref c193), .val (.int r195), .val (.ref c198_0), d12, d13] [(.int v4), (.int (own_sz r198.2))])) t
            refine XS.icmpYes X198.here hx rfl (pc0 := 158) (pc' := 163) rfl (hb hby at_158) rfl (teq hc158).1 (by decide) (by decide) ?_
            show Steps p.tables e below (T198.setTop (mkF m 163 #[.val (.int v0), d1, .val (.int v2), d3, .val (.int v4), .val (.int v5), d6, .val (.ref b1), .val (.ref c189), .val (.ref c193), .val (.int r195), .val (.ref c198_0), d12, d13] [])) t
            refine XS.aload X198.here hx rfl (hb hby at_163) rfl rfl ?_
            exact k
          obtain ⟨r199, hr199, hF⟩ := own_bd_e hF
          obtain ⟨cq199, kq199, q199a, q199b, q199c⟩ := isOf hZ rfl E198_c193
          obtain ⟨_, _, ⟨T199, L199, k199, n199⟩, -, X199, ⟨Lc199, hQ199, l199, y199, z199⟩, st199⟩ := X198.virtualBack hx (y := (⟨"com/example/keyslate/keyslate/session/TlvReader", "nextTag", "()I"⟩ : MethodName)) (z := (⟨"com/example/keyslate/keyslate/session/TlvReader", "nextTag", "()I"⟩ : MethodName)) hown (mvT hZ (w12 hw)) (mvT hZ (w13 hw)) (notFace_of_selects (args := #[]) (mvT hZ (w15 hw))) (mvT hZ (w15 hw)) (mvT hZ (w14 hw)) (by decide) (backOf (W := 0) (rm_TlvReader_nextTag l Z a0 hw [] T198.heap n0 z198_ c193 b1 r198.1 bs_b1 E198_c193 F198_c193_data F198_c193_offset g193_c193 A198_b1 g_b1 (Ne.symm ne_b1_c193) r199 hr199) hZ (w16 hw) (w3 hw) (by decide) (by decide)) q199a q199c (g := (mkF m 165 #[.val (.int v0), d1, .val (.int v2), d3, .val (.int v4), .val (.int v5), d6, .val (.ref b1), .val (.ref c189), .val (.ref c193), .val (.int r195), .val (.ref c198_0), d12, d13] [(.ref c193)])) rfl (by rw [hml]; rfl) (Steps.refl _) (argsL := []) (rest := []) (lenOf pd_1 rfl) rfl (by show 2 * 0 + _ ≤ _; exact Nat.le_of_eq rfl) (hb hby at_165) (fun _ _ => ⟨rfl, rfl, (by decide : 5 + 0 ≤ _), (by decide : 20 + 0 ≤ _)⟩)
          dsimp only [Pt.U, Pt.locs, Pt.cells, Pt.slots] at X199 l199 y199 z199 st199 hQ199
          subst l199 y199 z199
          obtain ⟨rfl, N199q, e199⟩ := hQ199
          have N199 := Fr.app N198 N199q
          refine own_Goes.tr st199 ?_
          show own_Goes _ _ _ _ _ _ _ (T199.setTop (mkF m 168 #[.val (.int v0), d1, .val (.int v2), d3, .val (.int v4), .val (.int v5), d6, .val (.ref b1), .val (.ref c189), .val (.ref c193), .val (.int r195), .val (.ref c198_0), d12, d13] [(.int r199)]))
          refine own_Goes.via (B := T199.setTop (mkF m 172 #[.val (.int v0), d1, .val (.int v2), d3, .val (.int v4), .val (.int v5), d6, .val (.ref b1), .val (.ref c189), .val (.ref c193), .val (.int r195), .val (.ref c198_0), .val (.int r199), d13] [(.int v5)])) (fun t k => ?_) ?_
          · show Steps p.tables e below (T199.setTop (mkF m 168 #[.val (.int v0), d1, .val (.int v2), d3, .val (.int v4), .val (.int v5), d6, .val (.ref b1), .val (.ref c189), .val (.ref c193), .val (.int r195), .val (.ref c198_0), d12, d13] [(.int r199)])) t
            refine XS.istoreS X199.here hx rfl (hb hby at_168) rfl rfl o_d12 ?_
            show Steps p.tables e below (T199.setTop (mkF m 170 #[.val (.int v0), d1, .val (.int v2), d3, .val (.int v4), .val (.int v5), d6, .val (.ref b1), .val (.ref c189), .val (.ref c193), .val (.int r195), .val (.ref c198_0), .val (.int r199), d13] [])) t
            refine XS.iload X199.here hx rfl (hb hby at_170) rfl ?_
            exact k
          by_cases hc172 : v5 = (0 : Int32)
          · rw [if_pos hc172] at hF
            refine own_Goes.via (B := T199.setTop (mkF m 189 #[.val (.int v0), d1, .val (.int v2), d3, .val (.int v4), .val (.int v5), d6, .val (.ref b1), .val (.ref c189), .val (.ref c193), .val (.int r195), .val (.ref c198_0), .val (.int r199), .val (.int (-1 : Int32))] [(.int (-1 : Int32)), (.int r199)])) (fun t k => ?_) ?_
            · show Steps p.tables e below (T199.setTop (mkF m 172 #[.val (.int v0), d1, .val (.int v2), d3, .val (.int v4), .val (.int v5), d6, .val (.ref b1), .val (.ref c189), .val (.ref c193), .val (.int r195), .val (.ref c198_0), .val (.int r199), d13] [(.int v5)])) t
              refine XS.ifYes X199.here hx rfl (pc0 := 172) (pc' := 182) rfl (hb hby at_172) rfl ((if0 _ _).trans (teq hc172).1) (by decide) (by decide) ?_
              show Steps p.tables e below (T199.setTop (mkF m 182 #[.val (.int v0), d1, .val (.int v2), d3, .val (.int v4), .val (.int v5), d6, .val (.ref b1), .val (.ref c189), .val (.ref c193), .val (.int r195), .val (.ref c198_0), .val (.int r199), d13] [])) t
              refine XS.iconst X199.here hx rfl (hb hby at_182) ?_
              show Steps p.tables e below (T199.setTop (mkF m 183 #[.val (.int v0), d1, .val (.int v2), d3, .val (.int v4), .val (.int v5), d6, .val (.ref b1), .val (.ref c189), .val (.ref c193), .val (.int r195), .val (.ref c198_0), .val (.int r199), d13] [(.int (-1 : Int32))])) t
              refine XS.istoreS X199.here hx rfl (hb hby at_183) rfl rfl o_d13 ?_
              show Steps p.tables e below (T199.setTop (mkF m 185 #[.val (.int v0), d1, .val (.int v2), d3, .val (.int v4), .val (.int v5), d6, .val (.ref b1), .val (.ref c189), .val (.ref c193), .val (.int r195), .val (.ref c198_0), .val (.int r199), .val (.int (-1 : Int32))] [])) t
              refine XS.iload X199.here hx rfl (hb hby at_185) rfl ?_
              show Steps p.tables e below (T199.setTop (mkF m 187 #[.val (.int v0), d1, .val (.int v2), d3, .val (.int v4), .val (.int v5), d6, .val (.ref b1), .val (.ref c189), .val (.ref c193), .val (.int r195), .val (.ref c198_0), .val (.int r199), .val (.int (-1 : Int32))] [(.int r199)])) t
              refine XS.iload X199.here hx rfl (hb hby at_187) rfl ?_
              exact k
            by_cases hc189 : r199 = (-1 : Int32)
            · rw [if_pos hc189] at hF
              refine own_Goes.via (B := T199.setTop (mkF m 197 #[.val (.int v0), d1, .val (.int v2), d3, .val (.int v4), .val (.int v5), d6, .val (.ref b1), .val (.ref c189), .val (.ref c193), .val (.int r195), .val (.ref c198_0), .val (.int r199), .val (.int (-1 : Int32))] [(.int (1 : Int32))])) (fun t k => ?_) ?_
              · show Steps p.tables e below (T199.setTop (mkF m 189 #[.val (.int v0), d1, .val (.int v2), d3, .val (.int v4), .val (.int v5), d6, .val (.ref b1), .val (.ref c189), .val (.ref c193), .val (.int r195), .val (.ref c198_0), .val (.int r199), .val (.int (-1 : Int32))] [(.int (-1 : Int32)), (.int r199)])) t
                refine XS.icmpNo X199.here hx rfl (hb hby at_189) rfl (teq hc189).2 ?_
                show Steps p.tables e below (T199.setTop (mkF m 192 #[.val (.int v0), d1, .val (.int v2), d3, .val (.int v4), .val (.int v5), d6, .val (.ref b1), .val (.ref c189), .val (.ref c193), .val (.int r195), .val (.ref c198_0), .val (.int r199), .val (.int (-1 : Int32))] [])) t
                refine XS.iconst X199.here hx rfl (hb hby at_192) ?_
                show Steps p.tables e below (T199.setTop (mkF m 193 #[.val (.int v0), d1, .val (.int v2), d3, .val (.int v4), .val (.int v5), d6, .val (.ref b1), .val (.ref c189), .val (.ref c193), .val (.int r195), .val (.ref c198_0), .val (.int r199), .val (.int (-1 : Int32))] [(.int (1 : Int32))])) t
                refine XS.goto X199.here hx rfl (pc0 := 193) (pc' := 197) rfl (hb hby at_193) (by decide) (by decide) ?_
                exact k
              obtain rfl : (1 : Int32) = r := Option.some.inj hF
              exact own_retN X199 hx (t := .boolean) hret hlk (by simp) (hb hby at_197) e199 (v := (1 : Int32)) (by decide) ⟨rfl, N199, K198_⟩ (by decide) (by decide)
            · rw [if_neg hc189] at hF
              refine own_Goes.via (B := T199.setTop (mkF m 197 #[.val (.int v0), d1, .val (.int v2), d3, .val (.int v4), .val (.int v5), d6, .val (.ref b1), .val (.ref c189), .val (.ref c193), .val (.int r195), .val (.ref c198_0), .val (.int r199), .val (.int (-1 : Int32))] [(.int (0 : Int32))])) (fun t k => ?_) ?_
              · show Steps p.tables e below (T199.setTop (mkF m 189 #[.val (.int v0), d1, .val (.int v2), d3, .val (.int v4), .val (.int v5), d6, .val (.ref b1), .val (.ref c189), .val (.ref c193), .val (.int r195), .val (.ref c198_0), .val (.int r199), .val (.int (-1 : Int32))] [(.int (-1 : Int32)), (.int r199)])) t
                refine XS.icmpYes X199.here hx rfl (pc0 := 189) (pc' := 196) rfl (hb hby at_189) rfl (feq hc189).2 (by decide) (by decide) ?_
                show Steps p.tables e below (T199.setTop (mkF m 196 #[.val (.int v0), d1, .val (.int v2), d3, .val (.int v4), .val (.int v5), d6, .val (.ref b1), .val (.ref c189), .val (.ref c193), .val (.int r195), .val (.ref c198_0), .val (.int r199), .val (.int (-1 : Int32))] [])) t
                refine XS.iconst X199.here hx rfl (hb hby at_196) ?_
                exact k
              obtain rfl : (0 : Int32) = r := Option.some.inj hF
              exact own_retN X199 hx (t := .boolean) hret hlk (by simp) (hb hby at_197) e199 (v := (0 : Int32)) (by decide) ⟨rfl, N199, K198_⟩ (by decide) (by decide)
          · rw [if_neg hc172] at hF
            refine own_Goes.via (B := T199.setTop (mkF m 176 #[.val (.int v0), d1, .val (.int v2), d3, .val (.int v4), .val (.int v5), d6, .val (.ref b1), .val (.ref c189), .val (.ref c193), .val (.int r195), .val (.ref c198_0), .val (.int r199), d13] [(.int v2)])) (fun t k => ?_) ?_
            · show Steps p.tables e below (T199.setTop (mkF m 172 #[.val (.int v0), d1, .val (.int v2), d3, .val (.int v4), .val (.int v5), d6, .val (.ref b1), .val (.ref c189), .val (.ref c193), .val (.int r195), .val (.ref c198_0), .val (.int r199), d13] [(.int v5)])) t
              refine XS.ifNo X199.here hx rfl (hb hby at_172) rfl ((if0 _ _).trans (feq hc172).1) ?_
              show Steps p.tables e below (T199.setTop (mkF m 175 #[.val (.int v0), d1, .val (.int v2), d3, .val (.int v4), .val (.int v5), d6, .val (.ref b1), .val (.ref c189), .val (.ref c193), .val (.int r195), .val (.ref c198_0), .val (.int r199), d13] [])) t
              refine XS.iloadN X199.here hx rfl (hb hby at_175) rfl ?_
              exact k
            obtain ⟨r200, hr200, hF⟩ := own_bd_e hF
            obtain ⟨_, _, ⟨T200, L200, k200, n200⟩, -, X200, ⟨Lc200, hQ200, l200, y200, z200⟩, st200⟩ := Jvm.LawKit.callS X199 hx (y := (⟨"com/example/keyslate/keyslate/session/TlvReaderNextTagPinLaw", "mod256", "(I)I"⟩ : MethodName)) hown (mvT hZ (w19 hw)) (mvT hZ (w20 hw)) (mvT hZ (w21 hw)) (mvT hZ (w22 hw)) (by decide) (backOf (W := 0) (rm_TlvReaderNextTagPinLaw_mod256 l Z a0 hw [] T198.heap n0 z198_ v2 r200 hr200) hZ (w22 hw) (w21 hw) (by decide) (by decide)) (g := (mkF m 176 #[.val (.int v0), d1, .val (.int v2), d3, .val (.int v4), .val (.int v5), d6, .val (.ref b1), .val (.ref c189), .val (.ref c193), .val (.int r195), .val (.ref c198_0), .val (.int r199), d13] [(.int v2)])) rfl (by rw [hml]; rfl) (argsL := [(.int v2)]) (rest := []) (lenOf pd_2 rfl) rfl (by show 2 * 0 + _ ≤ _; exact Nat.le_of_eq rfl) (hb hby at_176) (fun _ _ => ⟨rfl, e199, (by decide : 5 + 0 ≤ _), (by decide : 20 + 0 ≤ _)⟩)
            dsimp only [Pt.U, Pt.locs, Pt.cells, Pt.slots] at X200 l200 y200 z200 st200 hQ200
            subst l200 y200 z200
            obtain ⟨rfl, N200q, e200⟩ := hQ200
            have N200 := Fr.app N199 N200q
            refine own_Goes.via st200 ?_
            show own_Goes _ _ _ _ _ _ _ (T200.setTop (mkF m 179 #[.val (.int v0), d1, .val (.int v2), d3, .val (.int v4), .val (.int v5), d6, .val (.ref b1), .val (.ref c189), .val (.ref c193), .val (.int r195), .val (.ref c198_0), .val (.int r199), d13] [(.int r200)]))
            refine own_Goes.via (B := T200.setTop (mkF m 189 #[.val (.int v0), d1, .val (.int v2), d3, .val (.int v4), .val (.int v5), d6, .val (.ref b1), .val (.ref c189), .val (.ref c193), .val (.int r195), .val (.ref c198_0), .val (.int r199), .val (.int r200)] [(.int r200), (.int r199)])) (fun t k => ?_) ?_
            · show Steps p.tables e below (T200.setTop (mkF m 179 #[.val (.int v0), d1, .val (.int v2), d3, .val (.int v4), .val (.int v5), d6, .val (.ref b1), .val (.ref c189), .val (.ref c193), .val (.int r195), .val (.ref c198_0), .val (.int r199), d13] [(.int r200)])) t
              refine XS.goto X200.here hx rfl (pc0 := 179) (pc' := 183) rfl (hb hby at_179) (by decide) (by decide) ?_
              show Steps p.tables e below (T200.setTop (mkF m 183 #[.val (.int v0), d1, .val (.int v2), d3, .val (.int v4), .val (.int v5), d6, .val (.ref b1), .val (.ref c189), .val (.ref c193), .val (.int r195), .val (.ref c198_0), .val (.int r199), d13] [(.int r200)])) t
              refine XS.istoreS X200.here hx rfl (hb hby at_183) rfl rfl o_d13 ?_
              show Steps p.tables e below (T200.setTop (mkF m 185 #[.val (.int v0), d1, .val (.int v2), d3, .val (.int v4), .val (.int v5), d6, .val (.ref b1), .val (.ref c189), .val (.ref c193), .val (.int r195), .val (.ref c198_0), .val (.int r199), .val (.int r200)] [])) t
              refine XS.iload X200.here hx rfl (hb hby at_185) rfl ?_
              show Steps p.tables e below (T200.setTop (mkF m 187 #[.val (.int v0), d1, .val (.int v2), d3, .val (.int v4), .val (.int v5), d6, .val (.ref b1), .val (.ref c189), .val (.ref c193), .val (.int r195), .val (.ref c198_0), .val (.int r199), .val (.int r200)] [(.int r199)])) t
              refine XS.iload X200.here hx rfl (hb hby at_187) rfl ?_
              exact k
            by_cases hc189 : r199 = r200
            · rw [if_pos hc189] at hF
              refine own_Goes.via (B := T200.setTop (mkF m 197 #[.val (.int v0), d1, .val (.int v2), d3, .val (.int v4), .val (.int v5), d6, .val (.ref b1), .val (.ref c189), .val (.ref c193), .val (.int r195), .val (.ref c198_0), .val (.int r199), .val (.int r200)] [(.int (1 : Int32))])) (fun t k => ?_) ?_
              · show Steps p.tables e below (T200.setTop (mkF m 189 #[.val (.int v0), d1, .val (.int v2), d3, .val (.int v4), .val (.int v5), d6, .val (.ref b1), .val (.ref c189), .val (.ref c193), .val (.int r195), .val (.ref c198_0), .val (.int r199), .val (.int r200)] [(.int r200), (.int r199)])) t
                refine XS.icmpNo X200.here hx rfl (hb hby at_189) rfl (teq hc189).2 ?_
                show Steps p.tables e below (T200.setTop (mkF m 192 #[.val (.int v0), d1, .val (.int v2), d3, .val (.int v4), .val (.int v5), d6, .val (.ref b1), .val (.ref c189), .val (.ref c193), .val (.int r195), .val (.ref c198_0), .val (.int r199), .val (.int r200)] [])) t
                refine XS.iconst X200.here hx rfl (hb hby at_192) ?_
                show Steps p.tables e below (T200.setTop (mkF m 193 #[.val (.int v0), d1, .val (.int v2), d3, .val (.int v4), .val (.int v5), d6, .val (.ref b1), .val (.ref c189), .val (.ref c193), .val (.int r195), .val (.ref c198_0), .val (.int r199), .val (.int r200)] [(.int (1 : Int32))])) t
                refine XS.goto X200.here hx rfl (pc0 := 193) (pc' := 197) rfl (hb hby at_193) (by decide) (by decide) ?_
                exact k
              obtain rfl : (1 : Int32) = r := Option.some.inj hF
              exact own_retN X200 hx (t := .boolean) hret hlk (by simp) (hb hby at_197) e200 (v := (1 : Int32)) (by decide) ⟨rfl, N200, K198_⟩ (by decide) (by decide)
            · rw [if_neg hc189] at hF
              refine own_Goes.via (B := T200.setTop (mkF m 197 #[.val (.int v0), d1, .val (.int v2), d3, .val (.int v4), .val (.int v5), d6, .val (.ref b1), .val (.ref c189), .val (.ref c193), .val (.int r195), .val (.ref c198_0), .val (.int r199), .val (.int r200)] [(.int (0 : Int32))])) (fun t k => ?_) ?_
              · show Steps p.tables e below (T200.setTop (mkF m 189 #[.val (.int v0), d1, .val (.int v2), d3, .val (.int v4), .val (.int v5), d6, .val (.ref b1), .val (.ref c189), .val (.ref c193), .val (.int r195), .val (.ref c198_0), .val (.int r199), .val (.int r200)] [(.int r200), (.int r199)])) t
                refine XS.icmpYes X200.here hx rfl (pc0 := 189) (pc' := 196) rfl (hb hby at_189) rfl (feq hc189).2 (by decide) (by decide) ?_
                show Steps p.tables e below (T200.setTop (mkF m 196 #[.val (.int v0), d1, .val (.int v2), d3, .val (.int v4), .val (.int v5), d6, .val (.ref b1), .val (.ref c189), .val (.ref c193), .val (.int r195), .val (.ref c198_0), .val (.int r199), .val (.int r200)] [])) t
                refine XS.iconst X200.here hx rfl (hb hby at_196) ?_
                exact k
              obtain rfl : (0 : Int32) = r := Option.some.inj hF
              exact own_retN X200 hx (t := .boolean) hret hlk (by simp) (hb hby at_197) e200 (v := (0 : Int32)) (by decide) ⟨rfl, N200, K198_⟩ (by decide) (by decide)
        · rw [if_neg hc158] at hF
          refine own_Goes.via (B := T198.setTop (mkF m 162 #[.val (.int v0), d1, .val (.int v2), d3, .val (.int v4), .val (.int v5), d6, .val (.ref b1), .val (.ref c189), .val (.ref c193), .val (.int r195), .val (.ref c198_0), d12, d13] [(.int (0 : Int32))])) (fun t k => ?_) ?_
          · show Steps p.tables e below (T198.setTop (mkF m 158 #[.val (.int v0), d1, .val (.int v2), d3, .val (.int v4), .val (.int v5), d6, .val (.ref b1), .val (.ref c189), .val (.ref c193), .val (.int r195), .val (.ref c198_0), d12, d13] [(.int v4), (.int (own_sz r198.2))])) t
            refine XS.icmpNo X198.here hx rfl (hb hby at_158) rfl (feq hc158).1 ?_
            show Steps p.tables e below (T198.setTop (mkF m 161 #[.val (.int v0), d1, .val (.int v2), d3, .val (.int v4), .val (.int v5), d6, .val (.ref b1), .val (.ref c189), .val (.ref c193), .val (.int r195), .val (.ref c198_0), d12, d13] [])) t
            refine XS.iconst X198.here hx rfl (hb hby at_161) ?_
            exact k
          obtain rfl : (0 : Int32) = r := Option.some.inj hF
          exact own_retN X198 hx (t := .boolean) hret hlk (by simp) (hb hby at_162) rfl (v := (0 : Int32)) (by decide) ⟨rfl, N198, K198_⟩ (by decide) (by decide)
      · rw [if_neg hc139] at hF
        refine own_Goes.via (B := T197.setTop (mkF m 143 #[.val (.int v0), d1, .val (.int v2), d3, .val (.int v4), .val (.int v5), d6, .val (.ref b1), .val (.ref c189), .val (.ref c193), .val (.int r195), d11, d12, d13] [(.int (0 : Int32))])) (fun t k => ?_) ?_
        · show Steps p.tables e below (T197.setTop (mkF m 139 #[.val (.int v0), d1, .val (.int v2), d3, .val (.int v4), .val (.int v5), d6, .val (.ref b1), .val (.ref c189), .val (.ref c193), .val (.int r195), d11, d12, d13] [(.int r195), (.int r197)])) t
          refine XS.icmpNo X197.here hx rfl (hb hby at_139) rfl (feq hc139).1 ?_
          show Steps p.tables e below (T197.setTop (mkF m 142 #[.val (.int v0), d1, .val (.int v2), d3, .val (.int v4), .val (.int v5), d6, .val (.ref b1), .val (.ref c189), .val (.ref c193), .val (.int r195), d11, d12, d13] [])) t
          refine XS.iconst X197.here hx rfl (hb hby at_142) ?_
          exact k
        obtain rfl : (0 : Int32) = r := Option.some.inj hF
        exact own_retN X197 hx (t := .boolean) hret hlk (by simp) (hb hby at_143) e197 (v := (0 : Int32)) (by decide) ⟨rfl, N197, K194_⟩ (by decide) (by decide)
    · rw [if_neg hc127] at hF
      refine own_Goes.via (B := T196.setTop (mkF m 131 #[.val (.int v0), d1, .val (.int v2), d3, .val (.int v4), .val (.int v5), d6, .val (.ref b1), .val (.ref c189), .val (.ref c193), .val (.int r195), d11, d12, d13] [(.int (0 : Int32))])) (fun t k => ?_) ?_
      · show Steps p.tables e below (T196.setTop (mkF m 127 #[.val (.int v0), d1, .val (.int v2), d3, .val (.int v4), .val (.int v5), d6, .val (.ref b1), .val (.ref c189), .val (.ref c193), .val (.int r195), d11, d12, d13] [(.int r196), (.int r195)])) t
        refine XS.icmpNo X196.here hx rfl (hb hby at_127) rfl (feq hc127).1 ?_
        show Steps p.tables e below (T196.setTop (mkF m 130 #[.val (.int v0), d1, .val (.int v2), d3, .val (.int v4), .val (.int v5), d6, .val (.ref b1), .val (.ref c189), .val (.ref c193), .val (.int r195), d11, d12, d13] [])) t
        refine XS.iconst X196.here hx rfl (hb hby at_130) ?_
        exact k
      obtain rfl : (0 : Int32) = r := Option.some.inj hF
      exact own_retN X196 hx (t := .boolean) hret hlk (by simp) (hb hby at_131) e196 (v := (0 : Int32)) (by decide) ⟨rfl, N196, K194_⟩ (by decide) (by decide)
  · rw [if_neg hc98] at hF
    refine own_Goes.via (B := T192.setTop (mkF m 102 #[.val (.int v0), d1, .val (.int v2), d3, .val (.int v4), .val (.int v5), d6, .val (.ref b1), .val (.ref c189), d9, d10, d11, d12, d13] [(.int (0 : Int32))])) (fun t k => ?_) ?_
    · show Steps p.tables e below (T192.setTop (mkF m 98 #[.val (.int v0), d1, .val (.int v2), d3, .val (.int v4), .val (.int v5), d6, .val (.ref b1), .val (.ref c189), d9, d10, d11, d12, d13] [(.int (-1 : Int32)), (.int r192)])) t
      refine XS.icmpNo X192.here hx rfl (hb hby at_98) rfl (feq hc98).1 ?_
      show Steps p.tables e below (T192.setTop (mkF m 101 #[.val (.int v0), d1, .val (.int v2), d3, .val (.int v4), .val (.int v5), d6, .val (.ref b1), .val (.ref c189), d9, d10, d11, d12, d13] [])) t
      refine XS.iconst X192.here hx rfl (hb hby at_101) ?_
      exact k
    obtain rfl : (0 : Int32) = r := Option.some.inj hF
    exact own_retN X192 hx (t := .boolean) hret hlk (by simp) (hb hby at_102) e192 (v := (0 : Int32)) (by decide) ⟨rfl, N192, K191_⟩ (by decide) (by decide)
set_option maxRecDepth 65536 in
set_option maxHeartbeats 4000000 in
theorem b_law_32 {p : Program} {l : Launch} {e : Env} {s : State} {m : MethodId} {args : Array Value} {below : List Frame} {meth : Method} {c : Code} {Z : State} {a0 : Array Value} {n0 : Nat} {hE : Heap} (cx : Cx_law p s m meth c Z a0) :
    ∀ {T : State} {locs : List Loc} {h : Heap} (X : Stand p l e room_1 s m args below meth c T locs 0 0) (eT : T.heap = h) (N : Fr n0 locs) (K : Keep hE h []) (z : n0 ≤ h.size) (v0 : Int32) (v1 : Int32) (v2 : Int32) (v4 : Int32) (v5 : Int32) (t0 : Int32) (t1 : Int32) (d3 : Slot) (d6 : Slot) (d7 : Slot) (d8 : Slot) (d9 : Slot) (d10 : Slot) (d11 : Slot) (d12 : Slot) (d13 : Slot) (o_d3 : One d3) (o_d6 : One d6) (o_d7 : One d7) (o_d8 : One d8) (o_d9 : One d9) (o_d10 : One d10) (o_d11 : One d11) (o_d12 : One d12) (o_d13 : One d13) (r : Int32), f_law_32 v0 v1 v2 v4 v5 t0 t1 = some r → own_Goes p e below s (Q_law Z hE n0 r) 5 20 (T.setTop (mkF m 32 #[.val (.int v0), .val (.int v1), .val (.int v2), d3, .val (.int v4), .val (.int v5), d6, d7, d8, d9, d10, d11, d12, d13] [(.int t0), (.int t1)])) := by
  have cx' := cx
  obtain ⟨hx, hZ, hw, hby, hml, hown, hret, hlk, hnm⟩ := cx'
  intro T locs h X eT N K z v0 v1 v2 v4 v5 t0 t1 d3 d6 d7 d8 d9 d10 d11 d12 d13 o_d3 o_d6 o_d7 o_d8 o_d9 o_d10 o_d11 o_d12 o_d13 r hF
  unfold f_law_32 at hF
  refine own_Goes.via (B := T.setTop (mkF m 33 #[.val (.int v0), .val (.int v1), .val (.int v2), d3, .val (.int v4), .val (.int v5), d6, d7, d8, d9, d10, d11, d12, d13] [(.int (t1 + t0))])) (fun t k => ?_) ?_
  · show Steps p.tables e below (T.setTop (mkF m 32 #[.val (.int v0), .val (.int v1), .val (.int v2), d3, .val (.int v4), .val (.int v5), d6, d7, d8, d9, d10, d11, d12, d13] [(.int t0), (.int t1)])) t
    refine XS.iadd X.here hx rfl (hb hby at_32) rfl ?_
    exact k
  obtain ⟨x209, hx209, hF⟩ := own_lt_e hF
  rw [← hx209]
  refine own_Goes.via (B := T.setTop (mkF m 37 #[.val (.int v0), .val (.int v1), .val (.int v2), d3, .val (.int v4), .val (.int v5), .val (.int x209), d7, d8, d9, d10, d11, d12, d13] [(.int x209)])) (fun t k => ?_) ?_
  · show Steps p.tables e below (T.setTop (mkF m 33 #[.val (.int v0), .val (.int v1), .val (.int v2), d3, .val (.int v4), .val (.int v5), d6, d7, d8, d9, d10, d11, d12, d13] [(.int x209)])) t
    refine XS.istoreS X.here hx rfl (hb hby at_33) rfl rfl o_d6 ?_
    show Steps p.tables e below (T.setTop (mkF m 35 #[.val (.int v0), .val (.int v1), .val (.int v2), d3, .val (.int v4), .val (.int v5), .val (.int x209), d7, d8, d9, d10, d11, d12, d13] [])) t
    refine XS.iload X.here hx rfl (hb hby at_35) rfl ?_
    exact k
  obtain ⟨hn37, hF⟩ := own_ck_e hF
  obtain ⟨T210, h210, k210, X210, e210, E210, A210, st210⟩ := newP X hx hZ (aty := .byte) (w0 hw) eT (g := (mkF m 37 #[.val (.int v0), .val (.int v1), .val (.int v2), d3, .val (.int v4), .val (.int v5), .val (.int x209), d7, d8, d9, d10, d11, d12, d13] [(.int x209)])) rfl (hb hby at_37) rfl hn37.1 (cap := 8) hn37.2 (by decide) (by decide) (by decide)
  obtain ⟨c210, q210⟩ : ∃ z, z = h.size := ⟨_, rfl⟩
  rw [← q210] at A210 st210
  have A210_c210 : own_Ar Z h210 c210 .byte ((List.replicate x209.toNatClampNeg (0 : Int32)).map Value.int) := own_newI A210 hn37.1 rfl rfl
  have g210_c210 : n0 ≤ c210 := Nat.le_trans z (Nat.le_of_eq q210.symm)
  have nE210_c210 : hE.size ≤ c210 := Nat.le_trans K.1 (Nat.le_of_eq q210.symm)
  have z210 := Nat.le_trans z E210.1
  have K210_ := K.ext E210
  refine own_Goes.via st210 ?_
  show own_Goes _ _ _ _ _ _ _ (T210.setTop (mkF m 39 #[.val (.int v0), .val (.int v1), .val (.int v2), d3, .val (.int v4), .val (.int v5), .val (.int x209), d7, d8, d9, d10, d11, d12, d13] [(.ref c210)]))
  refine own_Goes.via (B := T210.setTop (mkF m 46 #[.val (.int v0), .val (.int v1), .val (.int v2), d3, .val (.int v4), .val (.int v5), .val (.int x209), .val (.ref c210), d8, d9, d10, d11, d12, d13] [(.int (v0.toInt8.toInt32)), (.int (0 : Int32)), (.ref c210)])) (fun t k => ?_) ?_
  · show Steps p.tables e below (T210.setTop (mkF m 39 #[.val (.int v0), .val (.int v1), .val (.int v2), d3, .val (.int v4), .val (.int v5), .val (.int x209), d7, d8, d9, d10, d11, d12, d13] [(.ref c210)])) t
    refine XS.astoreS X210.here hx rfl (hb hby at_39) rfl rfl rfl rfl o_d7 ?_
    show Steps p.tables e below (T210.setTop (mkF m 41 #[.val (.int v0), .val (.int v1), .val (.int v2), d3, .val (.int v4), .val (.int v5), .val (.int x209), .val (.ref c210), d8, d9, d10, d11, d12, d13] [])) t
    refine XS.aload X210.here hx rfl (hb hby at_41) rfl rfl ?_
    show Steps p.tables e below (T210.setTop (mkF m 43 #[.val (.int v0), .val (.int v1), .val (.int v2), d3, .val (.int v4), .val (.int v5), .val (.int x209), .val (.ref c210), d8, d9, d10, d11, d12, d13] [(.ref c210)])) t
    refine XS.iconst X210.here hx rfl (hb hby at_43) ?_
    show Steps p.tables e below (T210.setTop (mkF m 44 #[.val (.int v0), .val (.int v1), .val (.int v2), d3, .val (.int v4), .val (.int v5), .val (.int x209), .val (.ref c210), d8, d9, d10, d11, d12, d13] [(.int (0 : Int32)), (.ref c210)])) t
    refine XS.iloadN X210.here hx rfl (hb hby at_44) rfl ?_
    show Steps p.tables e below (T210.setTop (mkF m 45 #[.val (.int v0), .val (.int v1), .val (.int v2), d3, .val (.int v4), .val (.int v5), .val (.int x209), .val (.ref c210), d8, d9, d10, d11, d12, d13] [(.int v0), (.int (0 : Int32)), (.ref c210)])) t
    refine XS.i2b X210.here hx rfl (hb hby at_45) rfl ?_
    exact k
  obtain ⟨x211, hx211, hF⟩ := own_lt_e hF
  rw [← hx211]
  obtain ⟨hi46, hF⟩ := own_ck_e hF
  obtain ⟨T212, h212, X212, e212, W212, A212_c210, st212⟩ := own_stB X210 hx hZ e210 A210_c210 hi46 (g := (mkF m 46 #[.val (.int v0), .val (.int v1), .val (.int v2), d3, .val (.int v4), .val (.int v5), .val (.int x209), .val (.ref c210), d8, d9, d10, d11, d12, d13] [(.int x211), (.int (0 : Int32)), (.ref c210)])) rfl rfl (hb hby at_46)
  refine own_Goes.via st212 ?_
  have z212 := Nat.le_trans z210 (Keep.of_wr W212).1
  have K212_ := K210_.wr W212 (Or.inr nE210_c210)
  have N212 := Fr.snoc X212 N g210_c210
  have A212_c210 : own_Ar Z h212 c210 .byte ((own_wr (List.replicate x209.toNatClampNeg (0 : Int32)) (0 : Int32) (x211.toInt8.toInt32)).map Value.int) := A212_c210
  show own_Goes _ _ _ _ _ _ _ (T212.setTop (mkF m 47 #[.val (.int v0), .val (.int v1), .val (.int v2), d3, .val (.int v4), .val (.int v5), .val (.int x209), .val (.ref c210), d8, d9, d10, d11, d12, d13] []))
  obtain ⟨bs213, hbs213, hF⟩ := own_lt_e hF
  rw [← hbs213] at A212_c210
  refine own_Goes.via (B := T212.setTop (mkF m 53 #[.val (.int v0), .val (.int v1), .val (.int v2), d3, .val (.int v4), .val (.int v5), .val (.int x209), .val (.ref c210), d8, d9, d10, d11, d12, d13] [(.int (v4.toInt8.toInt32)), (.int (1 : Int32)), (.ref c210)])) (fun t k => ?_) ?_
  · show Steps p.tables e below (T212.setTop (mkF m 47 #[.val (.int v0), .val (.int v1), .val (.int v2), d3, .val (.int v4), .val (.int v5), .val (.int x209), .val (.ref c210), d8, d9, d10, d11, d12, d13] [])) t
    refine XS.aload X212.here hx rfl (hb hby at_47) rfl rfl ?_
    show Steps p.tables e below (T212.setTop (mkF m 49 #[.val (.int v0), .val (.int v1), .val (.int v2), d3, .val (.int v4), .val (.int v5), .val (.int x209), .val (.ref c210), d8, d9, d10, d11, d12, d13] [(.ref c210)])) t
    refine XS.iconst X212.here hx rfl (hb hby at_49) ?_
    show Steps p.tables e below (T212.setTop (mkF m 50 #[.val (.int v0), .val (.int v1), .val (.int v2), d3, .val (.int v4), .val (.int v5), .val (.int x209), .val (.ref c210), d8, d9, d10, d11, d12, d13] [(.int (1 : Int32)), (.ref c210)])) t
    refine XS.iload X212.here hx rfl (hb hby at_50) rfl ?_
    show Steps p.tables e below (T212.setTop (mkF m 52 #[.val (.int v0), .val (.int v1), .val (.int v2), d3, .val (.int v4), .val (.int v5), .val (.int x209), .val (.ref c210), d8, d9, d10, d11, d12, d13] [(.int v4), (.int (1 : Int32)), (.ref c210)])) t
    refine XS.i2b X212.here hx rfl (hb hby at_52) rfl ?_
    exact k
  obtain ⟨x214, hx214, hF⟩ := own_lt_e hF
  rw [← hx214]
  obtain ⟨hi53, hF⟩ := own_ck_e hF
  obtain ⟨T215, h215, X215, e215, W215, A215_c210, st215⟩ := own_stB X212 hx hZ e212 A212_c210 hi53 (g := (mkF m 53 #[.val (.int v0), .val (.int v1), .val (.int v2), d3, .val (.int v4), .val (.int v5), .val (.int x209), .val (.ref c210), d8, d9, d10, d11, d12, d13] [(.int x214), (.int (1 : Int32)), (.ref c210)])) rfl rfl (hb hby at_53)
  refine own_Goes.via st215 ?_
  have z215 := Nat.le_trans z212 (Keep.of_wr W215).1
  have K215_ := K212_.wr W215 (Or.inr nE210_c210)
  have N215 := Fr.snoc X215 N212 g210_c210
  have A215_c210 : own_Ar Z h215 c210 .byte ((own_wr bs213 (1 : Int32) (x214.toInt8.toInt32)).map Value.int) := A215_c210
  show own_Goes _ _ _ _ _ _ _ (T215.setTop (mkF m 54 #[.val (.int v0), .val (.int v1), .val (.int v2), d3, .val (.int v4), .val (.int v5), .val (.int x209), .val (.ref c210), d8, d9, d10, d11, d12, d13] []))
  obtain ⟨bs216, hbs216, hF⟩ := own_lt_e hF
  rw [← hbs216] at A215_c210
  refine own_Goes.via (B := T215.setTop (mkF m 57 #[.val (.int v0), .val (.int v1), .val (.int v2), d3, .val (.int v4), .val (.int v5), .val (.int x209), .val (.ref c210), d8, d9, d10, d11, d12, d13] [(.int (1 : Int32)), (.int v4)])) (fun t k => ?_) ?_
  · show Steps p.tables e below (T215.setTop (mkF m 54 #[.val (.int v0), .val (.int v1), .val (.int v2), d3, .val (.int v4), .val (.int v5), .val (.int x209), .val (.ref c210), d8, d9, d10, d11, d12, d13] [])) t
    refine XS.iload X215.here hx rfl (hb hby at_54) rfl ?_
    show Steps p.tables e below (T215.setTop (mkF m 56 #[.val (.int v0), .val (.int v1), .val (.int v2), d3, .val (.int v4), .val (.int v5), .val (.int x209), .val (.ref c210), d8, d9, d10, d11, d12, d13] [(.int v4)])) t
    refine XS.iconst X215.here hx rfl (hb hby at_56) ?_
    exact k
  by_cases hc57 : v4 = (1 : Int32)
  · rw [if_pos hc57] at hF
    refine own_Goes.via (B := T215.setTop (mkF m 65 #[.val (.int v0), .val (.int v1), .val (.int v2), d3, .val (.int v4), .val (.int v5), .val (.int x209), .val (.ref c210), d8, d9, d10, d11, d12, d13] [(.int (v1.toInt8.toInt32)), (.int (2 : Int32)), (.ref c210)])) (fun t k => ?_) ?_
    · show Steps p.tables e below (T215.setTop (mkF m 57 #[.val (.int v0), .val (.int v1), .val (.int v2), d3, .val (.int v4), .val (.int v5), .val (.int x209), .val (.ref c210), d8, d9, d10, d11, d12, d13] [(.int (1 : Int32)), (.int v4)])) t
      refine XS.icmpNo X215.here hx rfl (hb hby at_57) rfl (teq hc57).2 ?_
      show Steps p.tables e below (T215.setTop (mkF m 60 #[.val (.int v0), .val (.int v1), .val (.int v2), d3, .val (.int v4), .val (.int v5), .val (.int x209), .val (.ref c210), d8, d9, d10, d11, d12, d13] [])) t
      refine XS.aload X215.here hx rfl (hb hby at_60) rfl rfl ?_
      show Steps p.tables e below (T215.setTop (mkF m 62 #[.val (.int v0), .val (.int v1), .val (.int v2), d3, .val (.int v4), .val (.int v5), .val (.int x209), .val (.ref c210), d8, d9, d10, d11, d12, d13] [(.ref c210)])) t
      refine XS.iconst X215.here hx rfl (hb hby at_62) ?_
      show Steps p.tables e below (T215.setTop (mkF m 63 #[.val (.int v0), .val (.int v1), .val (.int v2), d3, .val (.int v4), .val (.int v5), .val (.int x209), .val (.ref c210), d8, d9, d10, d11, d12, d13] [(.int (2 : Int32)), (.ref c210)])) t
      refine XS.iloadN X215.here hx rfl (hb hby at_63) rfl ?_
      show Steps p.tables e below (T215.setTop (mkF m 64 #[.val (.int v0), .val (.int v1), .val (.int v2), d3, .val (.int v4), .val (.int v5), .val (.int x209), .val (.ref c210), d8, d9, d10, d11, d12, d13] [(.int v1), (.int (2 : Int32)), (.ref c210)])) t
      refine XS.i2b X215.here hx rfl (hb hby at_64) rfl ?_
      exact k
    obtain ⟨x217, hx217, hF⟩ := own_lt_e hF
    rw [← hx217]
    obtain ⟨hi65, hF⟩ := own_ck_e hF
    obtain ⟨T218, h218, X218, e218, W218, A218_c210, st218⟩ := own_stB X215 hx hZ e215 A215_c210 hi65 (g := (mkF m 65 #[.val (.int v0), .val (.int v1), .val (.int v2), d3, .val (.int v4), .val (.int v5), .val (.int x209), .val (.ref c210), d8, d9, d10, d11, d12, d13] [(.int x217), (.int (2 : Int32)), (.ref c210)])) rfl rfl (hb hby at_65)
    refine own_Goes.via st218 ?_
    have z218 := Nat.le_trans z215 (Keep.of_wr W218).1
    have K218_ := K215_.wr W218 (Or.inr nE210_c210)
    have N218 := Fr.snoc X218 N215 g210_c210
    have A218_c210 : own_Ar Z h218 c210 .byte ((own_wr bs216 (2 : Int32) (x217.toInt8.toInt32)).map Value.int) := A218_c210
    show own_Goes _ _ _ _ _ _ _ (T218.setTop (mkF m 66 #[.val (.int v0), .val (.int v1), .val (.int v2), d3, .val (.int v4), .val (.int v5), .val (.int x209), .val (.ref c210), d8, d9, d10, d11, d12, d13] []))
    obtain ⟨bs219, hbs219, hF⟩ := own_lt_e hF
    rw [← hbs219] at A218_c210
    refine own_Goes.via (B := T218.setTop (mkF m 68 #[.val (.int v0), .val (.int v1), .val (.int v2), d3, .val (.int v4), .val (.int v5), .val (.int x209), .val (.ref c210), d8, d9, d10, d11, d12, d13] [(.int v5)])) (fun t k => ?_) ?_
    · show Steps p.tables e below (T218.setTop (mkF m 66 #[.val (.int v0), .val (.int v1), .val (.int v2), d3, .val (.int v4), .val (.int v5), .val (.int x209), .val (.ref c210), d8, d9, d10, d11, d12, d13] [])) t
      refine XS.iload X218.here hx rfl (hb hby at_66) rfl ?_
      exact k
    by_cases hc68 : v5 = (0 : Int32)
    · rw [if_pos hc68] at hF
      refine own_Goes.via (B := T218.setTop (mkF m 80 #[.val (.int v0), .val (.int v1), .val (.int v2), d3, .val (.int v4), .val (.int v5), .val (.int x209), .val (.ref c210), d8, d9, d10, d11, d12, d13] [])) (fun t k => ?_) ?_
      · show Steps p.tables e below (T218.setTop (mkF m 68 #[.val (.int v0), .val (.int v1), .val (.int v2), d3, .val (.int v4), .val (.int v5), .val (.int x209), .val (.ref c210), d8, d9, d10, d11, d12, d13] [(.int v5)])) t
        refine XS.ifYes X218.here hx rfl (pc0 := 68) (pc' := 80) rfl (hb hby at_68) rfl ((if0 _ _).trans (teq hc68).1) (by decide) (by decide) ?_
        exact k
      exact b_law_80 cx X218 e218 N218 K218_ z218 c210 v0 v2 v4 v5 bs219 (.val (.int v1)) d3 (.val (.int x209)) d8 d9 d10 d11 d12 d13 (One.val rfl) o_d3 (One.val rfl) o_d8 o_d9 o_d10 o_d11 o_d12 o_d13 A218_c210 g210_c210 nE210_c210 _ hF
    · rw [if_neg hc68] at hF
      refine own_Goes.via (B := T218.setTop (mkF m 79 #[.val (.int v0), .val (.int v1), .val (.int v2), d3, .val (.int v4), .val (.int v5), .val (.int x209), .val (.ref c210), d8, d9, d10, d11, d12, d13] [(.int (v2.toInt8.toInt32)), (.int ((2 : Int32) + v4)), (.ref c210)])) (fun t k => ?_) ?_
      · show Steps p.tables e below (T218.setTop (mkF m 68 #[.val (.int v0), .val (.int v1), .val (.int v2), d3, .val (.int v4), .val (.int v5), .val (.int x209), .val (.ref c210), d8, d9, d10, d11, d12, d13] [(.int v5)])) t
        refine XS.ifNo X218.here hx rfl (hb hby at_68) rfl ((if0 _ _).trans (feq hc68).1) ?_
        show Steps p.tables e below (T218.setTop (mkF m 71 #[.val (.int v0), .val (.int v1), .val (.int v2), d3, .val (.int v4), .val (.int v5), .val (.int x209), .val (.ref c210), d8, d9, d10, d11, d12, d13] [])) t
        refine XS.aload X218.here hx rfl (hb hby at_71) rfl rfl ?_
        show Steps p.tables e below (T218.setTop (mkF m 73 #[.val (.int v0), .val (.int v1), .val (.int v2), d3, .val (.int v4), .val (.int v5), .val (.int x209), .val (.ref c210), d8, d9, d10, d11, d12, d13] [(.ref c210)])) t
        refine XS.iconst X218.here hx rfl (hb hby at_73) ?_
        show Steps p.tables e below (T218.setTop (mkF m 74 #[.val (.int v0), .val (.int v1), .val (.int v2), d3, .val (.int v4), .val (.int v5), .val (.int x209), .val (.ref c210), d8, d9, d10, d11, d12, d13] [(.int (2 : Int32)), (.ref c210)])) t
        refine XS.iload X218.here hx rfl (hb hby at_74) rfl ?_
        show Steps p.tables e below (T218.setTop (mkF m 76 #[.val (.int v0), .val (.int v1), .val (.int v2), d3, .val (.int v4), .val (.int v5), .val (.int x209), .val (.ref c210), d8, d9, d10, d11, d12, d13] [(.int v4), (.int (2 : Int32)), (.ref c210)])) t
        refine XS.iadd X218.here hx rfl (hb hby at_76) rfl ?_
        show Steps p.tables e below (T218.setTop (mkF m 77 #[.val (.int v0), .val (.int v1), .val (.int v2), d3, .val (.int v4), .val (.int v5), .val (.int x209), .val (.ref c210), d8, d9, d10, d11, d12, d13] [(.int ((2 : Int32) + v4)), (.ref c210)])) t
        refine XS.iloadN X218.here hx rfl (hb hby at_77) rfl ?_
        show Steps p.tables e below (T218.setTop (mkF m 78 #[.val (.int v0), .val (.int v1), .val (.int v2), d3, .val (.int v4), .val (.int v5), .val (.int x209), .val (.ref c210), d8, d9, d10, d11, d12, d13] [(.int v2), (.int ((2 : Int32) + v4)), (.ref c210)])) t
        refine XS.i2b X218.here hx rfl (hb hby at_78) rfl ?_
        exact k
      obtain ⟨x220, hx220, hF⟩ := own_lt_e hF
      rw [← hx220]
      obtain ⟨x221, hx221, hF⟩ := own_lt_e hF
      rw [← hx221]
      obtain ⟨hi79, hF⟩ := own_ck_e hF
      obtain ⟨T222, h222, X222, e222, W222, A222_c210, st222⟩ := own_stB X218 hx hZ e218 A218_c210 hi79 (g := (mkF m 79 #[.val (.int v0), .val (.int v1), .val (.int v2), d3, .val (.int v4), .val (.int v5), .val (.int x209), .val (.ref c210), d8, d9, d10, d11, d12, d13] [(.int x220), (.int x221), (.ref c210)])) rfl rfl (hb hby at_79)
      refine own_Goes.via st222 ?_
      have z222 := Nat.le_trans z218 (Keep.of_wr W222).1
      have K222_ := K218_.wr W222 (Or.inr nE210_c210)
      have N222 := Fr.snoc X222 N218 g210_c210
      have A222_c210 : own_Ar Z h222 c210 .byte ((own_wr bs219 x221 (x220.toInt8.toInt32)).map Value.int) := A222_c210
      show own_Goes _ _ _ _ _ _ _ (T222.setTop (mkF m 80 #[.val (.int v0), .val (.int v1), .val (.int v2), d3, .val (.int v4), .val (.int v5), .val (.int x209), .val (.ref c210), d8, d9, d10, d11, d12, d13] []))
      obtain ⟨bs223, hbs223, hF⟩ := own_lt_e hF
      rw [← hbs223] at A222_c210
      exact b_law_80 cx X222 e222 N222 K222_ z222 c210 v0 v2 v4 v5 bs223 (.val (.int v1)) d3 (.val (.int x209)) d8 d9 d10 d11 d12 d13 (One.val rfl) o_d3 (One.val rfl) o_d8 o_d9 o_d10 o_d11 o_d12 o_d13 A222_c210 g210_c210 nE210_c210 _ hF
  · rw [if_neg hc57] at hF
    refine own_Goes.via (B := T215.setTop (mkF m 68 #[.val (.int v0), .val (.int v1), .val (.int v2), d3, .val (.int v4), .val (.int v5), .val (.int x209), .val (.ref c210), d8, d9, d10, d11, d12, d13] [(.int v5)])) (fun t k => ?_) ?_
    · show Steps p.tables e below (T215.setTop (mkF m 57 #[.val (.int v0), .val (.int v1), .val (.int v2), d3, .val (.int v4), .val (.int v5), .val (.int x209), .val (.ref c210), d8, d9, d10, d11, d12, d13] [(.int (1 : Int32)), (.int v4)])) t
      refine XS.icmpYes X215.here hx rfl (pc0 := 57) (pc' := 66) rfl (hb hby at_57) rfl (feq hc57).2 (by decide) (by decide) ?_
      show Steps p.tables e below (T215.setTop (mkF m 66 #[.val (.int v0), .val (.int v1), .val (.int v2), d3, .val (.int v4), .val (.int v5), .val (.int x209), .val (.ref c210), d8, d9, d10, d11, d12, d13] [])) t
      refine XS.iload X215.here hx rfl (hb hby at_66) rfl ?_
      exact k
    by_cases hc68 : v5 = (0 : Int32)
    · rw [if_pos hc68] at hF
      refine own_Goes.via (B := T215.setTop (mkF m 80 #[.val (.int v0), .val (.int v1), .val (.int v2), d3, .val (.int v4), .val (.int v5), .val (.int x209), .val (.ref c210), d8, d9, d10, d11, d12, d13] [])) (fun t k => ?_) ?_
      · show Steps p.tables e below (T215.setTop (mkF m 68 #[.val (.int v0), .val (.int v1), .val (.int v2), d3, .val (.int v4), .val (.int v5), .val (.int x209), .val (.ref c210), d8, d9, d10, d11, d12, d13] [(.int v5)])) t
        refine XS.ifYes X215.here hx rfl (pc0 := 68) (pc' := 80) rfl (hb hby at_68) rfl ((if0 _ _).trans (teq hc68).1) (by decide) (by decide) ?_
        exact k
      exact b_law_80 cx X215 e215 N215 K215_ z215 c210 v0 v2 v4 v5 bs216 (.val (.int v1)) d3 (.val (.int x209)) d8 d9 d10 d11 d12 d13 (One.val rfl) o_d3 (One.val rfl) o_d8 o_d9 o_d10 o_d11 o_d12 o_d13 A215_c210 g210_c210 nE210_c210 _ hF
    · rw [if_neg hc68] at hF
      refine own_Goes.via (B := T215.setTop (mkF m 79 #[.val (.int v0), .val (.int v1), .val (.int v2), d3, .val (.int v4), .val (.int v5), .val (.int x209), .val (.ref c210), d8, d9, d10, d11, d12, d13] [(.int (v2.toInt8.toInt32)), (.int ((2 : Int32) + v4)), (.ref c210)])) (fun t k => ?_) ?_
      · show Steps p.tables e below (T215.setTop (mkF m 68 #[.val (.int v0), .val (.int v1), .val (.int v2), d3, .val (.int v4), .val (.int v5), .val (.int x209), .val (.ref c210), d8, d9, d10, d11, d12, d13] [(.int v5)])) t
        refine XS.ifNo X215.here hx rfl (hb hby at_68) rfl ((if0 _ _).trans (feq hc68).1) ?_
        show Steps p.tables e below (T215.setTop (mkF m 71 #[.val (.int v0), .val (.int v1), .val (.int v2), d3, .val (.int v4), .val (.int v5), .val (.int x209), .val (.ref c210), d8, d9, d10, d11, d12, d13] [])) t
        refine XS.aload X215.here hx rfl (hb hby at_71) rfl rfl ?_
        show Steps p.tables e below (T215.setTop (mkF m 73 #[.val (.int v0), .val (.int v1), .val (.int v2), d3, .val (.int v4), .val (.int v5), .val (.int x209), .val (.ref c210), d8, d9, d10, d11, d12, d13] [(.ref c210)])) t
        refine XS.iconst X215.here hx rfl (hb hby at_73) ?_
        show Steps p.tables e below (T215.setTop (mkF m 74 #[.val (.int v0), .val (.int v1), .val (.int v2), d3, .val (.int v4), .val (.int v5), .val (.int x209), .val (.ref c210), d8, d9, d10, d11, d12, d13] [(.int (2 : Int32)), (.ref c210)])) t
        refine XS.iload X215.here hx rfl (hb hby at_74) rfl ?_
        show Steps p.tables e below (T215.setTop (mkF m 76 #[.val (.int v0), .val (.int v1), .val (.int v2), d3, .val (.int v4), .val (.int v5), .val (.int x209), .val (.ref c210), d8, d9, d10, d11, d12, d13] [(.int v4), (.int (2 : Int32)), (.ref c210)])) t
        refine XS.iadd X215.here hx rfl (hb hby at_76) rfl ?_
        show Steps p.tables e below (T215.setTop (mkF m 77 #[.val (.int v0), .val (.int v1), .val (.int v2), d3, .val (.int v4), .val (.int v5), .val (.int x209), .val (.ref c210), d8, d9, d10, d11, d12, d13] [(.int ((2 : Int32) + v4)), (.ref c210)])) t
        refine XS.iloadN X215.here hx rfl (hb hby at_77) rfl ?_
        show Steps p.tables e below (T215.setTop (mkF m 78 #[.val (.int v0), .val (.int v1), .val (.int v2), d3, .val (.int v4), .val (.int v5), .val (.int x209), .val (.ref c210), d8, d9, d10, d11, d12, d13] [(.int v2), (.int ((2 : Int32) + v4)), (.ref c210)])) t
        refine XS.i2b X215.here hx rfl (hb hby at_78) rfl ?_
        exact k
      obtain ⟨x224, hx224, hF⟩ := own_lt_e hF
      rw [← hx224]
      obtain ⟨x225, hx225, hF⟩ := own_lt_e hF
      rw [← hx225]
      obtain ⟨hi79, hF⟩ := own_ck_e hF
      obtain ⟨T226, h226, X226, e226, W226, A226_c210, st226⟩ := own_stB X215 hx hZ e215 A215_c210 hi79 (g := (mkF m 79 #[.val (.int v0), .val (.int v1), .val (.int v2), d3, .val (.int v4), .val (.int v5), .val (.int x209), .val (.ref c210), d8, d9, d10, d11, d12, d13] [(.int x224), (.int x225), (.ref c210)])) rfl rfl (hb hby at_79)
      refine own_Goes.via st226 ?_
      have z226 := Nat.le_trans z215 (Keep.of_wr W226).1
      have K226_ := K215_.wr W226 (Or.inr nE210_c210)
      have N226 := Fr.snoc X226 N215 g210_c210
      have A226_c210 : own_Ar Z h226 c210 .byte ((own_wr bs216 x225 (x224.toInt8.toInt32)).map Value.int) := A226_c210
      show own_Goes _ _ _ _ _ _ _ (T226.setTop (mkF m 80 #[.val (.int v0), .val (.int v1), .val (.int v2), d3, .val (.int v4), .val (.int v5), .val (.int x209), .val (.ref c210), d8, d9, d10, d11, d12, d13] []))
      obtain ⟨bs227, hbs227, hF⟩ := own_lt_e hF
      rw [← hbs227] at A226_c210
      exact b_law_80 cx X226 e226 N226 K226_ z226 c210 v0 v2 v4 v5 bs227 (.val (.int v1)) d3 (.val (.int x209)) d8 d9 d10 d11 d12 d13 (One.val rfl) o_d3 (One.val rfl) o_d8 o_d9 o_d10 o_d11 o_d12 o_d13 A226_c210 g210_c210 nE210_c210 _ hF
set_option maxRecDepth 65536 in
set_option maxHeartbeats 4000000 in
theorem b_law {p : Program} {l : Launch} {e : Env} {s : State} {m : MethodId} {args : Array Value} {below : List Frame} {meth : Method} {c : Code} {Z : State} {a0 : Array Value} {n0 : Nat} {hE : Heap} (cx : Cx_law p s m meth c Z a0) :
    ∀ {T : State} {locs : List Loc} {h : Heap} (X : Stand p l e room_1 s m args below meth c T locs 0 0) (eT : T.heap = h) (N : Fr n0 locs) (K : Keep hE h []) (z : n0 ≤ h.size) (v0 : Int32) (v1 : Int32) (v2 : Int32) (v3 : Int32) (r : Int32), f_law v0 v1 v2 v3 = some r → own_Goes p e below s (Q_law Z hE n0 r) 5 20 (T.setTop (mkF m 0 #[.val (.int v0), .val (.int v1), .val (.int v2), .val (.int v3), .unset, .unset, .unset, .unset, .unset, .unset, .unset, .unset, .unset, .unset] [])) := by
  have cx' := cx
  obtain ⟨hx, hZ, hw, hby, hml, hown, hret, hlk, hnm⟩ := cx'
  intro T locs h X eT N K z v0 v1 v2 v3 r hF
  unfold f_law at hF
  refine own_Goes.via (B := T.setTop (mkF m 3 #[.val (.int v0), .val (.int v1), .val (.int v2), .val (.int v3), .unset, .unset, .unset, .unset, .unset, .unset, .unset, .unset, .unset, .unset] [(.int (v3 &&& (1 : Int32)))])) (fun t k => ?_) ?_
  · show Steps p.tables e below (T.setTop (mkF m 0 #[.val (.int v0), .val (.int v1), .val (.int v2), .val (.int v3), .unset, .unset, .unset, .unset, .unset, .unset, .unset, .unset, .unset, .unset] [])) t
    refine XS.iloadN X.here hx rfl (hb hby at_0) rfl ?_
    show Steps p.tables e below (T.setTop (mkF m 1 #[.val (.int v0), .val (.int v1), .val (.int v2), .val (.int v3), .unset, .unset, .unset, .unset, .unset, .unset, .unset, .unset, .unset, .unset] [(.int v3)])) t
    refine XS.iconst X.here hx rfl (hb hby at_1) ?_
    show Steps p.tables e below (T.setTop (mkF m 2 #[.val (.int v0), .val (.int v1), .val (.int v2), .val (.int v3), .unset, .unset, .unset, .unset, .unset, .unset, .unset, .unset, .unset, .unset] [(.int (1 : Int32)), (.int v3)])) t
    refine XS.iand X.here hx rfl (hb hby at_2) rfl ?_
    exact k
  obtain ⟨x228, hx228, hF⟩ := own_lt_e hF
  rw [← hx228]
  refine own_Goes.via (B := T.setTop (mkF m 8 #[.val (.int v0), .val (.int v1), .val (.int v2), .val (.int v3), .val (.int x228), .unset, .unset, .unset, .unset, .unset, .unset, .unset, .unset, .unset] [(.int (v3 &&& (2 : Int32)))])) (fun t k => ?_) ?_
  · show Steps p.tables e below (T.setTop (mkF m 3 #[.val (.int v0), .val (.int v1), .val (.int v2), .val (.int v3), .unset, .unset, .unset, .unset, .unset, .unset, .unset, .unset, .unset, .unset] [(.int x228)])) t
    refine XS.istore X.here hx rfl (hb hby at_3) rfl (l' := #[.val (.int v0), .val (.int v1), .val (.int v2), .val (.int v3), .val (.int x228), .unset, .unset, .unset, .unset, .unset, .unset, .unset, .unset, .unset]) rfl ?_
    show Steps p.tables e below (T.setTop (mkF m 5 #[.val (.int v0), .val (.int v1), .val (.int v2), .val (.int v3), .val (.int x228), .unset, .unset, .unset, .unset, .unset, .unset, .unset, .unset, .unset] [])) t
    refine XS.iloadN X.here hx rfl (hb hby at_5) rfl ?_
    show Steps p.tables e below (T.setTop (mkF m 6 #[.val (.int v0), .val (.int v1), .val (.int v2), .val (.int v3), .val (.int x228), .unset, .unset, .unset, .unset, .unset, .unset, .unset, .unset, .unset] [(.int v3)])) t
    refine XS.iconst X.here hx rfl (hb hby at_6) ?_
    show Steps p.tables e below (T.setTop (mkF m 7 #[.val (.int v0), .val (.int v1), .val (.int v2), .val (.int v3), .val (.int x228), .unset, .unset, .unset, .unset, .unset, .unset, .unset, .unset, .unset] [(.int (2 : Int32)), (.int v3)])) t
    refine XS.iand X.here hx rfl (hb hby at_7) rfl ?_
    exact k
  by_cases hc8 : (v3 &&& (2 : Int32)) = (0 : Int32)
  · rw [if_pos hc8] at hF
    refine own_Goes.via (B := T.setTop (mkF m 32 #[.val (.int v0), .val (.int v1), .val (.int v2), .val (.int v3), .val (.int x228), .val (.int (0 : Int32)), .unset, .unset, .unset, .unset, .unset, .unset, .unset, .unset] [(.int (0 : Int32)), (.int ((2 : Int32) + x228))])) (fun t k => ?_) ?_
    · show Steps p.tables e below (T.setTop (mkF m 8 #[.val (.int v0), .val (.int v1), .val (.int v2), .val (.int v3), .val (.int x228), .unset, .unset, .unset, .unset, .unset, .unset, .unset, .unset, .unset] [(.int (v3 &&& (2 : Int32)))])) t
      refine XS.ifYes X.here hx rfl (pc0 := 8) (pc' := 15) rfl (hb hby at_8) rfl ((if0 _ _).trans (teq hc8).1) (by decide) (by decide) ?_
      show Steps p.tables e below (T.setTop (mkF m 15 #[.val (.int v0), .val (.int v1), .val (.int v2), .val (.int v3), .val (.int x228), .unset, .unset, .unset, .unset, .unset, .unset, .unset, .unset, .unset] [])) t
      refine XS.iconst X.here hx rfl (hb hby at_15) ?_
      show Steps p.tables e below (T.setTop (mkF m 16 #[.val (.int v0), .val (.int v1), .val (.int v2), .val (.int v3), .val (.int x228), .unset, .unset, .unset, .unset, .unset, .unset, .unset, .unset, .unset] [(.int (0 : Int32))])) t
      refine XS.istore X.here hx rfl (hb hby at_16) rfl (l' := #[.val (.int v0), .val (.int v1), .val (.int v2), .val (.int v3), .val (.int x228), .val (.int (0 : Int32)), .unset, .unset, .unset, .unset, .unset, .unset, .unset, .unset]) rfl ?_
      show Steps p.tables e below (T.setTop (mkF m 18 #[.val (.int v0), .val (.int v1), .val (.int v2), .val (.int v3), .val (.int x228), .val (.int (0 : Int32)), .unset, .unset, .unset, .unset, .unset, .unset, .unset, .unset] [])) t
      refine XS.iconst X.here hx rfl (hb hby at_18) ?_
      show Steps p.tables e below (T.setTop (mkF m 19 #[.val (.int v0), .val (.int v1), .val (.int v2), .val (.int v3), .val (.int x228), .val (.int (0 : Int32)), .unset, .unset, .unset, .unset, .unset, .unset, .unset, .unset] [(.int (2 : Int32))])) t
      refine XS.iload X.here hx rfl (hb hby at_19) rfl ?_
      show Steps p.tables e below (T.setTop (mkF m 21 #[.val (.int v0), .val (.int v1), .val (.int v2), .val (.int v3), .val (.int x228), .val (.int (0 : Int32)), .unset, .unset, .unset, .unset, .unset, .unset, .unset, .unset] [(.int x228), (.int (2 : Int32))])) t
      refine XS.iadd X.here hx rfl (hb hby at_21) rfl ?_
      show Steps p.tables e below (T.setTop (mkF m 22 #[.val (.int v0), .val (.int v1), .val (.int v2), .val (.int v3), .val (.int x228), .val (.int (0 : Int32)), .unset, .unset, .unset, .unset, .unset, .unset, .unset, .unset] [(.int ((2 : Int32) + x228))])) t
      refine XS.iload X.here hx rfl (hb hby at_22) rfl ?_
      show Steps p.tables e below (T.setTop (mkF m 24 #[.val (.int v0), .val (.int v1), .val (.int v2), .val (.int v3), .val (.int x228), .val (.int (0 : Int32)), .unset, .unset, .unset, .unset, .unset, .unset, .unset, .unset] [(.int (0 : Int32)), (.int ((2 : Int32) + x228))])) t
      refine XS.ifYes X.here hx rfl (pc0 := 24) (pc' := 31) rfl (hb hby at_24) rfl ((if0 _ _).trans (teq (by decide : (0 : Int32) = (0 : Int32))).1) (by decide) (by decide) ?_
      show Steps p.tables e below (T.setTop (mkF m 31 #[.val (.int v0), .val (.int v1), .val (.int v2), .val (.int v3), .val (.int x228), .val (.int (0 : Int32)), .unset, .unset, .unset, .unset, .unset, .unset, .unset, .unset] [(.int ((2 : Int32) + x228))])) t
      refine XS.iconst X.here hx rfl (hb hby at_31) ?_
      exact k
    exact b_law_32 cx X eT N K z v0 v1 v2 x228 (0 : Int32) (0 : Int32) ((2 : Int32) + x228) (.val (.int v3)) (.unset) (.unset) (.unset) (.unset) (.unset) (.unset) (.unset) (.unset) (One.val rfl) One.u One.u One.u One.u One.u One.u One.u One.u _ hF
  · rw [if_neg hc8] at hF
    refine own_Goes.via (B := T.setTop (mkF m 32 #[.val (.int v0), .val (.int v1), .val (.int v2), .val (.int v3), .val (.int x228), .val (.int (1 : Int32)), .unset, .unset, .unset, .unset, .unset, .unset, .unset, .unset] [(.int (1 : Int32)), (.int ((2 : Int32) + x228))])) (fun t k => ?_) ?_
    · show Steps p.tables e below (T.setTop (mkF m 8 #[.val (.int v0), .val (.int v1), .val (.int v2), .val (.int v3), .val (.int x228), .unset, .unset, .unset, .unset, .unset, .unset, .unset, .unset, .unset] [(.int (v3 &&& (2 : Int32)))])) t
      refine XS.ifNo X.here hx rfl (hb hby at_8) rfl ((if0 _ _).trans (feq hc8).1) ?_
      show Steps p.tables e below (T.setTop (mkF m 11 #[.val (.int v0), .val (.int v1), .val (.int v2), .val (.int v3), .val (.int x228), .unset, .unset, .unset, .unset, .unset, .unset, .unset, .unset, .unset] [])) t
      refine XS.iconst X.here hx rfl (hb hby at_11) ?_
      show Steps p.tables e below (T.setTop (mkF m 12 #[.val (.int v0), .val (.int v1), .val (.int v2), .val (.int v3), .val (.int x228), .unset, .unset, .unset, .unset, .unset, .unset, .unset, .unset, .unset] [(.int (1 : Int32))])) t
      refine XS.goto X.here hx rfl (pc0 := 12) (pc' := 16) rfl (hb hby at_12) (by decide) (by decide) ?_
      show Steps p.tables e below (T.setTop (mkF m 16 #[.val (.int v0), .val (.int v1), .val (.int v2), .val (.int v3), .val (.int x228), .unset, .unset, .unset, .unset, .unset, .unset, .unset, .unset, .unset] [(.int (1 : Int32))])) t
      refine XS.istore X.here hx rfl (hb hby at_16) rfl (l' := #[.val (.int v0), .val (.int v1), .val (.int v2), .val (.int v3), .val (.int x228), .val (.int (1 : Int32)), .unset, .unset, .unset, .unset, .unset, .unset, .unset, .unset]) rfl ?_
      show Steps p.tables e below (T.setTop (mkF m 18 #[.val (.int v0), .val (.int v1), .val (.int v2), .val (.int v3), .val (.int x228), .val (.int (1 : Int32)), .unset, .unset, .unset, .unset, .unset, .unset, .unset, .unset] [])) t
      refine XS.iconst X.here hx rfl (hb hby at_18) ?_
      show Steps p.tables e below (T.setTop (mkF m 19 #[.val (.int v0), .val (.int v1), .val (.int v2), .val (.int v3), .val (.int x228), .val (.int (1 : Int32)), .unset, .unset, .unset, .unset, .unset, .unset, .unset, .unset] [(.int (2 : Int32))])) t
      refine XS.iload X.here hx rfl (hb hby at_19) rfl ?_
      show Steps p.tables e below (T.setTop (mkF m 21 #[.val (.int v0), .val (.int v1), .val (.int v2), .val (.int v3), .val (.int x228), .val (.int (1 : Int32)), .unset, .unset, .unset, .unset, .unset, .unset, .unset, .unset] [(.int x228), (.int (2 : Int32))])) t
      refine XS.iadd X.here hx rfl (hb hby at_21) rfl ?_
      show Steps p.tables e below (T.setTop (mkF m 22 #[.val (.int v0), .val (.int v1), .val (.int v2), .val (.int v3), .val (.int x228), .val (.int (1 : Int32)), .unset, .unset, .unset, .unset, .unset, .unset, .unset, .unset] [(.int ((2 : Int32) + x228))])) t
      refine XS.iload X.here hx rfl (hb hby at_22) rfl ?_
      show Steps p.tables e below (T.setTop (mkF m 24 #[.val (.int v0), .val (.int v1), .val (.int v2), .val (.int v3), .val (.int x228), .val (.int (1 : Int32)), .unset, .unset, .unset, .unset, .unset, .unset, .unset, .unset] [(.int (1 : Int32)), (.int ((2 : Int32) + x228))])) t
      refine XS.ifNo X.here hx rfl (hb hby at_24) rfl ((if0 _ _).trans (feq (by decide : ¬ (1 : Int32) = (0 : Int32))).1) ?_
      show Steps p.tables e below (T.setTop (mkF m 27 #[.val (.int v0), .val (.int v1), .val (.int v2), .val (.int v3), .val (.int x228), .val (.int (1 : Int32)), .unset, .unset, .unset, .unset, .unset, .unset, .unset, .unset] [(.int ((2 : Int32) + x228))])) t
      refine XS.iconst X.here hx rfl (hb hby at_27) ?_
      show Steps p.tables e below (T.setTop (mkF m 28 #[.val (.int v0), .val (.int v1), .val (.int v2), .val (.int v3), .val (.int x228), .val (.int (1 : Int32)), .unset, .unset, .unset, .unset, .unset, .unset, .unset, .unset] [(.int (1 : Int32)), (.int ((2 : Int32) + x228))])) t
      refine XS.goto X.here hx rfl (pc0 := 28) (pc' := 32) rfl (hb hby at_28) (by decide) (by decide) ?_
      exact k
    exact b_law_32 cx X eT N K z v0 v1 v2 x228 (1 : Int32) (1 : Int32) ((2 : Int32) + x228) (.val (.int v3)) (.unset) (.unset) (.unset) (.unset) (.unset) (.unset) (.unset) (.unset) (One.val rfl) One.u One.u One.u One.u One.u One.u One.u One.u _ hF
theorem ef_law (m : MethodId) (x0 : Int32) (x1 : Int32) (x2 : Int32) (x3 : Int32) : entryFrame m #[(.int x0), (.int x1), (.int x2), (.int x3)] maxLocals = mkF m 0 #[.val (.int x0), .val (.int x1), .val (.int x2), .val (.int x3), .unset, .unset, .unset, .unset, .unset, .unset, .unset, .unset, .unset, .unset] [] := by first | (simp [entryFrame, mkF, argsToLocals, Value.category, maxLocals]; done) | rfl
set_option maxRecDepth 65536 in
set_option maxHeartbeats 4000000 in
theorem rm_law (l : Launch) (Z : State) (a0 : Array Value) (hw : ∀ d ∈ tables_1, d.before a0 Z = true) (ws : List Jvm.Cond) (hE : Heap) (n0 : Nat) (z : n0 ≤ hE.size)  (v0 : Int32) (v1 : Int32) (v2 : Int32) (v3 : Int32) (r : Int32) (hF : (f_law v0 v1 v2 v3) = some r) :
    MetFree l x (head1 (Jvm.Cond.code x code maxLocals ret :: ws) room_1) (fun a U => a = #[(.int v0), (.int v1), (.int v2), (.int v3)] ∧ Z.Warmed39 U.vm ∧ U.heap = hE) (fun _ _ _ _ _ => True) (fun _ U o U' => ∃ v L, o = .returned v ∧ (Q_law Z hE n0 r) v U'.heap L ∧ FrameEnd U o U' L 5 20) := by
  refine MetFree.of_bodySF (plainFor_of_name pn_com_example_keyslate_keyslate_session_TlvReaderNextTagPinLaw) hisR ?_
  intro p e s m args below meth c s₁ Bd hml0 hP hK
  obtain ⟨rfl, hZ, hh⟩ := hP
  have X0 : Stand p l e room_1 s m #[(.int v0), (.int v1), (.int v2), (.int v3)] below meth c s₁ [] 0 0 := Stand.of_body Bd
  have e0 : s₁.heap = hE := by rw [← hh, Bd.state]; rfl
  have cx : Cx_law p s m meth c Z a0 := ⟨Bd.exec, hZ, hw, Bd.bytes, hml0, findClass_of_methodNamed Bd.named, Bd.returns, Bd.notSynchronized, (name_of_methodNamed Bd.named Bd.method).1⟩
  show own_Goes p e below s (Q_law Z hE n0 r) 5 20 (s₁.setTop (entryFrame m #[(.int v0), (.int v1), (.int v2), (.int v3)] maxLocals))
  rw [ef_law]
  exact b_law cx X0 e0 (Fr.nil n0) (Keep.refl _ _) z v0 v1 v2 v3 _ hF
/-! the words of the mirrors -/
theorem own_bs {α β : Type} (x : α) (f : α → Option β) : own_bd (some x) f = f x := by unfold own_bd; exact rfl
theorem own_ls {α β : Type} (x : α) (f : α → Option β) : own_lt x f = f x := by unfold own_lt; exact rfl
theorem own_bn {α : Type} (x : Option α) : own_bd x (fun y => some y) = x := by cases x <;> exact rfl
theorem own_ct {β : Type} {P : Prop} [Decidable P] (x : Option β) (h : P) : own_ck P x = x := by unfold own_ck; exact if_pos h
/-! numbers: ints and longs as integers -/
theorem own_i1 (x : Int32) : -2147483648 ≤ x.toInt := Int32.le_toInt x
theorem own_i2 (x : Int32) : x.toInt < 2147483648 := Int32.toInt_lt x
theorem own_j1 (x : Int64) : -9223372036854775808 ≤ x.toInt := Int64.le_toInt x
theorem own_j2 (x : Int64) : x.toInt < 9223372036854775808 := Int64.toInt_lt x
theorem own_iadd {a b : Int32} (h1 : -2147483648 ≤ a.toInt + b.toInt) (h2 : a.toInt + b.toInt < 2147483648) : (a + b).toInt = a.toInt + b.toInt := by
  rw [Int32.toInt_add]; exact Int.bmod_eq_of_le (by omega) (by omega)
theorem own_isub {a b : Int32} (h1 : -2147483648 ≤ a.toInt - b.toInt) (h2 : a.toInt - b.toInt < 2147483648) : (a - b).toInt = a.toInt - b.toInt := by
  rw [Int32.toInt_sub]; exact Int.bmod_eq_of_le (by omega) (by omega)
theorem own_imul {a b : Int32} (h1 : -2147483648 ≤ a.toInt * b.toInt) (h2 : a.toInt * b.toInt < 2147483648) : (a * b).toInt = a.toInt * b.toInt := by
  rw [Int32.toInt_mul]; exact Int.bmod_eq_of_le (by omega) (by omega)
theorem own_ladd {a b : Int64} (h1 : -9223372036854775808 ≤ a.toInt + b.toInt) (h2 : a.toInt + b.toInt < 9223372036854775808) : (a + b).toInt = a.toInt + b.toInt := by
  rw [Int64.toInt_add]; exact Int.bmod_eq_of_le (by omega) (by omega)
theorem own_lsub {a b : Int64} (h1 : -9223372036854775808 ≤ a.toInt - b.toInt) (h2 : a.toInt - b.toInt < 9223372036854775808) : (a - b).toInt = a.toInt - b.toInt := by
  rw [Int64.toInt_sub]; exact Int.bmod_eq_of_le (by omega) (by omega)
theorem own_lmul {a b : Int64} (h1 : -9223372036854775808 ≤ a.toInt * b.toInt) (h2 : a.toInt * b.toInt < 9223372036854775808) : (a * b).toInt = a.toInt * b.toInt := by
  rw [Int64.toInt_mul]; exact Int.bmod_eq_of_le (by omega) (by omega)
theorem own_imask {x m : Int32} (k : Nat) (hk : k ≤ 31) (hm : m.toBitVec.toNat = 2 ^ k - 1) : (x &&& m).toInt = x.toInt % 2 ^ k := by
  have h1 : (x &&& m).toBitVec.toNat = x.toBitVec.toNat % 2 ^ k := by rw [Int32.toBitVec_and, BitVec.toNat_and, hm, Nat.and_two_pow_sub_one_eq_mod]
  have h3 : x.toBitVec.toNat % 2 ^ k < 2 ^ k := Nat.mod_lt _ (Nat.pow_pos (by decide))
  have h4 : (2 : Nat) ^ k ≤ 2 ^ 31 := Nat.pow_le_pow_right (by decide) hk
  have h2 : (x &&& m).toInt = ((x.toBitVec.toNat % 2 ^ k : Nat) : Int) := by
    show (x &&& m).toBitVec.toInt = _
    rw [BitVec.toInt_eq_toNat_of_lt (by rw [h1]; omega), h1]
  rw [h2]
  have h5 : x.toInt = x.toBitVec.toInt := rfl
  have h6 : ((2 : Int) ^ k) ∣ 4294967296 := by
    have : (4294967296 : Int) = 2 ^ k * 2 ^ (32 - k) := by rw [← Int.pow_add, show k + (32 - k) = 32 by omega]; rfl
    exact ⟨_, this⟩
  rw [h5, BitVec.toInt_eq_toNat_cond]
  split
  · exact Int.natCast_emod _ _
  · rw [Int.natCast_emod, show (((2 ^ 32 : Nat) : Int)) = 4294967296 from rfl, Int.sub_emod, Int.emod_eq_zero_of_dvd h6]; simp
theorem own_lmask {x m : Int64} (k : Nat) (hk : k ≤ 63) (hm : m.toBitVec.toNat = 2 ^ k - 1) : (x &&& m).toInt = x.toInt % 2 ^ k := by
  have h1 : (x &&& m).toBitVec.toNat = x.toBitVec.toNat % 2 ^ k := by rw [Int64.toBitVec_and, BitVec.toNat_and, hm, Nat.and_two_pow_sub_one_eq_mod]
  have h3 : x.toBitVec.toNat % 2 ^ k < 2 ^ k := Nat.mod_lt _ (Nat.pow_pos (by decide))
  have h4 : (2 : Nat) ^ k ≤ 2 ^ 63 := Nat.pow_le_pow_right (by decide) hk
  have h2 : (x &&& m).toInt = ((x.toBitVec.toNat % 2 ^ k : Nat) : Int) := by
    show (x &&& m).toBitVec.toInt = _
    rw [BitVec.toInt_eq_toNat_of_lt (by rw [h1]; omega), h1]
  rw [h2]
  have h5 : x.toInt = x.toBitVec.toInt := rfl
  have h6 : ((2 : Int) ^ k) ∣ 18446744073709551616 := by
    have : (18446744073709551616 : Int) = 2 ^ k * 2 ^ (64 - k) := by rw [← Int.pow_add, show k + (64 - k) = 64 by omega]; rfl
    exact ⟨_, this⟩
  rw [h5, BitVec.toInt_eq_toNat_cond]
  split
  · exact Int.natCast_emod _ _
  · rw [Int.natCast_emod, show (((2 ^ 64 : Nat) : Int)) = 18446744073709551616 from rfl, Int.sub_emod, Int.emod_eq_zero_of_dvd h6]; simp
theorem own_bm32 (x : Int) : x.bmod 4294967296 = (x + 2147483648) % 4294967296 - 2147483648 := by
  unfold Int.bmod; dsimp only; split <;> omega
theorem own_bm64 (x : Int) : x.bmod 18446744073709551616 = (x + 9223372036854775808) % 18446744073709551616 - 9223372036854775808 := by
  unfold Int.bmod; dsimp only; split <;> omega
theorem own_bm8 (x : Int) : x.bmod 256 = (x + 128) % 256 - 128 := by
  unfold Int.bmod; dsimp only; split <;> omega
theorem own_bm16 (x : Int) : x.bmod 65536 = (x + 32768) % 65536 - 32768 := by
  unfold Int.bmod; dsimp only; split <;> omega
theorem own_b8 (x : Int32) : x.toInt8.toInt32.toInt = (x.toInt + 128) % 256 - 128 := by rw [Int8.toInt_toInt32, Int32.toInt_toInt8]; exact own_bm8 _
theorem own_s16 (x : Int32) : x.toInt16.toInt32.toInt = (x.toInt + 32768) % 65536 - 32768 := by rw [Int16.toInt_toInt32, Int32.toInt_toInt16]; exact own_bm16 _
theorem own_l2i (x : Int64) : x.toInt32.toInt = (x.toInt + 2147483648) % 4294967296 - 2147483648 := by rw [Int64.toInt_toInt32]; exact own_bm32 _
theorem own_i2l (x : Int32) : x.toInt64.toInt = x.toInt := Int32.toInt_toInt64 x
theorem own_idiv {a b : Int32} (h1 : 0 ≤ a.toInt) (h2 : 0 < b.toInt) : (a / b).toInt = a.toInt / b.toInt := by
  rw [Int32.toInt_div_of_ne_right a b (fun q => by rw [q] at h2; exact absurd h2 (by decide)), Int.tdiv_eq_ediv_of_nonneg h1]
theorem own_ldiv {a b : Int64} (h1 : 0 ≤ a.toInt) (h2 : 0 < b.toInt) : (a / b).toInt = a.toInt / b.toInt := by
  rw [Int64.toInt_div_of_ne_right a b (fun q => by rw [q] at h2; exact absurd h2 (by decide)), Int.tdiv_eq_ediv_of_nonneg h1]
theorem own_imod {a b : Int32} (h1 : 0 ≤ a.toInt) : (a % b).toInt = a.toInt % b.toInt := by rw [Int32.toInt_mod, Int.tmod_eq_emod_of_nonneg h1]
theorem own_lmod {a b : Int64} (h1 : 0 ≤ a.toInt) : (a % b).toInt = a.toInt % b.toInt := by rw [Int64.toInt_mod, Int.tmod_eq_emod_of_nonneg h1]
theorem own_uI (x : Int32) : (x.toUInt32.toNat : Int) = x.toInt % 4294967296 := by
  have h : x.toInt = x.toBitVec.toInt := rfl
  have q : x.toUInt32.toNat = x.toBitVec.toNat := rfl
  have b := x.toBitVec.isLt
  rw [h, q, BitVec.toInt_eq_toNat_cond]
  split <;> omega
theorem own_uJ (x : Int64) : (x.toUInt64.toNat : Int) = x.toInt % 18446744073709551616 := by
  have h : x.toInt = x.toBitVec.toInt := rfl
  have q : x.toUInt64.toNat = x.toBitVec.toNat := rfl
  have b := x.toBitVec.isLt
  rw [h, q, BitVec.toInt_eq_toNat_cond]
  split <;> omega
theorem own_ofU (u : UInt32) (h : u.toNat < 2147483648) : u.toInt32.toInt = u.toNat := by
  show u.toBitVec.toInt = _
  exact BitVec.toInt_eq_toNat_of_lt (by show 2 * u.toNat < 2 ^ 32; omega)
theorem own_ofUJ (u : UInt64) (h : u.toNat < 9223372036854775808) : u.toInt64.toInt = u.toNat := by
  show u.toBitVec.toInt = _
  exact BitVec.toInt_eq_toNat_of_lt (by show 2 * u.toNat < 2 ^ 64; omega)
/-- Java's >>> on ints by a constant from 1 to 31 -/
theorem own_iushr (x s : Int32) (n : Nat) (h0 : 1 ≤ n) (hn : n < 32) (hs : (s &&& 31).toUInt32.toNat = n) : ((x.toUInt32 >>> (s &&& 31).toUInt32).toInt32).toInt = (x.toInt % 4294967296) / (2 ^ n : Nat) := by
  have e : (x.toUInt32 >>> (s &&& 31).toUInt32).toNat = x.toUInt32.toNat / 2 ^ n := by rw [UInt32.toNat_shiftRight, hs, Nat.mod_eq_of_lt hn, Nat.shiftRight_eq_div_pow]
  have b : x.toUInt32.toNat < 4294967296 := x.toUInt32.toNat_lt
  have c : x.toUInt32.toNat / 2 ^ n ≤ x.toUInt32.toNat / 2 ^ 1 := Nat.div_le_div_left (Nat.pow_le_pow_right (by decide) h0) (by decide)
  rw [own_ofU _ (by rw [e]; omega), e, Int.natCast_ediv, own_uI]
theorem own_lushr (x : Int64) (s : Int32) (n : Nat) (h0 : 1 ≤ n) (hn : n < 64) (hs : (s &&& 0x3f).toInt64.toUInt64.toNat = n) : ((x.toUInt64 >>> (s &&& 0x3f).toInt64.toUInt64).toInt64).toInt = (x.toInt % 18446744073709551616) / (2 ^ n : Nat) := by
  have e : (x.toUInt64 >>> (s &&& 0x3f).toInt64.toUInt64).toNat = x.toUInt64.toNat / 2 ^ n := by rw [UInt64.toNat_shiftRight, hs, Nat.mod_eq_of_lt hn, Nat.shiftRight_eq_div_pow]
  have b : x.toUInt64.toNat < 18446744073709551616 := x.toUInt64.toNat_lt
  have c : x.toUInt64.toNat / 2 ^ n ≤ x.toUInt64.toNat / 2 ^ 1 := Nat.div_le_div_left (Nat.pow_le_pow_right (by decide) h0) (by decide)
  rw [own_ofUJ _ (by rw [e]; omega), e, Int.natCast_ediv, own_uJ]
theorem own_ishl {x s : Int32} (n : Nat) (hs : (s.toBitVec.smod 32).toNat = n) (h0 : 0 ≤ x.toInt) (h1 : x.toInt * (2 ^ n : Nat) < 2147483648) : (x <<< s).toInt = x.toInt * (2 ^ n : Nat) := by
  have h : x.toInt = x.toBitVec.toInt := rfl
  have hx : x.toInt = x.toBitVec.toNat := by
    have b := x.toBitVec.isLt
    rw [h, BitVec.toInt_eq_toNat_cond]; rw [h, BitVec.toInt_eq_toNat_cond] at h0
    split at h0 <;> rename_i q
    · rw [if_pos q]
    · omega
  have e : (x <<< s).toBitVec.toNat = x.toBitVec.toNat * 2 ^ n := by
    rw [Int32.toBitVec_shiftLeft, BitVec.shiftLeft_eq', hs, BitVec.toNat_shiftLeft, Nat.shiftLeft_eq]
    apply Nat.mod_eq_of_lt
    rw [hx] at h1
    omega
  show (x <<< s).toBitVec.toInt = _
  rw [BitVec.toInt_eq_toNat_of_lt (by rw [e]; rw [hx] at h1; omega), e, hx]
  simp
theorem own_lshl {x s : Int64} (n : Nat) (hs : (s.toBitVec.smod 64).toNat = n) (h0 : 0 ≤ x.toInt) (h1 : x.toInt * (2 ^ n : Nat) < 9223372036854775808) : (x <<< s).toInt = x.toInt * (2 ^ n : Nat) := by
  have h : x.toInt = x.toBitVec.toInt := rfl
  have hx : x.toInt = x.toBitVec.toNat := by
    have b := x.toBitVec.isLt
    rw [h, BitVec.toInt_eq_toNat_cond]; rw [h, BitVec.toInt_eq_toNat_cond] at h0
    split at h0 <;> rename_i q
    · rw [if_pos q]
    · omega
  have e : (x <<< s).toBitVec.toNat = x.toBitVec.toNat * 2 ^ n := by
    rw [Int64.toBitVec_shiftLeft, BitVec.shiftLeft_eq', hs, BitVec.toNat_shiftLeft, Nat.shiftLeft_eq]
    apply Nat.mod_eq_of_lt
    rw [hx] at h1
    omega
  show (x <<< s).toBitVec.toInt = _
  rw [BitVec.toInt_eq_toNat_of_lt (by rw [e]; rw [hx] at h1; omega), e, hx]
  simp
theorem own_ishr (x s : Int32) (n : Nat) (hs : (s.toBitVec.smod 32).toNat = n) : (x >>> s).toInt = x.toInt / (2 ^ n : Nat) := by
  show (x >>> s).toBitVec.toInt = _
  rw [Int32.toBitVec_shiftRight, BitVec.sshiftRight', hs, BitVec.toInt_sshiftRight, Int.shiftRight_eq_div_pow]
  rfl
theorem own_lshr (x s : Int64) (n : Nat) (hs : (s.toBitVec.smod 64).toNat = n) : (x >>> s).toInt = x.toInt / (2 ^ n : Nat) := by
  show (x >>> s).toBitVec.toInt = _
  rw [Int64.toBitVec_shiftRight, BitVec.sshiftRight', hs, BitVec.toInt_sshiftRight, Int.shiftRight_eq_div_pow]
  rfl
theorem own_natbit (x k : Nat) : x &&& 2 ^ k = 0 ↔ x / 2 ^ k % 2 = 0 := by
  constructor
  · intro h
    have q : (x &&& 2 ^ k).testBit k = false := by rw [h]; exact Nat.zero_testBit k
    rw [Nat.testBit_and, Nat.testBit_two_pow_self, Bool.and_true, Nat.testBit_eq_decide_div_mod_eq] at q
    have q := of_decide_eq_false q
    omega
  · intro h
    apply Nat.eq_of_testBit_eq
    intro i
    rw [Nat.testBit_and, Nat.zero_testBit, Nat.testBit_two_pow]
    by_cases e : k = i
    · subst e
      rw [Nat.testBit_eq_decide_div_mod_eq, h]; rfl
    · simp [e]
/-- one bit of an int -/
theorem own_ibit (x m : Int32) (k : Nat) (hm : m.toBitVec.toNat = 2 ^ k) : (x &&& m = 0) ↔ x.toInt % 4294967296 / (2 ^ k : Nat) % 2 = 0 := by
  have u : (x.toBitVec.toNat : Int) = x.toInt % 4294967296 := own_uI x
  have z : (0 : Int32).toBitVec.toNat = 0 := rfl
  rw [← u, ← Int.natCast_ediv, ← Int32.toBitVec_inj, ← BitVec.toNat_inj, Int32.toBitVec_and, BitVec.toNat_and, hm, z, own_natbit]
  omega
theorem own_k0 : (0 : Int32).toNatClampNeg = 0 := by decide
theorem own_k1 : (1 : Int32).toNatClampNeg = 1 := by decide
theorem own_k2 : (2 : Int32).toNatClampNeg = 2 := by decide
theorem own_k3 : (3 : Int32).toNatClampNeg = 3 := by decide
theorem own_k4 : (4 : Int32).toNatClampNeg = 4 := by decide
theorem own_k5 : (5 : Int32).toNatClampNeg = 5 := by decide
theorem own_k6 : (6 : Int32).toNatClampNeg = 6 := by decide
theorem own_k7 : (7 : Int32).toNatClampNeg = 7 := by decide
/-- a byte, and what a property of the 256 of them says -/
theorem own_byte {P : Int32 → Prop} (h : ∀ n : Nat, n < 256 → P (Int32.ofNat n)) (x : Int32) (h1 : 0 ≤ x.toInt) (h2 : x.toInt < 256) : P x := by
  have e : x = Int32.ofNat x.toInt.toNat := by
    apply Int32.toInt_inj.mp
    rw [Int32.toInt_ofNat_of_lt (by omega)]; omega
  rw [e]; exact h _ (by omega)
theorem own_192 (x : Int32) (h1 : 0 ≤ x.toInt) (h2 : x.toInt < 256) : (x &&& 192).toInt = x.toInt / 64 * 64 :=
  own_byte (P := fun x => (x &&& 192).toInt = x.toInt / 64 * 64) (by decide +kernel) x h1 h2
/-- the or of two numbers that share no bit -/
theorem own_ior {x y : Int32} (k : Nat) (q : Int) (hq : 0 ≤ q) (hx : x.toInt = (2 ^ k : Nat) * q) (hy : 0 ≤ y.toInt) (hy2 : y.toInt < (2 ^ k : Nat)) : (x ||| y).toInt = x.toInt + y.toInt := by
  have x0 : 0 ≤ x.toInt := by rw [hx]; exact Int.mul_nonneg (Int.natCast_nonneg _) hq
  have ux := own_uI x
  have uy := own_uI y
  have x2 := own_i2 x
  have y2 := own_i2 y
  have nx : x.toUInt32.toNat = 2 ^ k * q.toNat := by
    have : ((2 ^ k * q.toNat : Nat) : Int) = (2 ^ k : Nat) * q := by rw [Int.natCast_mul, Int.toNat_of_nonneg hq]
    omega
  have e : (x ||| y).toBitVec.toNat = x.toUInt32.toNat + y.toUInt32.toNat := by
    rw [Int32.toBitVec_or, BitVec.toNat_or]
    show x.toUInt32.toNat ||| y.toUInt32.toNat = _
    rw [nx]
    exact (Nat.two_pow_add_eq_or_of_lt (by omega) _).symm
  have lt : x.toInt + y.toInt < 2147483648 := by
    by_cases k31 : k ≤ 31
    · have d : (2 ^ 31 : Nat) = 2 ^ k * 2 ^ (31 - k) := by rw [← Nat.pow_add]; congr 1; omega
      have z1 : q.toNat < 2 ^ (31 - k) := by
        apply Nat.lt_of_mul_lt_mul_left (a := 2 ^ k)
        rw [← d, ← nx]; omega
      have z2 : 2 ^ k * (q.toNat + 1) ≤ 2 ^ k * 2 ^ (31 - k) := Nat.mul_le_mul_left _ z1
      rw [← d, Nat.mul_add, ← nx] at z2
      omega
    · have z0 : q = 0 := by
        have z1 : (2 ^ 32 : Nat) ≤ 2 ^ k := Nat.pow_le_pow_right (by decide) (by omega)
        by_cases q0 : q = 0
        · exact q0
        · have z3 : (2 ^ k : Nat) * 1 ≤ ((2 ^ k : Nat) : Int) * q := Int.mul_le_mul_of_nonneg_left (by omega) (Int.natCast_nonneg _)
          omega
      rw [hx, z0]; omega
  show (x ||| y).toBitVec.toInt = _
  rw [BitVec.toInt_eq_toNat_of_lt (by rw [e]; omega), e]
  omega
/-! arrays as lists: a place read behind a write -/
theorem own_nn {i : Int32} (h : 0 ≤ i.toInt) : (i.toNatClampNeg : Int) = i.toInt := by rw [Int32.toNatClampNeg]; omega
theorem own_ib {α : Type} {bs : List α} {i : Int32} (h1 : 0 ≤ i.toInt) (h2 : i.toInt < bs.length) : own_inb bs i := by
  refine ⟨?_, ?_⟩
  · rw [Int32.lt_iff_toInt_lt]; simp only [Int32.reduceToInt]; omega
  · have := own_nn h1; omega
theorem own_ibe {α : Type} {bs : List α} {i : Int32} (h : own_inb bs i) : 0 ≤ i.toInt ∧ i.toInt < bs.length := by
  have h1 := h.1
  rw [Int32.lt_iff_toInt_lt] at h1
  simp only [Int32.reduceToInt] at h1
  have := own_nn (i := i) (by omega)
  have := h.2
  omega
theorem own_wrl {α : Type} (bs : List α) (j : Int32) (v : α) : (own_wr bs j v).length = bs.length := by rw [own_wr, List.length_set]
theorem own_rw {α : Type} [OfNat α 0] {bs : List α} {i j : Int32} (v : α) (hi : 0 ≤ i.toInt) (hj : own_inb bs j) : own_rd (own_wr bs j v) i = if i = j then v else own_rd bs i := by
  have h := own_ibe hj
  rw [own_rd, own_rd, own_wr]
  have ni := own_nn hi
  have nj := own_nn h.1
  by_cases e : i = j
  · subst e
    rw [if_pos rfl, List.getD_eq_getElem?_getD, List.getElem?_set_self (by omega)]; rfl
  · have e' : i.toInt ≠ j.toInt := fun z => e (Int32.toInt_inj.mp z)
    rw [if_neg e, List.getD_eq_getElem?_getD, List.getElem?_set_ne (by omega), List.getD_eq_getElem?_getD]
theorem own_rw1 {α : Type} [OfNat α 0] {bs : List α} {j : Int32} (v : α) (hj : own_inb bs j) : own_rd (own_wr bs j v) j = v := by rw [own_rw v (own_ibe hj).1 hj, if_pos rfl]
theorem own_rw2 {α : Type} [OfNat α 0] {bs : List α} {i j : Int32} (v : α) (hi : 0 ≤ i.toInt) (hj : own_inb bs j) (h : i.toInt ≠ j.toInt) : own_rd (own_wr bs j v) i = own_rd bs i := by
  rw [own_rw v hi hj, if_neg fun z => h (by rw [z])]
theorem own_rrep {α : Type} [OfNat α 0] (n : Nat) (v : α) {i : Int32} (h : i.toNatClampNeg < n) : own_rd (List.replicate n v) i = v := by
  rw [own_rd, List.getD_eq_getElem?_getD, List.getElem?_replicate, if_pos h]; rfl
theorem own_n8i (x : Int32) : x.toInt8.toInt32.toInt8.toInt32 = x.toInt8.toInt32 := by
  rw [← Int32.toInt_inj, own_b8, own_b8]; omega
theorem own_iadd1 (a : Int32) (k : Int32) (h1 : -2147483648 ≤ a.toInt + k.toInt) (h2 : a.toInt + k.toInt < 2147483648) : (a + k).toInt = a.toInt + k.toInt := own_iadd h1 h2
theorem own_m8 (r : Int32) : (r &&& 255).toInt = r.toInt % 256 := own_imask 8 (by decide) (by decide)
theorem own_mod (x : Int32) : ∃ k, f_TlvReaderNextTagPinLaw_mod256 x = some k ∧ k.toInt = x.toInt % 256 := by
  have l : (256 : Int32).toInt = 256 := rfl
  have z : (0 : Int32).toInt = 0 := rfl
  have e : (x % 256).toInt = x.toInt.tmod 256 := by rw [Int32.toInt_mod, l]
  have b1 := Int.tmod_add_mul_tdiv x.toInt 256
  have b2 : x.toInt.tmod 256 < 256 := by
    have := Int.tmod_lt_of_pos x.toInt (b := 256) (by decide)
    omega
  have b3 : -256 < x.toInt.tmod 256 := by
    have := Int.lt_tmod_of_pos x.toInt (b := 256) (by decide)
    omega
  unfold f_TlvReaderNextTagPinLaw_mod256
  rw [own_ls]
  split
  · rename_i h
    rw [Int32.lt_iff_toInt_lt, e, z] at h
    rw [own_ls]
    refine ⟨_, rfl, ?_⟩
    rw [own_iadd (by rw [e, l]; omega) (by rw [e, l]; omega), e, l]; omega
  · rename_i h
    rw [Int32.lt_iff_toInt_lt, e, z] at h
    refine ⟨_, rfl, ?_⟩
    rw [e]; omega
theorem own_sn (i : Nat) (h : i < 1000) : (Int32.ofNat i).toInt = i := Int32.toInt_ofNat_of_lt (by omega)
theorem own_szn (bs : List Int32) : own_sz bs = Int32.ofNat bs.length := rfl
theorem own_sc (i : Nat) (h : i < 1000) : (Int32.ofNat i).toNatClampNeg = i := by
  have := own_sn i h
  rw [Int32.toNatClampNeg, this]; omega
theorem own_tag (L : List Int32) (i : Nat) (hL : L.length < 100) (hi : i < L.length) : f_TlvReader_nextTag (Int32.ofNat i) L = some (own_rd L (Int32.ofNat i) &&& 255) := by
  unfold f_TlvReader_nextTag
  rw [own_szn, if_pos (by rw [Int32.lt_iff_toInt_lt, own_sn i (by omega), own_sn _ (by omega)]; omega), own_ct _ (own_ib (by rw [own_sn i (by omega)]; omega) (by rw [own_sn i (by omega)]; omega))]
theorem own_tagn (L : List Int32) (i : Nat) (hL : L.length < 100) (hi : L.length ≤ i) (h1 : i < 100) : f_TlvReader_nextTag (Int32.ofNat i) L = some (-1) := by
  unfold f_TlvReader_nextTag
  rw [own_szn, if_neg (by rw [Int32.lt_iff_toInt_lt, own_sn i (by omega), own_sn _ (by omega)]; omega)]
theorem own_len1 (L : List Int32) (i : Nat) (t o : Int32) (hL : L.length < 100) (hi : i < L.length) : f_TlvReader_lengthByte (Int32.ofNat i) t o L = some (own_rd L (Int32.ofNat i) &&& 255) := by
  unfold f_TlvReader_lengthByte
  rw [own_szn, if_pos (by rw [Int32.lt_iff_toInt_lt, own_sn i (by omega), own_sn _ (by omega)]; omega), own_ct _ (own_ib (by rw [own_sn i (by omega)]; omega) (by rw [own_sn i (by omega)]; omega))]
/-- the law's end over a list of its form -/
theorem own_80 (a c ex : Int32) (l x : Nat) (L : List Int32) (hl : l ≤ 1) (hN : L.length = 2 + l + x) (hx : x ≤ 1) (he : (ex = 0 ∧ x = 0) ∨ (¬ ex = 0 ∧ x = 1 ∧ (own_rd L (Int32.ofNat (2 + l))).toInt % 256 = c.toInt % 256))
    (h0 : (own_rd L (Int32.ofNat 0)).toInt % 256 = a.toInt % 256) (h1 : own_rd L (Int32.ofNat 1) &&& 255 = Int32.ofNat l) : f_law_80 a c (Int32.ofNat l) ex L = some 1 := by
  obtain ⟨ka, hka, gka⟩ := own_mod a
  obtain ⟨kc, hkc, gkc⟩ := own_mod c
  have t0 := own_tag L 0 (by omega) (by omega)
  have e0 : own_rd L (Int32.ofNat 0) &&& 255 = ka := by rw [← Int32.toInt_inj, own_m8, h0, gka]
  rw [e0] at t0
  have p1 : (0 : Int32) + 1 = Int32.ofNat 1 := by decide
  have p2 : (0 : Int32) + 2 = Int32.ofNat 2 := by decide
  have p3 : Int32.ofNat 2 + Int32.ofNat l = Int32.ofNat (2 + l) := (Int32.ofNat_add 2 l).symm
  have rd : f_TlvReader_read ka 0 L = some (Int32.ofNat (2 + l), own_cp L (List.replicate l 0) (Int32.ofNat 2) 0 (Int32.ofNat l)) := by
    unfold f_TlvReader_read
    rw [show f_TlvReader_nextTag 0 L = some ka from t0, own_bs, if_pos rfl, own_ls, own_ls, p1, p2, own_len1 L 1 _ _ (by omega) (by omega), own_bs, h1]
    rw [if_neg (by rw [← Int32.toInt_inj, own_sn l (by omega)]; simp only [Int32.reduceToInt]; omega), if_neg (by rw [Int32.lt_iff_toInt_lt, own_sn l (by omega)]; simp only [Int32.reduceToInt]; omega)]
    unfold f_TlvReader_read_101
    rw [p3, own_szn, if_neg (by rw [Int32.lt_iff_toInt_lt, own_sn _ (by omega), own_sn _ (by omega)]; omega)]
    rw [own_ct _ ⟨by rw [Int32.lt_iff_toInt_lt, own_sn l (by omega)]; simp only [Int32.reduceToInt]; omega, by rw [own_sc l (by omega)]; omega⟩]
    rw [own_ct _ ⟨by decide, by decide, by rw [Int32.lt_iff_toInt_lt, own_sn l (by omega)]; simp only [Int32.reduceToInt]; omega, by rw [own_sc l (by omega), own_sc 2 (by omega)]; omega, by rw [List.length_replicate, own_k0]; omega⟩, own_ls, own_ls, own_sc l (by omega)]
  have cl : (own_cp L (List.replicate l 0) (Int32.ofNat 2) 0 (Int32.ofNat l)).length = l := by
    rw [own_cp, own_sc l (by omega), own_k0]
    simp only [List.length_append, List.length_take, List.length_map, List.length_range, List.length_drop, List.length_replicate]
    omega
  unfold f_law_80 f_TlvReader_mk
  rw [own_bs, show f_TlvReader_nextTag 0 [] = some (-1) from own_tagn [] 0 (by decide) (by decide) (by decide), own_bs, if_pos rfl, own_bs, show f_TlvReader_nextTag 0 L = some ka from t0, own_bs, hka, own_bs, if_pos rfl, own_bs, if_pos rfl, rd, own_bs]
  dsimp only
  rw [own_szn, cl, if_pos rfl]
  rcases he with ⟨q1, q2⟩ | ⟨q1, q2, q3⟩
  · rw [own_tagn L (2 + l) (by omega) (by omega) (by omega), own_bs, if_pos q1, if_pos rfl]
  · rw [own_tag L (2 + l) (by omega) (by omega), own_bs, if_neg q1, hkc, own_bs, if_pos]
    rw [← Int32.toInt_inj, own_m8, q3, gkc]
theorem own_lit0 : (0 : Int32) &&& 255 = Int32.ofNat 0 := by decide
theorem own_lit1 : (1 : Int32) &&& 255 = Int32.ofNat 1 := by decide
theorem own_law (a b c m : Int32) : f_law a b c m = some 1 := by
  have n8 : ∀ x : Int32, (x.toInt8.toInt32.toInt8.toInt32).toInt % 256 = x.toInt % 256 := fun x => by rw [own_b8, own_b8]; omega
  have m1 : (m &&& (1 : Int32)).toInt = m.toInt % 2 ^ 1 := own_imask 1 (by decide) (by decide)
  have ha : m &&& 1 = 0 ∨ m &&& 1 = 1 := by
    simp only [← Int32.toInt_inj, m1, Int32.reduceToInt]; omega
  have k2 : ((2 : Int32) + 0 + 0).toNatClampNeg = 2 := by decide
  have k3 : ((2 : Int32) + 0 + 1).toNatClampNeg = 3 := by decide
  have k3' : ((2 : Int32) + 1 + 0).toNatClampNeg = 3 := by decide
  have k4 : ((2 : Int32) + 1 + 1).toNatClampNeg = 4 := by decide
  have e0 : (0 : Int32).toInt8.toInt32.toInt8.toInt32 = 0 := by decide
  have e1 : (1 : Int32).toInt8.toInt32.toInt8.toInt32 = 1 := by decide
  have z2 : (2 : Int32) + 0 = 2 := by decide
  have z3 : (2 : Int32) + 1 = 3 := by decide
  have r2 : List.replicate 2 (0 : Int32) = [0, 0] := rfl
  have r3 : List.replicate 3 (0 : Int32) = [0, 0, 0] := rfl
  have r4 : List.replicate 4 (0 : Int32) = [0, 0, 0, 0] := rfl
  unfold f_law f_law_32
  rw [own_ls]
  rcases ha with h | h
  · rw [h]
    split
    · rw [own_ls, own_ct _ ⟨by decide, by decide⟩, own_ls, k2, r2, own_ct _ (own_ib (by decide) (by decide)), own_ls, own_ls, e0, own_ct _ (own_ib (by decide) (by rw [own_wrl]; decide)), own_ls, if_neg (by decide), if_pos rfl, own_wr, own_wr, own_k0, own_k1]
      exact own_80 a c 0 0 0 [a.toInt8.toInt32.toInt8.toInt32, 0] (by decide) rfl (by decide) (Or.inl ⟨rfl, rfl⟩) (by rw [own_rd, own_sc 0 (by decide)]; exact n8 a) (by rw [own_rd, own_sc 1 (by decide)]; exact own_lit0)
    · rw [own_ls, own_ct _ ⟨by decide, by decide⟩, own_ls, k3, r3, own_ct _ (own_ib (by decide) (by decide)), own_ls, own_ls, e0, own_ct _ (own_ib (by decide) (by rw [own_wrl]; decide)), own_ls, if_neg (by decide), if_neg (by decide), own_ls, own_ls, z2, own_ct _ (own_ib (by decide) (by rw [own_wrl, own_wrl]; decide)), own_ls, own_wr, own_wr, own_wr, own_k0, own_k1, own_k2]
      exact own_80 a c 1 0 1 [a.toInt8.toInt32.toInt8.toInt32, 0, c.toInt8.toInt32.toInt8.toInt32] (by decide) rfl (by decide) (Or.inr ⟨by decide, rfl, by rw [own_rd, own_sc 2 (by decide)]; exact n8 c⟩) (by rw [own_rd, own_sc 0 (by decide)]; exact n8 a) (by rw [own_rd, own_sc 1 (by decide)]; exact own_lit0)
  · rw [h]
    split
    · rw [own_ls, own_ct _ ⟨by decide, by decide⟩, own_ls, k3', r3, own_ct _ (own_ib (by decide) (by decide)), own_ls, own_ls, e1, own_ct _ (own_ib (by decide) (by rw [own_wrl]; decide)), own_ls, if_pos rfl, own_ls, own_ct _ (own_ib (by decide) (by rw [own_wrl, own_wrl]; decide)), own_ls, if_pos rfl, own_wr, own_wr, own_wr, own_k0, own_k1, own_k2]
      exact own_80 a c 0 1 0 [a.toInt8.toInt32.toInt8.toInt32, 1, b.toInt8.toInt32.toInt8.toInt32] (by decide) rfl (by decide) (Or.inl ⟨rfl, rfl⟩) (by rw [own_rd, own_sc 0 (by decide)]; exact n8 a) (by rw [own_rd, own_sc 1 (by decide)]; exact own_lit1)
    · rw [own_ls, own_ct _ ⟨by decide, by decide⟩, own_ls, k4, r4, own_ct _ (own_ib (by decide) (by decide)), own_ls, own_ls, e1, own_ct _ (own_ib (by decide) (by rw [own_wrl]; decide)), own_ls, if_pos rfl, own_ls, own_ct _ (own_ib (by decide) (by rw [own_wrl, own_wrl]; decide)), own_ls, if_neg (by decide), own_ls, own_ls, z3, own_ct _ (own_ib (by decide) (by rw [own_wrl, own_wrl, own_wrl]; decide)), own_ls, own_wr, own_wr, own_wr, own_wr, own_k0, own_k1, own_k2, own_k3]
      exact own_80 a c 1 1 1 [a.toInt8.toInt32.toInt8.toInt32, 1, b.toInt8.toInt32.toInt8.toInt32, c.toInt8.toInt32.toInt8.toInt32] (by decide) rfl (by decide) (Or.inr ⟨by decide, rfl, by rw [own_rd, own_sc 3 (by decide)]; exact n8 c⟩) (by rw [own_rd, own_sc 0 (by decide)]; exact n8 a) (by rw [own_rd, own_sc 1 (by decide)]; exact own_lit1)

set_option maxRecDepth 65536 in
set_option maxHeartbeats 4000000 in
theorem comes_1 {Post : Tables → Env → Array Value → State → Outcome → State → Prop} (hpost : ∀ tb e args s v u, (limb_1_1.after args s (.returned v) u = true ∧ limb_1_2.after args s (.returned v) u = true ∧ True) → FrameEnd s (.returned v) u (Jvm.fieldLocs frame_1_writes args s ++ Jvm.arrayLocs frame_1_arrays args s ++ Jvm.staticLocs frame_1_statics s) 24 128 → Post tb e args s (.returned v) u) :
    ArmFor flags0 classFile x code maxLocals ret World_1 tables_1 room_1 Calls_1 rest_1 Pre_1 Post := by
  intro l hfl _ _ p e ha hc hk s m args below hf hA hF happ hP
  obtain ⟨hcalls, hrest, hpre⟩ := hP
  obtain ⟨-, -, -, hnamed, -, -, -, hat⟩ := (Spec.applies_iff hf).mp happ
  obtain ⟨hg, hn⟩ := and_e (Cond.before_iff.mp (show (Jvm.Cond.and given_1 narrow_1).before args s = true from hpre))
  obtain ⟨gc, g0⟩ := and_e hg
  obtain ⟨ga0, g1⟩ := and_e g0
  obtain ⟨ga1, g2⟩ := and_e g1
  obtain ⟨ga2, g3⟩ := and_e g2
  have ga3 := g3
  obtain ⟨w0, w1, w2, w3, rfl⟩ : ∃ w0 w1 w2 w3 : Value, args = #[w0, w1, w2, w3] := by
    have hs : args.size = 4 := by simpa [Cond.value, given_1] using gc
    obtain ⟨L⟩ := args
    match L, hs with
    | [w0, w1, w2, w3], _ => exact ⟨w0, w1, w2, w3, rfl⟩
  have hw := fun d (hd : d ∈ tables_1) => atoms_spec (ws := Jvm.Cond.code x code maxLocals ret :: tables_1) hat d (List.mem_cons_of_mem _ hd)
  obtain ⟨i0, ei0⟩ := is_v ga0
  obtain rfl : w0 = (.int i0) := Option.some.inj ei0
  obtain ⟨i1, ei1⟩ := is_v ga1
  obtain rfl : w1 = (.int i1) := Option.some.inj ei1
  obtain ⟨i2, ei2⟩ := is_v ga2
  obtain rfl : w2 = (.int i2) := Option.some.inj ei2
  obtain ⟨i3, ei3⟩ := is_v ga3
  obtain rfl : w3 = (.int i3) := Option.some.inj ei3
  obtain ⟨n, o, h1, h2, h3, _, L, rfl, hQ, hq⟩ := rm_law l s _ hw tables_1 s.heap s.heap.size (Nat.le_refl _) i0 i1 i2 i3 1 (own_law i0 i1 i2 i3) p e ha hc hk s m _ below hf ((Spec.applies_iff_loose hf).mp happ).1 ⟨rfl, State.Warmed39.refl s, rfl⟩ trivial
  obtain ⟨rfl, N, -⟩ := hQ
  refine ⟨n, _, h1, h2, h3, hpost _ _ _ _ _ _ ⟨Cond.after_iff.mpr rfl, Cond.after_iff.mpr (eq_i res_at (Term.int_eval (1)) rfl), trivial⟩ ⟨hq.1, hq.2.1, (hq.2.2.sift fun y hy => Or.inr (N y hy)).mono (by decide) (by decide)⟩⟩
theorem main_1_1 : Claimed_1_1 := comes_1 fun _ _ _ _ _ _ h hF => ⟨h.1, hF⟩
theorem main_1_2 : Claimed_1_2 := comes_1 fun _ _ _ _ _ _ h hF => ⟨h.2.1, hF⟩
end Jvm.Pilot.@@N@@
namespace Jvm.Pilot.@@N@@
open Jvm Jvm.ClassFile Sem Op Lib Jvm.Free Jvm.Stand Jvm.Pilot.@@N@@.Jvm.D
/-! MADE BY PROGRAM (witnessworld.py) out of the Statement's table words and the real class files: 10 classes; the members and pool entries that the words name. The judged class is class 1, her method 2. -/
namespace start1
open Jvm.ClassFile
def u (s : String) : CpInfo := .utf8 (stringToUtf16 s)
/-- a pool by its gaps: so many unusable entries, then the entry; so many at the end -/
def gap : Nat → List CpInfo → List CpInfo
  | 0, r => r
  | n + 1, r => .unusable :: gap n r
def poolList (es : List (Nat × CpInfo)) (last : Nat) : List CpInfo := es.foldr (fun e r => gap e.1 (e.2 :: r)) (gap last [])
def pool (es : List (Nat × CpInfo)) (last : Nat) : Array CpInfo := ⟨poolList es last⟩
def fileOf (pool : Array CpInfo) (this : Nat) (attrs : Array Attribute := #[]) (ms : Array MethodInfo := #[]) (fl : Nat := 33) (sup : Nat := 0) (ifs : Array Nat := #[]) (fds : Array FieldInfo := #[]) : ClassFile where
  minorVersion := 0
  majorVersion := 65
  constantPool := pool
  accessFlags := fl
  thisClass := this
  superClass := sup
  interfaces := ifs
  fields := fds
  methods := ms
  attributes := attrs
def plain (name : String) (sup : Option ClassId) : Class where
  name := name
  kind := .ordinary
  loader := none
  accessFlags := 33
  super := sup
  interfaces := #[]
  cf := none
  fields := #[]
  methods := #[]
  instanceTypes := #[]
  staticTypes := #[]
  resolved := #[]
  callSites := []
  init := .initialized
  statics := none
  mirror := none

def pool0 : Array CpInfo := pool [(5, u "<init>"), (0, u "()V"), (1, .class_ 10), (1, u "java/lang/Object")] 113

def k0c0 : Code := { maxStack := 0, maxLocals := 1, code := object_method_1_code, exceptionTable := #[], attributes := #[] }
def k0m0 : Method := { name := "<init>", desc := "()V", sig := { parameters := [], returnType := none }, accessFlags := 1, code := some k0c0 }
/-- java/lang/Object -/
def k0 : Class := { plain "java/lang/Object" none with
  accessFlags := 33
  interfaces := #[]
  cf := some (fileOf pool0 8 #[] #[{ accessFlags := 1, nameIndex := 5, descriptorIndex := 6, attributes := #[] }] 33 0 #[] #[])
  fields := #[]
  methods := #[k0m0]
  instanceTypes := #[]
  staticTypes := #[]
  resolved := Array.replicate 124 none
  statics := none }

def pool1 : Array CpInfo := pool [(2, .class_ 4), (1, u "java/lang/Object"), (0, u "<init>"), (0, u "()V"), (0, .class_ 8), (0, u "com/example/keyslate/keyslate/session/TlvReader"), (0, .methodref 7 10), (0, .nameAndType 5 11), (0, u "([B)V"), (0, .methodref 7 13), (0, .nameAndType 14 15), (0, u "nextTag"), (0, u "()I"), (0, .methodref 17 18), (0, .class_ 19), (0, .nameAndType 20 21), (0, u "com/example/keyslate/keyslate/session/TlvReaderNextTagPinLaw"), (0, u "mod256"), (0, u "(I)I"), (0, .methodref 7 23), (0, .nameAndType 24 25), (0, u "read"), (0, u "(I)[B"), (3, u "law"), (0, u "(IIII)Z")] 4

def k1m0 : Method := { name := "<init>", desc := "()V", sig := { parameters := [], returnType := none }, accessFlags := 2, code := none }
def k1c1 : Code := { maxStack := 2, maxLocals := 2, code := method_2_code, exceptionTable := #[], attributes := #[] }
def k1m1 : Method := { name := "mod256", desc := "(I)I", sig := { parameters := [.int], returnType := some .int }, accessFlags := 10, code := some k1c1 }
def k1c2 : Code := { maxStack := 3, maxLocals := 14, code := code, exceptionTable := #[], attributes := #[] }
def k1m2 : Method := { name := "law", desc := "(IIII)Z", sig := { parameters := [.int, .int, .int, .int], returnType := some .boolean }, accessFlags := 9, code := some k1c2 }
/-- com/example/keyslate/keyslate/session/TlvReaderNextTagPinLaw -/
def k1 : Class := { plain "com/example/keyslate/keyslate/session/TlvReaderNextTagPinLaw" (some 0) with
  accessFlags := 49
  interfaces := #[]
  cf := some (fileOf pool1 17 #[] #[{ accessFlags := 2, nameIndex := 5, descriptorIndex := 6, attributes := #[] }, { accessFlags := 10, nameIndex := 20, descriptorIndex := 21, attributes := #[] }, { accessFlags := 9, nameIndex := 29, descriptorIndex := 30, attributes := #[] }] 49 2 #[] #[])
  fields := #[]
  methods := #[k1m0, k1m1, k1m2]
  instanceTypes := #[]
  staticTypes := #[]
  resolved := Array.replicate 35 none
  statics := none }

def pool2 : Array CpInfo := pool [(1, .methodref 2 3), (0, .class_ 4), (0, .nameAndType 5 6), (0, u "java/lang/Object"), (0, u "<init>"), (0, u "()V"), (0, .fieldref 8 9), (0, .class_ 10), (0, .nameAndType 11 12), (0, u "com/example/keyslate/keyslate/session/TlvReader"), (0, u "data"), (0, u "[B"), (0, .fieldref 8 14), (0, .nameAndType 15 16), (0, u "offset"), (0, u "I"), (0, .methodref 8 18), (0, .nameAndType 19 20), (0, u "nextTag"), (0, u "()I"), (19, .methodref 8 41), (0, .nameAndType 42 43), (0, u "lengthByte"), (0, u "(II)I"), (4, .methodref 49 50), (0, .class_ 51), (0, .nameAndType 52 53), (0, u "java/lang/System"), (0, u "arraycopy"), (0, u "(Ljava/lang/Object;ILjava/lang/Object;II)V"), (2, u "read"), (0, u "(I)[B"), (6, u "LENGTH_IN_NEXT_BYTE"), (2, u "MAX_ONE_BYTE_LENGTH"), (1, u "([B)V")] 8

def k2c0 : Code := { maxStack := 2, maxLocals := 2, code := prog_12_method_1_code, exceptionTable := #[], attributes := #[] }
def k2m0 : Method := { name := "<init>", desc := "([B)V", sig := { parameters := [(.array .byte)], returnType := none }, accessFlags := 1, code := some k2c0 }
def k2c1 : Code := { maxStack := 2, maxLocals := 1, code := prog_12_method_2_code, exceptionTable := #[], attributes := #[] }
def k2m1 : Method := { name := "nextTag", desc := "()I", sig := { parameters := [], returnType := some .int }, accessFlags := 1, code := some k2c1 }
def k2c2 : Code := { maxStack := 7, maxLocals := 5, code := prog_12_method_3_code, exceptionTable := #[], attributes := #[] }
def k2m2 : Method := { name := "read", desc := "(I)[B", sig := { parameters := [.int], returnType := some (.array .byte) }, accessFlags := 1, code := some k2c2 }
def k2c3 : Code := { maxStack := 7, maxLocals := 3, code := prog_12_method_6_code, exceptionTable := #[], attributes := #[] }
def k2m3 : Method := { name := "lengthByte", desc := "(II)I", sig := { parameters := [.int, .int], returnType := some .int }, accessFlags := 2, code := some k2c3 }
/-- com/example/keyslate/keyslate/session/TlvReader -/
def k2 : Class := { plain "com/example/keyslate/keyslate/session/TlvReader" (some 0) with
  accessFlags := 49
  interfaces := #[]
  cf := some (fileOf pool2 8 #[] #[{ accessFlags := 1, nameIndex := 5, descriptorIndex := 69, attributes := #[] }, { accessFlags := 1, nameIndex := 19, descriptorIndex := 20, attributes := #[] }, { accessFlags := 1, nameIndex := 56, descriptorIndex := 57, attributes := #[] }, { accessFlags := 2, nameIndex := 42, descriptorIndex := 43, attributes := #[] }] 49 2 #[] #[{ accessFlags := 26, nameIndex := 64, descriptorIndex := 16, attributes := #[] }, { accessFlags := 26, nameIndex := 67, descriptorIndex := 16, attributes := #[] }, { accessFlags := 18, nameIndex := 11, descriptorIndex := 12, attributes := #[] }, { accessFlags := 2, nameIndex := 15, descriptorIndex := 16, attributes := #[] }])
  fields := #[{ name := "LENGTH_IN_NEXT_BYTE", type := .int, accessFlags := 26, slot := 0, constantValue := 0 }, { name := "MAX_ONE_BYTE_LENGTH", type := .int, accessFlags := 26, slot := 1, constantValue := 0 }, { name := "data", type := (.array .byte), accessFlags := 18, slot := 0, constantValue := 0 }, { name := "offset", type := .int, accessFlags := 2, slot := 1, constantValue := 0 }]
  methods := #[k2m0, k2m1, k2m2, k2m3]
  instanceTypes := #[(.array .byte), .int]
  staticTypes := #[.int, .int]
  resolved := Array.replicate 78 none
  statics := none }

def pool3 : Array CpInfo := pool [(2, .class_ 4), (1, u "java/lang/Object"), (0, u "<init>"), (0, u "()V"), (1, .class_ 10), (1, u "java/lang/System"), (0, u "allowSecurityManager"), (0, u "I"), (16, u "cons"), (0, u "Ljava/io/Console;"), (77, .class_ 110), (1, u "java/lang/System$CallersHolder"), (43, u "initialErrStream"), (0, u "Ljava/io/PrintStream;"), (19, u "security"), (0, u "Ljava/lang/SecurityManager;"), (31, .class_ 209), (0, u "java/lang/System$1"), (7, u "props"), (0, u "Ljava/util/Properties;"), (2, u "lineSeparator"), (0, u "Ljava/lang/String;"), (96, .class_ 321), (1, u "java/lang/System$LoggerFinder"), (5, .class_ 328), (0, u "java/lang/System$Logger"), (67, u "err"), (2, u "out"), (91, u "notSupportedJnuEncoding"), (15, u "in"), (17, u "initialIn"), (0, u "Ljava/io/InputStream;"), (35, u "bootLayer"), (0, u "Ljava/lang/ModuleLayer;"), (99, .class_ 664), (0, u "java/lang/System$2"), (9, u "NEVER"), (2, u "MAYBE"), (49, u "arraycopy"), (0, u "(Ljava/lang/Object;ILjava/lang/Object;II)V"), (72, .class_ 802), (0, u "java/lang/System$Logger$Level")] 31

def k3m0 : Method := { name := "<init>", desc := "()V", sig := { parameters := [], returnType := none }, accessFlags := 2, code := none }
def k3m1 : Method := { name := "arraycopy", desc := "(Ljava/lang/Object;ILjava/lang/Object;II)V", sig := { parameters := [(.object "java/lang/Object"), .int, (.object "java/lang/Object"), .int, .int], returnType := none }, accessFlags := 265, code := none }
/-- java/lang/System -/
def k3 : Class := { plain "java/lang/System" (some 0) with
  accessFlags := 49
  interfaces := #[]
  cf := some (fileOf pool3 8 #[.nestMembers #[319, 327, 801, 108, 663, 208]] #[{ accessFlags := 2, nameIndex := 5, descriptorIndex := 6, attributes := #[] }, { accessFlags := 265, nameIndex := 727, descriptorIndex := 728, attributes := #[] }] 49 2 #[] #[{ accessFlags := 25, nameIndex := 507, descriptorIndex := 526, attributes := #[] }, { accessFlags := 25, nameIndex := 399, descriptorIndex := 155, attributes := #[] }, { accessFlags := 25, nameIndex := 396, descriptorIndex := 155, attributes := #[] }, { accessFlags := 10, nameIndex := 525, descriptorIndex := 526, attributes := #[] }, { accessFlags := 26, nameIndex := 674, descriptorIndex := 12, attributes := #[] }, { accessFlags := 26, nameIndex := 677, descriptorIndex := 12, attributes := #[] }, { accessFlags := 10, nameIndex := 11, descriptorIndex := 12, attributes := #[] }, { accessFlags := 74, nameIndex := 175, descriptorIndex := 176, attributes := #[] }, { accessFlags := 10, nameIndex := 491, descriptorIndex := 222, attributes := #[] }, { accessFlags := 74, nameIndex := 29, descriptorIndex := 30, attributes := #[] }, { accessFlags := 74, nameIndex := 154, descriptorIndex := 155, attributes := #[] }, { accessFlags := 10, nameIndex := 217, descriptorIndex := 218, attributes := #[] }, { accessFlags := 10, nameIndex := 221, descriptorIndex := 222, attributes := #[] }, { accessFlags := 8, nameIndex := 562, descriptorIndex := 563, attributes := #[] }])
  fields := #[{ name := "in", type := (.object "java/io/InputStream"), accessFlags := 25, slot := 0, constantValue := 0 }, { name := "out", type := (.object "java/io/PrintStream"), accessFlags := 25, slot := 1, constantValue := 0 }, { name := "err", type := (.object "java/io/PrintStream"), accessFlags := 25, slot := 2, constantValue := 0 }, { name := "initialIn", type := (.object "java/io/InputStream"), accessFlags := 10, slot := 3, constantValue := 0 }, { name := "NEVER", type := .int, accessFlags := 26, slot := 4, constantValue := 0 }, { name := "MAYBE", type := .int, accessFlags := 26, slot := 5, constantValue := 0 }, { name := "allowSecurityManager", type := .int, accessFlags := 10, slot := 6, constantValue := 0 }, { name := "security", type := (.object "java/lang/SecurityManager"), accessFlags := 74, slot := 7, constantValue := 0 }, { name := "notSupportedJnuEncoding", type := (.object "java/lang/String"), accessFlags := 10, slot := 8, constantValue := 0 }, { name := "cons", type := (.object "java/io/Console"), accessFlags := 74, slot := 9, constantValue := 0 }, { name := "initialErrStream", type := (.object "java/io/PrintStream"), accessFlags := 74, slot := 10, constantValue := 0 }, { name := "props", type := (.object "java/util/Properties"), accessFlags := 10, slot := 11, constantValue := 0 }, { name := "lineSeparator", type := (.object "java/lang/String"), accessFlags := 10, slot := 12, constantValue := 0 }, { name := "bootLayer", type := (.object "java/lang/ModuleLayer"), accessFlags := 8, slot := 13, constantValue := 0 }]
  methods := #[k3m0, k3m1]
  instanceTypes := #[]
  staticTypes := #[(.object "java/io/InputStream"), (.object "java/io/PrintStream"), (.object "java/io/PrintStream"), (.object "java/io/InputStream"), .int, .int, .int, (.object "java/lang/SecurityManager"), (.object "java/lang/String"), (.object "java/io/Console"), (.object "java/io/PrintStream"), (.object "java/util/Properties"), (.object "java/lang/String"), (.object "java/lang/ModuleLayer")]
  resolved := Array.replicate 834 none
  statics := none }

def pool4 : Array CpInfo := pool [(1, u "java/lang/Cloneable"), (0, .class_ 1), (0, u "java/lang/Object"), (0, .class_ 3)] 3

/-- java/lang/Cloneable -/
def k4 : Class := { plain "java/lang/Cloneable" (some 0) with
  accessFlags := 1537
  interfaces := #[]
  cf := some (fileOf pool4 2 #[] #[] 1537 4 #[] #[])
  fields := #[]
  methods := #[]
  instanceTypes := #[]
  staticTypes := #[]
  resolved := Array.replicate 8 none
  statics := none }

def pool5 : Array CpInfo := pool [(1, u "java/io/Serializable"), (0, .class_ 1), (0, u "java/lang/Object"), (0, .class_ 3)] 3

/-- java/io/Serializable -/
def k5 : Class := { plain "java/io/Serializable" (some 0) with
  accessFlags := 1537
  interfaces := #[]
  cf := some (fileOf pool5 2 #[] #[] 1537 4 #[] #[])
  fields := #[]
  methods := #[]
  instanceTypes := #[]
  staticTypes := #[]
  resolved := Array.replicate 8 none
  statics := none }

/-- the primitive byte -/
def k6 : Class := { plain "byte" none with kind := .primitive 'B', accessFlags := 0x411 }
/-- [B -/
def k7 : Class := { plain "[B" (some 0) with kind := .array 6 .byte, interfaces := #[4, 5], accessFlags := 1041 }

/-- the primitive int -/
def k8 : Class := { plain "int" none with kind := .primitive 'I', accessFlags := 0x411 }
/-- [I -/
def k9 : Class := { plain "[I" (some 0) with kind := .array 8 .int, interfaces := #[4, 5], accessFlags := 1041 }

def heap : Heap := #[]
def classes : Array Class := #[k0, k1, k2, k3, k4, k5, k6, k7, k8, k9]
def interned : List (Array UInt16 × Addr) := []
def slotsUsed : Nat := 0
def theMethod : MethodId := ⟨1, 2⟩
def args0 : Array Value := #[.int 5, .int 5, .int 5, .int 5]
def aboutOver (below : List Frame) : State where
  vm := { classes := classes, interned := interned.toArray }
  heap := heap
  slotsUsed := slotsUsed
  threads := #[{ frames := .invoking theMethod args0 :: below }]
def below0 : List Frame := [.native { method := ⟨0, 0⟩, args := #[] }]
def about1 : State := aboutOver below0
def p0 : Program := .bare "" "" ""
def e0 : Env := launch0.env 0 0 0
theorem w_frames : about1.frames = Frame.invoking theMethod args0 :: below0 := rfl
set_option maxRecDepth 65536 in
theorem w_args : argsFit about1.vm theMethod args0 = true := by decide +kernel
set_option maxRecDepth 65536 in
theorem w_heap : heapFits about1 = true := by decide +kernel
set_option maxRecDepth 65536 in
theorem w_runnable : about1.curStatus? = some .runnable := by decide +kernel
set_option maxRecDepth 65536 in
theorem w_alone : about1.alone = true := by decide +kernel
set_option maxRecDepth 65536 in
theorem w_named : about1.methodNamed? x = some theMethod := by decide +kernel
set_option maxRecDepth 65536 in
theorem w_hears : about1.hears theMethod below0 = true := by decide +kernel
set_option maxRecDepth 65536 in
theorem w_ripe : about1.ripe theMethod args0 below0 = true := by decide +kernel
theorem w_running : about1.status = .running := rfl
set_option maxRecDepth 65536 in
theorem w_room : about1.hasRoom e0.platform room_1 = true :=
  launch0.hasRoom_least _ room_1 (by decide +kernel) (by decide +kernel) (by decide +kernel) (by decide +kernel) (by decide +kernel) (by decide +kernel)
theorem allAtoms_all (ts : List Jvm.Cond) (a : Array Jvm.Value) (st : Jvm.State) : (allAtoms ts).before a st = ts.all (fun c => c.before a st) := by
  induction ts with
  | nil => rfl
  | cons c t ih =>
    show (Jvm.Cond.and c (allAtoms t)).before a st = _
    rw [Jvm.Cond.before_and, ih, List.all_cons]
def words1 : List Jvm.Cond := Jvm.Cond.code x code maxLocals ret :: tables_1
/-- a 'code' word, met by the world's own term for the bytes: nothing is compared byte by byte -/
theorem code_word {y : MethodName} {bytes : ByteArray} {mx : Nat} {rt : Option FieldType} {a : Array Value} {s : State} {m : MethodId} {meth : Method} {c : Code} (h1 : s.methodNamed? y = some m) (h2 : s.vm.method? m = some meth) (h3 : meth.code = some c) (h4 : c.code = bytes)
    (h5 : (c.maxLocals == mx && c.exceptionTable.isEmpty && decide (c.maxStack ≤ mostOperands) && decide (meth.sig.returnType = rt) && !meth.locks && decide (parseMethodDescriptor y.desc = some meth.sig)) = true) : (Jvm.Cond.code y bytes mx rt).before a s = true := by
  simp only [Bool.and_eq_true, beq_iff_eq, Bool.not_eq_true', decide_eq_true_eq] at h5
  obtain ⟨⟨⟨⟨⟨g1, g2⟩, g3⟩, g4⟩, g5⟩, g6⟩ := h5
  simp [Cond.before, Cond.holds, Cond.value, h1, h2, h3, h4, g1, g2, g3, g4, g5, g6]
def isCode : Jvm.Cond → Bool
  | .code _ _ _ _ => true
  | _ => false
theorem all_split {L : List Jvm.Cond} {P : Jvm.Cond → Bool} (h1 : L.all (fun c => isCode c || P c) = true) (h2 : ∀ c ∈ L.filter isCode, P c = true) : L.all P = true := by
  refine List.all_eq_true.mpr fun c hc => ?_
  have h := List.all_eq_true.mp h1 c hc
  rcases Bool.eq_false_or_eq_true (isCode c) with hi | hi
  · exact h2 c (List.mem_filter.mpr ⟨hc, hi⟩)
  · simpa [hi] using h
set_option maxRecDepth 65536 in
theorem w_c0 : (Jvm.Cond.code x code maxLocals ret).before args0 about1 = true := code_word (m := ⟨1, 2⟩) (meth := k1m2) (c := k1c2) (by decide +kernel) rfl rfl rfl (by decide +kernel)
set_option maxRecDepth 65536 in
theorem w_c1 : (Jvm.Cond.code ({ cls := "com/example/keyslate/keyslate/session/TlvReader", name := "<init>", desc := "([B)V" } : Jvm.MethodName) prog_12_method_1_code (2 : Nat) (Option.none : Option Jvm.ClassFile.FieldType)).before args0 about1 = true := code_word (m := ⟨2, 0⟩) (meth := k2m0) (c := k2c0) (by decide +kernel) rfl rfl rfl (by decide +kernel)
set_option maxRecDepth 65536 in
theorem w_c2 : (Jvm.Cond.code ({ cls := "java/lang/Object", name := "<init>", desc := "()V" } : Jvm.MethodName) object_method_1_code (1 : Nat) (Option.none : Option Jvm.ClassFile.FieldType)).before args0 about1 = true := code_word (m := ⟨0, 0⟩) (meth := k0m0) (c := k0c0) (by decide +kernel) rfl rfl rfl (by decide +kernel)
set_option maxRecDepth 65536 in
theorem w_c3 : (Jvm.Cond.code ({ cls := "com/example/keyslate/keyslate/session/TlvReader", name := "nextTag", desc := "()I" } : Jvm.MethodName) prog_12_method_2_code (1 : Nat) (Option.some Jvm.ClassFile.FieldType.int)).before args0 about1 = true := code_word (m := ⟨2, 1⟩) (meth := k2m1) (c := k2c1) (by decide +kernel) rfl rfl rfl (by decide +kernel)
set_option maxRecDepth 65536 in
theorem w_c4 : (Jvm.Cond.code ({ cls := "com/example/keyslate/keyslate/session/TlvReaderNextTagPinLaw", name := "mod256", desc := "(I)I" } : Jvm.MethodName) method_2_code (2 : Nat) (Option.some Jvm.ClassFile.FieldType.int)).before args0 about1 = true := code_word (m := ⟨1, 1⟩) (meth := k1m1) (c := k1c1) (by decide +kernel) rfl rfl rfl (by decide +kernel)
set_option maxRecDepth 65536 in
theorem w_c5 : (Jvm.Cond.code ({ cls := "com/example/keyslate/keyslate/session/TlvReader", name := "read", desc := "(I)[B" } : Jvm.MethodName) prog_12_method_3_code (5 : Nat) (Option.some (Jvm.ClassFile.FieldType.array Jvm.ClassFile.FieldType.byte))).before args0 about1 = true := code_word (m := ⟨2, 2⟩) (meth := k2m2) (c := k2c2) (by decide +kernel) rfl rfl rfl (by decide +kernel)
set_option maxRecDepth 65536 in
theorem w_c6 : (Jvm.Cond.code ({ cls := "com/example/keyslate/keyslate/session/TlvReader", name := "lengthByte", desc := "(II)I" } : Jvm.MethodName) prog_12_method_6_code (3 : Nat) (Option.some Jvm.ClassFile.FieldType.int)).before args0 about1 = true := code_word (m := ⟨2, 3⟩) (meth := k2m3) (c := k2c3) (by decide +kernel) rfl rfl rfl (by decide +kernel)
def codes1 : List Jvm.Cond := [Jvm.Cond.code x code maxLocals ret, Jvm.Cond.code ({ cls := "com/example/keyslate/keyslate/session/TlvReader", name := "<init>", desc := "([B)V" } : Jvm.MethodName) prog_12_method_1_code (2 : Nat) (Option.none : Option Jvm.ClassFile.FieldType), Jvm.Cond.code ({ cls := "java/lang/Object", name := "<init>", desc := "()V" } : Jvm.MethodName) object_method_1_code (1 : Nat) (Option.none : Option Jvm.ClassFile.FieldType), Jvm.Cond.code ({ cls := "com/example/keyslate/keyslate/session/TlvReader", name := "nextTag", desc := "()I" } : Jvm.MethodName) prog_12_method_2_code (1 : Nat) (Option.some Jvm.ClassFile.FieldType.int), Jvm.Cond.code ({ cls := "com/example/keyslate/keyslate/session/TlvReaderNextTagPinLaw", name := "mod256", desc := "(I)I" } : Jvm.MethodName) method_2_code (2 : Nat) (Option.some Jvm.ClassFile.FieldType.int), Jvm.Cond.code ({ cls := "com/example/keyslate/keyslate/session/TlvReader", name := "read", desc := "(I)[B" } : Jvm.MethodName) prog_12_method_3_code (5 : Nat) (Option.some (Jvm.ClassFile.FieldType.array Jvm.ClassFile.FieldType.byte)), Jvm.Cond.code ({ cls := "com/example/keyslate/keyslate/session/TlvReader", name := "lengthByte", desc := "(II)I" } : Jvm.MethodName) prog_12_method_6_code (3 : Nat) (Option.some Jvm.ClassFile.FieldType.int)]
set_option maxRecDepth 65536 in
theorem codes_eq : words1.filter isCode = codes1 := rfl
theorem w_codes : ∀ c ∈ words1.filter isCode, c.before args0 about1 = true := by
  rw [codes_eq]
  intro c hc
  simp only [codes1, List.mem_cons, List.not_mem_nil, or_false] at hc
  rcases hc with rfl | rfl | rfl | rfl | rfl | rfl | rfl
  · exact w_c0
  · exact w_c1
  · exact w_c2
  · exact w_c3
  · exact w_c4
  · exact w_c5
  · exact w_c6
set_option maxRecDepth 65536 in
theorem w_t1 : (words1.take 24).all (fun c => isCode c || c.before args0 about1) = true := by decide +kernel
set_option maxRecDepth 65536 in
theorem w_t2 : (words1.drop 24).all (fun c => isCode c || c.before args0 about1) = true := by decide +kernel
theorem w_tables : (allAtoms (Jvm.Cond.code x code maxLocals ret :: tables_1)).before args0 about1 = true := by
  rw [allAtoms_all]
  show words1.all (fun c => c.before args0 about1) = true
  refine all_split ?_ w_codes
  rw [← List.take_append_drop 24 words1, List.all_append, w_t1, w_t2]
  rfl
set_option maxRecDepth 65536 in
theorem w_case : (Jvm.Cond.and given_1 narrow_1).before args0 about1 = true := by decide +kernel
theorem w_applies : (headSpec (Jvm.Cond.code x code maxLocals ret :: tables_1) room_1).applies x e0.platform about1 = true :=
  (Spec.applies_iff w_frames).mpr ⟨w_running, w_runnable, w_alone, w_named, w_hears, w_ripe, w_room, w_tables⟩
theorem atStart : AtStart classFile x code maxLocals ret World_1 tables_1 room_1 Calls_1 rest_1 Pre_1 launch0 p0 e0 about1 theMethod args0 below0 :=
  ⟨lists_1, trivial, launch0.admits_env _ _ _, launch0.least_env, fairChoices_fair.cas, fairChoices_fair.clock, w_frames, w_args, w_heap, w_applies, trivial, trivial, w_case⟩
end start1
theorem witness_1 : WitnessClaimed_1 := ⟨start1.p0, start1.e0, start1.about1, start1.theMethod, start1.args0, start1.below0, start1.atStart⟩
end Jvm.Pilot.@@N@@
