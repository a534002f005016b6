import JvmDerived
import JvmDerived.Pilot.@@N@@Statement
import JvmDerived.Pilot.@@N@@Code
set_option linter.unusedVariables false
set_option linter.unusedSimpArgs false
namespace Jvm.Own
open Sem ClassFile Op Lib Jvm.Stand Jvm.Free Jvm.LawKit Jvm.RoadKit
section Own
variable {p : Program} {l : Launch} {e : Env} {R : Room} {s : State} {m : MethodId} {args : Array Value} {below : List Frame} {meth : Method} {c : Code} {T : State} {locs : List Loc} {cells slots : Nat} {Q : Option Value → Heap → List Loc → Prop} {k n : Nat} {Z : State} {a0 : Array Value} {h h' h0 : Heap} {pc pc' : Nat} {Ls : Array Slot} {rest : List Value}
/-- from U the invocation comes to its end, returns, and Q holds there -/
def Till (p : Program) (e : Env) (below : List Frame) (s : State) (Q : Option Value → Heap → List Loc → Prop) (k n : Nat) (U : State) : Prop :=
  ∃ s₂ o, Steps p.tables e below U s₂ ∧ s₂.status = .running ∧ Ended s₂ below o ∧ ∃ v L, o = .returned v ∧ Q v s₂.heap L ∧ FrameEnd s o s₂ L k n
/-- a body's contract -/
def Ctr (l : Launch) (Z : State) (y : MethodName) (bytes : ByteArray) (maxL : Nat) (ret : Option FieldType) (rm : Room) (as : Array Value) (h : Heap) (Q : Option Value → Heap → List Loc → Prop) : Prop :=
  ∀ ws, MetFree l y (head1 (Jvm.Cond.code y bytes maxL ret :: ws) rm) (fun a U => a = as ∧ Z.Warmed39 U.vm ∧ U.heap = h) (fun _ _ _ _ _ => True) (fun _ U o U' => ∃ v L, o = .returned v ∧ Q v U'.heap L ∧ FrameEnd U o U' L rm.cells rm.slots)
theorem Till.pre {U V : State} (hs : ∀ t, Steps p.tables e below V t → Steps p.tables e below U t) (r : Till p e below s Q k n V) : Till p e below s Q k n U := by
  obtain ⟨s₂, o, h1, r⟩ := r; exact ⟨s₂, o, hs _ h1, r⟩
theorem Till.via {U V : State} (hs : Steps p.tables e below U V) (r : Till p e below s Q k n V) : Till p e below s Q k n U := by
  obtain ⟨s₂, o, h1, r⟩ := r; exact ⟨s₂, o, hs.trans h1, r⟩
theorem Till.cast {g g' : JFrame} (q : g = g') (r : Till p e below s Q k n (T.setTop g')) : Till p e below s Q k n (T.setTop g) := q ▸ r
theorem Ctr.of {y : MethodName} {bytes : ByteArray} {maxL : Nat} {ret : Option FieldType} {rm : Room} {as : Array Value} (hp : plainFor y = true)
    (body : ∀ p e s m below meth c s₁, p.tables.exec = Jvm.exec → c.code = bytes → c.maxLocals = maxL → s.vm.findClass y.cls = some m.cls → meth.name = y.name → meth.sig.returnType = ret → meth.locks = false → Z.Warmed39 s.vm → s₁.heap = h →
      Stand p l e rm s m as below meth c s₁ [] 0 0 → Till p e below s Q rm.cells rm.slots (s₁.setTop (entryFrame m as maxL))) : Ctr l Z y bytes maxL ret rm as h Q := by
  intro ws
  refine MetFree.of_bodySF hp hisR ?_
  intro p e s m args below meth c s₁ Bd hml hP hK
  obtain ⟨rfl, hZ, hh⟩ := hP
  exact body p e s m below meth c s₁ Bd.exec Bd.bytes hml (findClass_of_methodNamed Bd.named) (name_of_methodNamed Bd.named Bd.method).1 Bd.returns Bd.notSynchronized hZ (by rw [← hh, Bd.state]; rfl) (Stand.of_body Bd)
/-! branches -/
theorem Till.icmp {cd : ClassFile.Cond} {x y : Int32} {o : Int} (h : At T m c below) (hx : p.tables.exec = Jvm.exec) (hd : decode c.code pc = .ok (.if_icmp cd o, 3)) (ho : 0 ≤ (pc : Int) + o) (hp : ((pc : Int) + o).toNat = pc')
    (r1 : if_icmp.holds cd x y = true → Till p e below s Q k n (T.setTop (mkF m pc' Ls rest))) (r2 : if_icmp.holds cd x y = false → Till p e below s Q k n (T.setTop (mkF m (pc + 3) Ls rest))) : Till p e below s Q k n (T.setTop (mkF m pc Ls (.int y :: .int x :: rest))) := by
  cases hb : if_icmp.holds cd x y with
  | true => exact Till.pre (fun _ hr => XS.icmpYes h hx rfl (pc0 := pc) (pc' := pc') rfl hd rfl hb ho hp hr) (r1 hb)
  | false => exact Till.pre (fun _ hr => XS.icmpNo h hx rfl hd rfl hb hr) (r2 hb)
theorem Till.ifc {cd : ClassFile.Cond} {x : Int32} {o : Int} (h : At T m c below) (hx : p.tables.exec = Jvm.exec) (hd : decode c.code pc = .ok (.ifCond cd o, 3)) (ho : 0 ≤ (pc : Int) + o) (hp : ((pc : Int) + o).toNat = pc')
    (r1 : if_icmp.holds cd x 0 = true → Till p e below s Q k n (T.setTop (mkF m pc' Ls rest))) (r2 : if_icmp.holds cd x 0 = false → Till p e below s Q k n (T.setTop (mkF m (pc + 3) Ls rest))) : Till p e below s Q k n (T.setTop (mkF m pc Ls (.int x :: rest))) := by
  cases hb : if_icmp.holds cd x 0 with
  | true => exact Till.pre (fun _ hr => XS.ifYes h hx rfl (pc0 := pc) (pc' := pc') rfl hd rfl ((if0 _ _).trans hb) ho hp hr) (r1 hb)
  | false => exact Till.pre (fun _ hr => XS.ifNo h hx rfl hd rfl ((if0 _ _).trans hb) hr) (r2 hb)
theorem hEq {x y : Int32} : (if_icmp.holds .eq x y = true → x = y) ∧ (if_icmp.holds .eq x y = false → ¬ x = y) ∧ (if_icmp.holds .ne x y = true → ¬ x = y) ∧ (if_icmp.holds .ne x y = false → x = y) := by
  by_cases q : x = y
  · obtain ⟨h1, h2⟩ := teq q; rw [h1, h2]; simp [q]
  · obtain ⟨h1, h2⟩ := feq q; rw [h1, h2]; simp [q]
theorem hLt {x y : Int32} : (if_icmp.holds .lt x y = true → x < y) ∧ (if_icmp.holds .lt x y = false → ¬ x < y) ∧ (if_icmp.holds .ge x y = true → ¬ x < y) ∧ (if_icmp.holds .ge x y = false → x < y) ∧ (if_icmp.holds .gt y x = true → x < y) ∧ (if_icmp.holds .gt y x = false → ¬ x < y) ∧ (if_icmp.holds .le y x = true → ¬ x < y) ∧ (if_icmp.holds .le y x = false → x < y) := by
  by_cases q : x < y
  · obtain ⟨h1, h2, h3, h4⟩ := tlt q; rw [h1, h2, h3, h4]; simp [q]
  · obtain ⟨h1, h2, h3, h4⟩ := flt q; rw [h1, h2, h3, h4]; simp [q]
theorem lEq {x y : Int64} : lcmpW x y = 0 ↔ x = y := by rw [lcW x y]; exact lc_eq x y
theorem lLt {x y : Int64} : lcmpW x y < 0 ↔ x < y := by rw [lcW x y]; exact lc_lt x y
theorem lGt {x y : Int64} : 0 < lcmpW x y ↔ y < x := by rw [lcW x y]; exact lc_gt x y
/-- Java's >>> on longs -/
def lsr (x : Int64) (y : Int32) : Int64 := (x.toUInt64 >>> (y &&& 0x3f).toInt64.toUInt64).toInt64
/-! returns -/
theorem Till.retI (X : Stand p l e R s m args below meth c T locs cells slots) (hx : p.tables.exec = Jvm.exec) (hret : meth.sig.returnType = some .int) (hlk : meth.locks = false) {z : Int32} (hd : decode c.code pc = .ok (.ireturn, 1)) (hk : cells ≤ k) (hn : slots ≤ n) (hq : Q (some (.int z)) T.heap locs) : Till p e below s Q k n (T.setTop (mkF m pc Ls (.int z :: rest))) := by
  obtain ⟨fs, hr, hrun, hended, hW, hsame⟩ := X.leave (v := some (.int z)) (fun q => by rw [hret] at q; cases q) hlk
  exact ⟨_, _, retOut X hx hret rfl (Or.inl ⟨rfl, Or.inl rfl, z, rfl⟩) hd hr, hrun, hended, _, _, rfl, hq, ⟨_, rfl⟩, hW, hsame.mono hk hn⟩
theorem Till.retZ (X : Stand p l e R s m args below meth c T locs cells slots) (hx : p.tables.exec = Jvm.exec) (hret : meth.sig.returnType = some .boolean) (hlk : meth.locks = false) {z w : Int32} (hd : decode c.code pc = .ok (.ireturn, 1)) (hk : cells ≤ k) (hn : slots ≤ n) (hz : z &&& 1 = w) (hq : Q (some (.int w)) T.heap locs) : Till p e below s Q k n (T.setTop (mkF m pc Ls (.int z :: rest))) := by
  subst hz
  obtain ⟨fs, hr, hrun, hended, hW, hsame⟩ := X.leave (v := some (.int (z &&& 1))) (fun q => by rw [hret] at q; cases q) hlk
  exact ⟨_, _, retN X hx (t := .boolean) hret (Or.inl rfl) hd hr, hrun, hended, _, _, rfl, hq, ⟨_, rfl⟩, hW, hsame.mono hk hn⟩
theorem Till.retJ (X : Stand p l e R s m args below meth c T locs cells slots) (hx : p.tables.exec = Jvm.exec) (hret : meth.sig.returnType = some .long) (hlk : meth.locks = false) {z : Int64} (hd : decode c.code pc = .ok (.lreturn, 1)) (hk : cells ≤ k) (hn : slots ≤ n) (hq : Q (some (.long z)) T.heap locs) : Till p e below s Q k n (T.setTop (mkF m pc Ls (.long z :: rest))) := by
  obtain ⟨fs, hr, hrun, hended, hW, hsame⟩ := X.leave (v := some (.long z)) (fun q => by rw [hret] at q; cases q) hlk
  exact ⟨_, _, retOut X hx hret rfl (Or.inr (Or.inl ⟨rfl, rfl, z, rfl⟩)) hd hr, hrun, hended, _, _, rfl, hq, ⟨_, rfl⟩, hW, hsame.mono hk hn⟩
theorem Till.retA (X : Stand p l e R s m args below meth c T locs cells slots) (hx : p.tables.exec = Jvm.exec) {t : FieldType} (hret : meth.sig.returnType = some t) (ht : t.isReference = true) (hlk : meth.locks = false) {w : Value} (hw : w.isRef = true) (hnw : narrow t w = w) (hd : decode c.code pc = .ok (.areturn, 1)) (hk : cells ≤ k) (hn : slots ≤ n) (hq : Q (some w) T.heap locs) : Till p e below s Q k n (T.setTop (mkF m pc Ls (w :: rest))) := by
  obtain ⟨fs, hr, hrun, hended, hW, hsame⟩ := X.leave (v := some w) (fun q => by rw [hret] at q; cases q) hlk
  exact ⟨_, _, retOut X hx hret hnw (Or.inr (Or.inr (Or.inr (Or.inr ⟨rfl, ht, hw⟩)))) hd hr, hrun, hended, _, _, rfl, hq, ⟨_, rfl⟩, hW, hsame.mono hk hn⟩
theorem Till.retV (X : Stand p l e R s m args below meth c T locs cells slots) (hx : p.tables.exec = Jvm.exec) (hret : meth.sig.returnType = none) (hlk : meth.locks = false) (hd : decode c.code pc = .ok (.return_, 1)) (hk : cells ≤ k) (hn : slots ≤ n) (hq : Q none T.heap locs) : Till p e below s Q k n (T.setTop (mkF m pc Ls [])) := by
  obtain ⟨fs, hr, hrun, hended, hW, hsame⟩ := X.leave (v := none) (fun _ => rfl) hlk
  exact ⟨_, _, X.returnOut hx hret hd hr, hrun, hended, _, _, rfl, hq, ⟨_, rfl⟩, hW, hsame.mono hk hn⟩
/-! the heap -/
theorem Till.getF (X : Stand p l e R s m args below meth c T locs cells slots) (hx : p.tables.exec = Jvm.exec) (hZ : Z.Warmed39 s.vm) {own O nm d : String} {index : Nat} (hown : s.vm.findClass own = some m.cls) (w : (Jvm.Cond.fieldLink own index O nm d).before a0 Z = true) (eT : T.heap = h) {a : Addr} {v : Value} (F : Fld Z h a O nm d v) (hd : decode c.code pc = .ok (.getfield index, 3))
    (r : ∀ T', Stand p l e R s m args below meth c T' locs cells slots → T'.heap = h → Till p e below s Q k n (T'.setTop (mkF m (pc + 3) Ls (v :: rest)))) : Till p e below s Q k n (T.setTop (mkF m pc Ls (.ref a :: rest))) := by
  obtain ⟨T', X', e', st⟩ := Jvm.RoadKit.getF X hx hZ hown (host := "") (Or.inl w) Via.refl eT F (g := mkF m pc Ls (.ref a :: rest)) rfl rfl hd
  exact Till.pre st (r T' X' e')
theorem Till.putF (X : Stand p l e R s m args below meth c T locs cells slots) (hx : p.tables.exec = Jvm.exec) (hZ : Z.Warmed39 s.vm) {own O nm d C : String} {index kk : Nat} {ty : FieldType} (hown : s.vm.findClass own = some m.cls) (w : (Jvm.Cond.fieldLink own index O nm d).before a0 Z = true) (eT : T.heap = h) {a : Addr} {v old : Value} (F : Fld Z h a O nm d old) (E : Exa Z h a C)
    (L : (Jvm.Cond.lays C O nm d).before a0 Z = true ∨ ((Jvm.Cond.laysFinal C O nm d).before a0 Z = true ∧ own = O ∧ meth.name = "<init>")) (wi : (Jvm.Cond.instantiable C kk).before a0 Z = true) (hty : parseFieldDescriptor d = some ty) (hn : narrow ty v = v) (hf : fits ty v = true) (hd : decode c.code pc = .ok (.putfield index, 3))
    (r : ∀ T' h', Stand p l e R s m args below meth c T' (locs ++ [⟨a, Jvm.RoadKit.slotOf Z O nm d⟩]) cells slots → T'.heap = h' → Wr h h' a (Jvm.RoadKit.slotOf Z O nm d) v → Till p e below s Q k n (T'.setTop (mkF m (pc + 3) Ls rest))) : Till p e below s Q k n (T.setTop (mkF m pc Ls (v :: .ref a :: rest))) := by
  obtain ⟨T', h', X', e', W, st⟩ := Jvm.RoadKit.putF X hx hZ hown (host := "") (Or.inl w) Via.refl eT F E L wi hty hn hf (g := mkF m pc Ls (v :: .ref a :: rest)) rfl rfl hd
  exact Till.pre st (r T' h' X' e' W)
theorem Till.newO (X : Stand p l e R s m args below meth c T locs cells slots) (hx : p.tables.exec = Jvm.exec) (hZ : Z.Warmed39 s.vm) {own C : String} {index sl : Nat} (hown : s.vm.findClass own = some m.cls) (w : (Jvm.Cond.classLink own index C).before a0 Z = true) (wi : (Jvm.Cond.instantiable C sl).before a0 Z = true) (wz : (Jvm.Cond.initialized C).before a0 Z = true) (eT : T.heap = h) (hd : decode c.code pc = .ok (.new index, 3)) (hc : cells + 1 ≤ R.cells) (hl : slots + sl ≤ R.slots)
    (r : ∀ T' h' b, b = h.size → Stand p l e R s m args below meth c T' locs (cells + 1) (slots + sl) → T'.heap = h' → Ext h h' → Exa Z h' b C → (∀ {O nm d : String} {ty : FieldType}, Laid Z a0 C O nm d → parseFieldDescriptor d = some ty → Fld Z h' b O nm d (defaultValue ty)) → Till p e below s Q k n (T'.setTop (mkF m (pc + 3) Ls (.ref b :: rest)))) : Till p e below s Q k n (T.setTop (mkF m pc Ls rest)) := by
  obtain ⟨T', h', X', e', E, A, D, -, st⟩ := Jvm.RoadKit.newO X hx hZ hown w wi wz eT (g := mkF m pc Ls rest) rfl hd hc hl
  exact Till.pre st (r T' h' _ rfl X' e' E A D)
theorem Till.initO (X : Stand p l e R s m args below meth c T locs cells slots) (hx : p.tables.exec = Jvm.exec) (hZ : Z.Warmed39 s.vm) {own : String} {idx : Nat} (hown : s.vm.findClass own = some m.cls) (w1 : (Jvm.Cond.methodLink own idx Lib.objectInit).before a0 Z = true) (w2 : (Jvm.Cond.instanceMethod Lib.objectInit).before a0 Z = true) (w3 : (Jvm.Cond.code Lib.objectInit ⟨#[0xb1]⟩ 1 none).before a0 Z = true) (eT : T.heap = h) (hsize : Ls.size = c.maxLocals) {a : Addr} (hd : decode c.code pc = .ok (.invokespecial idx, 3))
    (hf : 1 ≤ R.frames) {W : Nat} (hW : (rest.map fun v => v.category).sum ≤ W) (hl : W + 12 ≤ R.locals)
    (r : ∀ T', Stand p l e R s m args below meth c T' locs cells slots → T'.heap = h → Till p e below s Q k n (T'.setTop (mkF m (pc + 3) Ls rest))) : Till p e below s Q k n (T.setTop (mkF m pc Ls (.ref a :: rest))) := by
  obtain ⟨T', X', e', st⟩ := Jvm.RoadKit.initO X hx hZ hown w1 w2 w3 eT (g := mkF m pc Ls (.ref a :: rest)) rfl hsize rfl hd hf (W := W) (by show 2 * 0 + _ ≤ _; omega) hl
  exact Till.pre st (r T' X' e')
/-! arrays: what they hold, as a function of the place -/
def AR {α : Type} (ty : FieldType) (w : α → Value) (Z : State) (h : Heap) (a : Addr) (z : Int32) (f : Nat → α) : Prop := ∃ c : Cell, Arr Z h a c ty ∧ c.slots.size = z.toNatClampNeg ∧ ¬ z < 0 ∧ ∀ i, i < c.slots.size → c.slots[i]? = some (w (f i))
abbrev LA := @AR Int64 .long Value.long
abbrev IA := @AR Int32 .int Value.int
abbrev BA := @AR Int32 .byte Value.int
def oupd {α : Type} (f : Nat → α) (i : Nat) (v : α) : Nat → α := fun x => if x = i then v else f x
theorem upd_hit {α : Type} {f : Nat → α} {i j : Nat} {v : α} (q : j = i) : oupd f i v j = v := if_pos q
theorem upd_miss {α : Type} {f : Nat → α} {i j : Nat} {v : α} (q : ¬ j = i) : oupd f i v j = f j := if_neg q
section Ary
variable {α : Type} {ty : FieldType} {w : α → Value} {a b : Addr} {z j : Int32} {f : Nat → α} {ws : List Addr} {sl : Nat} {v : Value}
theorem AR.lt (A : AR ty w Z h a z f) : a < h.size := by obtain ⟨c, A, -⟩ := A; exact A.lt
theorem AR.pos (A : AR ty w Z h a z f) : ¬ z < 0 := by obtain ⟨c, -, -, q, -⟩ := A; exact q
theorem AR.ext (A : AR ty w Z h a z f) (E : Ext h h') : AR ty w Z h' a z f := by obtain ⟨c, A, r⟩ := A; exact ⟨c, A.ext E, r⟩
theorem AR.keep (A : AR ty w Z h a z f) (K : Keep h h' ws) (q : a ∉ ws) : AR ty w Z h' a z f := by obtain ⟨c, A, r⟩ := A; exact ⟨c, ⟨K.2.1 a c A.1 q, A.2⟩, r⟩
theorem AR.wr (A : AR ty w Z h a z f) (W : Wr h h' b sl v) (q : a ≠ b) : AR ty w Z h' a z f := by obtain ⟨c, A, r⟩ := A; exact ⟨c, A.other W q, r⟩
theorem AR.congr {g : Nat → α} (A : AR ty w Z h a z f) (q : ∀ i, i < z.toNatClampNeg → f i = g i) : AR ty w Z h a z g := by obtain ⟨c, A, S, N, H⟩ := A; exact ⟨c, A, S, N, fun i hi => by rw [H i hi, q i (S ▸ hi)]⟩
theorem AR.set {x : α} (A : AR ty w Z h a z f) (W : Wr h h' a j.toNatClampNeg (w x)) : AR ty w Z h' a z (oupd f j.toNatClampNeg x) := by
  obtain ⟨c, A, S, N, H⟩ := A
  refine ⟨_, A.same W, by rw [sz_set]; exact S, N, fun i hi => ?_⟩
  rw [sz_set] at hi
  by_cases u : i = j.toNatClampNeg
  · rw [upd_hit u]; subst u; simp [Cell.setSlot, hi]
  · rw [upd_miss u]; simp only [Cell.setSlot]; rw [Array.getElem?_setIfInBounds_ne (Ne.symm u)]; exact H i hi
theorem Till.newA {aty : ArrayType} {d0 : α} (X : Stand p l e R s m args below meth c T locs cells slots) (hx : p.tables.exec = Jvm.exec) (hZ : Z.Warmed39 s.vm) (wa : (Jvm.Cond.arrayClass (newarray.typeOf aty)).before a0 Z = true) (eT : T.heap = h) (hd : decode c.code pc = .ok (.newarray aty, 2)) (hdv : defaultValue (newarray.typeOf aty) = w d0) (hz : ¬ z < 0) (cap : Nat) (hcap : z.toNatClampNeg ≤ cap) (hb : cap * 8 ≤ 536870912) (hc : cells + 1 ≤ R.cells) (hl : slots + cap ≤ R.slots)
    (r : ∀ T' h' b, b = h.size → Stand p l e R s m args below meth c T' locs (cells + 1) (slots + cap) → T'.heap = h' → Ext h h' → AR (newarray.typeOf aty) w Z h' b z (fun _ => d0) → Till p e below s Q k n (T'.setTop (mkF m (pc + 2) Ls (.ref b :: rest)))) : Till p e below s Q k n (T.setTop (mkF m pc Ls (.int z :: rest))) := by
  obtain ⟨T', h', cA, X', e', E, A, st⟩ := newP X hx hZ wa eT (g := mkF m pc Ls (.int z :: rest)) rfl hd rfl hz (cap := cap) hcap hb hc hl
  exact Till.pre st (r T' h' _ rfl X' e' E ⟨_, A, sz_new _ _ _, hz, fun i hi => by rw [sz_new] at hi; simp [Jvm.RoadKit.newA, hi, hdv]⟩)
theorem Till.alen (A : AR ty w Z h a z f) (X : Stand p l e R s m args below meth c T locs cells slots) (hx : p.tables.exec = Jvm.exec) (hZ : Z.Warmed39 s.vm) (eT : T.heap = h) (hd : decode c.code pc = .ok (.arraylength, 1))
    (r : Till p e below s Q k n (T.setTop (mkF m (pc + 1) Ls (.int z :: rest)))) : Till p e below s Q k n (T.setTop (mkF m pc Ls (.ref a :: rest))) := by
  obtain ⟨c', A, S, N, H⟩ := A
  refine Till.pre (X.arraylength hx (by rw [eT]; exact A.1) (State.isArrayOf_alike hZ.alike A.2.1) (g := mkF m pc Ls (.ref a :: rest)) rfl rfl hd) ?_
  rw [len_of S N]; exact r
theorem AR.at (A : AR ty w Z h a z f) (h1 : ¬ j < 0) (h2 : j < z) : ∃ c : Cell, Arr Z h a c ty ∧ ¬ (j < 0 ∨ c.slots.size ≤ j.toNatClampNeg) ∧ c.slots[j.toNatClampNeg]? = some (w (f j.toNatClampNeg)) := by
  obtain ⟨c', A, S, N, H⟩ := A
  have hin := inb_of S ⟨h1, h2⟩
  exact ⟨c', A, hin, H _ (Nat.lt_of_not_le fun y => hin (Or.inr y))⟩
end Ary
section Acc
variable {a : Addr} {z j : Int32}
theorem Till.laload {f : Nat → Int64} (A : LA Z h a z f) (h1 : ¬ j < 0) (h2 : j < z) (X : Stand p l e R s m args below meth c T locs cells slots) (hx : p.tables.exec = Jvm.exec) (hZ : Z.Warmed39 s.vm) (eT : T.heap = h) (hd : decode c.code pc = .ok (.laload, 1))
    (r : Till p e below s Q k n (T.setTop (mkF m (pc + 1) Ls (.long (f j.toNatClampNeg) :: rest)))) : Till p e below s Q k n (T.setTop (mkF m pc Ls (.int j :: .ref a :: rest))) := by
  obtain ⟨c', A, hin, hv⟩ := A.at h1 h2
  exact Till.pre (X.laload hx (by rw [eT]; exact A.1) (State.isArrayOf_alike hZ.alike A.2.1) A.2.2 hin hv (g := mkF m pc Ls (.int j :: .ref a :: rest)) rfl rfl hd) r
theorem Till.iaload {f : Nat → Int32} (A : IA Z h a z f) (h1 : ¬ j < 0) (h2 : j < z) (X : Stand p l e R s m args below meth c T locs cells slots) (hx : p.tables.exec = Jvm.exec) (hZ : Z.Warmed39 s.vm) (eT : T.heap = h) (hd : decode c.code pc = .ok (.iaload, 1))
    (r : Till p e below s Q k n (T.setTop (mkF m (pc + 1) Ls (.int (f j.toNatClampNeg) :: rest)))) : Till p e below s Q k n (T.setTop (mkF m pc Ls (.int j :: .ref a :: rest))) := by
  obtain ⟨c', A, hin, hv⟩ := A.at h1 h2
  exact Till.pre (X.iaload hx (by rw [eT]; exact A.1) (State.isArrayOf_alike hZ.alike A.2.1) A.2.2 hin hv (g := mkF m pc Ls (.int j :: .ref a :: rest)) rfl rfl hd) r
theorem Till.baload {f : Nat → Int32} (A : BA Z h a z f) (h1 : ¬ j < 0) (h2 : j < z) (X : Stand p l e R s m args below meth c T locs cells slots) (hx : p.tables.exec = Jvm.exec) (hZ : Z.Warmed39 s.vm) (eT : T.heap = h) (hd : decode c.code pc = .ok (.baload, 1))
    (r : Till p e below s Q k n (T.setTop (mkF m (pc + 1) Ls (.int (f j.toNatClampNeg) :: rest)))) : Till p e below s Q k n (T.setTop (mkF m pc Ls (.int j :: .ref a :: rest))) := by
  obtain ⟨c', A, hin, hv⟩ := A.at h1 h2
  exact Till.pre (X.baloadBytes hx (by rw [eT]; exact A.1) (State.isArrayOf_alike hZ.alike A.2.1) A.2.2 hin hv (g := mkF m pc Ls (.int j :: .ref a :: rest)) rfl rfl hd) r
theorem Till.lastore {f : Nat → Int64} {x : Int64} (A : LA Z h a z f) (h1 : ¬ j < 0) (h2 : j < z) (X : Stand p l e R s m args below meth c T locs cells slots) (hx : p.tables.exec = Jvm.exec) (hZ : Z.Warmed39 s.vm) (eT : T.heap = h) (hd : decode c.code pc = .ok (.lastore, 1))
    (r : ∀ T' h', Stand p l e R s m args below meth c T' (locs ++ [⟨a, j.toNatClampNeg⟩]) cells slots → T'.heap = h' → Wr h h' a j.toNatClampNeg (.long x) → LA Z h' a z (oupd f j.toNatClampNeg x) → Till p e below s Q k n (T'.setTop (mkF m (pc + 1) Ls rest))) : Till p e below s Q k n (T.setTop (mkF m pc Ls (.long x :: .int j :: .ref a :: rest))) := by
  obtain ⟨c', A', hin, hv⟩ := A.at h1 h2
  obtain ⟨T', h', X', e', W, st⟩ := stJ X hx hZ eT A' hin (x := x) (g := mkF m pc Ls (.long x :: .int j :: .ref a :: rest)) rfl rfl hd
  exact Till.pre st (r T' h' X' e' W (AR.set A W))
theorem Till.iastore {f : Nat → Int32} {x : Int32} (A : IA Z h a z f) (h1 : ¬ j < 0) (h2 : j < z) (X : Stand p l e R s m args below meth c T locs cells slots) (hx : p.tables.exec = Jvm.exec) (hZ : Z.Warmed39 s.vm) (eT : T.heap = h) (hd : decode c.code pc = .ok (.iastore, 1))
    (r : ∀ T' h', Stand p l e R s m args below meth c T' (locs ++ [⟨a, j.toNatClampNeg⟩]) cells slots → T'.heap = h' → Wr h h' a j.toNatClampNeg (.int x) → IA Z h' a z (oupd f j.toNatClampNeg x) → Till p e below s Q k n (T'.setTop (mkF m (pc + 1) Ls rest))) : Till p e below s Q k n (T.setTop (mkF m pc Ls (.int x :: .int j :: .ref a :: rest))) := by
  obtain ⟨c', A', hin, hv⟩ := A.at h1 h2
  obtain ⟨T', h', X', e', W, st⟩ := stI X hx hZ eT A' hin (x := x) (g := mkF m pc Ls (.int x :: .int j :: .ref a :: rest)) rfl rfl hd
  exact Till.pre st (r T' h' X' e' W (AR.set A W))
theorem Till.bastore {f : Nat → Int32} {x : Int32} (A : BA Z h a z f) (h1 : ¬ j < 0) (h2 : j < z) (X : Stand p l e R s m args below meth c T locs cells slots) (hx : p.tables.exec = Jvm.exec) (hZ : Z.Warmed39 s.vm) (eT : T.heap = h) (hd : decode c.code pc = .ok (.bastore, 1))
    (r : ∀ T' h', Stand p l e R s m args below meth c T' (locs ++ [⟨a, j.toNatClampNeg⟩]) cells slots → T'.heap = h' → Wr h h' a j.toNatClampNeg (.int x.toInt8.toInt32) → BA Z h' a z (oupd f j.toNatClampNeg x.toInt8.toInt32) → Till p e below s Q k n (T'.setTop (mkF m (pc + 1) Ls rest))) : Till p e below s Q k n (T.setTop (mkF m pc Ls (.int x :: .int j :: .ref a :: rest))) := by
  obtain ⟨c', A', hin, hv⟩ := A.at h1 h2
  obtain ⟨T', h', X', e', W, st⟩ := stB X hx hZ eT A' hin (x := x) (g := mkF m pc Ls (.int x :: .int j :: .ref a :: rest)) rfl rfl hd
  exact Till.pre st (r T' h' X' e' W (AR.set A W))
end Acc
/-! calls -/
section Calls
variable {own : String} {index maxL : Nat} {y : MethodName} {bytes : ByteArray} {ret : Option FieldType} {rm : Room} {as : Array Value} {Qc : Option Value → Heap → List Loc → Prop} {W : Nat} {argsL st : List Value}
theorem Till.callS (C : Ctr l Z y bytes maxL ret rm as h Qc) (X : Stand p l e R s m args below meth c T locs cells slots) (hx : p.tables.exec = Jvm.exec) (hZ : Z.Warmed39 s.vm) (hown : s.vm.findClass own = some m.cls) (w1 : (Jvm.Cond.methodLink own index y).before a0 Z = true) (w2 : (Jvm.Cond.static y).before a0 Z = true) (w3 : (Jvm.Cond.initialized y.cls).before a0 Z = true) (w4 : (Jvm.Cond.code y bytes maxL ret).before a0 Z = true)
    (hy : y.cls ≠ "java/lang/invoke/MethodHandle" ∧ y.cls ≠ "java/lang/invoke/VarHandle") (hf : rm.frames + 1 ≤ R.frames) (hl : W + (maxL + 11) + rm.locals ≤ R.locals) (hsize : Ls.size = c.maxLocals) (hlen : ∀ sig, parseMethodDescriptor y.desc = some sig → argsL.length = sig.parameters.length) (has : argsL.toArray = as) (hst : st = argsL.reverse ++ rest) (hW : (rest.map fun v => v.category).sum ≤ W) (hd : decode c.code pc = .ok (.invokestatic index, 3)) (eT : T.heap = h) (hc : cells + rm.cells ≤ R.cells) (hs : slots + rm.slots ≤ R.slots)
    (r : ∀ v T' L, Stand p l e R s m args below meth c T' (locs ++ L) (cells + rm.cells) (slots + rm.slots) → Qc v T'.heap L → Till p e below s Q k n (T'.setTop (mkF m (pc + 3) Ls (v.toList ++ rest)))) : Till p e below s Q k n (T.setTop (mkF m pc Ls st)) := by
  obtain ⟨v, vm1, ⟨T', L', c', s'⟩, -, X', ⟨Lc, hQ, l1, y1, z1⟩, stp⟩ := Jvm.LawKit.callS X hx hown (mvT hZ w1) (mvT hZ w2) (mvT hZ w3) (mvT hZ w4) hy (backOf (W := W) (C []) hZ w4 w3 hf hl) (g := mkF m pc Ls st) rfl hsize (argsL := argsL) (rest := rest) hlen hst (by show 2 * 0 + _ ≤ _; omega) hd (fun _ _ => ⟨has, eT, hc, hs⟩)
  dsimp only [Pt.U, Pt.locs, Pt.cells, Pt.slots] at X' l1 y1 z1 stp hQ
  subst l1 y1 z1
  exact Till.pre stp (r v T' Lc X' hQ)
theorem Till.callC {a : Addr} (C : Ctr l Z y bytes maxL none rm as h Qc) (X : Stand p l e R s m args below meth c T locs cells slots) (hx : p.tables.exec = Jvm.exec) (hZ : Z.Warmed39 s.vm) (hown : s.vm.findClass own = some m.cls) (hy1 : y.name = "<init>") (w1 : (Jvm.Cond.methodLink own index y).before a0 Z = true) (w2 : (Jvm.Cond.instanceMethod y).before a0 Z = true) (w3 : (Jvm.Cond.initialized y.cls).before a0 Z = true) (w4 : (Jvm.Cond.code y bytes maxL none).before a0 Z = true)
    (hy : y.cls ≠ "java/lang/invoke/MethodHandle" ∧ y.cls ≠ "java/lang/invoke/VarHandle") (hf : rm.frames + 1 ≤ R.frames) (hl : W + (maxL + 11) + rm.locals ≤ R.locals) (hsize : Ls.size = c.maxLocals) (hlen : ∀ sig, parseMethodDescriptor y.desc = some sig → argsL.length = sig.parameters.length) (has : (.ref a :: argsL).toArray = as) (hst : st = argsL.reverse ++ .ref a :: rest) (hW : (rest.map fun v => v.category).sum ≤ W) (hd : decode c.code pc = .ok (.invokespecial index, 3)) (eT : T.heap = h) (hc : cells + rm.cells ≤ R.cells) (hs : slots + rm.slots ≤ R.slots)
    (r : ∀ v T' L, Stand p l e R s m args below meth c T' (locs ++ L) (cells + rm.cells) (slots + rm.slots) → Qc v T'.heap L → Till p e below s Q k n (T'.setTop (mkF m (pc + 3) Ls (v.toList ++ rest)))) : Till p e below s Q k n (T.setTop (mkF m pc Ls st)) := by
  obtain ⟨v, vm1, ⟨T', L', c', s'⟩, -, X', ⟨Lc, hQ, l1, y1, z1⟩, stp⟩ := X.specialBack hx hy1 hown (mvT hZ w1) (mvT hZ w2) (mvT hZ w4) hy (backOf (W := W) (C []) hZ w4 w3 hf hl) (g := mkF m pc Ls st) rfl hsize (Steps.refl _) (a := a) (argsL := argsL) (rest := rest) hlen hst (by show 2 * 0 + _ ≤ _; omega) hd (fun _ _ => ⟨has, eT, hc, hs⟩)
  dsimp only [Pt.U, Pt.locs, Pt.cells, Pt.slots] at X' l1 y1 z1 stp hQ
  subst l1 y1 z1
  exact Till.via stp (r v T' Lc X' hQ)
theorem Till.callV {a : Addr} (C : Ctr l Z y bytes maxL ret rm as h Qc) (E : Exa Z h a y.cls) (X : Stand p l e R s m args below meth c T locs cells slots) (hx : p.tables.exec = Jvm.exec) (hZ : Z.Warmed39 s.vm) (hown : s.vm.findClass own = some m.cls) (w1 : (Jvm.Cond.methodLink own index y).before a0 Z = true) (w5 : (Jvm.Cond.declares y).before a0 Z = true) (w6 : (Jvm.Cond.selects y.cls y y).before a0 Z = true) (w2 : (Jvm.Cond.instanceMethod y).before a0 Z = true) (w3 : (Jvm.Cond.initialized y.cls).before a0 Z = true) (w4 : (Jvm.Cond.code y bytes maxL ret).before a0 Z = true)
    (hy : y.cls ≠ "java/lang/invoke/MethodHandle" ∧ y.cls ≠ "java/lang/invoke/VarHandle") (hf : rm.frames + 1 ≤ R.frames) (hl : W + (maxL + 11) + rm.locals ≤ R.locals) (hsize : Ls.size = c.maxLocals) (hlen : ∀ sig, parseMethodDescriptor y.desc = some sig → argsL.length = sig.parameters.length) (has : (.ref a :: argsL).toArray = as) (hst : st = argsL.reverse ++ .ref a :: rest) (hW : (rest.map fun v => v.category).sum ≤ W) (hd : decode c.code pc = .ok (.invokevirtual index, 3)) (eT : T.heap = h) (hc : cells + rm.cells ≤ R.cells) (hs : slots + rm.slots ≤ R.slots)
    (r : ∀ v T' L, Stand p l e R s m args below meth c T' (locs ++ L) (cells + rm.cells) (slots + rm.slots) → Qc v T'.heap L → Till p e below s Q k n (T'.setTop (mkF m (pc + 3) Ls (v.toList ++ rest)))) : Till p e below s Q k n (T.setTop (mkF m pc Ls st)) := by
  obtain ⟨cq, kq, qa, qb, qc⟩ := isOf hZ eT E
  obtain ⟨v, vm1, ⟨T', L', c', s'⟩, -, X', ⟨Lc, hQ, l1, y1, z1⟩, stp⟩ := X.virtualBack hx (y := y) (z := y) hown (mvT hZ w1) (mvT hZ w5) (notFace_of_selects (args := #[]) (mvT hZ w6)) (mvT hZ w6) (mvT hZ w2) hy (backOf (W := W) (C []) hZ w4 w3 hf hl) qa qc (g := mkF m pc Ls st) rfl hsize (Steps.refl _) (argsL := argsL) (rest := rest) hlen hst (by show 2 * 0 + _ ≤ _; omega) hd (fun _ _ => ⟨has, eT, hc, hs⟩)
  dsimp only [Pt.U, Pt.locs, Pt.cells, Pt.slots] at X' l1 y1 z1 stp hQ
  subst l1 y1 z1
  exact Till.via stp (r v T' Lc X' hQ)
theorem Till.callP {a : Addr} {kk : Nat} (C : Ctr l Z y bytes maxL ret rm as h Qc) (E : Exa Z h a y.cls) (X : Stand p l e R s m args below meth c T locs cells slots) (hx : p.tables.exec = Jvm.exec) (hZ : Z.Warmed39 s.vm) (hown : s.vm.findClass own = some m.cls) (w1 : (Jvm.Cond.methodLink own index y).before a0 Z = true) (w2 : (Jvm.Cond.instanceMethod y).before a0 Z = true) (wp : (Jvm.Cond.privateMethod y).before a0 Z = true) (wi : (Jvm.Cond.instantiable y.cls kk).before a0 Z = true) (w3 : (Jvm.Cond.initialized y.cls).before a0 Z = true) (w4 : (Jvm.Cond.code y bytes maxL ret).before a0 Z = true)
    (hy : y.cls ≠ "java/lang/invoke/MethodHandle" ∧ y.cls ≠ "java/lang/invoke/VarHandle") (hf : rm.frames + 1 ≤ R.frames) (hl : W + (maxL + 11) + rm.locals ≤ R.locals) (hsize : Ls.size = c.maxLocals) (hlen : ∀ sig, parseMethodDescriptor y.desc = some sig → argsL.length = sig.parameters.length) (has : (.ref a :: argsL).toArray = as) (hst : st = argsL.reverse ++ .ref a :: rest) (hW : (rest.map fun v => v.category).sum ≤ W) (hd : decode c.code pc = .ok (.invokevirtual index, 3)) (eT : T.heap = h) (hc : cells + rm.cells ≤ R.cells) (hs : slots + rm.slots ≤ R.slots)
    (r : ∀ v T' L, Stand p l e R s m args below meth c T' (locs ++ L) (cells + rm.cells) (slots + rm.slots) → Qc v T'.heap L → Till p e below s Q k n (T'.setTop (mkF m (pc + 3) Ls (v.toList ++ rest)))) : Till p e below s Q k n (T.setTop (mkF m pc Ls st)) := by
  have wi' : (Jvm.Cond.instantiable y.cls kk).before args s = true := mvT hZ wi
  have w2' : (Jvm.Cond.instanceMethod y).before args s = true := mvT hZ w2
  obtain ⟨c2, k2, i1, i2, -, hniab, -, -⟩ := Cond.instantiable_spec wi'
  have hpr := Cond.privateMethod_at (mvP hZ wp (args := args))
  have hsel : (Jvm.Cond.selects y.cls y y).before args s = true := selects_self_of_private i1 i2 (Bool.or_eq_false_iff.mp hniab).1 hpr w2' hy
  obtain ⟨cell, hcell, hobj⟩ := E.cell
  obtain ⟨v, vm1, ⟨T', L', c', s'⟩, -, X', ⟨Lc, hQ, l1, y1, z1⟩, stp⟩ := X.privateBack hx hown (mvT hZ w1) w2' hsel hpr (mvT hZ w4) hy (backOf (W := W) (C []) hZ w4 w3 hf hl) (g := mkF m pc Ls st) rfl hsize (Steps.refl _) (a := a) (by rw [eT]; exact hcell) hobj (argsL := argsL) (rest := rest) hlen hst (by show 2 * 0 + _ ≤ _; omega) hd (fun _ _ => ⟨has, eT, hc, hs⟩)
  dsimp only [Pt.U, Pt.locs, Pt.cells, Pt.slots] at X' l1 y1 z1 stp hQ
  subst l1 y1 z1
  exact Till.via stp (r v T' Lc X' hQ)
end Calls
theorem Till.pop2L {x : Int64} (X : Stand p l e R s m args below meth c T locs cells slots) (hx : p.tables.exec = Jvm.exec) (hd : decode c.code pc = .ok (.pop2, 1)) (r : Till p e below s Q k n (T.setTop (mkF m (pc + 1) Ls rest))) : Till p e below s Q k n (T.setTop (mkF m pc Ls (.long x :: rest))) := by
  refine Till.pre (fun t hr => ?_) r
  show Steps p.tables e below (T.setTop { method := m, pc := pc, locals := Ls, stack := _ :: rest, locked := none }) _
  jvm_step X.here [X.here.top, hx, hd, Value.category]
  exact hr
end Own
end Jvm.Own
namespace Jvm.Pilot.@@N@@
open Jvm Jvm.ClassFile Sem Op Lib Jvm.Free Jvm.Stand Jvm.LawKit Jvm.RoadKit Bundle Jvm.Own Jvm.Pilot.@@N@@.Jvm.D
def Late (Z : State) (h : Heap) (a : Addr) (x0 : Value) (x1 : Int32) : Prop := Exa Z h a "com/example/hivetable/hivetable/search/LateAcceptance" ∧ Fld Z h a "com/example/hivetable/hivetable/search/LateAcceptance" "entries" "[J" x0 ∧ Fld Z h a "com/example/hivetable/hivetable/search/LateAcceptance" "next" "I" (.int x1)
theorem Late.lt {Z : State} {h : Heap} {a : Addr} {x0 : Value} {x1 : Int32} (F : Late Z h a x0 x1) : a < h.size := F.1.lt
theorem Late.ext {Z : State} {h h' : Heap} {a : Addr} {x0 : Value} {x1 : Int32} (F : Late Z h a x0 x1) (E : Ext h h') : Late Z h' a x0 x1 := ⟨F.1.ext E, F.2.1.ext E, F.2.2.ext E⟩
theorem Late.keep {Z : State} {h h' : Heap} {a : Addr} {x0 : Value} {x1 : Int32} {ws : List Addr} (F : Late Z h a x0 x1) (K : Keep h h' ws) (q : a ∉ ws) : Late Z h' a x0 x1 := ⟨F.1.keep K, F.2.1.keep K q, F.2.2.keep K q⟩
theorem Late.wr {Z : State} {h h' : Heap} {a : Addr} {x0 : Value} {x1 : Int32} {b : Addr} {sl : Nat} {v : Value} (F : Late Z h a x0 x1) (W : Wr h h' b sl v) (q : a ≠ b) : Late Z h' a x0 x1 := ⟨F.1.wr W, F.2.1.other W (Or.inl q), F.2.2.other W (Or.inl q)⟩
theorem Late.set_entries {Z : State} {h h' : Heap} {a : Addr} {x0 : Value} {x1 : Int32} {y : Value} {a0 : Array Value} (hw : ∀ d ∈ tables_1, d.before a0 Z = true) (F : Late Z h a x0 x1) (W : Wr h h' a (Jvm.RoadKit.slotOf Z "com/example/hivetable/hivetable/search/LateAcceptance" "entries" "[J") y) : Late Z h' a y x1 := ⟨F.1.wr W, F.2.1.same W, F.2.2.other W (Or.inr (Jvm.RoadKit.slot_ne (Or.inl (hw _ (List.mem_of_getElem? (i := 22) rfl))) (Or.inr (hw _ (List.mem_of_getElem? (i := 11) rfl))) (by decide) (t := .int) (t' := (.array .long)) (by decide) (by decide)))⟩
theorem Late.set_next {Z : State} {h h' : Heap} {a : Addr} {x0 : Value} {x1 : Int32} {y : Int32} {a0 : Array Value} (hw : ∀ d ∈ tables_1, d.before a0 Z = true) (F : Late Z h a x0 x1) (W : Wr h h' a (Jvm.RoadKit.slotOf Z "com/example/hivetable/hivetable/search/LateAcceptance" "next" "I") (.int y)) : Late Z h' a x0 y := ⟨F.1.wr W, F.2.1.other W (Or.inr (Jvm.RoadKit.slot_ne (Or.inr (hw _ (List.mem_of_getElem? (i := 11) rfl))) (Or.inl (hw _ (List.mem_of_getElem? (i := 22) rfl))) (by decide) (t := (.array .long)) (t' := .int) (by decide) (by decide))), F.2.2.same W⟩
theorem own_inc {i z : Int32} (h : i < z) : (i + (1 : Int32)).toInt = i.toInt + 1 := by
  have := c_iadd i 1
  have := rng32 (i + 1)
  have := rng32 i
  have := rng32 z
  have : (1 : Int32).toInt = 1 := rfl
  rw [Int32.lt_iff_toInt_lt] at h
  omega
theorem own_nat {i : Int32} (h : 0 ≤ i.toInt) : (i.toNatClampNeg : Int) = i.toInt := by simp only [Int32.toNatClampNeg]; omega
theorem own_neg {i : Int32} (h : 0 ≤ i.toInt) : ¬ i < (0 : Int32) := by rw [Int32.lt_iff_toInt_lt, show (0 : Int32).toInt = 0 from rfl]; omega
theorem own_pos' {i : Int32} (h : ¬ i < (0 : Int32)) : 0 ≤ i.toInt := by rw [Int32.lt_iff_toInt_lt, show (0 : Int32).toInt = 0 from rfl] at h; omega
theorem own_fillb {i z : Int32} {g : Nat → Int64} {v : Int64} (h : i < z) (h0 : 0 ≤ i.toInt) (hg : ∀ j, j < i.toNatClampNeg → g j = v) : ∀ j, j < (i + (1 : Int32)).toNatClampNeg → oupd g i.toNatClampNeg v j = v := by
  intro j hj
  have a := own_inc h
  have b := own_nat h0
  have c := own_nat (i := i + 1) (by omega)
  by_cases q : j = i.toNatClampNeg
  · exact upd_hit q
  · rw [upd_miss q]; exact hg j (by omega)
theorem d2_0 : decode jdk_65_method_101_code 0 = .ok (.iconst 0, 1) := by decide +kernel
theorem d2_1 : decode jdk_65_method_101_code 1 = .ok (.istore_n 3, 1) := by decide +kernel
theorem d2_2 : decode jdk_65_method_101_code 2 = .ok (.aload_n 0, 1) := by decide +kernel
theorem d2_3 : decode jdk_65_method_101_code 3 = .ok (.arraylength, 1) := by decide +kernel
theorem d2_4 : decode jdk_65_method_101_code 4 = .ok (.istore 4, 2) := by decide +kernel
theorem d2_6 : decode jdk_65_method_101_code 6 = .ok (.iload_n 3, 1) := by decide +kernel
theorem d2_7 : decode jdk_65_method_101_code 7 = .ok (.iload 4, 2) := by decide +kernel
theorem d2_9 : decode jdk_65_method_101_code 9 = .ok (.if_icmp .ge 13, 3) := by decide +kernel
theorem d2_12 : decode jdk_65_method_101_code 12 = .ok (.aload_n 0, 1) := by decide +kernel
theorem d2_13 : decode jdk_65_method_101_code 13 = .ok (.iload_n 3, 1) := by decide +kernel
theorem d2_14 : decode jdk_65_method_101_code 14 = .ok (.lload_n 1, 1) := by decide +kernel
theorem d2_15 : decode jdk_65_method_101_code 15 = .ok (.lastore, 1) := by decide +kernel
theorem d2_16 : decode jdk_65_method_101_code 16 = .ok (.iinc 3 1, 3) := by decide +kernel
theorem d2_19 : decode jdk_65_method_101_code 19 = .ok (.goto (-13), 3) := by decide +kernel
theorem d2_22 : decode jdk_65_method_101_code 22 = .ok (.return_, 1) := by decide +kernel
theorem pn_2 : plainName "java/util/Arrays" = true := by first | (simp [plainName, overriddenIn]; done) | decide +kernel
theorem ef_2 (m : MethodId) (a1 : Addr) (q2 : Int64) : entryFrame m #[(.ref a1), (.long q2)] 5 = mkF m 0 #[.val (.ref a1), .val (.long q2), .second, .unset, .unset] [] := by first | (simp [entryFrame, mkF, argsToLocals, Value.category]; done) | rfl
def Q2 (Z : State) (a1 : Addr) (q2 : Int64) (z : Int32) (f : Nat → Int64) (h0 : Heap) (n0 : Nat) : Option Value → Heap → List Loc → Prop := fun v h L => v = none ∧ Fr n0 L ∧ Keep h0 h [a1] ∧ LA Z h a1 z (fun _ => q2)
def room2 : Room := { frames := 0, cells := 0, slots := 0, locals := 0 }
set_option maxRecDepth 65536 in
set_option maxHeartbeats 40000000 in
theorem rm2 (l : Launch) (Z : State) (a0 : Array Value) (hw : ∀ d ∈ tables_1, d.before a0 Z = true) (a1 : Addr) (q2 : Int64) (z : Int32) (f : Nat → Int64) (h0 : Heap) (n0 : Nat) (Zs : n0 ≤ h0.size) (R_a1 : LA Z h0 a1 z f) (g_a1 : n0 ≤ a1) : Ctr l Z (⟨"java/util/Arrays", "fill", "([JJ)V"⟩ : MethodName) jdk_65_method_101_code 5 none room2 #[(.ref a1), (.long q2)] h0 (Q2 Z a1 q2 z f h0 n0) := by
  refine Ctr.of (plainFor_of_name pn_2) ?_
  intro p e s m below meth c s₁ hx hby hml hown hnm hret hlk hZ e0 X0
  have hown : s.vm.findClass "java/util/Arrays" = some m.cls := hown
  have hml : c.maxLocals = 5 := hml
  have hnm : meth.name = "fill" := hnm
  have hret : meth.sig.returnType = none := hret
  have N0 := Fr.nil n0
  refine Till.cast (ef_2 m a1 q2) ?_
  have Kp := Keep.refl h0 [a1]
  show Till p e below s (Q2 Z a1 q2 z f h0 n0) room2.cells room2.slots (s₁.setTop (mkF m 0 #[.val (.ref a1), .val (.long q2), .second, .unset, .unset] []))
  refine Till.pre (fun _ hr => XS.iconst X0.here hx rfl (hb hby d2_0) hr) ?_
  show Till p e below s (Q2 Z a1 q2 z f h0 n0) room2.cells room2.slots (s₁.setTop (mkF m 1 #[.val (.ref a1), .val (.long q2), .second, .unset, .unset] [(.int (0 : Int32))]))
  refine Till.pre (fun _ hr => XS.istoreN X0.here hx rfl (hb hby d2_1) rfl (l' := #[.val (.ref a1), .val (.long q2), .second, .val (.int (0 : Int32)), .unset]) rfl hr) ?_
  show Till p e below s (Q2 Z a1 q2 z f h0 n0) room2.cells room2.slots (s₁.setTop (mkF m 2 #[.val (.ref a1), .val (.long q2), .second, .val (.int (0 : Int32)), .unset] []))
  refine Till.pre (fun _ hr => XS.aloadN X0.here hx rfl (hb hby d2_2) rfl rfl hr) ?_
  show Till p e below s (Q2 Z a1 q2 z f h0 n0) room2.cells room2.slots (s₁.setTop (mkF m 3 #[.val (.ref a1), .val (.long q2), .second, .val (.int (0 : Int32)), .unset] [(.ref a1)]))
  refine Till.alen R_a1 X0 hx hZ e0 (hb hby d2_3) ?_
  show Till p e below s (Q2 Z a1 q2 z f h0 n0) room2.cells room2.slots (s₁.setTop (mkF m 4 #[.val (.ref a1), .val (.long q2), .second, .val (.int (0 : Int32)), .unset] [(.int z)]))
  refine Till.pre (fun _ hr => XS.istore X0.here hx rfl (hb hby d2_4) rfl (l' := #[.val (.ref a1), .val (.long q2), .second, .val (.int (0 : Int32)), .val (.int z)]) rfl hr) ?_
  have loop6_5 : ∀ (fuel : Nat) (T1 : State) (L2 : List Loc) (X3 : Stand p l e room2 s m #[(.ref a1), (.long q2)] below meth c T1 L2 0 0) (N4 : Fr n0 L2) (i : Int32) (g : Nat → Int64) (Zs : n0 ≤ T1.heap.size) (Kp : Keep h0 T1.heap [a1]) (R_a1 : LA Z T1.heap a1 z g) (hi0 : 0 ≤ i.toInt) (hi1 : i.toInt ≤ z.toInt) (hg : ∀ j, j < i.toNatClampNeg → g j = q2) (hm : (z.toInt - i.toInt).toNat < fuel), Till p e below s (Q2 Z a1 q2 z f h0 n0) room2.cells room2.slots (T1.setTop (mkF m 6 #[.val (.ref a1), .val (.long q2), .second, .val (.int i), .val (.int z)] [])) := by
    intro fuel
    induction fuel with
    | zero => intro T1 L2 X3 N4 i g Zs Kp R_a1 hi0 hi1 hg hm; exact absurd hm (Nat.not_lt_zero _)
    | succ fuel ih =>
      intro T1 L2 X3 N4 i g Zs Kp R_a1 hi0 hi1 hg hm
      show Till p e below s (Q2 Z a1 q2 z f h0 n0) room2.cells room2.slots (T1.setTop (mkF m 6 #[.val (.ref a1), .val (.long q2), .second, .val (.int i), .val (.int z)] []))
      refine Till.pre (fun _ hr => XS.iloadN X3.here hx rfl (hb hby d2_6) rfl hr) ?_
      show Till p e below s (Q2 Z a1 q2 z f h0 n0) room2.cells room2.slots (T1.setTop (mkF m 7 #[.val (.ref a1), .val (.long q2), .second, .val (.int i), .val (.int z)] [(.int i)]))
      refine Till.pre (fun _ hr => XS.iload X3.here hx rfl (hb hby d2_7) rfl hr) ?_
      show Till p e below s (Q2 Z a1 q2 z f h0 n0) room2.cells room2.slots (T1.setTop (mkF m 9 #[.val (.ref a1), .val (.long q2), .second, .val (.int i), .val (.int z)] [(.int z), (.int i)]))
      refine Till.icmp (pc' := 22) X3.here hx (hb hby d2_9) (by decide) (by decide) (fun q => ?_) (fun q => ?_)
      · have hc7 := (hLt.2.2.1 q)
        show Till p e below s (Q2 Z a1 q2 z f h0 n0) room2.cells room2.slots (T1.setTop (mkF m 22 #[.val (.ref a1), .val (.long q2), .second, .val (.int i), .val (.int z)] []))
        refine Till.retV X3 hx hret hlk (hb hby d2_22) (by decide) (by decide) ?_
        show (Q2 Z a1 q2 z f h0 n0) _ T1.heap _
        exact ⟨rfl, N4, Kp, AR.congr R_a1 (fun k hk => hg k (by have q := hc7; rw [Int32.lt_iff_toInt_lt] at q; have := own_nat hi0; have := own_nat (own_pos' R_a1.pos); omega))⟩
      · have hc7 := (hLt.2.2.2.1 q)
        show Till p e below s (Q2 Z a1 q2 z f h0 n0) room2.cells room2.slots (T1.setTop (mkF m 12 #[.val (.ref a1), .val (.long q2), .second, .val (.int i), .val (.int z)] []))
        refine Till.pre (fun _ hr => XS.aloadN X3.here hx rfl (hb hby d2_12) rfl rfl hr) ?_
        show Till p e below s (Q2 Z a1 q2 z f h0 n0) room2.cells room2.slots (T1.setTop (mkF m 13 #[.val (.ref a1), .val (.long q2), .second, .val (.int i), .val (.int z)] [(.ref a1)]))
        refine Till.pre (fun _ hr => XS.iloadN X3.here hx rfl (hb hby d2_13) rfl hr) ?_
        show Till p e below s (Q2 Z a1 q2 z f h0 n0) room2.cells room2.slots (T1.setTop (mkF m 14 #[.val (.ref a1), .val (.long q2), .second, .val (.int i), .val (.int z)] [(.int i), (.ref a1)]))
        refine Till.pre (fun _ hr => XS.lloadN X3.here hx rfl (hb hby d2_14) rfl hr) ?_
        show Till p e below s (Q2 Z a1 q2 z f h0 n0) room2.cells room2.slots (T1.setTop (mkF m 15 #[.val (.ref a1), .val (.long q2), .second, .val (.int i), .val (.int z)] [(.long q2), (.int i), (.ref a1)]))
        refine Till.lastore R_a1 (own_neg hi0) (hc7) X3 hx hZ rfl (hb hby d2_15) (fun T8 h9 X10 e11 W12 A13 => ?_)
        have N14 := Fr.snoc X10 N4 g_a1
        have Zs := Nat.le_trans Zs (Keep.of_wr W12).1
        have Kp := Kp.wr W12 (Or.inl (List.mem_of_getElem? (i := 0) rfl))
        have R_a1 : LA Z h9 a1 z (oupd g (i).toNatClampNeg q2) := A13
        show Till p e below s (Q2 Z a1 q2 z f h0 n0) room2.cells room2.slots (T8.setTop (mkF m 16 #[.val (.ref a1), .val (.long q2), .second, .val (.int i), .val (.int z)] []))
        refine Till.pre (fun _ hr => XS.iinc X10.here hx rfl (hb hby d2_16) rfl (l' := #[.val (.ref a1), .val (.long q2), .second, .val (.int (i + (1 : Int32))), .val (.int z)]) rfl hr) ?_
        show Till p e below s (Q2 Z a1 q2 z f h0 n0) room2.cells room2.slots (T8.setTop (mkF m 19 #[.val (.ref a1), .val (.long q2), .second, .val (.int (i + (1 : Int32))), .val (.int z)] []))
        refine Till.pre (fun _ hr => XS.goto X10.here hx rfl (pc0 := 19) (pc' := 6) rfl (hb hby d2_19) (by decide) (by decide) hr) ?_
        show Till p e below s (Q2 Z a1 q2 z f h0 n0) room2.cells room2.slots (T8.setTop (mkF m 6 #[.val (.ref a1), .val (.long q2), .second, .val (.int (i + (1 : Int32))), .val (.int z)] []))
        exact ih _ _ X10 N14 _ _ (by rw [e11]; exact Zs) (by rw [e11]; exact Kp) (by rw [e11]; exact R_a1) (by have := own_inc hc7; omega) (by have := own_inc hc7; have q := hc7; rw [Int32.lt_iff_toInt_lt] at q; omega) (own_fillb hc7 hi0 hg) (by have := own_inc hc7; have q := hc7; rw [Int32.lt_iff_toInt_lt] at q; omega)
  show Till p e below s (Q2 Z a1 q2 z f h0 n0) room2.cells room2.slots (s₁.setTop (mkF m 6 #[.val (.ref a1), .val (.long q2), .second, .val (.int (0 : Int32)), .val (.int z)] []))
  exact loop6_5 _ _ _ X0 N0 _ _ (by rw [e0]; exact Zs) (by rw [e0]; exact Kp) (by rw [e0]; exact R_a1) (by decide) (own_pos' R_a1.pos) (fun j hj => absurd hj (Nat.not_lt_zero _)) (Nat.lt_succ_self _)
theorem d5_0 : decode jdk_29_method_70_code 0 = .ok (.lload_n 0, 1) := by decide +kernel
theorem d5_1 : decode jdk_29_method_70_code 1 = .ok (.lload_n 2, 1) := by decide +kernel
theorem d5_2 : decode jdk_29_method_70_code 2 = .ok (.lcmp, 1) := by decide +kernel
theorem d5_3 : decode jdk_29_method_70_code 3 = .ok (.ifCond .gt 7, 3) := by decide +kernel
theorem d5_6 : decode jdk_29_method_70_code 6 = .ok (.lload_n 0, 1) := by decide +kernel
theorem d5_7 : decode jdk_29_method_70_code 7 = .ok (.goto 4, 3) := by decide +kernel
theorem d5_10 : decode jdk_29_method_70_code 10 = .ok (.lload_n 2, 1) := by decide +kernel
theorem d5_11 : decode jdk_29_method_70_code 11 = .ok (.lreturn, 1) := by decide +kernel
theorem ef_5 (m : MethodId) (q1 : Int64) (q2 : Int64) : entryFrame m #[(.long q1), (.long q2)] 4 = mkF m 0 #[.val (.long q1), .second, .val (.long q2), .second] [] := by first | (simp [entryFrame, mkF, argsToLocals, Value.category]; done) | rfl
def fn5 (q1 : Int64) (q2 : Int64) : Int64 := (if (q2 < q1) then q2 else q1)
def Q5 (Z : State) (q1 : Int64) (q2 : Int64) (h0 : Heap) (n0 : Nat) : Option Value → Heap → List Loc → Prop := fun v h L => v = some (Value.long (fn5 q1 q2)) ∧ Fr n0 L ∧ h = h0
def room5 : Room := { frames := 0, cells := 0, slots := 0, locals := 0 }
set_option maxRecDepth 65536 in
set_option maxHeartbeats 40000000 in
theorem rm5 (l : Launch) (Z : State) (a0 : Array Value) (hw : ∀ d ∈ tables_1, d.before a0 Z = true) (q1 : Int64) (q2 : Int64) (h0 : Heap) (n0 : Nat)  : Ctr l Z (⟨"java/lang/Math", "min", "(JJ)J"⟩ : MethodName) jdk_29_method_70_code 4 (some .long) room5 #[(.long q1), (.long q2)] h0 (Q5 Z q1 q2 h0 n0) := by
  refine Ctr.of (Jvm.Free.JP.mathPlain rfl (by decide +kernel)) ?_
  intro p e s m below meth c s₁ hx hby hml hown hnm hret hlk hZ e0 X0
  have hown : s.vm.findClass "java/lang/Math" = some m.cls := hown
  have hml : c.maxLocals = 4 := hml
  have hnm : meth.name = "min" := hnm
  have hret : meth.sig.returnType = (some .long) := hret
  have N0 := Fr.nil n0
  refine Till.cast (ef_5 m q1 q2) ?_
  show Till p e below s (Q5 Z q1 q2 h0 n0) room5.cells room5.slots (s₁.setTop (mkF m 0 #[.val (.long q1), .second, .val (.long q2), .second] []))
  refine Till.pre (fun _ hr => XS.lloadN X0.here hx rfl (hb hby d5_0) rfl hr) ?_
  show Till p e below s (Q5 Z q1 q2 h0 n0) room5.cells room5.slots (s₁.setTop (mkF m 1 #[.val (.long q1), .second, .val (.long q2), .second] [(.long q1)]))
  refine Till.pre (fun _ hr => XS.lloadN X0.here hx rfl (hb hby d5_1) rfl hr) ?_
  show Till p e below s (Q5 Z q1 q2 h0 n0) room5.cells room5.slots (s₁.setTop (mkF m 2 #[.val (.long q1), .second, .val (.long q2), .second] [(.long q2), (.long q1)]))
  refine Till.pre (fun _ hr => XS.lcmp X0.here hx rfl (hb hby d5_2) rfl hr) ?_
  show Till p e below s (Q5 Z q1 q2 h0 n0) room5.cells room5.slots (s₁.setTop (mkF m 3 #[.val (.long q1), .second, .val (.long q2), .second] [(.int (lcmpW q1 q2))]))
  have J11_1 : ∀ (v11s0 : Int64) (hv11s0 : v11s0 = (if (q2 < q1) then q2 else q1)), Till p e below s (Q5 Z q1 q2 h0 n0) room5.cells room5.slots (s₁.setTop (mkF m 11 #[.val (.long q1), .second, .val (.long q2), .second] [(.long v11s0)])) := by
    intro v11s0 hv11s0
    show Till p e below s (Q5 Z q1 q2 h0 n0) room5.cells room5.slots (s₁.setTop (mkF m 11 #[.val (.long q1), .second, .val (.long q2), .second] [(.long v11s0)]))
    refine Till.retJ X0 hx hret hlk (hb hby d5_11) (by decide) (by decide) ?_
    subst hv11s0
    exact ⟨rfl, N0, e0⟩
  refine Till.ifc (pc' := 10) X0.here hx (hb hby d5_3) (by decide) (by decide) (fun q => ?_) (fun q => ?_)
  · have hc1 := (lGt.mp (hLt.2.2.2.2.1 q))
    show Till p e below s (Q5 Z q1 q2 h0 n0) room5.cells room5.slots (s₁.setTop (mkF m 10 #[.val (.long q1), .second, .val (.long q2), .second] []))
    refine Till.pre (fun _ hr => XS.lloadN X0.here hx rfl (hb hby d5_10) rfl hr) ?_
    show Till p e below s (Q5 Z q1 q2 h0 n0) room5.cells room5.slots (s₁.setTop (mkF m 11 #[.val (.long q1), .second, .val (.long q2), .second] [(.long q2)]))
    exact J11_1 _ (Eq.symm (if_pos hc1))
  · have hc1 := (mt lGt.mpr (hLt.2.2.2.2.2.1 q))
    show Till p e below s (Q5 Z q1 q2 h0 n0) room5.cells room5.slots (s₁.setTop (mkF m 6 #[.val (.long q1), .second, .val (.long q2), .second] []))
    refine Till.pre (fun _ hr => XS.lloadN X0.here hx rfl (hb hby d5_6) rfl hr) ?_
    show Till p e below s (Q5 Z q1 q2 h0 n0) room5.cells room5.slots (s₁.setTop (mkF m 7 #[.val (.long q1), .second, .val (.long q2), .second] [(.long q1)]))
    refine Till.pre (fun _ hr => XS.goto X0.here hx rfl (pc0 := 7) (pc' := 11) rfl (hb hby d5_7) (by decide) (by decide) hr) ?_
    show Till p e below s (Q5 Z q1 q2 h0 n0) room5.cells room5.slots (s₁.setTop (mkF m 11 #[.val (.long q1), .second, .val (.long q2), .second] [(.long q1)]))
    exact J11_1 _ (Eq.symm (if_neg hc1))
theorem d1_0 : decode prog_37_method_1_code 0 = .ok (.aload_n 0, 1) := by decide +kernel
theorem d1_1 : decode prog_37_method_1_code 1 = .ok (.invokespecial 1, 3) := by decide +kernel
theorem d1_4 : decode prog_37_method_1_code 4 = .ok (.aload_n 0, 1) := by decide +kernel
theorem d1_5 : decode prog_37_method_1_code 5 = .ok (.iload_n 1, 1) := by decide +kernel
theorem d1_6 : decode prog_37_method_1_code 6 = .ok (.newarray .long, 2) := by decide +kernel
theorem d1_8 : decode prog_37_method_1_code 8 = .ok (.putfield 7, 3) := by decide +kernel
theorem d1_11 : decode prog_37_method_1_code 11 = .ok (.aload_n 0, 1) := by decide +kernel
theorem d1_12 : decode prog_37_method_1_code 12 = .ok (.getfield 7, 3) := by decide +kernel
theorem d1_15 : decode prog_37_method_1_code 15 = .ok (.lload_n 2, 1) := by decide +kernel
theorem d1_16 : decode prog_37_method_1_code 16 = .ok (.invokestatic 13, 3) := by decide +kernel
theorem d1_19 : decode prog_37_method_1_code 19 = .ok (.return_, 1) := by decide +kernel
theorem pn_1 : plainName "com/example/hivetable/hivetable/search/LateAcceptance" = true := by first | (simp [plainName, overriddenIn]; done) | decide +kernel
theorem pd1_5 : parseMethodDescriptor "([JJ)V" = some ⟨[(.array .long), .long], none⟩ := by decide +kernel
theorem ef_1 (m : MethodId) (a1 : Addr) (p2 : Int32) (q3 : Int64) : entryFrame m #[(.ref a1), (.int p2), (.long q3)] 4 = mkF m 0 #[.val (.ref a1), .val (.int p2), .val (.long q3), .second] [] := by first | (simp [entryFrame, mkF, argsToLocals, Value.category]; done) | rfl
def Q1 (Z : State) (a1 : Addr) (p2 : Int32) (q3 : Int64) (h0 : Heap) (n0 : Nat) : Option Value → Heap → List Loc → Prop := fun v h L => ∃ (b6 : Addr), v = none ∧ Fr n0 L ∧ Keep h0 h [a1] ∧ h0.size ≤ b6 ∧ Late Z h a1 (.ref b6) (0 : Int32) ∧ LA Z h b6 p2 (fun _ => q3)
def room1 : Room := { frames := 1, cells := 1, slots := 4, locals := 16 }
set_option maxRecDepth 65536 in
set_option maxHeartbeats 40000000 in
theorem rm1 (l : Launch) (Z : State) (a0 : Array Value) (hw : ∀ d ∈ tables_1, d.before a0 Z = true) (a1 : Addr) (p2 : Int32) (q3 : Int64) (h0 : Heap) (n0 : Nat) (Zs : n0 ≤ h0.size) (R_a1 : Late Z h0 a1 .null (0 : Int32)) (g_a1 : n0 ≤ a1) (hz0 : ¬ p2 < (0 : Int32)) (hz4 : p2.toNatClampNeg ≤ 4) : Ctr l Z (⟨"com/example/hivetable/hivetable/search/LateAcceptance", "<init>", "(IJ)V"⟩ : MethodName) prog_37_method_1_code 4 none room1 #[(.ref a1), (.int p2), (.long q3)] h0 (Q1 Z a1 p2 q3 h0 n0) := by
  refine Ctr.of (plainFor_of_name pn_1) ?_
  intro p e s m below meth c s₁ hx hby hml hown hnm hret hlk hZ e0 X0
  have hown : s.vm.findClass "com/example/hivetable/hivetable/search/LateAcceptance" = some m.cls := hown
  have hml : c.maxLocals = 4 := hml
  have hnm : meth.name = "<init>" := hnm
  have hret : meth.sig.returnType = none := hret
  have N0 := Fr.nil n0
  refine Till.cast (ef_1 m a1 p2 q3) ?_
  have Kp := Keep.refl h0 [a1]
  show Till p e below s (Q1 Z a1 p2 q3 h0 n0) room1.cells room1.slots (s₁.setTop (mkF m 0 #[.val (.ref a1), .val (.int p2), .val (.long q3), .second] []))
  refine Till.pre (fun _ hr => XS.aloadN X0.here hx rfl (hb hby d1_0) rfl rfl hr) ?_
  show Till p e below s (Q1 Z a1 p2 q3 h0 n0) room1.cells room1.slots (s₁.setTop (mkF m 1 #[.val (.ref a1), .val (.int p2), .val (.long q3), .second] [(.ref a1)]))
  refine Till.initO X0 hx hZ hown (hw _ (List.mem_of_getElem? (i := 6) rfl)) (hw _ (List.mem_of_getElem? (i := 7) rfl)) (hw _ (List.mem_of_getElem? (i := 8) rfl)) e0 (by rw [hml]; rfl) (hb hby d1_1) (by decide) (W := 0) (Nat.le_of_eq rfl) (by decide) (fun T1 X2 e3 => ?_)
  show Till p e below s (Q1 Z a1 p2 q3 h0 n0) room1.cells room1.slots (T1.setTop (mkF m 4 #[.val (.ref a1), .val (.int p2), .val (.long q3), .second] []))
  refine Till.pre (fun _ hr => XS.aloadN X2.here hx rfl (hb hby d1_4) rfl rfl hr) ?_
  show Till p e below s (Q1 Z a1 p2 q3 h0 n0) room1.cells room1.slots (T1.setTop (mkF m 5 #[.val (.ref a1), .val (.int p2), .val (.long q3), .second] [(.ref a1)]))
  refine Till.pre (fun _ hr => XS.iloadN X2.here hx rfl (hb hby d1_5) rfl hr) ?_
  show Till p e below s (Q1 Z a1 p2 q3 h0 n0) room1.cells room1.slots (T1.setTop (mkF m 6 #[.val (.ref a1), .val (.int p2), .val (.long q3), .second] [(.int p2), (.ref a1)]))
  refine Till.newA (aty := .long) (w := Value.long) (d0 := (0 : Int64)) X2 hx hZ (hw _ (List.mem_of_getElem? (i := 9) rfl)) e3 (hb hby d1_6) rfl (hz0) 4 (hz4) (by decide) (by decide) (by decide) (fun T4 h5 b6 g7 X8 e9 E10 A11 => ?_)
  have ne_a1_b6 : a1 ≠ b6 := Nat.ne_of_lt (Nat.lt_of_lt_of_le R_a1.lt (Nat.le_of_eq g7.symm))
  have g_b6 : n0 ≤ b6 := Nat.le_trans Zs (Nat.le_of_eq g7.symm)
  have sz_b6 : h0.size ≤ b6 := Nat.le_trans Kp.1 (Nat.le_of_eq g7.symm)
  have R_a1 := R_a1.ext E10
  have Zs := Nat.le_trans Zs E10.1
  have Kp := Kp.ext E10
  have R_b6 : LA Z h5 b6 p2 (fun _ => (0 : Int64)) := A11
  show Till p e below s (Q1 Z a1 p2 q3 h0 n0) room1.cells room1.slots (T4.setTop (mkF m 8 #[.val (.ref a1), .val (.int p2), .val (.long q3), .second] [(.ref b6), (.ref a1)]))
  refine Till.putF X8 hx hZ hown (hw _ (List.mem_of_getElem? (i := 10) rfl)) e9 R_a1.2.1 R_a1.1 (Or.inr ⟨(hw _ (List.mem_of_getElem? (i := 11) rfl)), rfl, hnm⟩) (hw _ (List.mem_of_getElem? (i := 1) rfl)) (ty := (.array .long)) (by decide) rfl rfl (hb hby d1_8) (fun T12 h13 X14 e15 W16 => ?_)
  have N17 := Fr.snoc X14 N0 g_a1
  have R_b6 := R_b6.wr W16 (Ne.symm ne_a1_b6)
  have Zs := Nat.le_trans Zs (Keep.of_wr W16).1
  have Kp := Kp.wr W16 (Or.inl (List.mem_of_getElem? (i := 0) rfl))
  have R_a1 := Late.set_entries hw R_a1 W16
  show Till p e below s (Q1 Z a1 p2 q3 h0 n0) room1.cells room1.slots (T12.setTop (mkF m 11 #[.val (.ref a1), .val (.int p2), .val (.long q3), .second] []))
  refine Till.pre (fun _ hr => XS.aloadN X14.here hx rfl (hb hby d1_11) rfl rfl hr) ?_
  show Till p e below s (Q1 Z a1 p2 q3 h0 n0) room1.cells room1.slots (T12.setTop (mkF m 12 #[.val (.ref a1), .val (.int p2), .val (.long q3), .second] [(.ref a1)]))
  refine Till.getF X14 hx hZ hown (hw _ (List.mem_of_getElem? (i := 10) rfl)) e15 R_a1.2.1 (hb hby d1_12) (fun T18 X19 e20 => ?_)
  show Till p e below s (Q1 Z a1 p2 q3 h0 n0) room1.cells room1.slots (T18.setTop (mkF m 15 #[.val (.ref a1), .val (.int p2), .val (.long q3), .second] [(.ref b6)]))
  refine Till.pre (fun _ hr => XS.lloadN X19.here hx rfl (hb hby d1_15) rfl hr) ?_
  show Till p e below s (Q1 Z a1 p2 q3 h0 n0) room1.cells room1.slots (T18.setTop (mkF m 16 #[.val (.ref a1), .val (.int p2), .val (.long q3), .second] [(.long q3), (.ref b6)]))
  refine Till.callS (rm2 l Z a0 hw b6 q3 p2 (fun _ => (0 : Int64)) h13 n0 Zs R_b6 g_b6) X19 hx hZ hown (hw _ (List.mem_of_getElem? (i := 12) rfl)) (hw _ (List.mem_of_getElem? (i := 13) rfl)) (hw _ (List.mem_of_getElem? (i := 14) rfl)) (hw _ (List.mem_of_getElem? (i := 15) rfl)) (by decide) (by decide) (W := 0) (by decide) (by rw [hml]; rfl) (argsL := [(.ref b6), (.long q3)]) (rest := []) (lenOf pd1_5 rfl) rfl rfl (Nat.le_of_eq rfl) (hb hby d1_16) e20 (by decide) (by decide) ?_
  rintro _ T21 L22 X23 ⟨rfl, N24, K25, q26⟩
  have N24 := Fr.app N17 N24
  have R_a1 := R_a1.keep K25 (ninS ne_a1_b6 nin0)
  have Zs := Nat.le_trans Zs K25.1
  have Kp := Kp.trans K25 (allS (Or.inr sz_b6) all0)
  have R_b6 : LA Z T21.heap b6 p2 (fun _ => q3) := q26
  show Till p e below s (Q1 Z a1 p2 q3 h0 n0) room1.cells room1.slots (T21.setTop (mkF m 19 #[.val (.ref a1), .val (.int p2), .val (.long q3), .second] []))
  refine Till.retV X23 hx hret hlk (hb hby d1_19) (by decide) (by decide) ?_
  show (Q1 Z a1 p2 q3 h0 n0) _ T21.heap _
  exact ⟨b6, rfl, N24, Kp, sz_b6, R_a1, R_b6⟩
theorem d3_0 : decode prog_37_method_2_code 0 = .ok (.lload_n 3, 1) := by decide +kernel
theorem d3_1 : decode prog_37_method_2_code 1 = .ok (.lload_n 1, 1) := by decide +kernel
theorem d3_2 : decode prog_37_method_2_code 2 = .ok (.lcmp, 1) := by decide +kernel
theorem d3_3 : decode prog_37_method_2_code 3 = .ok (.ifCond .le 17, 3) := by decide +kernel
theorem d3_6 : decode prog_37_method_2_code 6 = .ok (.lload_n 3, 1) := by decide +kernel
theorem d3_7 : decode prog_37_method_2_code 7 = .ok (.aload_n 0, 1) := by decide +kernel
theorem d3_8 : decode prog_37_method_2_code 8 = .ok (.getfield 7, 3) := by decide +kernel
theorem d3_11 : decode prog_37_method_2_code 11 = .ok (.aload_n 0, 1) := by decide +kernel
theorem d3_12 : decode prog_37_method_2_code 12 = .ok (.getfield 19, 3) := by decide +kernel
theorem d3_15 : decode prog_37_method_2_code 15 = .ok (.laload, 1) := by decide +kernel
theorem d3_16 : decode prog_37_method_2_code 16 = .ok (.lcmp, 1) := by decide +kernel
theorem d3_17 : decode prog_37_method_2_code 17 = .ok (.ifCond .ge 7, 3) := by decide +kernel
theorem d3_20 : decode prog_37_method_2_code 20 = .ok (.iconst 1, 1) := by decide +kernel
theorem d3_21 : decode prog_37_method_2_code 21 = .ok (.goto 4, 3) := by decide +kernel
theorem d3_24 : decode prog_37_method_2_code 24 = .ok (.iconst 0, 1) := by decide +kernel
theorem d3_25 : decode prog_37_method_2_code 25 = .ok (.ireturn, 1) := by decide +kernel
theorem ef_3 (m : MethodId) (a1 : Addr) (q2 : Int64) (q3 : Int64) : entryFrame m #[(.ref a1), (.long q2), (.long q3)] 5 = mkF m 0 #[.val (.ref a1), .val (.long q2), .second, .val (.long q3), .second] [] := by first | (simp [entryFrame, mkF, argsToLocals, Value.category]; done) | rfl
def fn3 (q2 : Int64) (q3 : Int64) (w_next : Int32) (z : Int32) (f : Nat → Int64) : Int32 := ((if (q2 < q3) then (if (q3 < (f (w_next).toNatClampNeg)) then (1 : Int32) else (0 : Int32)) else (1 : Int32)) &&& 1)
def Q3 (Z : State) (a1 : Addr) (q2 : Int64) (q3 : Int64) (b1 : Addr) (w_next : Int32) (z : Int32) (f : Nat → Int64) (h0 : Heap) (n0 : Nat) : Option Value → Heap → List Loc → Prop := fun v h L => v = some (Value.int (fn3 q2 q3 w_next z f)) ∧ Fr n0 L ∧ h = h0
def room3 : Room := { frames := 0, cells := 0, slots := 0, locals := 0 }
set_option maxRecDepth 65536 in
set_option maxHeartbeats 40000000 in
theorem rm3 (l : Launch) (Z : State) (a0 : Array Value) (hw : ∀ d ∈ tables_1, d.before a0 Z = true) (a1 : Addr) (q2 : Int64) (q3 : Int64) (b1 : Addr) (w_next : Int32) (z : Int32) (f : Nat → Int64) (h0 : Heap) (n0 : Nat) (R_a1 : Late Z h0 a1 (.ref b1) w_next) (R_b1 : LA Z h0 b1 z f) (hn0 : ¬ w_next < (0 : Int32)) (hn1 : w_next < z) : Ctr l Z (⟨"com/example/hivetable/hivetable/search/LateAcceptance", "keeps", "(JJ)Z"⟩ : MethodName) prog_37_method_2_code 5 (some .boolean) room3 #[(.ref a1), (.long q2), (.long q3)] h0 (Q3 Z a1 q2 q3 b1 w_next z f h0 n0) := by
  refine Ctr.of (plainFor_of_name pn_1) ?_
  intro p e s m below meth c s₁ hx hby hml hown hnm hret hlk hZ e0 X0
  have hown : s.vm.findClass "com/example/hivetable/hivetable/search/LateAcceptance" = some m.cls := hown
  have hml : c.maxLocals = 5 := hml
  have hnm : meth.name = "keeps" := hnm
  have hret : meth.sig.returnType = (some .boolean) := hret
  have N0 := Fr.nil n0
  refine Till.cast (ef_3 m a1 q2 q3) ?_
  show Till p e below s (Q3 Z a1 q2 q3 b1 w_next z f h0 n0) room3.cells room3.slots (s₁.setTop (mkF m 0 #[.val (.ref a1), .val (.long q2), .second, .val (.long q3), .second] []))
  refine Till.pre (fun _ hr => XS.lloadN X0.here hx rfl (hb hby d3_0) rfl hr) ?_
  show Till p e below s (Q3 Z a1 q2 q3 b1 w_next z f h0 n0) room3.cells room3.slots (s₁.setTop (mkF m 1 #[.val (.ref a1), .val (.long q2), .second, .val (.long q3), .second] [(.long q3)]))
  refine Till.pre (fun _ hr => XS.lloadN X0.here hx rfl (hb hby d3_1) rfl hr) ?_
  show Till p e below s (Q3 Z a1 q2 q3 b1 w_next z f h0 n0) room3.cells room3.slots (s₁.setTop (mkF m 2 #[.val (.ref a1), .val (.long q2), .second, .val (.long q3), .second] [(.long q2), (.long q3)]))
  refine Till.pre (fun _ hr => XS.lcmp X0.here hx rfl (hb hby d3_2) rfl hr) ?_
  show Till p e below s (Q3 Z a1 q2 q3 b1 w_next z f h0 n0) room3.cells room3.slots (s₁.setTop (mkF m 3 #[.val (.ref a1), .val (.long q2), .second, .val (.long q3), .second] [(.int (lcmpW q3 q2))]))
  have J25_13 : ∀ (T9 : State) (L10 : List Loc) (X11 : Stand p l e room3 s m #[(.ref a1), (.long q2), (.long q3)] below meth c T9 L10 0 0) (N12 : Fr n0 L10) (e13 : T9.heap = h0) (v25s0 : Int32) (hv25s0 : v25s0 = (if (q2 < q3) then (if (q3 < (f (w_next).toNatClampNeg)) then (1 : Int32) else (0 : Int32)) else (1 : Int32))), Till p e below s (Q3 Z a1 q2 q3 b1 w_next z f h0 n0) room3.cells room3.slots (T9.setTop (mkF m 25 #[.val (.ref a1), .val (.long q2), .second, .val (.long q3), .second] [(.int v25s0)])) := by
    intro T9 L10 X11 N12 e13 v25s0 hv25s0
    show Till p e below s (Q3 Z a1 q2 q3 b1 w_next z f h0 n0) room3.cells room3.slots (T9.setTop (mkF m 25 #[.val (.ref a1), .val (.long q2), .second, .val (.long q3), .second] [(.int v25s0)]))
    refine Till.retZ (w := (v25s0 &&& 1)) X11 hx hret hlk (hb hby d3_25) (by decide) (by decide) (rfl) ?_
    subst hv25s0
    exact ⟨rfl, N12, e13⟩
  refine Till.ifc (pc' := 20) X0.here hx (hb hby d3_3) (by decide) (by decide) (fun q => ?_) (fun q => ?_)
  · have hc1 := (mt lGt.mpr (hLt.2.2.2.2.2.2.1 q))
    show Till p e below s (Q3 Z a1 q2 q3 b1 w_next z f h0 n0) room3.cells room3.slots (s₁.setTop (mkF m 20 #[.val (.ref a1), .val (.long q2), .second, .val (.long q3), .second] []))
    refine Till.pre (fun _ hr => XS.iconst X0.here hx rfl (hb hby d3_20) hr) ?_
    show Till p e below s (Q3 Z a1 q2 q3 b1 w_next z f h0 n0) room3.cells room3.slots (s₁.setTop (mkF m 21 #[.val (.ref a1), .val (.long q2), .second, .val (.long q3), .second] [(.int (1 : Int32))]))
    refine Till.pre (fun _ hr => XS.goto X0.here hx rfl (pc0 := 21) (pc' := 25) rfl (hb hby d3_21) (by decide) (by decide) hr) ?_
    show Till p e below s (Q3 Z a1 q2 q3 b1 w_next z f h0 n0) room3.cells room3.slots (s₁.setTop (mkF m 25 #[.val (.ref a1), .val (.long q2), .second, .val (.long q3), .second] [(.int (1 : Int32))]))
    exact J25_13 _ _ X0 N0 e0 _ (Eq.symm (if_neg hc1))
  · have hc1 := (lGt.mp (hLt.2.2.2.2.2.2.2 q))
    show Till p e below s (Q3 Z a1 q2 q3 b1 w_next z f h0 n0) room3.cells room3.slots (s₁.setTop (mkF m 6 #[.val (.ref a1), .val (.long q2), .second, .val (.long q3), .second] []))
    refine Till.pre (fun _ hr => XS.lloadN X0.here hx rfl (hb hby d3_6) rfl hr) ?_
    show Till p e below s (Q3 Z a1 q2 q3 b1 w_next z f h0 n0) room3.cells room3.slots (s₁.setTop (mkF m 7 #[.val (.ref a1), .val (.long q2), .second, .val (.long q3), .second] [(.long q3)]))
    refine Till.pre (fun _ hr => XS.aloadN X0.here hx rfl (hb hby d3_7) rfl rfl hr) ?_
    show Till p e below s (Q3 Z a1 q2 q3 b1 w_next z f h0 n0) room3.cells room3.slots (s₁.setTop (mkF m 8 #[.val (.ref a1), .val (.long q2), .second, .val (.long q3), .second] [(.ref a1), (.long q3)]))
    refine Till.getF X0 hx hZ hown (hw _ (List.mem_of_getElem? (i := 10) rfl)) e0 R_a1.2.1 (hb hby d3_8) (fun T2 X3 e4 => ?_)
    show Till p e below s (Q3 Z a1 q2 q3 b1 w_next z f h0 n0) room3.cells room3.slots (T2.setTop (mkF m 11 #[.val (.ref a1), .val (.long q2), .second, .val (.long q3), .second] [(.ref b1), (.long q3)]))
    refine Till.pre (fun _ hr => XS.aloadN X3.here hx rfl (hb hby d3_11) rfl rfl hr) ?_
    show Till p e below s (Q3 Z a1 q2 q3 b1 w_next z f h0 n0) room3.cells room3.slots (T2.setTop (mkF m 12 #[.val (.ref a1), .val (.long q2), .second, .val (.long q3), .second] [(.ref a1), (.ref b1), (.long q3)]))
    refine Till.getF X3 hx hZ hown (hw _ (List.mem_of_getElem? (i := 21) rfl)) e4 R_a1.2.2 (hb hby d3_12) (fun T5 X6 e7 => ?_)
    show Till p e below s (Q3 Z a1 q2 q3 b1 w_next z f h0 n0) room3.cells room3.slots (T5.setTop (mkF m 15 #[.val (.ref a1), .val (.long q2), .second, .val (.long q3), .second] [(.int w_next), (.ref b1), (.long q3)]))
    refine Till.laload R_b1 (hn0) (hn1) X6 hx hZ e7 (hb hby d3_15) ?_
    show Till p e below s (Q3 Z a1 q2 q3 b1 w_next z f h0 n0) room3.cells room3.slots (T5.setTop (mkF m 16 #[.val (.ref a1), .val (.long q2), .second, .val (.long q3), .second] [(.long (f (w_next).toNatClampNeg)), (.long q3)]))
    refine Till.pre (fun _ hr => XS.lcmp X6.here hx rfl (hb hby d3_16) rfl hr) ?_
    show Till p e below s (Q3 Z a1 q2 q3 b1 w_next z f h0 n0) room3.cells room3.slots (T5.setTop (mkF m 17 #[.val (.ref a1), .val (.long q2), .second, .val (.long q3), .second] [(.int (lcmpW q3 (f (w_next).toNatClampNeg)))]))
    refine Till.ifc (pc' := 24) X6.here hx (hb hby d3_17) (by decide) (by decide) (fun q => ?_) (fun q => ?_)
    · have hc8 := (mt lLt.mpr (hLt.2.2.1 q))
      show Till p e below s (Q3 Z a1 q2 q3 b1 w_next z f h0 n0) room3.cells room3.slots (T5.setTop (mkF m 24 #[.val (.ref a1), .val (.long q2), .second, .val (.long q3), .second] []))
      refine Till.pre (fun _ hr => XS.iconst X6.here hx rfl (hb hby d3_24) hr) ?_
      show Till p e below s (Q3 Z a1 q2 q3 b1 w_next z f h0 n0) room3.cells room3.slots (T5.setTop (mkF m 25 #[.val (.ref a1), .val (.long q2), .second, .val (.long q3), .second] [(.int (0 : Int32))]))
      exact J25_13 _ _ X6 N0 e7 _ (Eq.symm ((if_pos hc1).trans (if_neg hc8)))
    · have hc8 := (lLt.mp (hLt.2.2.2.1 q))
      show Till p e below s (Q3 Z a1 q2 q3 b1 w_next z f h0 n0) room3.cells room3.slots (T5.setTop (mkF m 20 #[.val (.ref a1), .val (.long q2), .second, .val (.long q3), .second] []))
      refine Till.pre (fun _ hr => XS.iconst X6.here hx rfl (hb hby d3_20) hr) ?_
      show Till p e below s (Q3 Z a1 q2 q3 b1 w_next z f h0 n0) room3.cells room3.slots (T5.setTop (mkF m 21 #[.val (.ref a1), .val (.long q2), .second, .val (.long q3), .second] [(.int (1 : Int32))]))
      refine Till.pre (fun _ hr => XS.goto X6.here hx rfl (pc0 := 21) (pc' := 25) rfl (hb hby d3_21) (by decide) (by decide) hr) ?_
      show Till p e below s (Q3 Z a1 q2 q3 b1 w_next z f h0 n0) room3.cells room3.slots (T5.setTop (mkF m 25 #[.val (.ref a1), .val (.long q2), .second, .val (.long q3), .second] [(.int (1 : Int32))]))
      exact J25_13 _ _ X6 N0 e7 _ (Eq.symm ((if_pos hc1).trans (if_pos hc8)))
theorem d4_0 : decode prog_37_method_3_code 0 = .ok (.aload_n 0, 1) := by decide +kernel
theorem d4_1 : decode prog_37_method_3_code 1 = .ok (.getfield 7, 3) := by decide +kernel
theorem d4_4 : decode prog_37_method_3_code 4 = .ok (.aload_n 0, 1) := by decide +kernel
theorem d4_5 : decode prog_37_method_3_code 5 = .ok (.getfield 19, 3) := by decide +kernel
theorem d4_8 : decode prog_37_method_3_code 8 = .ok (.aload_n 0, 1) := by decide +kernel
theorem d4_9 : decode prog_37_method_3_code 9 = .ok (.getfield 7, 3) := by decide +kernel
theorem d4_12 : decode prog_37_method_3_code 12 = .ok (.aload_n 0, 1) := by decide +kernel
theorem d4_13 : decode prog_37_method_3_code 13 = .ok (.getfield 19, 3) := by decide +kernel
theorem d4_16 : decode prog_37_method_3_code 16 = .ok (.laload, 1) := by decide +kernel
theorem d4_17 : decode prog_37_method_3_code 17 = .ok (.lload_n 1, 1) := by decide +kernel
theorem d4_18 : decode prog_37_method_3_code 18 = .ok (.invokestatic 23, 3) := by decide +kernel
theorem d4_21 : decode prog_37_method_3_code 21 = .ok (.lastore, 1) := by decide +kernel
theorem d4_22 : decode prog_37_method_3_code 22 = .ok (.aload_n 0, 1) := by decide +kernel
theorem d4_23 : decode prog_37_method_3_code 23 = .ok (.aload_n 0, 1) := by decide +kernel
theorem d4_24 : decode prog_37_method_3_code 24 = .ok (.getfield 19, 3) := by decide +kernel
theorem d4_27 : decode prog_37_method_3_code 27 = .ok (.iconst 1, 1) := by decide +kernel
theorem d4_28 : decode prog_37_method_3_code 28 = .ok (.iadd, 1) := by decide +kernel
theorem d4_29 : decode prog_37_method_3_code 29 = .ok (.aload_n 0, 1) := by decide +kernel
theorem d4_30 : decode prog_37_method_3_code 30 = .ok (.getfield 7, 3) := by decide +kernel
theorem d4_33 : decode prog_37_method_3_code 33 = .ok (.arraylength, 1) := by decide +kernel
theorem d4_34 : decode prog_37_method_3_code 34 = .ok (.if_icmp .ne 7, 3) := by decide +kernel
theorem d4_37 : decode prog_37_method_3_code 37 = .ok (.iconst 0, 1) := by decide +kernel
theorem d4_38 : decode prog_37_method_3_code 38 = .ok (.goto 9, 3) := by decide +kernel
theorem d4_41 : decode prog_37_method_3_code 41 = .ok (.aload_n 0, 1) := by decide +kernel
theorem d4_42 : decode prog_37_method_3_code 42 = .ok (.getfield 19, 3) := by decide +kernel
theorem d4_45 : decode prog_37_method_3_code 45 = .ok (.iconst 1, 1) := by decide +kernel
theorem d4_46 : decode prog_37_method_3_code 46 = .ok (.iadd, 1) := by decide +kernel
theorem d4_47 : decode prog_37_method_3_code 47 = .ok (.putfield 19, 3) := by decide +kernel
theorem d4_50 : decode prog_37_method_3_code 50 = .ok (.return_, 1) := by decide +kernel
theorem pd4_3 : parseMethodDescriptor "(JJ)J" = some ⟨[.long, .long], some .long⟩ := by decide +kernel
theorem ef_4 (m : MethodId) (a1 : Addr) (q2 : Int64) : entryFrame m #[(.ref a1), (.long q2)] 3 = mkF m 0 #[.val (.ref a1), .val (.long q2), .second] [] := by first | (simp [entryFrame, mkF, argsToLocals, Value.category]; done) | rfl
def Q4 (Z : State) (a1 : Addr) (q2 : Int64) (b1 : Addr) (w_next : Int32) (z : Int32) (f : Nat → Int64) (h0 : Heap) (n0 : Nat) : Option Value → Heap → List Loc → Prop := fun v h L => v = none ∧ Fr n0 L ∧ Keep h0 h [a1, b1] ∧ Late Z h a1 (.ref b1) (if ((w_next + (1 : Int32)) = z) then (0 : Int32) else (w_next + (1 : Int32))) ∧ LA Z h b1 z (oupd f (w_next).toNatClampNeg (fn5 (f (w_next).toNatClampNeg) q2))
def room4 : Room := { frames := 1, cells := 0, slots := 0, locals := 17 }
set_option maxRecDepth 65536 in
set_option maxHeartbeats 40000000 in
theorem rm4 (l : Launch) (Z : State) (a0 : Array Value) (hw : ∀ d ∈ tables_1, d.before a0 Z = true) (a1 : Addr) (q2 : Int64) (b1 : Addr) (w_next : Int32) (z : Int32) (f : Nat → Int64) (h0 : Heap) (n0 : Nat) (Zs : n0 ≤ h0.size) (R_a1 : Late Z h0 a1 (.ref b1) w_next) (R_b1 : LA Z h0 b1 z f) (g_a1 : n0 ≤ a1) (g_b1 : n0 ≤ b1) (ne_a1_b1 : a1 ≠ b1) (hn0 : ¬ w_next < (0 : Int32)) (hn1 : w_next < z) : Ctr l Z (⟨"com/example/hivetable/hivetable/search/LateAcceptance", "tried", "(J)V"⟩ : MethodName) prog_37_method_3_code 3 none room4 #[(.ref a1), (.long q2)] h0 (Q4 Z a1 q2 b1 w_next z f h0 n0) := by
  refine Ctr.of (plainFor_of_name pn_1) ?_
  intro p e s m below meth c s₁ hx hby hml hown hnm hret hlk hZ e0 X0
  have hown : s.vm.findClass "com/example/hivetable/hivetable/search/LateAcceptance" = some m.cls := hown
  have hml : c.maxLocals = 3 := hml
  have hnm : meth.name = "tried" := hnm
  have hret : meth.sig.returnType = none := hret
  have N0 := Fr.nil n0
  refine Till.cast (ef_4 m a1 q2) ?_
  have Kp := Keep.refl h0 [a1, b1]
  show Till p e below s (Q4 Z a1 q2 b1 w_next z f h0 n0) room4.cells room4.slots (s₁.setTop (mkF m 0 #[.val (.ref a1), .val (.long q2), .second] []))
  refine Till.pre (fun _ hr => XS.aloadN X0.here hx rfl (hb hby d4_0) rfl rfl hr) ?_
  show Till p e below s (Q4 Z a1 q2 b1 w_next z f h0 n0) room4.cells room4.slots (s₁.setTop (mkF m 1 #[.val (.ref a1), .val (.long q2), .second] [(.ref a1)]))
  refine Till.getF X0 hx hZ hown (hw _ (List.mem_of_getElem? (i := 10) rfl)) e0 R_a1.2.1 (hb hby d4_1) (fun T1 X2 e3 => ?_)
  show Till p e below s (Q4 Z a1 q2 b1 w_next z f h0 n0) room4.cells room4.slots (T1.setTop (mkF m 4 #[.val (.ref a1), .val (.long q2), .second] [(.ref b1)]))
  refine Till.pre (fun _ hr => XS.aloadN X2.here hx rfl (hb hby d4_4) rfl rfl hr) ?_
  show Till p e below s (Q4 Z a1 q2 b1 w_next z f h0 n0) room4.cells room4.slots (T1.setTop (mkF m 5 #[.val (.ref a1), .val (.long q2), .second] [(.ref a1), (.ref b1)]))
  refine Till.getF X2 hx hZ hown (hw _ (List.mem_of_getElem? (i := 21) rfl)) e3 R_a1.2.2 (hb hby d4_5) (fun T4 X5 e6 => ?_)
  show Till p e below s (Q4 Z a1 q2 b1 w_next z f h0 n0) room4.cells room4.slots (T4.setTop (mkF m 8 #[.val (.ref a1), .val (.long q2), .second] [(.int w_next), (.ref b1)]))
  refine Till.pre (fun _ hr => XS.aloadN X5.here hx rfl (hb hby d4_8) rfl rfl hr) ?_
  show Till p e below s (Q4 Z a1 q2 b1 w_next z f h0 n0) room4.cells room4.slots (T4.setTop (mkF m 9 #[.val (.ref a1), .val (.long q2), .second] [(.ref a1), (.int w_next), (.ref b1)]))
  refine Till.getF X5 hx hZ hown (hw _ (List.mem_of_getElem? (i := 10) rfl)) e6 R_a1.2.1 (hb hby d4_9) (fun T7 X8 e9 => ?_)
  show Till p e below s (Q4 Z a1 q2 b1 w_next z f h0 n0) room4.cells room4.slots (T7.setTop (mkF m 12 #[.val (.ref a1), .val (.long q2), .second] [(.ref b1), (.int w_next), (.ref b1)]))
  refine Till.pre (fun _ hr => XS.aloadN X8.here hx rfl (hb hby d4_12) rfl rfl hr) ?_
  show Till p e below s (Q4 Z a1 q2 b1 w_next z f h0 n0) room4.cells room4.slots (T7.setTop (mkF m 13 #[.val (.ref a1), .val (.long q2), .second] [(.ref a1), (.ref b1), (.int w_next), (.ref b1)]))
  refine Till.getF X8 hx hZ hown (hw _ (List.mem_of_getElem? (i := 21) rfl)) e9 R_a1.2.2 (hb hby d4_13) (fun T10 X11 e12 => ?_)
  show Till p e below s (Q4 Z a1 q2 b1 w_next z f h0 n0) room4.cells room4.slots (T10.setTop (mkF m 16 #[.val (.ref a1), .val (.long q2), .second] [(.int w_next), (.ref b1), (.int w_next), (.ref b1)]))
  refine Till.laload R_b1 (hn0) (hn1) X11 hx hZ e12 (hb hby d4_16) ?_
  show Till p e below s (Q4 Z a1 q2 b1 w_next z f h0 n0) room4.cells room4.slots (T10.setTop (mkF m 17 #[.val (.ref a1), .val (.long q2), .second] [(.long (f (w_next).toNatClampNeg)), (.int w_next), (.ref b1)]))
  refine Till.pre (fun _ hr => XS.lloadN X11.here hx rfl (hb hby d4_17) rfl hr) ?_
  show Till p e below s (Q4 Z a1 q2 b1 w_next z f h0 n0) room4.cells room4.slots (T10.setTop (mkF m 18 #[.val (.ref a1), .val (.long q2), .second] [(.long q2), (.long (f (w_next).toNatClampNeg)), (.int w_next), (.ref b1)]))
  refine Till.callS (rm5 l Z a0 hw (f (w_next).toNatClampNeg) q2 h0 n0) X11 hx hZ hown (hw _ (List.mem_of_getElem? (i := 28) rfl)) (hw _ (List.mem_of_getElem? (i := 29) rfl)) (hw _ (List.mem_of_getElem? (i := 30) rfl)) (hw _ (List.mem_of_getElem? (i := 31) rfl)) (by decide) (by decide) (W := 2) (by decide) (by rw [hml]; rfl) (argsL := [(.long (f (w_next).toNatClampNeg)), (.long q2)]) (rest := [(.int w_next), (.ref b1)]) (lenOf pd4_3 rfl) rfl rfl (Nat.le_of_eq rfl) (hb hby d4_18) e12 (by decide) (by decide) ?_
  rintro _ T13 L14 X15 ⟨rfl, N16, e17⟩
  have N16 := Fr.app N0 N16
  show Till p e below s (Q4 Z a1 q2 b1 w_next z f h0 n0) room4.cells room4.slots (T13.setTop (mkF m 21 #[.val (.ref a1), .val (.long q2), .second] [(.long (fn5 (f (w_next).toNatClampNeg) q2)), (.int w_next), (.ref b1)]))
  refine Till.lastore R_b1 (hn0) (hn1) X15 hx hZ e17 (hb hby d4_21) (fun T18 h19 X20 e21 W22 A23 => ?_)
  have N24 := Fr.snoc X20 N16 g_b1
  have R_a1 := R_a1.wr W22 ne_a1_b1
  have Zs := Nat.le_trans Zs (Keep.of_wr W22).1
  have Kp := Kp.wr W22 (Or.inl (List.mem_of_getElem? (i := 1) rfl))
  have R_b1 : LA Z h19 b1 z (oupd f (w_next).toNatClampNeg (fn5 (f (w_next).toNatClampNeg) q2)) := A23
  show Till p e below s (Q4 Z a1 q2 b1 w_next z f h0 n0) room4.cells room4.slots (T18.setTop (mkF m 22 #[.val (.ref a1), .val (.long q2), .second] []))
  refine Till.pre (fun _ hr => XS.aloadN X20.here hx rfl (hb hby d4_22) rfl rfl hr) ?_
  show Till p e below s (Q4 Z a1 q2 b1 w_next z f h0 n0) room4.cells room4.slots (T18.setTop (mkF m 23 #[.val (.ref a1), .val (.long q2), .second] [(.ref a1)]))
  refine Till.pre (fun _ hr => XS.aloadN X20.here hx rfl (hb hby d4_23) rfl rfl hr) ?_
  show Till p e below s (Q4 Z a1 q2 b1 w_next z f h0 n0) room4.cells room4.slots (T18.setTop (mkF m 24 #[.val (.ref a1), .val (.long q2), .second] [(.ref a1), (.ref a1)]))
  refine Till.getF X20 hx hZ hown (hw _ (List.mem_of_getElem? (i := 21) rfl)) e21 R_a1.2.2 (hb hby d4_24) (fun T25 X26 e27 => ?_)
  show Till p e below s (Q4 Z a1 q2 b1 w_next z f h0 n0) room4.cells room4.slots (T25.setTop (mkF m 27 #[.val (.ref a1), .val (.long q2), .second] [(.int w_next), (.ref a1)]))
  refine Till.pre (fun _ hr => XS.iconst X26.here hx rfl (hb hby d4_27) hr) ?_
  show Till p e below s (Q4 Z a1 q2 b1 w_next z f h0 n0) room4.cells room4.slots (T25.setTop (mkF m 28 #[.val (.ref a1), .val (.long q2), .second] [(.int (1 : Int32)), (.int w_next), (.ref a1)]))
  refine Till.pre (fun _ hr => XS.iadd X26.here hx rfl (hb hby d4_28) rfl hr) ?_
  show Till p e below s (Q4 Z a1 q2 b1 w_next z f h0 n0) room4.cells room4.slots (T25.setTop (mkF m 29 #[.val (.ref a1), .val (.long q2), .second] [(.int (w_next + (1 : Int32))), (.ref a1)]))
  refine Till.pre (fun _ hr => XS.aloadN X26.here hx rfl (hb hby d4_29) rfl rfl hr) ?_
  show Till p e below s (Q4 Z a1 q2 b1 w_next z f h0 n0) room4.cells room4.slots (T25.setTop (mkF m 30 #[.val (.ref a1), .val (.long q2), .second] [(.ref a1), (.int (w_next + (1 : Int32))), (.ref a1)]))
  refine Till.getF X26 hx hZ hown (hw _ (List.mem_of_getElem? (i := 10) rfl)) e27 R_a1.2.1 (hb hby d4_30) (fun T28 X29 e30 => ?_)
  show Till p e below s (Q4 Z a1 q2 b1 w_next z f h0 n0) room4.cells room4.slots (T28.setTop (mkF m 33 #[.val (.ref a1), .val (.long q2), .second] [(.ref b1), (.int (w_next + (1 : Int32))), (.ref a1)]))
  refine Till.alen R_b1 X29 hx hZ e30 (hb hby d4_33) ?_
  show Till p e below s (Q4 Z a1 q2 b1 w_next z f h0 n0) room4.cells room4.slots (T28.setTop (mkF m 34 #[.val (.ref a1), .val (.long q2), .second] [(.int z), (.int (w_next + (1 : Int32))), (.ref a1)]))
  have J47_39 : ∀ (T35 : State) (L36 : List Loc) (X37 : Stand p l e room4 s m #[(.ref a1), (.long q2)] below meth c T35 L36 0 0) (N38 : Fr n0 L36) (e39 : T35.heap = h19) (v47s0 : Int32) (hv47s0 : v47s0 = (if ((w_next + (1 : Int32)) = z) then (0 : Int32) else (w_next + (1 : Int32)))), Till p e below s (Q4 Z a1 q2 b1 w_next z f h0 n0) room4.cells room4.slots (T35.setTop (mkF m 47 #[.val (.ref a1), .val (.long q2), .second] [(.int v47s0), (.ref a1)])) := by
    intro T35 L36 X37 N38 e39 v47s0 hv47s0
    show Till p e below s (Q4 Z a1 q2 b1 w_next z f h0 n0) room4.cells room4.slots (T35.setTop (mkF m 47 #[.val (.ref a1), .val (.long q2), .second] [(.int v47s0), (.ref a1)]))
    refine Till.putF X37 hx hZ hown (hw _ (List.mem_of_getElem? (i := 21) rfl)) e39 R_a1.2.2 R_a1.1 (Or.inl (hw _ (List.mem_of_getElem? (i := 22) rfl))) (hw _ (List.mem_of_getElem? (i := 1) rfl)) (ty := .int) (by decide) rfl rfl (hb hby d4_47) (fun T41 h42 X43 e44 W45 => ?_)
    have N46 := Fr.snoc X43 N38 g_a1
    have R_b1 := R_b1.wr W45 (Ne.symm ne_a1_b1)
    have Zs := Nat.le_trans Zs (Keep.of_wr W45).1
    have Kp := Kp.wr W45 (Or.inl (List.mem_of_getElem? (i := 0) rfl))
    have R_a1 := Late.set_next hw R_a1 W45
    show Till p e below s (Q4 Z a1 q2 b1 w_next z f h0 n0) room4.cells room4.slots (T41.setTop (mkF m 50 #[.val (.ref a1), .val (.long q2), .second] []))
    refine Till.retV X43 hx hret hlk (hb hby d4_50) (by decide) (by decide) ?_
    subst hv47s0
    show (Q4 Z a1 q2 b1 w_next z f h0 n0) _ T41.heap _
    rw [e44]
    exact ⟨rfl, N46, Kp, R_a1, R_b1⟩
  refine Till.icmp (pc' := 41) X29.here hx (hb hby d4_34) (by decide) (by decide) (fun q => ?_) (fun q => ?_)
  · have hc31 := (hEq.2.2.1 q)
    show Till p e below s (Q4 Z a1 q2 b1 w_next z f h0 n0) room4.cells room4.slots (T28.setTop (mkF m 41 #[.val (.ref a1), .val (.long q2), .second] [(.ref a1)]))
    refine Till.pre (fun _ hr => XS.aloadN X29.here hx rfl (hb hby d4_41) rfl rfl hr) ?_
    show Till p e below s (Q4 Z a1 q2 b1 w_next z f h0 n0) room4.cells room4.slots (T28.setTop (mkF m 42 #[.val (.ref a1), .val (.long q2), .second] [(.ref a1), (.ref a1)]))
    refine Till.getF X29 hx hZ hown (hw _ (List.mem_of_getElem? (i := 21) rfl)) e30 R_a1.2.2 (hb hby d4_42) (fun T32 X33 e34 => ?_)
    show Till p e below s (Q4 Z a1 q2 b1 w_next z f h0 n0) room4.cells room4.slots (T32.setTop (mkF m 45 #[.val (.ref a1), .val (.long q2), .second] [(.int w_next), (.ref a1)]))
    refine Till.pre (fun _ hr => XS.iconst X33.here hx rfl (hb hby d4_45) hr) ?_
    show Till p e below s (Q4 Z a1 q2 b1 w_next z f h0 n0) room4.cells room4.slots (T32.setTop (mkF m 46 #[.val (.ref a1), .val (.long q2), .second] [(.int (1 : Int32)), (.int w_next), (.ref a1)]))
    refine Till.pre (fun _ hr => XS.iadd X33.here hx rfl (hb hby d4_46) rfl hr) ?_
    show Till p e below s (Q4 Z a1 q2 b1 w_next z f h0 n0) room4.cells room4.slots (T32.setTop (mkF m 47 #[.val (.ref a1), .val (.long q2), .second] [(.int (w_next + (1 : Int32))), (.ref a1)]))
    exact J47_39 _ _ X33 N24 e34 _ (Eq.symm (if_neg hc31))
  · have hc31 := (hEq.2.2.2 q)
    show Till p e below s (Q4 Z a1 q2 b1 w_next z f h0 n0) room4.cells room4.slots (T28.setTop (mkF m 37 #[.val (.ref a1), .val (.long q2), .second] [(.ref a1)]))
    refine Till.pre (fun _ hr => XS.iconst X29.here hx rfl (hb hby d4_37) hr) ?_
    show Till p e below s (Q4 Z a1 q2 b1 w_next z f h0 n0) room4.cells room4.slots (T28.setTop (mkF m 38 #[.val (.ref a1), .val (.long q2), .second] [(.int (0 : Int32)), (.ref a1)]))
    refine Till.pre (fun _ hr => XS.goto X29.here hx rfl (pc0 := 38) (pc' := 47) rfl (hb hby d4_38) (by decide) (by decide) hr) ?_
    show Till p e below s (Q4 Z a1 q2 b1 w_next z f h0 n0) room4.cells room4.slots (T28.setTop (mkF m 47 #[.val (.ref a1), .val (.long q2), .second] [(.int (0 : Int32)), (.ref a1)]))
    exact J47_39 _ _ X29 N24 e30 _ (Eq.symm (if_pos hc31))
abbrev own_n (p : Int32) : Int32 := (p &&& (3 : Int32)) + (1 : Int32)
def own_ok (n x : Int32) : Prop := ¬ x < (0 : Int32) ∧ x < n
theorem own_n3 (p : Int32) : p &&& 3 = 0 ∨ p &&& 3 = 1 ∨ p &&& 3 = 2 ∨ p &&& 3 = 3 := by
  have := c_mask p 3 2 (by decide) (by decide)
  simp only [← Int32.toInt_inj, show (0 : Int32).toInt = 0 from rfl, show (1 : Int32).toInt = 1 from rfl, show (2 : Int32).toInt = 2 from rfl, show (3 : Int32).toInt = 3 from rfl]
  omega
theorem own_nz (p : Int32) : own_n p ≠ 0 := by rcases own_n3 p with h | h | h | h <;> simp only [own_n, h] <;> decide
theorem own_n0 (p : Int32) : ¬ own_n p < (0 : Int32) := by rcases own_n3 p with h | h | h | h <;> simp only [own_n, h] <;> decide
theorem own_n4 (p : Int32) : (own_n p).toNatClampNeg ≤ 4 := by rcases own_n3 p with h | h | h | h <;> simp only [own_n, h] <;> decide
theorem own_k0 (p : Int32) : own_ok (own_n p) (0 : Int32) := by rcases own_n3 p with h | h | h | h <;> simp only [own_n, h, own_ok] <;> decide
theorem own_k1 {n x : Int32} (h : own_ok n x) : own_ok n (if (x + (1 : Int32)) = n then (0 : Int32) else x + (1 : Int32)) := by
  obtain ⟨h1, h2⟩ := h
  have a := own_inc h2
  have b := own_pos' h1
  rw [Int32.lt_iff_toInt_lt] at h2
  have e0 : (0 : Int32).toInt = 0 := rfl
  by_cases q : (x + (1 : Int32)) = n
  · rw [if_pos q]; exact ⟨by decide, by rw [Int32.lt_iff_toInt_lt, e0]; omega⟩
  · rw [if_neg q]; rw [← Int32.toInt_inj] at q
    exact ⟨own_neg (by omega), by rw [Int32.lt_iff_toInt_lt]; omega⟩
theorem own_k10 {n : Int32} (h : own_ok n (0 : Int32)) : own_ok n (if (1 : Int32) = n then (0 : Int32) else (1 : Int32)) := by
  have r := own_k1 h
  rw [show (0 : Int32) + (1 : Int32) = (1 : Int32) from by decide] at r
  exact r
theorem own_ki {n v a b : Int32} {c : Prop} [Decidable c] (h : v = if c then a else b) (ha : own_ok n a) (hb : own_ok n b) : own_ok n v := by rw [h]; split <;> assumption
theorem own_fin {a b : Int32} (ha : a = 0 ∨ a = 1 ∨ a = 2 ∨ a = 3) (hb : b = 0 ∨ b = 1 ∨ b = 2 ∨ b = 3) {c t cost nb e1 e2 e3 : Int64} {x1 x2 x3 : Int32} {f1 f2 f3 : Nat → Int64}
    (hx1 : x1 = if b < (1 : Int32) then (0 : Int32) else (if (1 : Int32) = a + (1 : Int32) then (0 : Int32) else (1 : Int32)))
    (hf1 : f1 = if b < (1 : Int32) then (fun _ => c) else (oupd (fun _ => c) ((0 : Int32)).toNatClampNeg (fn5 ((fun _ => c) ((0 : Int32)).toNatClampNeg) t)))
    (hx2 : x2 = if b < (2 : Int32) then x1 else (if x1 + (1 : Int32) = a + (1 : Int32) then (0 : Int32) else x1 + (1 : Int32)))
    (hf2 : f2 = if b < (2 : Int32) then f1 else (oupd f1 x1.toNatClampNeg (fn5 (f1 x1.toNatClampNeg) cost)))
    (hx3 : x3 = if b < (3 : Int32) then x2 else (if x2 + (1 : Int32) = a + (1 : Int32) then (0 : Int32) else x2 + (1 : Int32)))
    (hf3 : f3 = if b < (3 : Int32) then f2 else (oupd f2 x2.toNatClampNeg (fn5 (f2 x2.toNatClampNeg) nb)))
    (he1 : e1 = if (0 : Int32) < b then (if (0 : Int32) % (a + (1 : Int32)) = b % (a + (1 : Int32)) then fn5 c t else c) else c)
    (he2 : e2 = if (1 : Int32) < b then (if (1 : Int32) % (a + (1 : Int32)) = b % (a + (1 : Int32)) then fn5 e1 cost else e1) else e1)
    (he3 : e3 = if (2 : Int32) < b then (if (2 : Int32) % (a + (1 : Int32)) = b % (a + (1 : Int32)) then fn5 e2 nb else e2) else e2) : f3 x3.toNatClampNeg = e3 := by
  rcases ha with rfl | rfl | rfl | rfl <;> rcases hb with rfl | rfl | rfl | rfl <;>
    (simp at hx1; subst hx1; simp at hx2; subst hx2; simp at hx3; subst hx3; simp at hf1; subst hf1; simp at hf2; subst hf2; simp at hf3; subst hf3; simp at he1; subst he1; simp at he2; subst he2; simp at he3; subst he3; simp [oupd])
theorem own_kp {c nb e : Int64} {w z : Int32} {f : Nat → Int64} (h : f w.toNatClampNeg = e) : fn3 c nb w z f = if c < nb then (if nb < e then (1 : Int32) else (0 : Int32)) else (1 : Int32) := by
  unfold fn3
  rw [h]
  split
  · split <;> rfl
  · rfl
theorem pn_0 : plainName "com/example/hivetable/hivetable/search/LateAcceptanceKeepsPinLaw" = true := by first | (simp [plainName, overriddenIn]; done) | decide +kernel
theorem pd0_1 : parseMethodDescriptor "(IJ)V" = some ⟨[.int, .long], none⟩ := by decide +kernel
theorem pd0_2 : parseMethodDescriptor "(J)V" = some ⟨[.long], none⟩ := by decide +kernel
theorem pd0_3 : parseMethodDescriptor "(JJ)J" = some ⟨[.long, .long], some .long⟩ := by decide +kernel
theorem pd0_4 : parseMethodDescriptor "(JJ)Z" = some ⟨[.long, .long], some .boolean⟩ := by decide +kernel
theorem ef_0 (m : MethodId) (p1 : Int32) (q2 : Int64) (q3 : Int64) (q4 : Int64) (q5 : Int64) (p6 : Int32) : entryFrame m #[(.int p1), (.long q2), (.long q3), (.long q4), (.long q5), (.int p6)] maxLocals = mkF m 0 #[.val (.int p1), .val (.long q2), .second, .val (.long q3), .second, .val (.long q4), .second, .val (.long q5), .second, .val (.int p6), .unset, .unset, .unset, .unset, .unset, .unset, .unset] [] := by first | (simp [entryFrame, mkF, argsToLocals, Value.category, maxLocals]; done) | rfl
def Q0 (Z : State) (p1 : Int32) (q2 : Int64) (q3 : Int64) (q4 : Int64) (q5 : Int64) (p6 : Int32) (h0 : Heap) (n0 : Nat) : Option Value → Heap → List Loc → Prop := fun v h L => v = some (.int 1) ∧ Fr n0 L
set_option maxRecDepth 65536 in
set_option maxHeartbeats 40000000 in
theorem rm0 (l : Launch) (Z : State) (a0 : Array Value) (hw : ∀ d ∈ tables_1, d.before a0 Z = true) (p1 : Int32) (q2 : Int64) (q3 : Int64) (q4 : Int64) (q5 : Int64) (p6 : Int32) (h0 : Heap) (n0 : Nat) (Zs : n0 ≤ h0.size) : Ctr l Z x code maxLocals ret room_1 #[(.int p1), (.long q2), (.long q3), (.long q4), (.long q5), (.int p6)] h0 (Q0 Z p1 q2 q3 q4 q5 p6 h0 n0) := by
  refine Ctr.of (plainFor_of_name pn_0) ?_
  intro p e s m below meth c s₁ hx hby hml hown hnm hret hlk hZ e0 X0
  have hown : s.vm.findClass "com/example/hivetable/hivetable/search/LateAcceptanceKeepsPinLaw" = some m.cls := hown
  have hml : c.maxLocals = 17 := hml
  have hnm : meth.name = "law" := hnm
  have hret : meth.sig.returnType = (some .boolean) := hret
  have N0 := Fr.nil n0
  refine Till.cast (ef_0 m p1 q2 q3 q4 q5 p6) ?_
  show Till p e below s (Q0 Z p1 q2 q3 q4 q5 p6 h0 n0) room_1.cells room_1.slots (s₁.setTop (mkF m 0 #[.val (.int p1), .val (.long q2), .second, .val (.long q3), .second, .val (.long q4), .second, .val (.long q5), .second, .val (.int p6), .unset, .unset, .unset, .unset, .unset, .unset, .unset] []))
  refine Till.pre (fun _ hr => XS.iloadN X0.here hx rfl (hb hby at_0) rfl hr) ?_
  show Till p e below s (Q0 Z p1 q2 q3 q4 q5 p6 h0 n0) room_1.cells room_1.slots (s₁.setTop (mkF m 1 #[.val (.int p1), .val (.long q2), .second, .val (.long q3), .second, .val (.long q4), .second, .val (.long q5), .second, .val (.int p6), .unset, .unset, .unset, .unset, .unset, .unset, .unset] [(.int p1)]))
  refine Till.pre (fun _ hr => XS.iconst X0.here hx rfl (hb hby at_1) hr) ?_
  show Till p e below s (Q0 Z p1 q2 q3 q4 q5 p6 h0 n0) room_1.cells room_1.slots (s₁.setTop (mkF m 2 #[.val (.int p1), .val (.long q2), .second, .val (.long q3), .second, .val (.long q4), .second, .val (.long q5), .second, .val (.int p6), .unset, .unset, .unset, .unset, .unset, .unset, .unset] [(.int (3 : Int32)), (.int p1)]))
  refine Till.pre (fun _ hr => XS.iand X0.here hx rfl (hb hby at_2) rfl hr) ?_
  show Till p e below s (Q0 Z p1 q2 q3 q4 q5 p6 h0 n0) room_1.cells room_1.slots (s₁.setTop (mkF m 3 #[.val (.int p1), .val (.long q2), .second, .val (.long q3), .second, .val (.long q4), .second, .val (.long q5), .second, .val (.int p6), .unset, .unset, .unset, .unset, .unset, .unset, .unset] [(.int (p1 &&& (3 : Int32)))]))
  refine Till.pre (fun _ hr => XS.iconst X0.here hx rfl (hb hby at_3) hr) ?_
  show Till p e below s (Q0 Z p1 q2 q3 q4 q5 p6 h0 n0) room_1.cells room_1.slots (s₁.setTop (mkF m 4 #[.val (.int p1), .val (.long q2), .second, .val (.long q3), .second, .val (.long q4), .second, .val (.long q5), .second, .val (.int p6), .unset, .unset, .unset, .unset, .unset, .unset, .unset] [(.int (1 : Int32)), (.int (p1 &&& (3 : Int32)))]))
  refine Till.pre (fun _ hr => XS.iadd X0.here hx rfl (hb hby at_4) rfl hr) ?_
  show Till p e below s (Q0 Z p1 q2 q3 q4 q5 p6 h0 n0) room_1.cells room_1.slots (s₁.setTop (mkF m 5 #[.val (.int p1), .val (.long q2), .second, .val (.long q3), .second, .val (.long q4), .second, .val (.long q5), .second, .val (.int p6), .unset, .unset, .unset, .unset, .unset, .unset, .unset] [(.int ((p1 &&& (3 : Int32)) + (1 : Int32)))]))
  refine Till.pre (fun _ hr => XS.istore X0.here hx rfl (hb hby at_5) rfl (l' := #[.val (.int p1), .val (.long q2), .second, .val (.long q3), .second, .val (.long q4), .second, .val (.long q5), .second, .val (.int p6), .val (.int ((p1 &&& (3 : Int32)) + (1 : Int32))), .unset, .unset, .unset, .unset, .unset, .unset]) rfl hr) ?_
  show Till p e below s (Q0 Z p1 q2 q3 q4 q5 p6 h0 n0) room_1.cells room_1.slots (s₁.setTop (mkF m 7 #[.val (.int p1), .val (.long q2), .second, .val (.long q3), .second, .val (.long q4), .second, .val (.long q5), .second, .val (.int p6), .val (.int ((p1 &&& (3 : Int32)) + (1 : Int32))), .unset, .unset, .unset, .unset, .unset, .unset] []))
  refine Till.pre (fun _ hr => XS.iload X0.here hx rfl (hb hby at_7) rfl hr) ?_
  show Till p e below s (Q0 Z p1 q2 q3 q4 q5 p6 h0 n0) room_1.cells room_1.slots (s₁.setTop (mkF m 9 #[.val (.int p1), .val (.long q2), .second, .val (.long q3), .second, .val (.long q4), .second, .val (.long q5), .second, .val (.int p6), .val (.int ((p1 &&& (3 : Int32)) + (1 : Int32))), .unset, .unset, .unset, .unset, .unset, .unset] [(.int p6)]))
  refine Till.pre (fun _ hr => XS.iconst X0.here hx rfl (hb hby at_9) hr) ?_
  show Till p e below s (Q0 Z p1 q2 q3 q4 q5 p6 h0 n0) room_1.cells room_1.slots (s₁.setTop (mkF m 10 #[.val (.int p1), .val (.long q2), .second, .val (.long q3), .second, .val (.long q4), .second, .val (.long q5), .second, .val (.int p6), .val (.int ((p1 &&& (3 : Int32)) + (1 : Int32))), .unset, .unset, .unset, .unset, .unset, .unset] [(.int (3 : Int32)), (.int p6)]))
  refine Till.pre (fun _ hr => XS.iand X0.here hx rfl (hb hby at_10) rfl hr) ?_
  show Till p e below s (Q0 Z p1 q2 q3 q4 q5 p6 h0 n0) room_1.cells room_1.slots (s₁.setTop (mkF m 11 #[.val (.int p1), .val (.long q2), .second, .val (.long q3), .second, .val (.long q4), .second, .val (.long q5), .second, .val (.int p6), .val (.int ((p1 &&& (3 : Int32)) + (1 : Int32))), .unset, .unset, .unset, .unset, .unset, .unset] [(.int (p6 &&& (3 : Int32)))]))
  refine Till.pre (fun _ hr => XS.istore X0.here hx rfl (hb hby at_11) rfl (l' := #[.val (.int p1), .val (.long q2), .second, .val (.long q3), .second, .val (.long q4), .second, .val (.long q5), .second, .val (.int p6), .val (.int ((p1 &&& (3 : Int32)) + (1 : Int32))), .val (.int (p6 &&& (3 : Int32))), .unset, .unset, .unset, .unset, .unset]) rfl hr) ?_
  show Till p e below s (Q0 Z p1 q2 q3 q4 q5 p6 h0 n0) room_1.cells room_1.slots (s₁.setTop (mkF m 13 #[.val (.int p1), .val (.long q2), .second, .val (.long q3), .second, .val (.long q4), .second, .val (.long q5), .second, .val (.int p6), .val (.int ((p1 &&& (3 : Int32)) + (1 : Int32))), .val (.int (p6 &&& (3 : Int32))), .unset, .unset, .unset, .unset, .unset] []))
  refine Till.newO X0 hx hZ hown (hw _ (List.mem_of_getElem? (i := 0) rfl)) (hw _ (List.mem_of_getElem? (i := 1) rfl)) (hw _ (List.mem_of_getElem? (i := 2) rfl)) e0 (hb hby at_13) (by decide) (by decide) (fun T1 h2 b3 g4 X5 e6 E7 A8 D9 => ?_)
  have g_b3 : n0 ≤ b3 := Nat.le_trans Zs (Nat.le_of_eq g4.symm)
  have Zs := Nat.le_trans Zs E7.1
  have R_b3 : Late Z h2 b3 .null (0 : Int32) := ⟨A8, D9 (Or.inr (hw _ (List.mem_of_getElem? (i := 11) rfl))) (ty := (.array .long)) (by decide), D9 (Or.inl (hw _ (List.mem_of_getElem? (i := 22) rfl))) (ty := .int) (by decide)⟩
  show Till p e below s (Q0 Z p1 q2 q3 q4 q5 p6 h0 n0) room_1.cells room_1.slots (T1.setTop (mkF m 16 #[.val (.int p1), .val (.long q2), .second, .val (.long q3), .second, .val (.long q4), .second, .val (.long q5), .second, .val (.int p6), .val (.int ((p1 &&& (3 : Int32)) + (1 : Int32))), .val (.int (p6 &&& (3 : Int32))), .unset, .unset, .unset, .unset, .unset] [(.ref b3)]))
  refine Till.pre (fun _ hr => XS.dup X5.here hx rfl (hb hby at_16) rfl rfl hr) ?_
  show Till p e below s (Q0 Z p1 q2 q3 q4 q5 p6 h0 n0) room_1.cells room_1.slots (T1.setTop (mkF m 17 #[.val (.int p1), .val (.long q2), .second, .val (.long q3), .second, .val (.long q4), .second, .val (.long q5), .second, .val (.int p6), .val (.int ((p1 &&& (3 : Int32)) + (1 : Int32))), .val (.int (p6 &&& (3 : Int32))), .unset, .unset, .unset, .unset, .unset] [(.ref b3), (.ref b3)]))
  refine Till.pre (fun _ hr => XS.iload X5.here hx rfl (hb hby at_17) rfl hr) ?_
  show Till p e below s (Q0 Z p1 q2 q3 q4 q5 p6 h0 n0) room_1.cells room_1.slots (T1.setTop (mkF m 19 #[.val (.int p1), .val (.long q2), .second, .val (.long q3), .second, .val (.long q4), .second, .val (.long q5), .second, .val (.int p6), .val (.int ((p1 &&& (3 : Int32)) + (1 : Int32))), .val (.int (p6 &&& (3 : Int32))), .unset, .unset, .unset, .unset, .unset] [(.int ((p1 &&& (3 : Int32)) + (1 : Int32))), (.ref b3), (.ref b3)]))
  refine Till.pre (fun _ hr => XS.lloadN X5.here hx rfl (hb hby at_19) rfl hr) ?_
  show Till p e below s (Q0 Z p1 q2 q3 q4 q5 p6 h0 n0) room_1.cells room_1.slots (T1.setTop (mkF m 20 #[.val (.int p1), .val (.long q2), .second, .val (.long q3), .second, .val (.long q4), .second, .val (.long q5), .second, .val (.int p6), .val (.int ((p1 &&& (3 : Int32)) + (1 : Int32))), .val (.int (p6 &&& (3 : Int32))), .unset, .unset, .unset, .unset, .unset] [(.long q2), (.int ((p1 &&& (3 : Int32)) + (1 : Int32))), (.ref b3), (.ref b3)]))
  refine Till.callC (rm1 l Z a0 hw b3 ((p1 &&& (3 : Int32)) + (1 : Int32)) q2 h2 n0 Zs R_b3 g_b3 (own_n0 p1) (own_n4 p1)) X5 hx hZ hown rfl (hw _ (List.mem_of_getElem? (i := 3) rfl)) (hw _ (List.mem_of_getElem? (i := 4) rfl)) (hw _ (List.mem_of_getElem? (i := 2) rfl)) (hw _ (List.mem_of_getElem? (i := 5) rfl)) (by decide) (by decide) (W := 1) (by decide) (by rw [hml]; rfl) (a := b3) (argsL := [(.int ((p1 &&& (3 : Int32)) + (1 : Int32))), (.long q2)]) (rest := [(.ref b3)]) (lenOf pd0_1 rfl) rfl rfl (Nat.le_of_eq rfl) (hb hby at_20) e6 (by decide) (by decide) ?_
  rintro _ T10 L11 X12 ⟨b17, rfl, N13, K14, szq_b17, q15, q16⟩
  have N13 := Fr.app N0 N13
  have ne_b3_b17 : b3 ≠ b17 := Nat.ne_of_lt (Nat.lt_of_lt_of_le R_b3.lt szq_b17)
  have g_b17 : n0 ≤ b17 := Nat.le_trans Zs szq_b17
  have Zs := Nat.le_trans Zs K14.1
  have R_b3 : Late Z T10.heap b3 (.ref b17) (0 : Int32) := q15
  have R_b17 : LA Z T10.heap b17 ((p1 &&& (3 : Int32)) + (1 : Int32)) (fun _ => q2) := q16
  show Till p e below s (Q0 Z p1 q2 q3 q4 q5 p6 h0 n0) room_1.cells room_1.slots (T10.setTop (mkF m 23 #[.val (.int p1), .val (.long q2), .second, .val (.long q3), .second, .val (.long q4), .second, .val (.long q5), .second, .val (.int p6), .val (.int ((p1 &&& (3 : Int32)) + (1 : Int32))), .val (.int (p6 &&& (3 : Int32))), .unset, .unset, .unset, .unset, .unset] [(.ref b3)]))
  refine Till.pre (fun _ hr => XS.astore X12.here hx rfl (hb hby at_23) rfl rfl (l' := #[.val (.int p1), .val (.long q2), .second, .val (.long q3), .second, .val (.long q4), .second, .val (.long q5), .second, .val (.int p6), .val (.int ((p1 &&& (3 : Int32)) + (1 : Int32))), .val (.int (p6 &&& (3 : Int32))), .val (.ref b3), .unset, .unset, .unset, .unset]) rfl hr) ?_
  show Till p e below s (Q0 Z p1 q2 q3 q4 q5 p6 h0 n0) room_1.cells room_1.slots (T10.setTop (mkF m 25 #[.val (.int p1), .val (.long q2), .second, .val (.long q3), .second, .val (.long q4), .second, .val (.long q5), .second, .val (.int p6), .val (.int ((p1 &&& (3 : Int32)) + (1 : Int32))), .val (.int (p6 &&& (3 : Int32))), .val (.ref b3), .unset, .unset, .unset, .unset] []))
  refine Till.pre (fun _ hr => XS.iload X12.here hx rfl (hb hby at_25) rfl hr) ?_
  show Till p e below s (Q0 Z p1 q2 q3 q4 q5 p6 h0 n0) room_1.cells room_1.slots (T10.setTop (mkF m 27 #[.val (.int p1), .val (.long q2), .second, .val (.long q3), .second, .val (.long q4), .second, .val (.long q5), .second, .val (.int p6), .val (.int ((p1 &&& (3 : Int32)) + (1 : Int32))), .val (.int (p6 &&& (3 : Int32))), .val (.ref b3), .unset, .unset, .unset, .unset] [(.int (p6 &&& (3 : Int32)))]))
  refine Till.pre (fun _ hr => XS.iconst X12.here hx rfl (hb hby at_27) hr) ?_
  show Till p e below s (Q0 Z p1 q2 q3 q4 q5 p6 h0 n0) room_1.cells room_1.slots (T10.setTop (mkF m 28 #[.val (.int p1), .val (.long q2), .second, .val (.long q3), .second, .val (.long q4), .second, .val (.long q5), .second, .val (.int p6), .val (.int ((p1 &&& (3 : Int32)) + (1 : Int32))), .val (.int (p6 &&& (3 : Int32))), .val (.ref b3), .unset, .unset, .unset, .unset] [(.int (1 : Int32)), (.int (p6 &&& (3 : Int32)))]))
  have J37_29 : ∀ (T26 : State) (L27 : List Loc) (X28 : Stand p l e room_1 s m #[(.int p1), (.long q2), (.long q3), (.long q4), (.long q5), (.int p6)] below meth c T26 L27 2 6) (N29 : Fr n0 L27) (Zs : n0 ≤ T26.heap.size) (v37f0_1 : Int32) (hv37f0_1 : v37f0_1 = (if ((p6 &&& (3 : Int32)) < (1 : Int32)) then (0 : Int32) else (if ((1 : Int32) = ((p1 &&& (3 : Int32)) + (1 : Int32))) then (0 : Int32) else (1 : Int32)))) (v37f1_1 : Nat → Int64) (hv37f1_1 : v37f1_1 = (if ((p6 &&& (3 : Int32)) < (1 : Int32)) then (fun _ => q2) else (oupd (fun _ => q2) ((0 : Int32)).toNatClampNeg (fn5 ((fun _ => q2) ((0 : Int32)).toNatClampNeg) q3)))) (R_b3 : Late Z T26.heap b3 (.ref b17) v37f0_1) (R_b17 : LA Z T26.heap b17 ((p1 &&& (3 : Int32)) + (1 : Int32)) v37f1_1), Till p e below s (Q0 Z p1 q2 q3 q4 q5 p6 h0 n0) room_1.cells room_1.slots (T26.setTop (mkF m 37 #[.val (.int p1), .val (.long q2), .second, .val (.long q3), .second, .val (.long q4), .second, .val (.long q5), .second, .val (.int p6), .val (.int ((p1 &&& (3 : Int32)) + (1 : Int32))), .val (.int (p6 &&& (3 : Int32))), .val (.ref b3), .unset, .unset, .unset, .unset] [])) := by
    intro T26 L27 X28 N29 Zs v37f0_1 hv37f0_1 v37f1_1 hv37f1_1 R_b3 R_b17
    show Till p e below s (Q0 Z p1 q2 q3 q4 q5 p6 h0 n0) room_1.cells room_1.slots (T26.setTop (mkF m 37 #[.val (.int p1), .val (.long q2), .second, .val (.long q3), .second, .val (.long q4), .second, .val (.long q5), .second, .val (.int p6), .val (.int ((p1 &&& (3 : Int32)) + (1 : Int32))), .val (.int (p6 &&& (3 : Int32))), .val (.ref b3), .unset, .unset, .unset, .unset] []))
    refine Till.pre (fun _ hr => XS.iload X28.here hx rfl (hb hby at_37) rfl hr) ?_
    show Till p e below s (Q0 Z p1 q2 q3 q4 q5 p6 h0 n0) room_1.cells room_1.slots (T26.setTop (mkF m 39 #[.val (.int p1), .val (.long q2), .second, .val (.long q3), .second, .val (.long q4), .second, .val (.long q5), .second, .val (.int p6), .val (.int ((p1 &&& (3 : Int32)) + (1 : Int32))), .val (.int (p6 &&& (3 : Int32))), .val (.ref b3), .unset, .unset, .unset, .unset] [(.int (p6 &&& (3 : Int32)))]))
    refine Till.pre (fun _ hr => XS.iconst X28.here hx rfl (hb hby at_39) hr) ?_
    show Till p e below s (Q0 Z p1 q2 q3 q4 q5 p6 h0 n0) room_1.cells room_1.slots (T26.setTop (mkF m 40 #[.val (.int p1), .val (.long q2), .second, .val (.long q3), .second, .val (.long q4), .second, .val (.long q5), .second, .val (.int p6), .val (.int ((p1 &&& (3 : Int32)) + (1 : Int32))), .val (.int (p6 &&& (3 : Int32))), .val (.ref b3), .unset, .unset, .unset, .unset] [(.int (2 : Int32)), (.int (p6 &&& (3 : Int32)))]))
    have J50_42 : ∀ (T39 : State) (L40 : List Loc) (X41 : Stand p l e room_1 s m #[(.int p1), (.long q2), (.long q3), (.long q4), (.long q5), (.int p6)] below meth c T39 L40 2 6) (N42 : Fr n0 L40) (Zs : n0 ≤ T39.heap.size) (v50f0_1 : Int32) (hv50f0_1 : v50f0_1 = (if ((p6 &&& (3 : Int32)) < (2 : Int32)) then v37f0_1 else (if ((v37f0_1 + (1 : Int32)) = ((p1 &&& (3 : Int32)) + (1 : Int32))) then (0 : Int32) else (v37f0_1 + (1 : Int32))))) (v50f1_1 : Nat → Int64) (hv50f1_1 : v50f1_1 = (if ((p6 &&& (3 : Int32)) < (2 : Int32)) then v37f1_1 else (oupd v37f1_1 (v37f0_1).toNatClampNeg (fn5 (v37f1_1 (v37f0_1).toNatClampNeg) q4)))) (R_b3 : Late Z T39.heap b3 (.ref b17) v50f0_1) (R_b17 : LA Z T39.heap b17 ((p1 &&& (3 : Int32)) + (1 : Int32)) v50f1_1), Till p e below s (Q0 Z p1 q2 q3 q4 q5 p6 h0 n0) room_1.cells room_1.slots (T39.setTop (mkF m 50 #[.val (.int p1), .val (.long q2), .second, .val (.long q3), .second, .val (.long q4), .second, .val (.long q5), .second, .val (.int p6), .val (.int ((p1 &&& (3 : Int32)) + (1 : Int32))), .val (.int (p6 &&& (3 : Int32))), .val (.ref b3), .unset, .unset, .unset, .unset] [])) := by
      intro T39 L40 X41 N42 Zs v50f0_1 hv50f0_1 v50f1_1 hv50f1_1 R_b3 R_b17
      show Till p e below s (Q0 Z p1 q2 q3 q4 q5 p6 h0 n0) room_1.cells room_1.slots (T39.setTop (mkF m 50 #[.val (.int p1), .val (.long q2), .second, .val (.long q3), .second, .val (.long q4), .second, .val (.long q5), .second, .val (.int p6), .val (.int ((p1 &&& (3 : Int32)) + (1 : Int32))), .val (.int (p6 &&& (3 : Int32))), .val (.ref b3), .unset, .unset, .unset, .unset] []))
      refine Till.pre (fun _ hr => XS.iload X41.here hx rfl (hb hby at_50) rfl hr) ?_
      show Till p e below s (Q0 Z p1 q2 q3 q4 q5 p6 h0 n0) room_1.cells room_1.slots (T39.setTop (mkF m 52 #[.val (.int p1), .val (.long q2), .second, .val (.long q3), .second, .val (.long q4), .second, .val (.long q5), .second, .val (.int p6), .val (.int ((p1 &&& (3 : Int32)) + (1 : Int32))), .val (.int (p6 &&& (3 : Int32))), .val (.ref b3), .unset, .unset, .unset, .unset] [(.int (p6 &&& (3 : Int32)))]))
      refine Till.pre (fun _ hr => XS.iconst X41.here hx rfl (hb hby at_52) hr) ?_
      show Till p e below s (Q0 Z p1 q2 q3 q4 q5 p6 h0 n0) room_1.cells room_1.slots (T39.setTop (mkF m 53 #[.val (.int p1), .val (.long q2), .second, .val (.long q3), .second, .val (.long q4), .second, .val (.long q5), .second, .val (.int p6), .val (.int ((p1 &&& (3 : Int32)) + (1 : Int32))), .val (.int (p6 &&& (3 : Int32))), .val (.ref b3), .unset, .unset, .unset, .unset] [(.int (3 : Int32)), (.int (p6 &&& (3 : Int32)))]))
      have J63_55 : ∀ (T52 : State) (L53 : List Loc) (X54 : Stand p l e room_1 s m #[(.int p1), (.long q2), (.long q3), (.long q4), (.long q5), (.int p6)] below meth c T52 L53 2 6) (N55 : Fr n0 L53) (Zs : n0 ≤ T52.heap.size) (v63f0_1 : Int32) (hv63f0_1 : v63f0_1 = (if ((p6 &&& (3 : Int32)) < (3 : Int32)) then v50f0_1 else (if ((v50f0_1 + (1 : Int32)) = ((p1 &&& (3 : Int32)) + (1 : Int32))) then (0 : Int32) else (v50f0_1 + (1 : Int32))))) (v63f1_1 : Nat → Int64) (hv63f1_1 : v63f1_1 = (if ((p6 &&& (3 : Int32)) < (3 : Int32)) then v50f1_1 else (oupd v50f1_1 (v50f0_1).toNatClampNeg (fn5 (v50f1_1 (v50f0_1).toNatClampNeg) q5)))) (R_b3 : Late Z T52.heap b3 (.ref b17) v63f0_1) (R_b17 : LA Z T52.heap b17 ((p1 &&& (3 : Int32)) + (1 : Int32)) v63f1_1), Till p e below s (Q0 Z p1 q2 q3 q4 q5 p6 h0 n0) room_1.cells room_1.slots (T52.setTop (mkF m 63 #[.val (.int p1), .val (.long q2), .second, .val (.long q3), .second, .val (.long q4), .second, .val (.long q5), .second, .val (.int p6), .val (.int ((p1 &&& (3 : Int32)) + (1 : Int32))), .val (.int (p6 &&& (3 : Int32))), .val (.ref b3), .unset, .unset, .unset, .unset] [])) := by
        intro T52 L53 X54 N55 Zs v63f0_1 hv63f0_1 v63f1_1 hv63f1_1 R_b3 R_b17
        show Till p e below s (Q0 Z p1 q2 q3 q4 q5 p6 h0 n0) room_1.cells room_1.slots (T52.setTop (mkF m 63 #[.val (.int p1), .val (.long q2), .second, .val (.long q3), .second, .val (.long q4), .second, .val (.long q5), .second, .val (.int p6), .val (.int ((p1 &&& (3 : Int32)) + (1 : Int32))), .val (.int (p6 &&& (3 : Int32))), .val (.ref b3), .unset, .unset, .unset, .unset] []))
        refine Till.pre (fun _ hr => XS.iload X54.here hx rfl (hb hby at_63) rfl hr) ?_
        show Till p e below s (Q0 Z p1 q2 q3 q4 q5 p6 h0 n0) room_1.cells room_1.slots (T52.setTop (mkF m 65 #[.val (.int p1), .val (.long q2), .second, .val (.long q3), .second, .val (.long q4), .second, .val (.long q5), .second, .val (.int p6), .val (.int ((p1 &&& (3 : Int32)) + (1 : Int32))), .val (.int (p6 &&& (3 : Int32))), .val (.ref b3), .unset, .unset, .unset, .unset] [(.int (p6 &&& (3 : Int32)))]))
        refine Till.pre (fun _ hr => XS.iload X54.here hx rfl (hb hby at_65) rfl hr) ?_
        show Till p e below s (Q0 Z p1 q2 q3 q4 q5 p6 h0 n0) room_1.cells room_1.slots (T52.setTop (mkF m 67 #[.val (.int p1), .val (.long q2), .second, .val (.long q3), .second, .val (.long q4), .second, .val (.long q5), .second, .val (.int p6), .val (.int ((p1 &&& (3 : Int32)) + (1 : Int32))), .val (.int (p6 &&& (3 : Int32))), .val (.ref b3), .unset, .unset, .unset, .unset] [(.int ((p1 &&& (3 : Int32)) + (1 : Int32))), (.int (p6 &&& (3 : Int32)))]))
        refine Till.pre (fun _ hr => iremM X54 hx rfl (hb hby at_67) rfl (own_nz p1) hr) ?_
        show Till p e below s (Q0 Z p1 q2 q3 q4 q5 p6 h0 n0) room_1.cells room_1.slots (T52.setTop (mkF m 68 #[.val (.int p1), .val (.long q2), .second, .val (.long q3), .second, .val (.long q4), .second, .val (.long q5), .second, .val (.int p6), .val (.int ((p1 &&& (3 : Int32)) + (1 : Int32))), .val (.int (p6 &&& (3 : Int32))), .val (.ref b3), .unset, .unset, .unset, .unset] [(.int ((p6 &&& (3 : Int32)) % ((p1 &&& (3 : Int32)) + (1 : Int32))))]))
        refine Till.pre (fun _ hr => XS.istore X54.here hx rfl (hb hby at_68) rfl (l' := #[.val (.int p1), .val (.long q2), .second, .val (.long q3), .second, .val (.long q4), .second, .val (.long q5), .second, .val (.int p6), .val (.int ((p1 &&& (3 : Int32)) + (1 : Int32))), .val (.int (p6 &&& (3 : Int32))), .val (.ref b3), .val (.int ((p6 &&& (3 : Int32)) % ((p1 &&& (3 : Int32)) + (1 : Int32)))), .unset, .unset, .unset]) rfl hr) ?_
        show Till p e below s (Q0 Z p1 q2 q3 q4 q5 p6 h0 n0) room_1.cells room_1.slots (T52.setTop (mkF m 70 #[.val (.int p1), .val (.long q2), .second, .val (.long q3), .second, .val (.long q4), .second, .val (.long q5), .second, .val (.int p6), .val (.int ((p1 &&& (3 : Int32)) + (1 : Int32))), .val (.int (p6 &&& (3 : Int32))), .val (.ref b3), .val (.int ((p6 &&& (3 : Int32)) % ((p1 &&& (3 : Int32)) + (1 : Int32)))), .unset, .unset, .unset] []))
        refine Till.pre (fun _ hr => XS.lloadN X54.here hx rfl (hb hby at_70) rfl hr) ?_
        show Till p e below s (Q0 Z p1 q2 q3 q4 q5 p6 h0 n0) room_1.cells room_1.slots (T52.setTop (mkF m 71 #[.val (.int p1), .val (.long q2), .second, .val (.long q3), .second, .val (.long q4), .second, .val (.long q5), .second, .val (.int p6), .val (.int ((p1 &&& (3 : Int32)) + (1 : Int32))), .val (.int (p6 &&& (3 : Int32))), .val (.ref b3), .val (.int ((p6 &&& (3 : Int32)) % ((p1 &&& (3 : Int32)) + (1 : Int32)))), .unset, .unset, .unset] [(.long q2)]))
        refine Till.pre (fun _ hr => XS.lstore X54.here hx rfl (hb hby at_71) rfl (l' := #[.val (.int p1), .val (.long q2), .second, .val (.long q3), .second, .val (.long q4), .second, .val (.long q5), .second, .val (.int p6), .val (.int ((p1 &&& (3 : Int32)) + (1 : Int32))), .val (.int (p6 &&& (3 : Int32))), .val (.ref b3), .val (.int ((p6 &&& (3 : Int32)) % ((p1 &&& (3 : Int32)) + (1 : Int32)))), .val (.long q2), .second, .unset]) rfl hr) ?_
        show Till p e below s (Q0 Z p1 q2 q3 q4 q5 p6 h0 n0) room_1.cells room_1.slots (T52.setTop (mkF m 73 #[.val (.int p1), .val (.long q2), .second, .val (.long q3), .second, .val (.long q4), .second, .val (.long q5), .second, .val (.int p6), .val (.int ((p1 &&& (3 : Int32)) + (1 : Int32))), .val (.int (p6 &&& (3 : Int32))), .val (.ref b3), .val (.int ((p6 &&& (3 : Int32)) % ((p1 &&& (3 : Int32)) + (1 : Int32)))), .val (.long q2), .second, .unset] []))
        refine Till.pre (fun _ hr => XS.iconst X54.here hx rfl (hb hby at_73) hr) ?_
        show Till p e below s (Q0 Z p1 q2 q3 q4 q5 p6 h0 n0) room_1.cells room_1.slots (T52.setTop (mkF m 74 #[.val (.int p1), .val (.long q2), .second, .val (.long q3), .second, .val (.long q4), .second, .val (.long q5), .second, .val (.int p6), .val (.int ((p1 &&& (3 : Int32)) + (1 : Int32))), .val (.int (p6 &&& (3 : Int32))), .val (.ref b3), .val (.int ((p6 &&& (3 : Int32)) % ((p1 &&& (3 : Int32)) + (1 : Int32)))), .val (.long q2), .second, .unset] [(.int (0 : Int32))]))
        refine Till.pre (fun _ hr => XS.iload X54.here hx rfl (hb hby at_74) rfl hr) ?_
        show Till p e below s (Q0 Z p1 q2 q3 q4 q5 p6 h0 n0) room_1.cells room_1.slots (T52.setTop (mkF m 76 #[.val (.int p1), .val (.long q2), .second, .val (.long q3), .second, .val (.long q4), .second, .val (.long q5), .second, .val (.int p6), .val (.int ((p1 &&& (3 : Int32)) + (1 : Int32))), .val (.int (p6 &&& (3 : Int32))), .val (.ref b3), .val (.int ((p6 &&& (3 : Int32)) % ((p1 &&& (3 : Int32)) + (1 : Int32)))), .val (.long q2), .second, .unset] [(.int (p6 &&& (3 : Int32))), (.int (0 : Int32))]))
        have J96_68 : ∀ (T64 : State) (L65 : List Loc) (X66 : Stand p l e room_1 s m #[(.int p1), (.long q2), (.long q3), (.long q4), (.long q5), (.int p6)] below meth c T64 L65 2 6) (N67 : Fr n0 L65) (e68 : T64.heap = T52.heap) (v96l14 : Int64) (hv96l14 : v96l14 = (if ((0 : Int32) < (p6 &&& (3 : Int32))) then (if (((0 : Int32) % ((p1 &&& (3 : Int32)) + (1 : Int32))) = ((p6 &&& (3 : Int32)) % ((p1 &&& (3 : Int32)) + (1 : Int32)))) then (fn5 q2 q3) else q2) else q2)), Till p e below s (Q0 Z p1 q2 q3 q4 q5 p6 h0 n0) room_1.cells room_1.slots (T64.setTop (mkF m 96 #[.val (.int p1), .val (.long q2), .second, .val (.long q3), .second, .val (.long q4), .second, .val (.long q5), .second, .val (.int p6), .val (.int ((p1 &&& (3 : Int32)) + (1 : Int32))), .val (.int (p6 &&& (3 : Int32))), .val (.ref b3), .val (.int ((p6 &&& (3 : Int32)) % ((p1 &&& (3 : Int32)) + (1 : Int32)))), .val (.long v96l14), .second, .unset] [])) := by
          intro T64 L65 X66 N67 e68 v96l14 hv96l14
          show Till p e below s (Q0 Z p1 q2 q3 q4 q5 p6 h0 n0) room_1.cells room_1.slots (T64.setTop (mkF m 96 #[.val (.int p1), .val (.long q2), .second, .val (.long q3), .second, .val (.long q4), .second, .val (.long q5), .second, .val (.int p6), .val (.int ((p1 &&& (3 : Int32)) + (1 : Int32))), .val (.int (p6 &&& (3 : Int32))), .val (.ref b3), .val (.int ((p6 &&& (3 : Int32)) % ((p1 &&& (3 : Int32)) + (1 : Int32)))), .val (.long v96l14), .second, .unset] []))
          refine Till.pre (fun _ hr => XS.iconst X66.here hx rfl (hb hby at_96) hr) ?_
          show Till p e below s (Q0 Z p1 q2 q3 q4 q5 p6 h0 n0) room_1.cells room_1.slots (T64.setTop (mkF m 97 #[.val (.int p1), .val (.long q2), .second, .val (.long q3), .second, .val (.long q4), .second, .val (.long q5), .second, .val (.int p6), .val (.int ((p1 &&& (3 : Int32)) + (1 : Int32))), .val (.int (p6 &&& (3 : Int32))), .val (.ref b3), .val (.int ((p6 &&& (3 : Int32)) % ((p1 &&& (3 : Int32)) + (1 : Int32)))), .val (.long v96l14), .second, .unset] [(.int (1 : Int32))]))
          refine Till.pre (fun _ hr => XS.iload X66.here hx rfl (hb hby at_97) rfl hr) ?_
          show Till p e below s (Q0 Z p1 q2 q3 q4 q5 p6 h0 n0) room_1.cells room_1.slots (T64.setTop (mkF m 99 #[.val (.int p1), .val (.long q2), .second, .val (.long q3), .second, .val (.long q4), .second, .val (.long q5), .second, .val (.int p6), .val (.int ((p1 &&& (3 : Int32)) + (1 : Int32))), .val (.int (p6 &&& (3 : Int32))), .val (.ref b3), .val (.int ((p6 &&& (3 : Int32)) % ((p1 &&& (3 : Int32)) + (1 : Int32)))), .val (.long v96l14), .second, .unset] [(.int (p6 &&& (3 : Int32))), (.int (1 : Int32))]))
          have J120_81 : ∀ (T77 : State) (L78 : List Loc) (X79 : Stand p l e room_1 s m #[(.int p1), (.long q2), (.long q3), (.long q4), (.long q5), (.int p6)] below meth c T77 L78 2 6) (N80 : Fr n0 L78) (e81 : T77.heap = T52.heap) (v120l14 : Int64) (hv120l14 : v120l14 = (if ((1 : Int32) < (p6 &&& (3 : Int32))) then (if (((1 : Int32) % ((p1 &&& (3 : Int32)) + (1 : Int32))) = ((p6 &&& (3 : Int32)) % ((p1 &&& (3 : Int32)) + (1 : Int32)))) then (fn5 v96l14 q4) else v96l14) else v96l14)), Till p e below s (Q0 Z p1 q2 q3 q4 q5 p6 h0 n0) room_1.cells room_1.slots (T77.setTop (mkF m 120 #[.val (.int p1), .val (.long q2), .second, .val (.long q3), .second, .val (.long q4), .second, .val (.long q5), .second, .val (.int p6), .val (.int ((p1 &&& (3 : Int32)) + (1 : Int32))), .val (.int (p6 &&& (3 : Int32))), .val (.ref b3), .val (.int ((p6 &&& (3 : Int32)) % ((p1 &&& (3 : Int32)) + (1 : Int32)))), .val (.long v120l14), .second, .unset] [])) := by
            intro T77 L78 X79 N80 e81 v120l14 hv120l14
            show Till p e below s (Q0 Z p1 q2 q3 q4 q5 p6 h0 n0) room_1.cells room_1.slots (T77.setTop (mkF m 120 #[.val (.int p1), .val (.long q2), .second, .val (.long q3), .second, .val (.long q4), .second, .val (.long q5), .second, .val (.int p6), .val (.int ((p1 &&& (3 : Int32)) + (1 : Int32))), .val (.int (p6 &&& (3 : Int32))), .val (.ref b3), .val (.int ((p6 &&& (3 : Int32)) % ((p1 &&& (3 : Int32)) + (1 : Int32)))), .val (.long v120l14), .second, .unset] []))
            refine Till.pre (fun _ hr => XS.iconst X79.here hx rfl (hb hby at_120) hr) ?_
            show Till p e below s (Q0 Z p1 q2 q3 q4 q5 p6 h0 n0) room_1.cells room_1.slots (T77.setTop (mkF m 121 #[.val (.int p1), .val (.long q2), .second, .val (.long q3), .second, .val (.long q4), .second, .val (.long q5), .second, .val (.int p6), .val (.int ((p1 &&& (3 : Int32)) + (1 : Int32))), .val (.int (p6 &&& (3 : Int32))), .val (.ref b3), .val (.int ((p6 &&& (3 : Int32)) % ((p1 &&& (3 : Int32)) + (1 : Int32)))), .val (.long v120l14), .second, .unset] [(.int (2 : Int32))]))
            refine Till.pre (fun _ hr => XS.iload X79.here hx rfl (hb hby at_121) rfl hr) ?_
            show Till p e below s (Q0 Z p1 q2 q3 q4 q5 p6 h0 n0) room_1.cells room_1.slots (T77.setTop (mkF m 123 #[.val (.int p1), .val (.long q2), .second, .val (.long q3), .second, .val (.long q4), .second, .val (.long q5), .second, .val (.int p6), .val (.int ((p1 &&& (3 : Int32)) + (1 : Int32))), .val (.int (p6 &&& (3 : Int32))), .val (.ref b3), .val (.int ((p6 &&& (3 : Int32)) % ((p1 &&& (3 : Int32)) + (1 : Int32)))), .val (.long v120l14), .second, .unset] [(.int (p6 &&& (3 : Int32))), (.int (2 : Int32))]))
            have J144_94 : ∀ (T90 : State) (L91 : List Loc) (X92 : Stand p l e room_1 s m #[(.int p1), (.long q2), (.long q3), (.long q4), (.long q5), (.int p6)] below meth c T90 L91 2 6) (N93 : Fr n0 L91) (e94 : T90.heap = T52.heap) (v144l14 : Int64) (hv144l14 : v144l14 = (if ((2 : Int32) < (p6 &&& (3 : Int32))) then (if (((2 : Int32) % ((p1 &&& (3 : Int32)) + (1 : Int32))) = ((p6 &&& (3 : Int32)) % ((p1 &&& (3 : Int32)) + (1 : Int32)))) then (fn5 v120l14 q5) else v120l14) else v120l14)), Till p e below s (Q0 Z p1 q2 q3 q4 q5 p6 h0 n0) room_1.cells room_1.slots (T90.setTop (mkF m 144 #[.val (.int p1), .val (.long q2), .second, .val (.long q3), .second, .val (.long q4), .second, .val (.long q5), .second, .val (.int p6), .val (.int ((p1 &&& (3 : Int32)) + (1 : Int32))), .val (.int (p6 &&& (3 : Int32))), .val (.ref b3), .val (.int ((p6 &&& (3 : Int32)) % ((p1 &&& (3 : Int32)) + (1 : Int32)))), .val (.long v144l14), .second, .unset] [])) := by
              intro T90 L91 X92 N93 e94 v144l14 hv144l14
              show Till p e below s (Q0 Z p1 q2 q3 q4 q5 p6 h0 n0) room_1.cells room_1.slots (T90.setTop (mkF m 144 #[.val (.int p1), .val (.long q2), .second, .val (.long q3), .second, .val (.long q4), .second, .val (.long q5), .second, .val (.int p6), .val (.int ((p1 &&& (3 : Int32)) + (1 : Int32))), .val (.int (p6 &&& (3 : Int32))), .val (.ref b3), .val (.int ((p6 &&& (3 : Int32)) % ((p1 &&& (3 : Int32)) + (1 : Int32)))), .val (.long v144l14), .second, .unset] []))
              refine Till.pre (fun _ hr => XS.lload X92.here hx rfl (hb hby at_144) rfl hr) ?_
              show Till p e below s (Q0 Z p1 q2 q3 q4 q5 p6 h0 n0) room_1.cells room_1.slots (T90.setTop (mkF m 146 #[.val (.int p1), .val (.long q2), .second, .val (.long q3), .second, .val (.long q4), .second, .val (.long q5), .second, .val (.int p6), .val (.int ((p1 &&& (3 : Int32)) + (1 : Int32))), .val (.int (p6 &&& (3 : Int32))), .val (.ref b3), .val (.int ((p6 &&& (3 : Int32)) % ((p1 &&& (3 : Int32)) + (1 : Int32)))), .val (.long v144l14), .second, .unset] [(.long q5)]))
              refine Till.pre (fun _ hr => XS.lload X92.here hx rfl (hb hby at_146) rfl hr) ?_
              show Till p e below s (Q0 Z p1 q2 q3 q4 q5 p6 h0 n0) room_1.cells room_1.slots (T90.setTop (mkF m 148 #[.val (.int p1), .val (.long q2), .second, .val (.long q3), .second, .val (.long q4), .second, .val (.long q5), .second, .val (.int p6), .val (.int ((p1 &&& (3 : Int32)) + (1 : Int32))), .val (.int (p6 &&& (3 : Int32))), .val (.ref b3), .val (.int ((p6 &&& (3 : Int32)) % ((p1 &&& (3 : Int32)) + (1 : Int32)))), .val (.long v144l14), .second, .unset] [(.long q4), (.long q5)]))
              refine Till.pre (fun _ hr => XS.lcmp X92.here hx rfl (hb hby at_148) rfl hr) ?_
              show Till p e below s (Q0 Z p1 q2 q3 q4 q5 p6 h0 n0) room_1.cells room_1.slots (T90.setTop (mkF m 149 #[.val (.int p1), .val (.long q2), .second, .val (.long q3), .second, .val (.long q4), .second, .val (.long q5), .second, .val (.int p6), .val (.int ((p1 &&& (3 : Int32)) + (1 : Int32))), .val (.int (p6 &&& (3 : Int32))), .val (.ref b3), .val (.int ((p6 &&& (3 : Int32)) % ((p1 &&& (3 : Int32)) + (1 : Int32)))), .val (.long v144l14), .second, .unset] [(.int (lcmpW q5 q4))]))
              have J165_97 : ∀ (v165s0 : Int32) (hv165s0 : v165s0 = (if (q4 < q5) then (if (q5 < v144l14) then (1 : Int32) else (0 : Int32)) else (1 : Int32))), Till p e below s (Q0 Z p1 q2 q3 q4 q5 p6 h0 n0) room_1.cells room_1.slots (T90.setTop (mkF m 165 #[.val (.int p1), .val (.long q2), .second, .val (.long q3), .second, .val (.long q4), .second, .val (.long q5), .second, .val (.int p6), .val (.int ((p1 &&& (3 : Int32)) + (1 : Int32))), .val (.int (p6 &&& (3 : Int32))), .val (.ref b3), .val (.int ((p6 &&& (3 : Int32)) % ((p1 &&& (3 : Int32)) + (1 : Int32)))), .val (.long v144l14), .second, .unset] [(.int v165s0)])) := by
                intro v165s0 hv165s0
                show Till p e below s (Q0 Z p1 q2 q3 q4 q5 p6 h0 n0) room_1.cells room_1.slots (T90.setTop (mkF m 165 #[.val (.int p1), .val (.long q2), .second, .val (.long q3), .second, .val (.long q4), .second, .val (.long q5), .second, .val (.int p6), .val (.int ((p1 &&& (3 : Int32)) + (1 : Int32))), .val (.int (p6 &&& (3 : Int32))), .val (.ref b3), .val (.int ((p6 &&& (3 : Int32)) % ((p1 &&& (3 : Int32)) + (1 : Int32)))), .val (.long v144l14), .second, .unset] [(.int v165s0)]))
                refine Till.pre (fun _ hr => XS.istore X92.here hx rfl (hb hby at_165) rfl (l' := #[.val (.int p1), .val (.long q2), .second, .val (.long q3), .second, .val (.long q4), .second, .val (.long q5), .second, .val (.int p6), .val (.int ((p1 &&& (3 : Int32)) + (1 : Int32))), .val (.int (p6 &&& (3 : Int32))), .val (.ref b3), .val (.int ((p6 &&& (3 : Int32)) % ((p1 &&& (3 : Int32)) + (1 : Int32)))), .val (.long v144l14), .second, .val (.int v165s0)]) rfl hr) ?_
                show Till p e below s (Q0 Z p1 q2 q3 q4 q5 p6 h0 n0) room_1.cells room_1.slots (T90.setTop (mkF m 167 #[.val (.int p1), .val (.long q2), .second, .val (.long q3), .second, .val (.long q4), .second, .val (.long q5), .second, .val (.int p6), .val (.int ((p1 &&& (3 : Int32)) + (1 : Int32))), .val (.int (p6 &&& (3 : Int32))), .val (.ref b3), .val (.int ((p6 &&& (3 : Int32)) % ((p1 &&& (3 : Int32)) + (1 : Int32)))), .val (.long v144l14), .second, .val (.int v165s0)] []))
                refine Till.pre (fun _ hr => XS.aload X92.here hx rfl (hb hby at_167) rfl rfl hr) ?_
                show Till p e below s (Q0 Z p1 q2 q3 q4 q5 p6 h0 n0) room_1.cells room_1.slots (T90.setTop (mkF m 169 #[.val (.int p1), .val (.long q2), .second, .val (.long q3), .second, .val (.long q4), .second, .val (.long q5), .second, .val (.int p6), .val (.int ((p1 &&& (3 : Int32)) + (1 : Int32))), .val (.int (p6 &&& (3 : Int32))), .val (.ref b3), .val (.int ((p6 &&& (3 : Int32)) % ((p1 &&& (3 : Int32)) + (1 : Int32)))), .val (.long v144l14), .second, .val (.int v165s0)] [(.ref b3)]))
                refine Till.pre (fun _ hr => XS.lload X92.here hx rfl (hb hby at_169) rfl hr) ?_
                show Till p e below s (Q0 Z p1 q2 q3 q4 q5 p6 h0 n0) room_1.cells room_1.slots (T90.setTop (mkF m 171 #[.val (.int p1), .val (.long q2), .second, .val (.long q3), .second, .val (.long q4), .second, .val (.long q5), .second, .val (.int p6), .val (.int ((p1 &&& (3 : Int32)) + (1 : Int32))), .val (.int (p6 &&& (3 : Int32))), .val (.ref b3), .val (.int ((p6 &&& (3 : Int32)) % ((p1 &&& (3 : Int32)) + (1 : Int32)))), .val (.long v144l14), .second, .val (.int v165s0)] [(.long q4), (.ref b3)]))
                refine Till.pre (fun _ hr => XS.lload X92.here hx rfl (hb hby at_171) rfl hr) ?_
                show Till p e below s (Q0 Z p1 q2 q3 q4 q5 p6 h0 n0) room_1.cells room_1.slots (T90.setTop (mkF m 173 #[.val (.int p1), .val (.long q2), .second, .val (.long q3), .second, .val (.long q4), .second, .val (.long q5), .second, .val (.int p6), .val (.int ((p1 &&& (3 : Int32)) + (1 : Int32))), .val (.int (p6 &&& (3 : Int32))), .val (.ref b3), .val (.int ((p6 &&& (3 : Int32)) % ((p1 &&& (3 : Int32)) + (1 : Int32)))), .val (.long v144l14), .second, .val (.int v165s0)] [(.long q5), (.long q4), (.ref b3)]))
                refine Till.callV (rm3 l Z a0 hw b3 q4 q5 b17 v63f0_1 ((p1 &&& (3 : Int32)) + (1 : Int32)) v63f1_1 T52.heap n0 R_b3 R_b17 ((own_ki hv63f0_1 (own_ki hv50f0_1 (own_ki hv37f0_1 (own_k0 p1) (own_k10 (own_k0 p1))) (own_k1 (own_ki hv37f0_1 (own_k0 p1) (own_k10 (own_k0 p1))))) (own_k1 (own_ki hv50f0_1 (own_ki hv37f0_1 (own_k0 p1) (own_k10 (own_k0 p1))) (own_k1 (own_ki hv37f0_1 (own_k0 p1) (own_k10 (own_k0 p1))))))).1) ((own_ki hv63f0_1 (own_ki hv50f0_1 (own_ki hv37f0_1 (own_k0 p1) (own_k10 (own_k0 p1))) (own_k1 (own_ki hv37f0_1 (own_k0 p1) (own_k10 (own_k0 p1))))) (own_k1 (own_ki hv50f0_1 (own_ki hv37f0_1 (own_k0 p1) (own_k10 (own_k0 p1))) (own_k1 (own_ki hv37f0_1 (own_k0 p1) (own_k10 (own_k0 p1))))))).2)) R_b3.1 X92 hx hZ hown (hw _ (List.mem_of_getElem? (i := 16) rfl)) (hw _ (List.mem_of_getElem? (i := 17) rfl)) (hw _ (List.mem_of_getElem? (i := 19) rfl)) (hw _ (List.mem_of_getElem? (i := 18) rfl)) (hw _ (List.mem_of_getElem? (i := 2) rfl)) (hw _ (List.mem_of_getElem? (i := 20) rfl)) (by decide) (by decide) (W := 0) (by decide) (by rw [hml]; rfl) (a := b3) (argsL := [(.long q4), (.long q5)]) (rest := []) (lenOf pd0_4 rfl) rfl rfl (Nat.le_of_eq rfl) (hb hby at_173) e94 (by decide) (by decide) ?_
                rintro _ T99 L100 X101 ⟨rfl, N102, e103⟩
                have N102 := Fr.app N93 N102
                show Till p e below s (Q0 Z p1 q2 q3 q4 q5 p6 h0 n0) room_1.cells room_1.slots (T99.setTop (mkF m 176 #[.val (.int p1), .val (.long q2), .second, .val (.long q3), .second, .val (.long q4), .second, .val (.long q5), .second, .val (.int p6), .val (.int ((p1 &&& (3 : Int32)) + (1 : Int32))), .val (.int (p6 &&& (3 : Int32))), .val (.ref b3), .val (.int ((p6 &&& (3 : Int32)) % ((p1 &&& (3 : Int32)) + (1 : Int32)))), .val (.long v144l14), .second, .val (.int v165s0)] [(.int (fn3 q4 q5 v63f0_1 ((p1 &&& (3 : Int32)) + (1 : Int32)) v63f1_1))]))
                refine Till.pre (fun _ hr => XS.iload X101.here hx rfl (hb hby at_176) rfl hr) ?_
                show Till p e below s (Q0 Z p1 q2 q3 q4 q5 p6 h0 n0) room_1.cells room_1.slots (T99.setTop (mkF m 178 #[.val (.int p1), .val (.long q2), .second, .val (.long q3), .second, .val (.long q4), .second, .val (.long q5), .second, .val (.int p6), .val (.int ((p1 &&& (3 : Int32)) + (1 : Int32))), .val (.int (p6 &&& (3 : Int32))), .val (.ref b3), .val (.int ((p6 &&& (3 : Int32)) % ((p1 &&& (3 : Int32)) + (1 : Int32)))), .val (.long v144l14), .second, .val (.int v165s0)] [(.int v165s0), (.int (fn3 q4 q5 v63f0_1 ((p1 &&& (3 : Int32)) + (1 : Int32)) v63f1_1))]))
                have J186_104 : ∀ (v186s0 : Int32) (hv186s0 : v186s0 = (if ((fn3 q4 q5 v63f0_1 ((p1 &&& (3 : Int32)) + (1 : Int32)) v63f1_1) = v165s0) then (1 : Int32) else (0 : Int32))), Till p e below s (Q0 Z p1 q2 q3 q4 q5 p6 h0 n0) room_1.cells room_1.slots (T99.setTop (mkF m 186 #[.val (.int p1), .val (.long q2), .second, .val (.long q3), .second, .val (.long q4), .second, .val (.long q5), .second, .val (.int p6), .val (.int ((p1 &&& (3 : Int32)) + (1 : Int32))), .val (.int (p6 &&& (3 : Int32))), .val (.ref b3), .val (.int ((p6 &&& (3 : Int32)) % ((p1 &&& (3 : Int32)) + (1 : Int32)))), .val (.long v144l14), .second, .val (.int v165s0)] [(.int v186s0)])) := by
                  intro v186s0 hv186s0
                  show Till p e below s (Q0 Z p1 q2 q3 q4 q5 p6 h0 n0) room_1.cells room_1.slots (T99.setTop (mkF m 186 #[.val (.int p1), .val (.long q2), .second, .val (.long q3), .second, .val (.long q4), .second, .val (.long q5), .second, .val (.int p6), .val (.int ((p1 &&& (3 : Int32)) + (1 : Int32))), .val (.int (p6 &&& (3 : Int32))), .val (.ref b3), .val (.int ((p6 &&& (3 : Int32)) % ((p1 &&& (3 : Int32)) + (1 : Int32)))), .val (.long v144l14), .second, .val (.int v165s0)] [(.int v186s0)]))
                  refine Till.retZ (w := (1 : Int32)) X101 hx hret hlk (hb hby at_186) (by decide) (by decide) (by rw [hv186s0.trans (if_pos ((own_kp (own_fin (own_n3 p1) (own_n3 p6) hv37f0_1 hv37f1_1 hv50f0_1 hv50f1_1 hv63f0_1 hv63f1_1 hv96l14 hv120l14 hv144l14)).trans hv165s0.symm))]; decide) ?_
                  exact ⟨rfl, N102⟩
                refine Till.icmp (pc' := 185) X101.here hx (hb hby at_178) (by decide) (by decide) (fun q => ?_) (fun q => ?_)
                · have hc104 := (hEq.2.2.1 q)
                  show Till p e below s (Q0 Z p1 q2 q3 q4 q5 p6 h0 n0) room_1.cells room_1.slots (T99.setTop (mkF m 185 #[.val (.int p1), .val (.long q2), .second, .val (.long q3), .second, .val (.long q4), .second, .val (.long q5), .second, .val (.int p6), .val (.int ((p1 &&& (3 : Int32)) + (1 : Int32))), .val (.int (p6 &&& (3 : Int32))), .val (.ref b3), .val (.int ((p6 &&& (3 : Int32)) % ((p1 &&& (3 : Int32)) + (1 : Int32)))), .val (.long v144l14), .second, .val (.int v165s0)] []))
                  refine Till.pre (fun _ hr => XS.iconst X101.here hx rfl (hb hby at_185) hr) ?_
                  show Till p e below s (Q0 Z p1 q2 q3 q4 q5 p6 h0 n0) room_1.cells room_1.slots (T99.setTop (mkF m 186 #[.val (.int p1), .val (.long q2), .second, .val (.long q3), .second, .val (.long q4), .second, .val (.long q5), .second, .val (.int p6), .val (.int ((p1 &&& (3 : Int32)) + (1 : Int32))), .val (.int (p6 &&& (3 : Int32))), .val (.ref b3), .val (.int ((p6 &&& (3 : Int32)) % ((p1 &&& (3 : Int32)) + (1 : Int32)))), .val (.long v144l14), .second, .val (.int v165s0)] [(.int (0 : Int32))]))
                  exact J186_104 _ (Eq.symm (if_neg hc104))
                · have hc104 := (hEq.2.2.2 q)
                  show Till p e below s (Q0 Z p1 q2 q3 q4 q5 p6 h0 n0) room_1.cells room_1.slots (T99.setTop (mkF m 181 #[.val (.int p1), .val (.long q2), .second, .val (.long q3), .second, .val (.long q4), .second, .val (.long q5), .second, .val (.int p6), .val (.int ((p1 &&& (3 : Int32)) + (1 : Int32))), .val (.int (p6 &&& (3 : Int32))), .val (.ref b3), .val (.int ((p6 &&& (3 : Int32)) % ((p1 &&& (3 : Int32)) + (1 : Int32)))), .val (.long v144l14), .second, .val (.int v165s0)] []))
                  refine Till.pre (fun _ hr => XS.iconst X101.here hx rfl (hb hby at_181) hr) ?_
                  show Till p e below s (Q0 Z p1 q2 q3 q4 q5 p6 h0 n0) room_1.cells room_1.slots (T99.setTop (mkF m 182 #[.val (.int p1), .val (.long q2), .second, .val (.long q3), .second, .val (.long q4), .second, .val (.long q5), .second, .val (.int p6), .val (.int ((p1 &&& (3 : Int32)) + (1 : Int32))), .val (.int (p6 &&& (3 : Int32))), .val (.ref b3), .val (.int ((p6 &&& (3 : Int32)) % ((p1 &&& (3 : Int32)) + (1 : Int32)))), .val (.long v144l14), .second, .val (.int v165s0)] [(.int (1 : Int32))]))
                  refine Till.pre (fun _ hr => XS.goto X101.here hx rfl (pc0 := 182) (pc' := 186) rfl (hb hby at_182) (by decide) (by decide) hr) ?_
                  show Till p e below s (Q0 Z p1 q2 q3 q4 q5 p6 h0 n0) room_1.cells room_1.slots (T99.setTop (mkF m 186 #[.val (.int p1), .val (.long q2), .second, .val (.long q3), .second, .val (.long q4), .second, .val (.long q5), .second, .val (.int p6), .val (.int ((p1 &&& (3 : Int32)) + (1 : Int32))), .val (.int (p6 &&& (3 : Int32))), .val (.ref b3), .val (.int ((p6 &&& (3 : Int32)) % ((p1 &&& (3 : Int32)) + (1 : Int32)))), .val (.long v144l14), .second, .val (.int v165s0)] [(.int (1 : Int32))]))
                  exact J186_104 _ (Eq.symm (if_pos hc104))
              refine Till.ifc (pc' := 160) X92.here hx (hb hby at_149) (by decide) (by decide) (fun q => ?_) (fun q => ?_)
              · have hc96 := (mt lGt.mpr (hLt.2.2.2.2.2.2.1 q))
                show Till p e below s (Q0 Z p1 q2 q3 q4 q5 p6 h0 n0) room_1.cells room_1.slots (T90.setTop (mkF m 160 #[.val (.int p1), .val (.long q2), .second, .val (.long q3), .second, .val (.long q4), .second, .val (.long q5), .second, .val (.int p6), .val (.int ((p1 &&& (3 : Int32)) + (1 : Int32))), .val (.int (p6 &&& (3 : Int32))), .val (.ref b3), .val (.int ((p6 &&& (3 : Int32)) % ((p1 &&& (3 : Int32)) + (1 : Int32)))), .val (.long v144l14), .second, .unset] []))
                refine Till.pre (fun _ hr => XS.iconst X92.here hx rfl (hb hby at_160) hr) ?_
                show Till p e below s (Q0 Z p1 q2 q3 q4 q5 p6 h0 n0) room_1.cells room_1.slots (T90.setTop (mkF m 161 #[.val (.int p1), .val (.long q2), .second, .val (.long q3), .second, .val (.long q4), .second, .val (.long q5), .second, .val (.int p6), .val (.int ((p1 &&& (3 : Int32)) + (1 : Int32))), .val (.int (p6 &&& (3 : Int32))), .val (.ref b3), .val (.int ((p6 &&& (3 : Int32)) % ((p1 &&& (3 : Int32)) + (1 : Int32)))), .val (.long v144l14), .second, .unset] [(.int (1 : Int32))]))
                refine Till.pre (fun _ hr => XS.goto X92.here hx rfl (pc0 := 161) (pc' := 165) rfl (hb hby at_161) (by decide) (by decide) hr) ?_
                show Till p e below s (Q0 Z p1 q2 q3 q4 q5 p6 h0 n0) room_1.cells room_1.slots (T90.setTop (mkF m 165 #[.val (.int p1), .val (.long q2), .second, .val (.long q3), .second, .val (.long q4), .second, .val (.long q5), .second, .val (.int p6), .val (.int ((p1 &&& (3 : Int32)) + (1 : Int32))), .val (.int (p6 &&& (3 : Int32))), .val (.ref b3), .val (.int ((p6 &&& (3 : Int32)) % ((p1 &&& (3 : Int32)) + (1 : Int32)))), .val (.long v144l14), .second, .unset] [(.int (1 : Int32))]))
                exact J165_97 _ (Eq.symm (if_neg hc96))
              · have hc96 := (lGt.mp (hLt.2.2.2.2.2.2.2 q))
                show Till p e below s (Q0 Z p1 q2 q3 q4 q5 p6 h0 n0) room_1.cells room_1.slots (T90.setTop (mkF m 152 #[.val (.int p1), .val (.long q2), .second, .val (.long q3), .second, .val (.long q4), .second, .val (.long q5), .second, .val (.int p6), .val (.int ((p1 &&& (3 : Int32)) + (1 : Int32))), .val (.int (p6 &&& (3 : Int32))), .val (.ref b3), .val (.int ((p6 &&& (3 : Int32)) % ((p1 &&& (3 : Int32)) + (1 : Int32)))), .val (.long v144l14), .second, .unset] []))
                refine Till.pre (fun _ hr => XS.lload X92.here hx rfl (hb hby at_152) rfl hr) ?_
                show Till p e below s (Q0 Z p1 q2 q3 q4 q5 p6 h0 n0) room_1.cells room_1.slots (T90.setTop (mkF m 154 #[.val (.int p1), .val (.long q2), .second, .val (.long q3), .second, .val (.long q4), .second, .val (.long q5), .second, .val (.int p6), .val (.int ((p1 &&& (3 : Int32)) + (1 : Int32))), .val (.int (p6 &&& (3 : Int32))), .val (.ref b3), .val (.int ((p6 &&& (3 : Int32)) % ((p1 &&& (3 : Int32)) + (1 : Int32)))), .val (.long v144l14), .second, .unset] [(.long q5)]))
                refine Till.pre (fun _ hr => XS.lload X92.here hx rfl (hb hby at_154) rfl hr) ?_
                show Till p e below s (Q0 Z p1 q2 q3 q4 q5 p6 h0 n0) room_1.cells room_1.slots (T90.setTop (mkF m 156 #[.val (.int p1), .val (.long q2), .second, .val (.long q3), .second, .val (.long q4), .second, .val (.long q5), .second, .val (.int p6), .val (.int ((p1 &&& (3 : Int32)) + (1 : Int32))), .val (.int (p6 &&& (3 : Int32))), .val (.ref b3), .val (.int ((p6 &&& (3 : Int32)) % ((p1 &&& (3 : Int32)) + (1 : Int32)))), .val (.long v144l14), .second, .unset] [(.long v144l14), (.long q5)]))
                refine Till.pre (fun _ hr => XS.lcmp X92.here hx rfl (hb hby at_156) rfl hr) ?_
                show Till p e below s (Q0 Z p1 q2 q3 q4 q5 p6 h0 n0) room_1.cells room_1.slots (T90.setTop (mkF m 157 #[.val (.int p1), .val (.long q2), .second, .val (.long q3), .second, .val (.long q4), .second, .val (.long q5), .second, .val (.int p6), .val (.int ((p1 &&& (3 : Int32)) + (1 : Int32))), .val (.int (p6 &&& (3 : Int32))), .val (.ref b3), .val (.int ((p6 &&& (3 : Int32)) % ((p1 &&& (3 : Int32)) + (1 : Int32)))), .val (.long v144l14), .second, .unset] [(.int (lcmpW q5 v144l14))]))
                refine Till.ifc (pc' := 164) X92.here hx (hb hby at_157) (by decide) (by decide) (fun q => ?_) (fun q => ?_)
                · have hc97 := (mt lLt.mpr (hLt.2.2.1 q))
                  show Till p e below s (Q0 Z p1 q2 q3 q4 q5 p6 h0 n0) room_1.cells room_1.slots (T90.setTop (mkF m 164 #[.val (.int p1), .val (.long q2), .second, .val (.long q3), .second, .val (.long q4), .second, .val (.long q5), .second, .val (.int p6), .val (.int ((p1 &&& (3 : Int32)) + (1 : Int32))), .val (.int (p6 &&& (3 : Int32))), .val (.ref b3), .val (.int ((p6 &&& (3 : Int32)) % ((p1 &&& (3 : Int32)) + (1 : Int32)))), .val (.long v144l14), .second, .unset] []))
                  refine Till.pre (fun _ hr => XS.iconst X92.here hx rfl (hb hby at_164) hr) ?_
                  show Till p e below s (Q0 Z p1 q2 q3 q4 q5 p6 h0 n0) room_1.cells room_1.slots (T90.setTop (mkF m 165 #[.val (.int p1), .val (.long q2), .second, .val (.long q3), .second, .val (.long q4), .second, .val (.long q5), .second, .val (.int p6), .val (.int ((p1 &&& (3 : Int32)) + (1 : Int32))), .val (.int (p6 &&& (3 : Int32))), .val (.ref b3), .val (.int ((p6 &&& (3 : Int32)) % ((p1 &&& (3 : Int32)) + (1 : Int32)))), .val (.long v144l14), .second, .unset] [(.int (0 : Int32))]))
                  exact J165_97 _ (Eq.symm ((if_pos hc96).trans (if_neg hc97)))
                · have hc97 := (lLt.mp (hLt.2.2.2.1 q))
                  show Till p e below s (Q0 Z p1 q2 q3 q4 q5 p6 h0 n0) room_1.cells room_1.slots (T90.setTop (mkF m 160 #[.val (.int p1), .val (.long q2), .second, .val (.long q3), .second, .val (.long q4), .second, .val (.long q5), .second, .val (.int p6), .val (.int ((p1 &&& (3 : Int32)) + (1 : Int32))), .val (.int (p6 &&& (3 : Int32))), .val (.ref b3), .val (.int ((p6 &&& (3 : Int32)) % ((p1 &&& (3 : Int32)) + (1 : Int32)))), .val (.long v144l14), .second, .unset] []))
                  refine Till.pre (fun _ hr => XS.iconst X92.here hx rfl (hb hby at_160) hr) ?_
                  show Till p e below s (Q0 Z p1 q2 q3 q4 q5 p6 h0 n0) room_1.cells room_1.slots (T90.setTop (mkF m 161 #[.val (.int p1), .val (.long q2), .second, .val (.long q3), .second, .val (.long q4), .second, .val (.long q5), .second, .val (.int p6), .val (.int ((p1 &&& (3 : Int32)) + (1 : Int32))), .val (.int (p6 &&& (3 : Int32))), .val (.ref b3), .val (.int ((p6 &&& (3 : Int32)) % ((p1 &&& (3 : Int32)) + (1 : Int32)))), .val (.long v144l14), .second, .unset] [(.int (1 : Int32))]))
                  refine Till.pre (fun _ hr => XS.goto X92.here hx rfl (pc0 := 161) (pc' := 165) rfl (hb hby at_161) (by decide) (by decide) hr) ?_
                  show Till p e below s (Q0 Z p1 q2 q3 q4 q5 p6 h0 n0) room_1.cells room_1.slots (T90.setTop (mkF m 165 #[.val (.int p1), .val (.long q2), .second, .val (.long q3), .second, .val (.long q4), .second, .val (.long q5), .second, .val (.int p6), .val (.int ((p1 &&& (3 : Int32)) + (1 : Int32))), .val (.int (p6 &&& (3 : Int32))), .val (.ref b3), .val (.int ((p6 &&& (3 : Int32)) % ((p1 &&& (3 : Int32)) + (1 : Int32)))), .val (.long v144l14), .second, .unset] [(.int (1 : Int32))]))
                  exact J165_97 _ (Eq.symm ((if_pos hc96).trans (if_pos hc97)))
            refine Till.icmp (pc' := 144) X79.here hx (hb hby at_123) (by decide) (by decide) (fun q => ?_) (fun q => ?_)
            · have hc83 := (hLt.2.2.1 q)
              show Till p e below s (Q0 Z p1 q2 q3 q4 q5 p6 h0 n0) room_1.cells room_1.slots (T77.setTop (mkF m 144 #[.val (.int p1), .val (.long q2), .second, .val (.long q3), .second, .val (.long q4), .second, .val (.long q5), .second, .val (.int p6), .val (.int ((p1 &&& (3 : Int32)) + (1 : Int32))), .val (.int (p6 &&& (3 : Int32))), .val (.ref b3), .val (.int ((p6 &&& (3 : Int32)) % ((p1 &&& (3 : Int32)) + (1 : Int32)))), .val (.long v120l14), .second, .unset] []))
              exact J144_94 _ _ X79 N80 e81 _ (Eq.symm (if_neg hc83))
            · have hc83 := (hLt.2.2.2.1 q)
              show Till p e below s (Q0 Z p1 q2 q3 q4 q5 p6 h0 n0) room_1.cells room_1.slots (T77.setTop (mkF m 126 #[.val (.int p1), .val (.long q2), .second, .val (.long q3), .second, .val (.long q4), .second, .val (.long q5), .second, .val (.int p6), .val (.int ((p1 &&& (3 : Int32)) + (1 : Int32))), .val (.int (p6 &&& (3 : Int32))), .val (.ref b3), .val (.int ((p6 &&& (3 : Int32)) % ((p1 &&& (3 : Int32)) + (1 : Int32)))), .val (.long v120l14), .second, .unset] []))
              refine Till.pre (fun _ hr => XS.iconst X79.here hx rfl (hb hby at_126) hr) ?_
              show Till p e below s (Q0 Z p1 q2 q3 q4 q5 p6 h0 n0) room_1.cells room_1.slots (T77.setTop (mkF m 127 #[.val (.int p1), .val (.long q2), .second, .val (.long q3), .second, .val (.long q4), .second, .val (.long q5), .second, .val (.int p6), .val (.int ((p1 &&& (3 : Int32)) + (1 : Int32))), .val (.int (p6 &&& (3 : Int32))), .val (.ref b3), .val (.int ((p6 &&& (3 : Int32)) % ((p1 &&& (3 : Int32)) + (1 : Int32)))), .val (.long v120l14), .second, .unset] [(.int (2 : Int32))]))
              refine Till.pre (fun _ hr => XS.iload X79.here hx rfl (hb hby at_127) rfl hr) ?_
              show Till p e below s (Q0 Z p1 q2 q3 q4 q5 p6 h0 n0) room_1.cells room_1.slots (T77.setTop (mkF m 129 #[.val (.int p1), .val (.long q2), .second, .val (.long q3), .second, .val (.long q4), .second, .val (.long q5), .second, .val (.int p6), .val (.int ((p1 &&& (3 : Int32)) + (1 : Int32))), .val (.int (p6 &&& (3 : Int32))), .val (.ref b3), .val (.int ((p6 &&& (3 : Int32)) % ((p1 &&& (3 : Int32)) + (1 : Int32)))), .val (.long v120l14), .second, .unset] [(.int ((p1 &&& (3 : Int32)) + (1 : Int32))), (.int (2 : Int32))]))
              refine Till.pre (fun _ hr => iremM X79 hx rfl (hb hby at_129) rfl (own_nz p1) hr) ?_
              show Till p e below s (Q0 Z p1 q2 q3 q4 q5 p6 h0 n0) room_1.cells room_1.slots (T77.setTop (mkF m 130 #[.val (.int p1), .val (.long q2), .second, .val (.long q3), .second, .val (.long q4), .second, .val (.long q5), .second, .val (.int p6), .val (.int ((p1 &&& (3 : Int32)) + (1 : Int32))), .val (.int (p6 &&& (3 : Int32))), .val (.ref b3), .val (.int ((p6 &&& (3 : Int32)) % ((p1 &&& (3 : Int32)) + (1 : Int32)))), .val (.long v120l14), .second, .unset] [(.int ((2 : Int32) % ((p1 &&& (3 : Int32)) + (1 : Int32))))]))
              refine Till.pre (fun _ hr => XS.iload X79.here hx rfl (hb hby at_130) rfl hr) ?_
              show Till p e below s (Q0 Z p1 q2 q3 q4 q5 p6 h0 n0) room_1.cells room_1.slots (T77.setTop (mkF m 132 #[.val (.int p1), .val (.long q2), .second, .val (.long q3), .second, .val (.long q4), .second, .val (.long q5), .second, .val (.int p6), .val (.int ((p1 &&& (3 : Int32)) + (1 : Int32))), .val (.int (p6 &&& (3 : Int32))), .val (.ref b3), .val (.int ((p6 &&& (3 : Int32)) % ((p1 &&& (3 : Int32)) + (1 : Int32)))), .val (.long v120l14), .second, .unset] [(.int ((p6 &&& (3 : Int32)) % ((p1 &&& (3 : Int32)) + (1 : Int32)))), (.int ((2 : Int32) % ((p1 &&& (3 : Int32)) + (1 : Int32))))]))
              refine Till.icmp (pc' := 144) X79.here hx (hb hby at_132) (by decide) (by decide) (fun q => ?_) (fun q => ?_)
              · have hc84 := (hEq.2.2.1 q)
                show Till p e below s (Q0 Z p1 q2 q3 q4 q5 p6 h0 n0) room_1.cells room_1.slots (T77.setTop (mkF m 144 #[.val (.int p1), .val (.long q2), .second, .val (.long q3), .second, .val (.long q4), .second, .val (.long q5), .second, .val (.int p6), .val (.int ((p1 &&& (3 : Int32)) + (1 : Int32))), .val (.int (p6 &&& (3 : Int32))), .val (.ref b3), .val (.int ((p6 &&& (3 : Int32)) % ((p1 &&& (3 : Int32)) + (1 : Int32)))), .val (.long v120l14), .second, .unset] []))
                exact J144_94 _ _ X79 N80 e81 _ (Eq.symm ((if_pos hc83).trans (if_neg hc84)))
              · have hc84 := (hEq.2.2.2 q)
                show Till p e below s (Q0 Z p1 q2 q3 q4 q5 p6 h0 n0) room_1.cells room_1.slots (T77.setTop (mkF m 135 #[.val (.int p1), .val (.long q2), .second, .val (.long q3), .second, .val (.long q4), .second, .val (.long q5), .second, .val (.int p6), .val (.int ((p1 &&& (3 : Int32)) + (1 : Int32))), .val (.int (p6 &&& (3 : Int32))), .val (.ref b3), .val (.int ((p6 &&& (3 : Int32)) % ((p1 &&& (3 : Int32)) + (1 : Int32)))), .val (.long v120l14), .second, .unset] []))
                refine Till.pre (fun _ hr => XS.lload X79.here hx rfl (hb hby at_135) rfl hr) ?_
                show Till p e below s (Q0 Z p1 q2 q3 q4 q5 p6 h0 n0) room_1.cells room_1.slots (T77.setTop (mkF m 137 #[.val (.int p1), .val (.long q2), .second, .val (.long q3), .second, .val (.long q4), .second, .val (.long q5), .second, .val (.int p6), .val (.int ((p1 &&& (3 : Int32)) + (1 : Int32))), .val (.int (p6 &&& (3 : Int32))), .val (.ref b3), .val (.int ((p6 &&& (3 : Int32)) % ((p1 &&& (3 : Int32)) + (1 : Int32)))), .val (.long v120l14), .second, .unset] [(.long v120l14)]))
                refine Till.pre (fun _ hr => XS.lload X79.here hx rfl (hb hby at_137) rfl hr) ?_
                show Till p e below s (Q0 Z p1 q2 q3 q4 q5 p6 h0 n0) room_1.cells room_1.slots (T77.setTop (mkF m 139 #[.val (.int p1), .val (.long q2), .second, .val (.long q3), .second, .val (.long q4), .second, .val (.long q5), .second, .val (.int p6), .val (.int ((p1 &&& (3 : Int32)) + (1 : Int32))), .val (.int (p6 &&& (3 : Int32))), .val (.ref b3), .val (.int ((p6 &&& (3 : Int32)) % ((p1 &&& (3 : Int32)) + (1 : Int32)))), .val (.long v120l14), .second, .unset] [(.long q5), (.long v120l14)]))
                refine Till.callS (rm5 l Z a0 hw v120l14 q5 T52.heap n0) X79 hx hZ hown (hw _ (List.mem_of_getElem? (i := 32) rfl)) (hw _ (List.mem_of_getElem? (i := 29) rfl)) (hw _ (List.mem_of_getElem? (i := 30) rfl)) (hw _ (List.mem_of_getElem? (i := 31) rfl)) (by decide) (by decide) (W := 0) (by decide) (by rw [hml]; rfl) (argsL := [(.long v120l14), (.long q5)]) (rest := []) (lenOf pd0_3 rfl) rfl rfl (Nat.le_of_eq rfl) (hb hby at_139) e81 (by decide) (by decide) ?_
                rintro _ T85 L86 X87 ⟨rfl, N88, e89⟩
                have N88 := Fr.app N80 N88
                show Till p e below s (Q0 Z p1 q2 q3 q4 q5 p6 h0 n0) room_1.cells room_1.slots (T85.setTop (mkF m 142 #[.val (.int p1), .val (.long q2), .second, .val (.long q3), .second, .val (.long q4), .second, .val (.long q5), .second, .val (.int p6), .val (.int ((p1 &&& (3 : Int32)) + (1 : Int32))), .val (.int (p6 &&& (3 : Int32))), .val (.ref b3), .val (.int ((p6 &&& (3 : Int32)) % ((p1 &&& (3 : Int32)) + (1 : Int32)))), .val (.long v120l14), .second, .unset] [(.long (fn5 v120l14 q5))]))
                refine Till.pre (fun _ hr => XS.lstore X87.here hx rfl (hb hby at_142) rfl (l' := #[.val (.int p1), .val (.long q2), .second, .val (.long q3), .second, .val (.long q4), .second, .val (.long q5), .second, .val (.int p6), .val (.int ((p1 &&& (3 : Int32)) + (1 : Int32))), .val (.int (p6 &&& (3 : Int32))), .val (.ref b3), .val (.int ((p6 &&& (3 : Int32)) % ((p1 &&& (3 : Int32)) + (1 : Int32)))), .val (.long (fn5 v120l14 q5)), .second, .unset]) rfl hr) ?_
                show Till p e below s (Q0 Z p1 q2 q3 q4 q5 p6 h0 n0) room_1.cells room_1.slots (T85.setTop (mkF m 144 #[.val (.int p1), .val (.long q2), .second, .val (.long q3), .second, .val (.long q4), .second, .val (.long q5), .second, .val (.int p6), .val (.int ((p1 &&& (3 : Int32)) + (1 : Int32))), .val (.int (p6 &&& (3 : Int32))), .val (.ref b3), .val (.int ((p6 &&& (3 : Int32)) % ((p1 &&& (3 : Int32)) + (1 : Int32)))), .val (.long (fn5 v120l14 q5)), .second, .unset] []))
                exact J144_94 _ _ X87 N88 e89 _ (Eq.symm ((if_pos hc83).trans (if_pos hc84)))
          refine Till.icmp (pc' := 120) X66.here hx (hb hby at_99) (by decide) (by decide) (fun q => ?_) (fun q => ?_)
          · have hc70 := (hLt.2.2.1 q)
            show Till p e below s (Q0 Z p1 q2 q3 q4 q5 p6 h0 n0) room_1.cells room_1.slots (T64.setTop (mkF m 120 #[.val (.int p1), .val (.long q2), .second, .val (.long q3), .second, .val (.long q4), .second, .val (.long q5), .second, .val (.int p6), .val (.int ((p1 &&& (3 : Int32)) + (1 : Int32))), .val (.int (p6 &&& (3 : Int32))), .val (.ref b3), .val (.int ((p6 &&& (3 : Int32)) % ((p1 &&& (3 : Int32)) + (1 : Int32)))), .val (.long v96l14), .second, .unset] []))
            exact J120_81 _ _ X66 N67 e68 _ (Eq.symm (if_neg hc70))
          · have hc70 := (hLt.2.2.2.1 q)
            show Till p e below s (Q0 Z p1 q2 q3 q4 q5 p6 h0 n0) room_1.cells room_1.slots (T64.setTop (mkF m 102 #[.val (.int p1), .val (.long q2), .second, .val (.long q3), .second, .val (.long q4), .second, .val (.long q5), .second, .val (.int p6), .val (.int ((p1 &&& (3 : Int32)) + (1 : Int32))), .val (.int (p6 &&& (3 : Int32))), .val (.ref b3), .val (.int ((p6 &&& (3 : Int32)) % ((p1 &&& (3 : Int32)) + (1 : Int32)))), .val (.long v96l14), .second, .unset] []))
            refine Till.pre (fun _ hr => XS.iconst X66.here hx rfl (hb hby at_102) hr) ?_
            show Till p e below s (Q0 Z p1 q2 q3 q4 q5 p6 h0 n0) room_1.cells room_1.slots (T64.setTop (mkF m 103 #[.val (.int p1), .val (.long q2), .second, .val (.long q3), .second, .val (.long q4), .second, .val (.long q5), .second, .val (.int p6), .val (.int ((p1 &&& (3 : Int32)) + (1 : Int32))), .val (.int (p6 &&& (3 : Int32))), .val (.ref b3), .val (.int ((p6 &&& (3 : Int32)) % ((p1 &&& (3 : Int32)) + (1 : Int32)))), .val (.long v96l14), .second, .unset] [(.int (1 : Int32))]))
            refine Till.pre (fun _ hr => XS.iload X66.here hx rfl (hb hby at_103) rfl hr) ?_
            show Till p e below s (Q0 Z p1 q2 q3 q4 q5 p6 h0 n0) room_1.cells room_1.slots (T64.setTop (mkF m 105 #[.val (.int p1), .val (.long q2), .second, .val (.long q3), .second, .val (.long q4), .second, .val (.long q5), .second, .val (.int p6), .val (.int ((p1 &&& (3 : Int32)) + (1 : Int32))), .val (.int (p6 &&& (3 : Int32))), .val (.ref b3), .val (.int ((p6 &&& (3 : Int32)) % ((p1 &&& (3 : Int32)) + (1 : Int32)))), .val (.long v96l14), .second, .unset] [(.int ((p1 &&& (3 : Int32)) + (1 : Int32))), (.int (1 : Int32))]))
            refine Till.pre (fun _ hr => iremM X66 hx rfl (hb hby at_105) rfl (own_nz p1) hr) ?_
            show Till p e below s (Q0 Z p1 q2 q3 q4 q5 p6 h0 n0) room_1.cells room_1.slots (T64.setTop (mkF m 106 #[.val (.int p1), .val (.long q2), .second, .val (.long q3), .second, .val (.long q4), .second, .val (.long q5), .second, .val (.int p6), .val (.int ((p1 &&& (3 : Int32)) + (1 : Int32))), .val (.int (p6 &&& (3 : Int32))), .val (.ref b3), .val (.int ((p6 &&& (3 : Int32)) % ((p1 &&& (3 : Int32)) + (1 : Int32)))), .val (.long v96l14), .second, .unset] [(.int ((1 : Int32) % ((p1 &&& (3 : Int32)) + (1 : Int32))))]))
            refine Till.pre (fun _ hr => XS.iload X66.here hx rfl (hb hby at_106) rfl hr) ?_
            show Till p e below s (Q0 Z p1 q2 q3 q4 q5 p6 h0 n0) room_1.cells room_1.slots (T64.setTop (mkF m 108 #[.val (.int p1), .val (.long q2), .second, .val (.long q3), .second, .val (.long q4), .second, .val (.long q5), .second, .val (.int p6), .val (.int ((p1 &&& (3 : Int32)) + (1 : Int32))), .val (.int (p6 &&& (3 : Int32))), .val (.ref b3), .val (.int ((p6 &&& (3 : Int32)) % ((p1 &&& (3 : Int32)) + (1 : Int32)))), .val (.long v96l14), .second, .unset] [(.int ((p6 &&& (3 : Int32)) % ((p1 &&& (3 : Int32)) + (1 : Int32)))), (.int ((1 : Int32) % ((p1 &&& (3 : Int32)) + (1 : Int32))))]))
            refine Till.icmp (pc' := 120) X66.here hx (hb hby at_108) (by decide) (by decide) (fun q => ?_) (fun q => ?_)
            · have hc71 := (hEq.2.2.1 q)
              show Till p e below s (Q0 Z p1 q2 q3 q4 q5 p6 h0 n0) room_1.cells room_1.slots (T64.setTop (mkF m 120 #[.val (.int p1), .val (.long q2), .second, .val (.long q3), .second, .val (.long q4), .second, .val (.long q5), .second, .val (.int p6), .val (.int ((p1 &&& (3 : Int32)) + (1 : Int32))), .val (.int (p6 &&& (3 : Int32))), .val (.ref b3), .val (.int ((p6 &&& (3 : Int32)) % ((p1 &&& (3 : Int32)) + (1 : Int32)))), .val (.long v96l14), .second, .unset] []))
              exact J120_81 _ _ X66 N67 e68 _ (Eq.symm ((if_pos hc70).trans (if_neg hc71)))
            · have hc71 := (hEq.2.2.2 q)
              show Till p e below s (Q0 Z p1 q2 q3 q4 q5 p6 h0 n0) room_1.cells room_1.slots (T64.setTop (mkF m 111 #[.val (.int p1), .val (.long q2), .second, .val (.long q3), .second, .val (.long q4), .second, .val (.long q5), .second, .val (.int p6), .val (.int ((p1 &&& (3 : Int32)) + (1 : Int32))), .val (.int (p6 &&& (3 : Int32))), .val (.ref b3), .val (.int ((p6 &&& (3 : Int32)) % ((p1 &&& (3 : Int32)) + (1 : Int32)))), .val (.long v96l14), .second, .unset] []))
              refine Till.pre (fun _ hr => XS.lload X66.here hx rfl (hb hby at_111) rfl hr) ?_
              show Till p e below s (Q0 Z p1 q2 q3 q4 q5 p6 h0 n0) room_1.cells room_1.slots (T64.setTop (mkF m 113 #[.val (.int p1), .val (.long q2), .second, .val (.long q3), .second, .val (.long q4), .second, .val (.long q5), .second, .val (.int p6), .val (.int ((p1 &&& (3 : Int32)) + (1 : Int32))), .val (.int (p6 &&& (3 : Int32))), .val (.ref b3), .val (.int ((p6 &&& (3 : Int32)) % ((p1 &&& (3 : Int32)) + (1 : Int32)))), .val (.long v96l14), .second, .unset] [(.long v96l14)]))
              refine Till.pre (fun _ hr => XS.lload X66.here hx rfl (hb hby at_113) rfl hr) ?_
              show Till p e below s (Q0 Z p1 q2 q3 q4 q5 p6 h0 n0) room_1.cells room_1.slots (T64.setTop (mkF m 115 #[.val (.int p1), .val (.long q2), .second, .val (.long q3), .second, .val (.long q4), .second, .val (.long q5), .second, .val (.int p6), .val (.int ((p1 &&& (3 : Int32)) + (1 : Int32))), .val (.int (p6 &&& (3 : Int32))), .val (.ref b3), .val (.int ((p6 &&& (3 : Int32)) % ((p1 &&& (3 : Int32)) + (1 : Int32)))), .val (.long v96l14), .second, .unset] [(.long q4), (.long v96l14)]))
              refine Till.callS (rm5 l Z a0 hw v96l14 q4 T52.heap n0) X66 hx hZ hown (hw _ (List.mem_of_getElem? (i := 32) rfl)) (hw _ (List.mem_of_getElem? (i := 29) rfl)) (hw _ (List.mem_of_getElem? (i := 30) rfl)) (hw _ (List.mem_of_getElem? (i := 31) rfl)) (by decide) (by decide) (W := 0) (by decide) (by rw [hml]; rfl) (argsL := [(.long v96l14), (.long q4)]) (rest := []) (lenOf pd0_3 rfl) rfl rfl (Nat.le_of_eq rfl) (hb hby at_115) e68 (by decide) (by decide) ?_
              rintro _ T72 L73 X74 ⟨rfl, N75, e76⟩
              have N75 := Fr.app N67 N75
              show Till p e below s (Q0 Z p1 q2 q3 q4 q5 p6 h0 n0) room_1.cells room_1.slots (T72.setTop (mkF m 118 #[.val (.int p1), .val (.long q2), .second, .val (.long q3), .second, .val (.long q4), .second, .val (.long q5), .second, .val (.int p6), .val (.int ((p1 &&& (3 : Int32)) + (1 : Int32))), .val (.int (p6 &&& (3 : Int32))), .val (.ref b3), .val (.int ((p6 &&& (3 : Int32)) % ((p1 &&& (3 : Int32)) + (1 : Int32)))), .val (.long v96l14), .second, .unset] [(.long (fn5 v96l14 q4))]))
              refine Till.pre (fun _ hr => XS.lstore X74.here hx rfl (hb hby at_118) rfl (l' := #[.val (.int p1), .val (.long q2), .second, .val (.long q3), .second, .val (.long q4), .second, .val (.long q5), .second, .val (.int p6), .val (.int ((p1 &&& (3 : Int32)) + (1 : Int32))), .val (.int (p6 &&& (3 : Int32))), .val (.ref b3), .val (.int ((p6 &&& (3 : Int32)) % ((p1 &&& (3 : Int32)) + (1 : Int32)))), .val (.long (fn5 v96l14 q4)), .second, .unset]) rfl hr) ?_
              show Till p e below s (Q0 Z p1 q2 q3 q4 q5 p6 h0 n0) room_1.cells room_1.slots (T72.setTop (mkF m 120 #[.val (.int p1), .val (.long q2), .second, .val (.long q3), .second, .val (.long q4), .second, .val (.long q5), .second, .val (.int p6), .val (.int ((p1 &&& (3 : Int32)) + (1 : Int32))), .val (.int (p6 &&& (3 : Int32))), .val (.ref b3), .val (.int ((p6 &&& (3 : Int32)) % ((p1 &&& (3 : Int32)) + (1 : Int32)))), .val (.long (fn5 v96l14 q4)), .second, .unset] []))
              exact J120_81 _ _ X74 N75 e76 _ (Eq.symm ((if_pos hc70).trans (if_pos hc71)))
        refine Till.icmp (pc' := 96) X54.here hx (hb hby at_76) (by decide) (by decide) (fun q => ?_) (fun q => ?_)
        · have hc57 := (hLt.2.2.1 q)
          show Till p e below s (Q0 Z p1 q2 q3 q4 q5 p6 h0 n0) room_1.cells room_1.slots (T52.setTop (mkF m 96 #[.val (.int p1), .val (.long q2), .second, .val (.long q3), .second, .val (.long q4), .second, .val (.long q5), .second, .val (.int p6), .val (.int ((p1 &&& (3 : Int32)) + (1 : Int32))), .val (.int (p6 &&& (3 : Int32))), .val (.ref b3), .val (.int ((p6 &&& (3 : Int32)) % ((p1 &&& (3 : Int32)) + (1 : Int32)))), .val (.long q2), .second, .unset] []))
          exact J96_68 _ _ X54 N55 rfl _ (Eq.symm (if_neg hc57))
        · have hc57 := (hLt.2.2.2.1 q)
          show Till p e below s (Q0 Z p1 q2 q3 q4 q5 p6 h0 n0) room_1.cells room_1.slots (T52.setTop (mkF m 79 #[.val (.int p1), .val (.long q2), .second, .val (.long q3), .second, .val (.long q4), .second, .val (.long q5), .second, .val (.int p6), .val (.int ((p1 &&& (3 : Int32)) + (1 : Int32))), .val (.int (p6 &&& (3 : Int32))), .val (.ref b3), .val (.int ((p6 &&& (3 : Int32)) % ((p1 &&& (3 : Int32)) + (1 : Int32)))), .val (.long q2), .second, .unset] []))
          refine Till.pre (fun _ hr => XS.iconst X54.here hx rfl (hb hby at_79) hr) ?_
          show Till p e below s (Q0 Z p1 q2 q3 q4 q5 p6 h0 n0) room_1.cells room_1.slots (T52.setTop (mkF m 80 #[.val (.int p1), .val (.long q2), .second, .val (.long q3), .second, .val (.long q4), .second, .val (.long q5), .second, .val (.int p6), .val (.int ((p1 &&& (3 : Int32)) + (1 : Int32))), .val (.int (p6 &&& (3 : Int32))), .val (.ref b3), .val (.int ((p6 &&& (3 : Int32)) % ((p1 &&& (3 : Int32)) + (1 : Int32)))), .val (.long q2), .second, .unset] [(.int (0 : Int32))]))
          refine Till.pre (fun _ hr => XS.iload X54.here hx rfl (hb hby at_80) rfl hr) ?_
          show Till p e below s (Q0 Z p1 q2 q3 q4 q5 p6 h0 n0) room_1.cells room_1.slots (T52.setTop (mkF m 82 #[.val (.int p1), .val (.long q2), .second, .val (.long q3), .second, .val (.long q4), .second, .val (.long q5), .second, .val (.int p6), .val (.int ((p1 &&& (3 : Int32)) + (1 : Int32))), .val (.int (p6 &&& (3 : Int32))), .val (.ref b3), .val (.int ((p6 &&& (3 : Int32)) % ((p1 &&& (3 : Int32)) + (1 : Int32)))), .val (.long q2), .second, .unset] [(.int ((p1 &&& (3 : Int32)) + (1 : Int32))), (.int (0 : Int32))]))
          refine Till.pre (fun _ hr => iremM X54 hx rfl (hb hby at_82) rfl (own_nz p1) hr) ?_
          show Till p e below s (Q0 Z p1 q2 q3 q4 q5 p6 h0 n0) room_1.cells room_1.slots (T52.setTop (mkF m 83 #[.val (.int p1), .val (.long q2), .second, .val (.long q3), .second, .val (.long q4), .second, .val (.long q5), .second, .val (.int p6), .val (.int ((p1 &&& (3 : Int32)) + (1 : Int32))), .val (.int (p6 &&& (3 : Int32))), .val (.ref b3), .val (.int ((p6 &&& (3 : Int32)) % ((p1 &&& (3 : Int32)) + (1 : Int32)))), .val (.long q2), .second, .unset] [(.int ((0 : Int32) % ((p1 &&& (3 : Int32)) + (1 : Int32))))]))
          refine Till.pre (fun _ hr => XS.iload X54.here hx rfl (hb hby at_83) rfl hr) ?_
          show Till p e below s (Q0 Z p1 q2 q3 q4 q5 p6 h0 n0) room_1.cells room_1.slots (T52.setTop (mkF m 85 #[.val (.int p1), .val (.long q2), .second, .val (.long q3), .second, .val (.long q4), .second, .val (.long q5), .second, .val (.int p6), .val (.int ((p1 &&& (3 : Int32)) + (1 : Int32))), .val (.int (p6 &&& (3 : Int32))), .val (.ref b3), .val (.int ((p6 &&& (3 : Int32)) % ((p1 &&& (3 : Int32)) + (1 : Int32)))), .val (.long q2), .second, .unset] [(.int ((p6 &&& (3 : Int32)) % ((p1 &&& (3 : Int32)) + (1 : Int32)))), (.int ((0 : Int32) % ((p1 &&& (3 : Int32)) + (1 : Int32))))]))
          refine Till.icmp (pc' := 96) X54.here hx (hb hby at_85) (by decide) (by decide) (fun q => ?_) (fun q => ?_)
          · have hc58 := (hEq.2.2.1 q)
            show Till p e below s (Q0 Z p1 q2 q3 q4 q5 p6 h0 n0) room_1.cells room_1.slots (T52.setTop (mkF m 96 #[.val (.int p1), .val (.long q2), .second, .val (.long q3), .second, .val (.long q4), .second, .val (.long q5), .second, .val (.int p6), .val (.int ((p1 &&& (3 : Int32)) + (1 : Int32))), .val (.int (p6 &&& (3 : Int32))), .val (.ref b3), .val (.int ((p6 &&& (3 : Int32)) % ((p1 &&& (3 : Int32)) + (1 : Int32)))), .val (.long q2), .second, .unset] []))
            exact J96_68 _ _ X54 N55 rfl _ (Eq.symm ((if_pos hc57).trans (if_neg hc58)))
          · have hc58 := (hEq.2.2.2 q)
            show Till p e below s (Q0 Z p1 q2 q3 q4 q5 p6 h0 n0) room_1.cells room_1.slots (T52.setTop (mkF m 88 #[.val (.int p1), .val (.long q2), .second, .val (.long q3), .second, .val (.long q4), .second, .val (.long q5), .second, .val (.int p6), .val (.int ((p1 &&& (3 : Int32)) + (1 : Int32))), .val (.int (p6 &&& (3 : Int32))), .val (.ref b3), .val (.int ((p6 &&& (3 : Int32)) % ((p1 &&& (3 : Int32)) + (1 : Int32)))), .val (.long q2), .second, .unset] []))
            refine Till.pre (fun _ hr => XS.lload X54.here hx rfl (hb hby at_88) rfl hr) ?_
            show Till p e below s (Q0 Z p1 q2 q3 q4 q5 p6 h0 n0) room_1.cells room_1.slots (T52.setTop (mkF m 90 #[.val (.int p1), .val (.long q2), .second, .val (.long q3), .second, .val (.long q4), .second, .val (.long q5), .second, .val (.int p6), .val (.int ((p1 &&& (3 : Int32)) + (1 : Int32))), .val (.int (p6 &&& (3 : Int32))), .val (.ref b3), .val (.int ((p6 &&& (3 : Int32)) % ((p1 &&& (3 : Int32)) + (1 : Int32)))), .val (.long q2), .second, .unset] [(.long q2)]))
            refine Till.pre (fun _ hr => XS.lloadN X54.here hx rfl (hb hby at_90) rfl hr) ?_
            show Till p e below s (Q0 Z p1 q2 q3 q4 q5 p6 h0 n0) room_1.cells room_1.slots (T52.setTop (mkF m 91 #[.val (.int p1), .val (.long q2), .second, .val (.long q3), .second, .val (.long q4), .second, .val (.long q5), .second, .val (.int p6), .val (.int ((p1 &&& (3 : Int32)) + (1 : Int32))), .val (.int (p6 &&& (3 : Int32))), .val (.ref b3), .val (.int ((p6 &&& (3 : Int32)) % ((p1 &&& (3 : Int32)) + (1 : Int32)))), .val (.long q2), .second, .unset] [(.long q3), (.long q2)]))
            refine Till.callS (rm5 l Z a0 hw q2 q3 T52.heap n0) X54 hx hZ hown (hw _ (List.mem_of_getElem? (i := 32) rfl)) (hw _ (List.mem_of_getElem? (i := 29) rfl)) (hw _ (List.mem_of_getElem? (i := 30) rfl)) (hw _ (List.mem_of_getElem? (i := 31) rfl)) (by decide) (by decide) (W := 0) (by decide) (by rw [hml]; rfl) (argsL := [(.long q2), (.long q3)]) (rest := []) (lenOf pd0_3 rfl) rfl rfl (Nat.le_of_eq rfl) (hb hby at_91) rfl (by decide) (by decide) ?_
            rintro _ T59 L60 X61 ⟨rfl, N62, e63⟩
            have N62 := Fr.app N55 N62
            show Till p e below s (Q0 Z p1 q2 q3 q4 q5 p6 h0 n0) room_1.cells room_1.slots (T59.setTop (mkF m 94 #[.val (.int p1), .val (.long q2), .second, .val (.long q3), .second, .val (.long q4), .second, .val (.long q5), .second, .val (.int p6), .val (.int ((p1 &&& (3 : Int32)) + (1 : Int32))), .val (.int (p6 &&& (3 : Int32))), .val (.ref b3), .val (.int ((p6 &&& (3 : Int32)) % ((p1 &&& (3 : Int32)) + (1 : Int32)))), .val (.long q2), .second, .unset] [(.long (fn5 q2 q3))]))
            refine Till.pre (fun _ hr => XS.lstore X61.here hx rfl (hb hby at_94) rfl (l' := #[.val (.int p1), .val (.long q2), .second, .val (.long q3), .second, .val (.long q4), .second, .val (.long q5), .second, .val (.int p6), .val (.int ((p1 &&& (3 : Int32)) + (1 : Int32))), .val (.int (p6 &&& (3 : Int32))), .val (.ref b3), .val (.int ((p6 &&& (3 : Int32)) % ((p1 &&& (3 : Int32)) + (1 : Int32)))), .val (.long (fn5 q2 q3)), .second, .unset]) rfl hr) ?_
            show Till p e below s (Q0 Z p1 q2 q3 q4 q5 p6 h0 n0) room_1.cells room_1.slots (T59.setTop (mkF m 96 #[.val (.int p1), .val (.long q2), .second, .val (.long q3), .second, .val (.long q4), .second, .val (.long q5), .second, .val (.int p6), .val (.int ((p1 &&& (3 : Int32)) + (1 : Int32))), .val (.int (p6 &&& (3 : Int32))), .val (.ref b3), .val (.int ((p6 &&& (3 : Int32)) % ((p1 &&& (3 : Int32)) + (1 : Int32)))), .val (.long (fn5 q2 q3)), .second, .unset] []))
            exact J96_68 _ _ X61 N62 e63 _ (Eq.symm ((if_pos hc57).trans (if_pos hc58)))
      refine Till.icmp (pc' := 63) X41.here hx (hb hby at_53) (by decide) (by decide) (fun q => ?_) (fun q => ?_)
      · have hc44 := (hLt.1 q)
        show Till p e below s (Q0 Z p1 q2 q3 q4 q5 p6 h0 n0) room_1.cells room_1.slots (T39.setTop (mkF m 63 #[.val (.int p1), .val (.long q2), .second, .val (.long q3), .second, .val (.long q4), .second, .val (.long q5), .second, .val (.int p6), .val (.int ((p1 &&& (3 : Int32)) + (1 : Int32))), .val (.int (p6 &&& (3 : Int32))), .val (.ref b3), .unset, .unset, .unset, .unset] []))
        exact J63_55 _ _ X41 N42 Zs _ (Eq.symm (if_pos hc44)) _ (Eq.symm (if_pos hc44)) R_b3 R_b17
      · have hc44 := (hLt.2.1 q)
        show Till p e below s (Q0 Z p1 q2 q3 q4 q5 p6 h0 n0) room_1.cells room_1.slots (T39.setTop (mkF m 56 #[.val (.int p1), .val (.long q2), .second, .val (.long q3), .second, .val (.long q4), .second, .val (.long q5), .second, .val (.int p6), .val (.int ((p1 &&& (3 : Int32)) + (1 : Int32))), .val (.int (p6 &&& (3 : Int32))), .val (.ref b3), .unset, .unset, .unset, .unset] []))
        refine Till.pre (fun _ hr => XS.aload X41.here hx rfl (hb hby at_56) rfl rfl hr) ?_
        show Till p e below s (Q0 Z p1 q2 q3 q4 q5 p6 h0 n0) room_1.cells room_1.slots (T39.setTop (mkF m 58 #[.val (.int p1), .val (.long q2), .second, .val (.long q3), .second, .val (.long q4), .second, .val (.long q5), .second, .val (.int p6), .val (.int ((p1 &&& (3 : Int32)) + (1 : Int32))), .val (.int (p6 &&& (3 : Int32))), .val (.ref b3), .unset, .unset, .unset, .unset] [(.ref b3)]))
        refine Till.pre (fun _ hr => XS.lload X41.here hx rfl (hb hby at_58) rfl hr) ?_
        show Till p e below s (Q0 Z p1 q2 q3 q4 q5 p6 h0 n0) room_1.cells room_1.slots (T39.setTop (mkF m 60 #[.val (.int p1), .val (.long q2), .second, .val (.long q3), .second, .val (.long q4), .second, .val (.long q5), .second, .val (.int p6), .val (.int ((p1 &&& (3 : Int32)) + (1 : Int32))), .val (.int (p6 &&& (3 : Int32))), .val (.ref b3), .unset, .unset, .unset, .unset] [(.long q5), (.ref b3)]))
        refine Till.callV (rm4 l Z a0 hw b3 q5 b17 v50f0_1 ((p1 &&& (3 : Int32)) + (1 : Int32)) v50f1_1 T39.heap n0 Zs R_b3 R_b17 g_b3 g_b17 ne_b3_b17 ((own_ki hv50f0_1 (own_ki hv37f0_1 (own_k0 p1) (own_k10 (own_k0 p1))) (own_k1 (own_ki hv37f0_1 (own_k0 p1) (own_k10 (own_k0 p1))))).1) ((own_ki hv50f0_1 (own_ki hv37f0_1 (own_k0 p1) (own_k10 (own_k0 p1))) (own_k1 (own_ki hv37f0_1 (own_k0 p1) (own_k10 (own_k0 p1))))).2)) R_b3.1 X41 hx hZ hown (hw _ (List.mem_of_getElem? (i := 23) rfl)) (hw _ (List.mem_of_getElem? (i := 24) rfl)) (hw _ (List.mem_of_getElem? (i := 26) rfl)) (hw _ (List.mem_of_getElem? (i := 25) rfl)) (hw _ (List.mem_of_getElem? (i := 2) rfl)) (hw _ (List.mem_of_getElem? (i := 27) rfl)) (by decide) (by decide) (W := 0) (by decide) (by rw [hml]; rfl) (a := b3) (argsL := [(.long q5)]) (rest := []) (lenOf pd0_2 rfl) rfl rfl (Nat.le_of_eq rfl) (hb hby at_60) rfl (by decide) (by decide) ?_
        rintro _ T45 L46 X47 ⟨rfl, N48, K49, q50, q51⟩
        have N48 := Fr.app N42 N48
        have Zs := Nat.le_trans Zs K49.1
        have R_b3 : Late Z T45.heap b3 (.ref b17) (if ((v50f0_1 + (1 : Int32)) = ((p1 &&& (3 : Int32)) + (1 : Int32))) then (0 : Int32) else (v50f0_1 + (1 : Int32))) := q50
        have R_b17 : LA Z T45.heap b17 ((p1 &&& (3 : Int32)) + (1 : Int32)) (oupd v50f1_1 (v50f0_1).toNatClampNeg (fn5 (v50f1_1 (v50f0_1).toNatClampNeg) q5)) := q51
        show Till p e below s (Q0 Z p1 q2 q3 q4 q5 p6 h0 n0) room_1.cells room_1.slots (T45.setTop (mkF m 63 #[.val (.int p1), .val (.long q2), .second, .val (.long q3), .second, .val (.long q4), .second, .val (.long q5), .second, .val (.int p6), .val (.int ((p1 &&& (3 : Int32)) + (1 : Int32))), .val (.int (p6 &&& (3 : Int32))), .val (.ref b3), .unset, .unset, .unset, .unset] []))
        exact J63_55 _ _ X47 N48 Zs _ (Eq.symm (if_neg hc44)) _ (Eq.symm (if_neg hc44)) R_b3 R_b17
    refine Till.icmp (pc' := 50) X28.here hx (hb hby at_40) (by decide) (by decide) (fun q => ?_) (fun q => ?_)
    · have hc31 := (hLt.1 q)
      show Till p e below s (Q0 Z p1 q2 q3 q4 q5 p6 h0 n0) room_1.cells room_1.slots (T26.setTop (mkF m 50 #[.val (.int p1), .val (.long q2), .second, .val (.long q3), .second, .val (.long q4), .second, .val (.long q5), .second, .val (.int p6), .val (.int ((p1 &&& (3 : Int32)) + (1 : Int32))), .val (.int (p6 &&& (3 : Int32))), .val (.ref b3), .unset, .unset, .unset, .unset] []))
      exact J50_42 _ _ X28 N29 Zs _ (Eq.symm (if_pos hc31)) _ (Eq.symm (if_pos hc31)) R_b3 R_b17
    · have hc31 := (hLt.2.1 q)
      show Till p e below s (Q0 Z p1 q2 q3 q4 q5 p6 h0 n0) room_1.cells room_1.slots (T26.setTop (mkF m 43 #[.val (.int p1), .val (.long q2), .second, .val (.long q3), .second, .val (.long q4), .second, .val (.long q5), .second, .val (.int p6), .val (.int ((p1 &&& (3 : Int32)) + (1 : Int32))), .val (.int (p6 &&& (3 : Int32))), .val (.ref b3), .unset, .unset, .unset, .unset] []))
      refine Till.pre (fun _ hr => XS.aload X28.here hx rfl (hb hby at_43) rfl rfl hr) ?_
      show Till p e below s (Q0 Z p1 q2 q3 q4 q5 p6 h0 n0) room_1.cells room_1.slots (T26.setTop (mkF m 45 #[.val (.int p1), .val (.long q2), .second, .val (.long q3), .second, .val (.long q4), .second, .val (.long q5), .second, .val (.int p6), .val (.int ((p1 &&& (3 : Int32)) + (1 : Int32))), .val (.int (p6 &&& (3 : Int32))), .val (.ref b3), .unset, .unset, .unset, .unset] [(.ref b3)]))
      refine Till.pre (fun _ hr => XS.lload X28.here hx rfl (hb hby at_45) rfl hr) ?_
      show Till p e below s (Q0 Z p1 q2 q3 q4 q5 p6 h0 n0) room_1.cells room_1.slots (T26.setTop (mkF m 47 #[.val (.int p1), .val (.long q2), .second, .val (.long q3), .second, .val (.long q4), .second, .val (.long q5), .second, .val (.int p6), .val (.int ((p1 &&& (3 : Int32)) + (1 : Int32))), .val (.int (p6 &&& (3 : Int32))), .val (.ref b3), .unset, .unset, .unset, .unset] [(.long q4), (.ref b3)]))
      refine Till.callV (rm4 l Z a0 hw b3 q4 b17 v37f0_1 ((p1 &&& (3 : Int32)) + (1 : Int32)) v37f1_1 T26.heap n0 Zs R_b3 R_b17 g_b3 g_b17 ne_b3_b17 ((own_ki hv37f0_1 (own_k0 p1) (own_k10 (own_k0 p1))).1) ((own_ki hv37f0_1 (own_k0 p1) (own_k10 (own_k0 p1))).2)) R_b3.1 X28 hx hZ hown (hw _ (List.mem_of_getElem? (i := 23) rfl)) (hw _ (List.mem_of_getElem? (i := 24) rfl)) (hw _ (List.mem_of_getElem? (i := 26) rfl)) (hw _ (List.mem_of_getElem? (i := 25) rfl)) (hw _ (List.mem_of_getElem? (i := 2) rfl)) (hw _ (List.mem_of_getElem? (i := 27) rfl)) (by decide) (by decide) (W := 0) (by decide) (by rw [hml]; rfl) (a := b3) (argsL := [(.long q4)]) (rest := []) (lenOf pd0_2 rfl) rfl rfl (Nat.le_of_eq rfl) (hb hby at_47) rfl (by decide) (by decide) ?_
      rintro _ T32 L33 X34 ⟨rfl, N35, K36, q37, q38⟩
      have N35 := Fr.app N29 N35
      have Zs := Nat.le_trans Zs K36.1
      have R_b3 : Late Z T32.heap b3 (.ref b17) (if ((v37f0_1 + (1 : Int32)) = ((p1 &&& (3 : Int32)) + (1 : Int32))) then (0 : Int32) else (v37f0_1 + (1 : Int32))) := q37
      have R_b17 : LA Z T32.heap b17 ((p1 &&& (3 : Int32)) + (1 : Int32)) (oupd v37f1_1 (v37f0_1).toNatClampNeg (fn5 (v37f1_1 (v37f0_1).toNatClampNeg) q4)) := q38
      show Till p e below s (Q0 Z p1 q2 q3 q4 q5 p6 h0 n0) room_1.cells room_1.slots (T32.setTop (mkF m 50 #[.val (.int p1), .val (.long q2), .second, .val (.long q3), .second, .val (.long q4), .second, .val (.long q5), .second, .val (.int p6), .val (.int ((p1 &&& (3 : Int32)) + (1 : Int32))), .val (.int (p6 &&& (3 : Int32))), .val (.ref b3), .unset, .unset, .unset, .unset] []))
      exact J50_42 _ _ X34 N35 Zs _ (Eq.symm (if_neg hc31)) _ (Eq.symm (if_neg hc31)) R_b3 R_b17
  refine Till.icmp (pc' := 37) X12.here hx (hb hby at_28) (by decide) (by decide) (fun q => ?_) (fun q => ?_)
  · have hc18 := (hLt.1 q)
    show Till p e below s (Q0 Z p1 q2 q3 q4 q5 p6 h0 n0) room_1.cells room_1.slots (T10.setTop (mkF m 37 #[.val (.int p1), .val (.long q2), .second, .val (.long q3), .second, .val (.long q4), .second, .val (.long q5), .second, .val (.int p6), .val (.int ((p1 &&& (3 : Int32)) + (1 : Int32))), .val (.int (p6 &&& (3 : Int32))), .val (.ref b3), .unset, .unset, .unset, .unset] []))
    exact J37_29 _ _ X12 N13 Zs _ (Eq.symm (if_pos hc18)) _ (Eq.symm (if_pos hc18)) R_b3 R_b17
  · have hc18 := (hLt.2.1 q)
    show Till p e below s (Q0 Z p1 q2 q3 q4 q5 p6 h0 n0) room_1.cells room_1.slots (T10.setTop (mkF m 31 #[.val (.int p1), .val (.long q2), .second, .val (.long q3), .second, .val (.long q4), .second, .val (.long q5), .second, .val (.int p6), .val (.int ((p1 &&& (3 : Int32)) + (1 : Int32))), .val (.int (p6 &&& (3 : Int32))), .val (.ref b3), .unset, .unset, .unset, .unset] []))
    refine Till.pre (fun _ hr => XS.aload X12.here hx rfl (hb hby at_31) rfl rfl hr) ?_
    show Till p e below s (Q0 Z p1 q2 q3 q4 q5 p6 h0 n0) room_1.cells room_1.slots (T10.setTop (mkF m 33 #[.val (.int p1), .val (.long q2), .second, .val (.long q3), .second, .val (.long q4), .second, .val (.long q5), .second, .val (.int p6), .val (.int ((p1 &&& (3 : Int32)) + (1 : Int32))), .val (.int (p6 &&& (3 : Int32))), .val (.ref b3), .unset, .unset, .unset, .unset] [(.ref b3)]))
    refine Till.pre (fun _ hr => XS.lloadN X12.here hx rfl (hb hby at_33) rfl hr) ?_
    show Till p e below s (Q0 Z p1 q2 q3 q4 q5 p6 h0 n0) room_1.cells room_1.slots (T10.setTop (mkF m 34 #[.val (.int p1), .val (.long q2), .second, .val (.long q3), .second, .val (.long q4), .second, .val (.long q5), .second, .val (.int p6), .val (.int ((p1 &&& (3 : Int32)) + (1 : Int32))), .val (.int (p6 &&& (3 : Int32))), .val (.ref b3), .unset, .unset, .unset, .unset] [(.long q3), (.ref b3)]))
    refine Till.callV (rm4 l Z a0 hw b3 q3 b17 (0 : Int32) ((p1 &&& (3 : Int32)) + (1 : Int32)) (fun _ => q2) T10.heap n0 Zs R_b3 R_b17 g_b3 g_b17 ne_b3_b17 ((own_k0 p1).1) ((own_k0 p1).2)) R_b3.1 X12 hx hZ hown (hw _ (List.mem_of_getElem? (i := 23) rfl)) (hw _ (List.mem_of_getElem? (i := 24) rfl)) (hw _ (List.mem_of_getElem? (i := 26) rfl)) (hw _ (List.mem_of_getElem? (i := 25) rfl)) (hw _ (List.mem_of_getElem? (i := 2) rfl)) (hw _ (List.mem_of_getElem? (i := 27) rfl)) (by decide) (by decide) (W := 0) (by decide) (by rw [hml]; rfl) (a := b3) (argsL := [(.long q3)]) (rest := []) (lenOf pd0_2 rfl) rfl rfl (Nat.le_of_eq rfl) (hb hby at_34) rfl (by decide) (by decide) ?_
    rintro _ T19 L20 X21 ⟨rfl, N22, K23, q24, q25⟩
    have N22 := Fr.app N13 N22
    have Zs := Nat.le_trans Zs K23.1
    have R_b3 : Late Z T19.heap b3 (.ref b17) (if ((1 : Int32) = ((p1 &&& (3 : Int32)) + (1 : Int32))) then (0 : Int32) else (1 : Int32)) := q24
    have R_b17 : LA Z T19.heap b17 ((p1 &&& (3 : Int32)) + (1 : Int32)) (oupd (fun _ => q2) ((0 : Int32)).toNatClampNeg (fn5 ((fun _ => q2) ((0 : Int32)).toNatClampNeg) q3)) := q25
    show Till p e below s (Q0 Z p1 q2 q3 q4 q5 p6 h0 n0) room_1.cells room_1.slots (T19.setTop (mkF m 37 #[.val (.int p1), .val (.long q2), .second, .val (.long q3), .second, .val (.long q4), .second, .val (.long q5), .second, .val (.int p6), .val (.int ((p1 &&& (3 : Int32)) + (1 : Int32))), .val (.int (p6 &&& (3 : Int32))), .val (.ref b3), .unset, .unset, .unset, .unset] []))
    exact J37_29 _ _ X21 N22 Zs _ (Eq.symm (if_neg hc18)) _ (Eq.symm (if_neg hc18)) R_b3 R_b17
set_option maxRecDepth 65536 in
set_option maxHeartbeats 40000000 in
theorem comes_1 {Post : Tables → Env → Array Value → State → Outcome → State → Prop} (hpost : ∀ tb e args s v u, (limb_1_1.after args s (.returned v) u = true ∧ limb_1_2.after args s (.returned v) u = true ∧ True) → FrameEnd s (.returned v) u (Jvm.fieldLocs frame_1_writes args s ++ Jvm.arrayLocs frame_1_arrays args s ++ Jvm.staticLocs frame_1_statics s) 16 128 → Post tb e args s (.returned v) u) :
    ArmFor flags0 classFile x code maxLocals ret World_1 tables_1 room_1 Calls_1 rest_1 Pre_1 Post := by
  intro l hfl _ _ p e ha hc hk s m args below hf hA hF happ hP
  obtain ⟨hcalls, hrest, hpre⟩ := hP
  obtain ⟨-, -, -, hnamed, -, -, -, hat⟩ := (Spec.applies_iff hf).mp happ
  obtain ⟨hg, hn⟩ := and_e (Cond.before_iff.mp (show (Jvm.Cond.and given_1 narrow_1).before args s = true from hpre))
  obtain ⟨h1, hg⟩ := and_e hg
  obtain ⟨k0, hg⟩ := and_e hg
  obtain ⟨k1, hg⟩ := and_e hg
  obtain ⟨k2, hg⟩ := and_e hg
  obtain ⟨k3, hg⟩ := and_e hg
  obtain ⟨k4, hg⟩ := and_e hg
  have k5 := hg
  obtain ⟨w0, w1, w2, w3, w4, w5, rfl⟩ : ∃ w0 w1 w2 w3 w4 w5 : Value, args = #[w0, w1, w2, w3, w4, w5] := by
    have hs : args.size = 6 := by simpa [Cond.value, given_1] using h1
    obtain ⟨L⟩ := args
    match L, hs with
    | [w0, w1, w2, w3, w4, w5], _ => exact ⟨w0, w1, w2, w3, w4, w5, rfl⟩
  have hw := fun d (hd : d ∈ tables_1) => atoms_spec (ws := Jvm.Cond.code x code maxLocals ret :: tables_1) hat d (List.mem_cons_of_mem _ hd)
  obtain ⟨i0, ei0⟩ := is_v k0
  obtain rfl : w0 = (.int i0) := Option.some.inj ei0
  obtain ⟨i1, ei1⟩ := isL_v k1
  obtain rfl : w1 = (.long i1) := Option.some.inj ei1
  obtain ⟨i2, ei2⟩ := isL_v k2
  obtain rfl : w2 = (.long i2) := Option.some.inj ei2
  obtain ⟨i3, ei3⟩ := isL_v k3
  obtain rfl : w3 = (.long i3) := Option.some.inj ei3
  obtain ⟨i4, ei4⟩ := isL_v k4
  obtain rfl : w4 = (.long i4) := Option.some.inj ei4
  obtain ⟨i5, ei5⟩ := is_v k5
  obtain rfl : w5 = (.int i5) := Option.some.inj ei5
  obtain ⟨n, o, h1, h2, h3, _, L, rfl, ⟨rfl, N⟩, hq⟩ := rm0 l s _ hw i0 i1 i2 i3 i4 i5 s.heap s.heap.size (Nat.le_refl _) tables_1 p e ha hc hk s m _ below hf ((Spec.applies_iff_loose hf).mp happ).1 ⟨rfl, State.Warmed39.refl s, rfl⟩ trivial
  refine ⟨n, _, h1, h2, h3, hpost _ _ _ _ _ _ ⟨Cond.after_iff.mpr rfl, Cond.after_iff.mpr (eq_i res_at (Term.int_eval (1)) rfl), trivial⟩ ⟨hq.1, hq.2.1, (hq.2.2.sift fun y hy => Or.inr (N y hy)).mono (by decide) (by decide)⟩⟩
theorem main_1_1 : Claimed_1_1 := comes_1 fun _ _ _ _ _ _ h hF => ⟨h.1, hF⟩
theorem main_1_2 : Claimed_1_2 := comes_1 fun _ _ _ _ _ _ h hF => ⟨h.2.1, hF⟩
end Jvm.Pilot.@@N@@
namespace Jvm.Pilot.@@N@@
open Jvm Jvm.ClassFile Sem Op Lib Jvm.Free Jvm.Stand Jvm.Pilot.@@N@@.Jvm.D
/-! MADE BY PROGRAM (witnessworld.py) out of the Statement's table words and the real class files: 14 classes; the members and pool entries that the words name. The judged class is class 1, her method 1. -/
namespace start1
open Jvm.ClassFile
def u (s : String) : CpInfo := .utf8 (stringToUtf16 s)
/-- a pool by its gaps: so many unusable entries, then the entry; so many at the end -/
def gap : Nat → List CpInfo → List CpInfo
  | 0, r => r
  | n + 1, r => .unusable :: gap n r
def poolList (es : List (Nat × CpInfo)) (last : Nat) : List CpInfo := es.foldr (fun e r => gap e.1 (e.2 :: r)) (gap last [])
def pool (es : List (Nat × CpInfo)) (last : Nat) : Array CpInfo := ⟨poolList es last⟩
def fileOf (pool : Array CpInfo) (this : Nat) (attrs : Array Attribute := #[]) (ms : Array MethodInfo := #[]) (fl : Nat := 33) (sup : Nat := 0) (ifs : Array Nat := #[]) (fds : Array FieldInfo := #[]) : ClassFile where
  minorVersion := 0
  majorVersion := 65
  constantPool := pool
  accessFlags := fl
  thisClass := this
  superClass := sup
  interfaces := ifs
  fields := fds
  methods := ms
  attributes := attrs
def plain (name : String) (sup : Option ClassId) : Class where
  name := name
  kind := .ordinary
  loader := none
  accessFlags := 33
  super := sup
  interfaces := #[]
  cf := none
  fields := #[]
  methods := #[]
  instanceTypes := #[]
  staticTypes := #[]
  resolved := #[]
  callSites := []
  init := .initialized
  statics := none
  mirror := none

def pool0 : Array CpInfo := pool [(5, u "<init>"), (0, u "()V"), (1, .class_ 10), (1, u "java/lang/Object")] 113

def k0c0 : Code := { maxStack := 0, maxLocals := 1, code := object_method_1_code, exceptionTable := #[], attributes := #[] }
def k0m0 : Method := { name := "<init>", desc := "()V", sig := { parameters := [], returnType := none }, accessFlags := 1, code := some k0c0 }
/-- java/lang/Object -/
def k0 : Class := { plain "java/lang/Object" none with
  accessFlags := 33
  interfaces := #[]
  cf := some (fileOf pool0 8 #[] #[{ accessFlags := 1, nameIndex := 5, descriptorIndex := 6, attributes := #[] }] 33 0 #[] #[])
  fields := #[]
  methods := #[k0m0]
  instanceTypes := #[]
  staticTypes := #[]
  resolved := Array.replicate 124 none
  statics := none }

def pool1 : Array CpInfo := pool [(2, .class_ 4), (1, u "java/lang/Object"), (0, u "<init>"), (0, u "()V"), (0, .class_ 8), (0, u "com/example/hivetable/hivetable/search/LateAcceptance"), (0, .methodref 7 10), (0, .nameAndType 5 11), (0, u "(IJ)V"), (0, .methodref 7 13), (0, .nameAndType 14 15), (0, u "tried"), (0, u "(J)V"), (0, .methodref 17 18), (0, .class_ 19), (0, .nameAndType 20 21), (0, u "java/lang/Math"), (0, u "min"), (0, u "(JJ)J"), (0, .methodref 7 23), (0, .nameAndType 24 25), (0, u "keeps"), (0, u "(JJ)Z"), (0, .class_ 27), (0, u "com/example/hivetable/hivetable/search/LateAcceptanceKeepsPinLaw"), (2, u "law"), (0, u "(IJJJJI)Z")] 3

def k1m0 : Method := { name := "<init>", desc := "()V", sig := { parameters := [], returnType := none }, accessFlags := 1, code := none }
def k1c1 : Code := { maxStack := 5, maxLocals := 17, code := code, exceptionTable := #[], attributes := #[] }
def k1m1 : Method := { name := "law", desc := "(IJJJJI)Z", sig := { parameters := [.int, .long, .long, .long, .long, .int], returnType := some .boolean }, accessFlags := 9, code := some k1c1 }
/-- com/example/hivetable/hivetable/search/LateAcceptanceKeepsPinLaw -/
def k1 : Class := { plain "com/example/hivetable/hivetable/search/LateAcceptanceKeepsPinLaw" (some 0) with
  accessFlags := 49
  interfaces := #[]
  cf := some (fileOf pool1 26 #[] #[{ accessFlags := 1, nameIndex := 5, descriptorIndex := 6, attributes := #[] }, { accessFlags := 9, nameIndex := 30, descriptorIndex := 31, attributes := #[] }] 49 2 #[] #[])
  fields := #[]
  methods := #[k1m0, k1m1]
  instanceTypes := #[]
  staticTypes := #[]
  resolved := Array.replicate 35 none
  statics := none }

def pool2 : Array CpInfo := pool [(1, .class_ 2), (0, u "com/example/hivetable/hivetable/search/Acceptance$Judge"), (0, .class_ 4), (0, u "java/lang/Object"), (9, .class_ 15), (0, u "com/example/hivetable/hivetable/search/Acceptance")] 2

/-- com/example/hivetable/hivetable/search/Acceptance$Judge -/
def k2 : Class := { plain "com/example/hivetable/hivetable/search/Acceptance$Judge" (some 0) with
  accessFlags := 1537
  interfaces := #[]
  cf := some (fileOf pool2 1 #[.nestHost 14] #[] 1537 3 #[] #[])
  fields := #[]
  methods := #[]
  instanceTypes := #[]
  staticTypes := #[]
  resolved := Array.replicate 18 none
  statics := none }

def pool3 : Array CpInfo := pool [(1, .methodref 2 3), (0, .class_ 4), (0, .nameAndType 5 6), (0, u "java/lang/Object"), (0, u "<init>"), (0, u "()V"), (0, .fieldref 8 9), (0, .class_ 10), (0, .nameAndType 11 12), (0, u "com/example/hivetable/hivetable/search/LateAcceptance"), (0, u "entries"), (0, u "[J"), (0, .methodref 14 15), (0, .class_ 16), (0, .nameAndType 17 18), (0, u "java/util/Arrays"), (0, u "fill"), (0, u "([JJ)V"), (0, .fieldref 8 20), (0, .nameAndType 21 22), (0, u "next"), (0, u "I"), (0, .methodref 24 25), (0, .class_ 26), (0, .nameAndType 27 28), (0, u "java/lang/Math"), (0, u "min"), (0, u "(JJ)J"), (0, .class_ 30), (0, u "com/example/hivetable/hivetable/search/Acceptance$Judge"), (0, u "(IJ)V"), (2, u "keeps"), (0, u "(JJ)Z"), (1, u "tried"), (0, u "(J)V")] 6

def k3c0 : Code := { maxStack := 3, maxLocals := 4, code := prog_37_method_1_code, exceptionTable := #[], attributes := #[] }
def k3m0 : Method := { name := "<init>", desc := "(IJ)V", sig := { parameters := [.int, .long], returnType := none }, accessFlags := 0, code := some k3c0 }
def k3c1 : Code := { maxStack := 4, maxLocals := 5, code := prog_37_method_2_code, exceptionTable := #[], attributes := #[] }
def k3m1 : Method := { name := "keeps", desc := "(JJ)Z", sig := { parameters := [.long, .long], returnType := some .boolean }, accessFlags := 1, code := some k3c1 }
def k3c2 : Code := { maxStack := 6, maxLocals := 3, code := prog_37_method_3_code, exceptionTable := #[], attributes := #[] }
def k3m2 : Method := { name := "tried", desc := "(J)V", sig := { parameters := [.long], returnType := none }, accessFlags := 1, code := some k3c2 }
/-- com/example/hivetable/hivetable/search/LateAcceptance -/
def k3 : Class := { plain "com/example/hivetable/hivetable/search/LateAcceptance" (some 0) with
  accessFlags := 48
  interfaces := #[2]
  cf := some (fileOf pool3 8 #[] #[{ accessFlags := 0, nameIndex := 5, descriptorIndex := 31, attributes := #[] }, { accessFlags := 1, nameIndex := 34, descriptorIndex := 35, attributes := #[] }, { accessFlags := 1, nameIndex := 37, descriptorIndex := 38, attributes := #[] }] 48 2 #[29] #[{ accessFlags := 18, nameIndex := 11, descriptorIndex := 12, attributes := #[] }, { accessFlags := 2, nameIndex := 21, descriptorIndex := 22, attributes := #[] }])
  fields := #[{ name := "entries", type := (.array .long), accessFlags := 18, slot := 0, constantValue := 0 }, { name := "next", type := .int, accessFlags := 2, slot := 1, constantValue := 0 }]
  methods := #[k3m0, k3m1, k3m2]
  instanceTypes := #[(.array .long), .int]
  staticTypes := #[]
  resolved := Array.replicate 45 none
  statics := none }

def pool4 : Array CpInfo := pool [(2, .class_ 4), (1, u "java/lang/Object"), (0, u "<init>"), (0, u "()V"), (7, .class_ 16), (1, u "java/util/Arrays"), (57, .class_ 76), (1, u "java/util/Arrays$NaturalOrder"), (36, .class_ 115), (1, u "java/util/Arrays$LegacyMergeSort"), (1, u "Z"), (257, .class_ 376), (0, u "java/util/Arrays$ArrayList"), (68, u "$assertionsDisabled"), (269, u "MIN_ARRAY_SORT_GRAN"), (0, u "I"), (2, u "INSERTIONSORT_THRESHOLD"), (120, u "fill"), (0, u "([JJ)V"), (133, .class_ 976), (0, u "java/util/Arrays$ArrayItr")] 52

def k4m0 : Method := { name := "<init>", desc := "()V", sig := { parameters := [], returnType := none }, accessFlags := 2, code := none }
def k4c1 : Code := { maxStack := 4, maxLocals := 5, code := jdk_65_method_101_code, exceptionTable := #[], attributes := #[] }
def k4m1 : Method := { name := "fill", desc := "([JJ)V", sig := { parameters := [(.array .long), .long], returnType := none }, accessFlags := 9, code := some k4c1 }
/-- java/util/Arrays -/
def k4 : Class := { plain "java/util/Arrays" (some 0) with
  accessFlags := 49
  interfaces := #[]
  cf := some (fileOf pool4 14 #[.nestMembers #[975, 375, 113, 74]] #[{ accessFlags := 2, nameIndex := 5, descriptorIndex := 6, attributes := #[] }, { accessFlags := 9, nameIndex := 840, descriptorIndex := 841, attributes := #[] }] 49 2 #[] #[{ accessFlags := 26, nameIndex := 715, descriptorIndex := 716, attributes := #[] }, { accessFlags := 26, nameIndex := 719, descriptorIndex := 716, attributes := #[] }, { accessFlags := 4120, nameIndex := 445, descriptorIndex := 117, attributes := #[] }])
  fields := #[{ name := "MIN_ARRAY_SORT_GRAN", type := .int, accessFlags := 26, slot := 0, constantValue := 0 }, { name := "INSERTIONSORT_THRESHOLD", type := .int, accessFlags := 26, slot := 1, constantValue := 0 }, { name := "$assertionsDisabled", type := .boolean, accessFlags := 4120, slot := 2, constantValue := 0 }]
  methods := #[k4m0, k4m1]
  instanceTypes := #[]
  staticTypes := #[.int, .int, .boolean]
  resolved := Array.replicate 1029 none
  statics := none }

def pool5 : Array CpInfo := pool [(1, .class_ 2), (0, u "java/lang/Math"), (1, .class_ 6), (1, u "java/lang/Object"), (0, u "<init>"), (0, u "()V"), (89, .class_ 100), (1, u "java/lang/Math$RandomNumberGeneratorHolder"), (20, u "(JJ)J"), (50, u "negativeZeroFloatBits"), (0, u "J"), (2, u "negativeZeroDoubleBits"), (24, u "min"), (43, u "$assertionsDisabled"), (0, u "Z"), (91, u "twoToTheDoubleScaleDown"), (0, u "D"), (4, u "twoToTheDoubleScaleUp"), (9, u "E"), (3, u "PI"), (2, u "TAU"), (2, u "DEGREES_TO_RADIANS"), (0, u "RADIANS_TO_DEGREES")] 94

def k5m0 : Method := { name := "<init>", desc := "()V", sig := { parameters := [], returnType := none }, accessFlags := 2, code := none }
def k5c1 : Code := { maxStack := 4, maxLocals := 4, code := jdk_29_method_70_code, exceptionTable := #[], attributes := #[] }
def k5m1 : Method := { name := "min", desc := "(JJ)J", sig := { parameters := [.long, .long], returnType := some .long }, accessFlags := 9, code := some k5c1 }
/-- java/lang/Math -/
def k5 : Class := { plain "java/lang/Math" (some 0) with
  accessFlags := 49
  interfaces := #[]
  cf := some (fileOf pool5 1 #[.nestMembers #[98]] #[{ accessFlags := 2, nameIndex := 7, descriptorIndex := 8, attributes := #[] }, { accessFlags := 9, nameIndex := 201, descriptorIndex := 121, attributes := #[] }] 49 4 #[] #[{ accessFlags := 25, nameIndex := 354, descriptorIndex := 339, attributes := #[] }, { accessFlags := 25, nameIndex := 358, descriptorIndex := 339, attributes := #[] }, { accessFlags := 25, nameIndex := 361, descriptorIndex := 339, attributes := #[] }, { accessFlags := 26, nameIndex := 364, descriptorIndex := 339, attributes := #[] }, { accessFlags := 26, nameIndex := 365, descriptorIndex := 339, attributes := #[] }, { accessFlags := 26, nameIndex := 172, descriptorIndex := 173, attributes := #[] }, { accessFlags := 26, nameIndex := 176, descriptorIndex := 173, attributes := #[] }, { accessFlags := 8, nameIndex := 344, descriptorIndex := 339, attributes := #[] }, { accessFlags := 8, nameIndex := 338, descriptorIndex := 339, attributes := #[] }, { accessFlags := 4120, nameIndex := 245, descriptorIndex := 246, attributes := #[] }])
  fields := #[{ name := "E", type := .double, accessFlags := 25, slot := 0, constantValue := 0 }, { name := "PI", type := .double, accessFlags := 25, slot := 1, constantValue := 0 }, { name := "TAU", type := .double, accessFlags := 25, slot := 2, constantValue := 0 }, { name := "DEGREES_TO_RADIANS", type := .double, accessFlags := 26, slot := 3, constantValue := 0 }, { name := "RADIANS_TO_DEGREES", type := .double, accessFlags := 26, slot := 4, constantValue := 0 }, { name := "negativeZeroFloatBits", type := .long, accessFlags := 26, slot := 5, constantValue := 0 }, { name := "negativeZeroDoubleBits", type := .long, accessFlags := 26, slot := 6, constantValue := 0 }, { name := "twoToTheDoubleScaleUp", type := .double, accessFlags := 8, slot := 7, constantValue := 0 }, { name := "twoToTheDoubleScaleDown", type := .double, accessFlags := 8, slot := 8, constantValue := 0 }, { name := "$assertionsDisabled", type := .boolean, accessFlags := 4120, slot := 9, constantValue := 0 }]
  methods := #[k5m0, k5m1]
  instanceTypes := #[]
  staticTypes := #[.double, .double, .double, .double, .double, .long, .long, .double, .double, .boolean]
  resolved := Array.replicate 460 none
  statics := none }

def pool6 : Array CpInfo := pool [(1, u "java/lang/Cloneable"), (0, .class_ 1), (0, u "java/lang/Object"), (0, .class_ 3)] 3

/-- java/lang/Cloneable -/
def k6 : Class := { plain "java/lang/Cloneable" (some 0) with
  accessFlags := 1537
  interfaces := #[]
  cf := some (fileOf pool6 2 #[] #[] 1537 4 #[] #[])
  fields := #[]
  methods := #[]
  instanceTypes := #[]
  staticTypes := #[]
  resolved := Array.replicate 8 none
  statics := none }

def pool7 : Array CpInfo := pool [(1, u "java/io/Serializable"), (0, .class_ 1), (0, u "java/lang/Object"), (0, .class_ 3)] 3

/-- java/io/Serializable -/
def k7 : Class := { plain "java/io/Serializable" (some 0) with
  accessFlags := 1537
  interfaces := #[]
  cf := some (fileOf pool7 2 #[] #[] 1537 4 #[] #[])
  fields := #[]
  methods := #[]
  instanceTypes := #[]
  staticTypes := #[]
  resolved := Array.replicate 8 none
  statics := none }

/-- the primitive byte -/
def k8 : Class := { plain "byte" none with kind := .primitive 'B', accessFlags := 0x411 }
/-- [B -/
def k9 : Class := { plain "[B" (some 0) with kind := .array 8 .byte, interfaces := #[6, 7], accessFlags := 1041 }

/-- the primitive int -/
def k10 : Class := { plain "int" none with kind := .primitive 'I', accessFlags := 0x411 }
/-- [I -/
def k11 : Class := { plain "[I" (some 0) with kind := .array 10 .int, interfaces := #[6, 7], accessFlags := 1041 }

/-- the primitive long -/
def k12 : Class := { plain "long" none with kind := .primitive 'J', accessFlags := 0x411 }
/-- [J -/
def k13 : Class := { plain "[J" (some 0) with kind := .array 12 .long, interfaces := #[6, 7], accessFlags := 1041 }

def heap : Heap := #[]
def classes : Array Class := #[k0, k1, k2, k3, k4, k5, k6, k7, k8, k9, k10, k11, k12, k13]
def interned : List (Array UInt16 × Addr) := []
def slotsUsed : Nat := 0
def theMethod : MethodId := ⟨1, 1⟩
def args0 : Array Value := #[.int 5, .long 5, .long 5, .long 5, .long 5, .int 5]
def aboutOver (below : List Frame) : State where
  vm := { classes := classes, interned := interned.toArray }
  heap := heap
  slotsUsed := slotsUsed
  threads := #[{ frames := .invoking theMethod args0 :: below }]
def below0 : List Frame := [.native { method := ⟨0, 0⟩, args := #[] }]
def about1 : State := aboutOver below0
def p0 : Program := .bare "" "" ""
def e0 : Env := launch0.env 0 0 0
theorem w_frames : about1.frames = Frame.invoking theMethod args0 :: below0 := rfl
set_option maxRecDepth 65536 in
theorem w_args : argsFit about1.vm theMethod args0 = true := by decide +kernel
set_option maxRecDepth 65536 in
theorem w_heap : heapFits about1 = true := by decide +kernel
set_option maxRecDepth 65536 in
theorem w_runnable : about1.curStatus? = some .runnable := by decide +kernel
set_option maxRecDepth 65536 in
theorem w_alone : about1.alone = true := by decide +kernel
set_option maxRecDepth 65536 in
theorem w_named : about1.methodNamed? x = some theMethod := by decide +kernel
set_option maxRecDepth 65536 in
theorem w_hears : about1.hears theMethod below0 = true := by decide +kernel
set_option maxRecDepth 65536 in
theorem w_ripe : about1.ripe theMethod args0 below0 = true := by decide +kernel
theorem w_running : about1.status = .running := rfl
set_option maxRecDepth 65536 in
theorem w_room : about1.hasRoom e0.platform room_1 = true :=
  launch0.hasRoom_least _ room_1 (by decide +kernel) (by decide +kernel) (by decide +kernel) (by decide +kernel) (by decide +kernel) (by decide +kernel)
theorem allAtoms_all (ts : List Jvm.Cond) (a : Array Jvm.Value) (st : Jvm.State) : (allAtoms ts).before a st = ts.all (fun c => c.before a st) := by
  induction ts with
  | nil => rfl
  | cons c t ih =>
    show (Jvm.Cond.and c (allAtoms t)).before a st = _
    rw [Jvm.Cond.before_and, ih, List.all_cons]
def words1 : List Jvm.Cond := Jvm.Cond.code x code maxLocals ret :: tables_1
/-- a 'code' word, met by the world's own term for the bytes: nothing is compared byte by byte -/
theorem code_word {y : MethodName} {bytes : ByteArray} {mx : Nat} {rt : Option FieldType} {a : Array Value} {s : State} {m : MethodId} {meth : Method} {c : Code} (h1 : s.methodNamed? y = some m) (h2 : s.vm.method? m = some meth) (h3 : meth.code = some c) (h4 : c.code = bytes)
    (h5 : (c.maxLocals == mx && c.exceptionTable.isEmpty && decide (c.maxStack ≤ mostOperands) && decide (meth.sig.returnType = rt) && !meth.locks && decide (parseMethodDescriptor y.desc = some meth.sig)) = true) : (Jvm.Cond.code y bytes mx rt).before a s = true := by
  simp only [Bool.and_eq_true, beq_iff_eq, Bool.not_eq_true', decide_eq_true_eq] at h5
  obtain ⟨⟨⟨⟨⟨g1, g2⟩, g3⟩, g4⟩, g5⟩, g6⟩ := h5
  simp [Cond.before, Cond.holds, Cond.value, h1, h2, h3, h4, g1, g2, g3, g4, g5, g6]
def isCode : Jvm.Cond → Bool
  | .code _ _ _ _ => true
  | _ => false
theorem all_split {L : List Jvm.Cond} {P : Jvm.Cond → Bool} (h1 : L.all (fun c => isCode c || P c) = true) (h2 : ∀ c ∈ L.filter isCode, P c = true) : L.all P = true := by
  refine List.all_eq_true.mpr fun c hc => ?_
  have h := List.all_eq_true.mp h1 c hc
  rcases Bool.eq_false_or_eq_true (isCode c) with hi | hi
  · exact h2 c (List.mem_filter.mpr ⟨hc, hi⟩)
  · simpa [hi] using h
set_option maxRecDepth 65536 in
theorem w_c0 : (Jvm.Cond.code x code maxLocals ret).before args0 about1 = true := code_word (m := ⟨1, 1⟩) (meth := k1m1) (c := k1c1) (by decide +kernel) rfl rfl rfl (by decide +kernel)
set_option maxRecDepth 65536 in
theorem w_c1 : (Jvm.Cond.code ({ cls := "com/example/hivetable/hivetable/search/LateAcceptance", name := "<init>", desc := "(IJ)V" } : Jvm.MethodName) prog_37_method_1_code (4 : Nat) (Option.none : Option Jvm.ClassFile.FieldType)).before args0 about1 = true := code_word (m := ⟨3, 0⟩) (meth := k3m0) (c := k3c0) (by decide +kernel) rfl rfl rfl (by decide +kernel)
set_option maxRecDepth 65536 in
theorem w_c2 : (Jvm.Cond.code ({ cls := "java/lang/Object", name := "<init>", desc := "()V" } : Jvm.MethodName) object_method_1_code (1 : Nat) (Option.none : Option Jvm.ClassFile.FieldType)).before args0 about1 = true := code_word (m := ⟨0, 0⟩) (meth := k0m0) (c := k0c0) (by decide +kernel) rfl rfl rfl (by decide +kernel)
set_option maxRecDepth 65536 in
theorem w_c3 : (Jvm.Cond.code ({ cls := "java/util/Arrays", name := "fill", desc := "([JJ)V" } : Jvm.MethodName) jdk_65_method_101_code (5 : Nat) (Option.none : Option Jvm.ClassFile.FieldType)).before args0 about1 = true := code_word (m := ⟨4, 1⟩) (meth := k4m1) (c := k4c1) (by decide +kernel) rfl rfl rfl (by decide +kernel)
set_option maxRecDepth 65536 in
theorem w_c4 : (Jvm.Cond.code ({ cls := "com/example/hivetable/hivetable/search/LateAcceptance", name := "keeps", desc := "(JJ)Z" } : Jvm.MethodName) prog_37_method_2_code (5 : Nat) (Option.some Jvm.ClassFile.FieldType.boolean)).before args0 about1 = true := code_word (m := ⟨3, 1⟩) (meth := k3m1) (c := k3c1) (by decide +kernel) rfl rfl rfl (by decide +kernel)
set_option maxRecDepth 65536 in
theorem w_c5 : (Jvm.Cond.code ({ cls := "com/example/hivetable/hivetable/search/LateAcceptance", name := "tried", desc := "(J)V" } : Jvm.MethodName) prog_37_method_3_code (3 : Nat) (Option.none : Option Jvm.ClassFile.FieldType)).before args0 about1 = true := code_word (m := ⟨3, 2⟩) (meth := k3m2) (c := k3c2) (by decide +kernel) rfl rfl rfl (by decide +kernel)
set_option maxRecDepth 65536 in
theorem w_c6 : (Jvm.Cond.code ({ cls := "java/lang/Math", name := "min", desc := "(JJ)J" } : Jvm.MethodName) jdk_29_method_70_code (4 : Nat) (Option.some Jvm.ClassFile.FieldType.long)).before args0 about1 = true := code_word (m := ⟨5, 1⟩) (meth := k5m1) (c := k5c1) (by decide +kernel) rfl rfl rfl (by decide +kernel)
def codes1 : List Jvm.Cond := [Jvm.Cond.code x code maxLocals ret, Jvm.Cond.code ({ cls := "com/example/hivetable/hivetable/search/LateAcceptance", name := "<init>", desc := "(IJ)V" } : Jvm.MethodName) prog_37_method_1_code (4 : Nat) (Option.none : Option Jvm.ClassFile.FieldType), Jvm.Cond.code ({ cls := "java/lang/Object", name := "<init>", desc := "()V" } : Jvm.MethodName) object_method_1_code (1 : Nat) (Option.none : Option Jvm.ClassFile.FieldType), Jvm.Cond.code ({ cls := "java/util/Arrays", name := "fill", desc := "([JJ)V" } : Jvm.MethodName) jdk_65_method_101_code (5 : Nat) (Option.none : Option Jvm.ClassFile.FieldType), Jvm.Cond.code ({ cls := "com/example/hivetable/hivetable/search/LateAcceptance", name := "keeps", desc := "(JJ)Z" } : Jvm.MethodName) prog_37_method_2_code (5 : Nat) (Option.some Jvm.ClassFile.FieldType.boolean), Jvm.Cond.code ({ cls := "com/example/hivetable/hivetable/search/LateAcceptance", name := "tried", desc := "(J)V" } : Jvm.MethodName) prog_37_method_3_code (3 : Nat) (Option.none : Option Jvm.ClassFile.FieldType), Jvm.Cond.code ({ cls := "java/lang/Math", name := "min", desc := "(JJ)J" } : Jvm.MethodName) jdk_29_method_70_code (4 : Nat) (Option.some Jvm.ClassFile.FieldType.long)]
set_option maxRecDepth 65536 in
theorem codes_eq : words1.filter isCode = codes1 := rfl
theorem w_codes : ∀ c ∈ words1.filter isCode, c.before args0 about1 = true := by
  rw [codes_eq]
  intro c hc
  simp only [codes1, List.mem_cons, List.not_mem_nil, or_false] at hc
  rcases hc with rfl | rfl | rfl | rfl | rfl | rfl | rfl
  · exact w_c0
  · exact w_c1
  · exact w_c2
  · exact w_c3
  · exact w_c4
  · exact w_c5
  · exact w_c6
set_option maxRecDepth 65536 in
theorem w_t1 : (words1.take 24).all (fun c => isCode c || c.before args0 about1) = true := by decide +kernel
set_option maxRecDepth 65536 in
theorem w_t2 : (words1.drop 24).all (fun c => isCode c || c.before args0 about1) = true := by decide +kernel
theorem w_tables : (allAtoms (Jvm.Cond.code x code maxLocals ret :: tables_1)).before args0 about1 = true := by
  rw [allAtoms_all]
  show words1.all (fun c => c.before args0 about1) = true
  refine all_split ?_ w_codes
  rw [← List.take_append_drop 24 words1, List.all_append, w_t1, w_t2]
  rfl
set_option maxRecDepth 65536 in
theorem w_case : (Jvm.Cond.and given_1 narrow_1).before args0 about1 = true := by decide +kernel
theorem w_applies : (headSpec (Jvm.Cond.code x code maxLocals ret :: tables_1) room_1).applies x e0.platform about1 = true :=
  (Spec.applies_iff w_frames).mpr ⟨w_running, w_runnable, w_alone, w_named, w_hears, w_ripe, w_room, w_tables⟩
theorem atStart : AtStart classFile x code maxLocals ret World_1 tables_1 room_1 Calls_1 rest_1 Pre_1 launch0 p0 e0 about1 theMethod args0 below0 :=
  ⟨lists_1, trivial, launch0.admits_env _ _ _, launch0.least_env, fairChoices_fair.cas, fairChoices_fair.clock, w_frames, w_args, w_heap, w_applies, trivial, trivial, w_case⟩
end start1
theorem witness_1 : WitnessClaimed_1 := ⟨start1.p0, start1.e0, start1.about1, start1.theMethod, start1.args0, start1.below0, start1.atStart⟩
end Jvm.Pilot.@@N@@
