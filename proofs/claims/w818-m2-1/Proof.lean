import JvmDerived
import JvmDerived.Pilot.@@N@@Statement
import JvmDerived.Pilot.@@N@@Code
set_option linter.unusedVariables false
set_option linter.unusedSimpArgs false
namespace Jvm.Own
open Sem ClassFile Op Lib Jvm.Stand Jvm.Free Jvm.LawKit Jvm.RoadKit
section Own
variable {p : Program} {l : Launch} {e : Env} {R : Room} {s : State} {m : MethodId} {args : Array Value} {below : List Frame} {meth : Method} {c : Code} {T : State} {locs : List Loc} {cells slots : Nat} {Q : Option Value → Heap → List Loc → Prop} {k n : Nat} {Z : State} {a0 : Array Value} {h h' h0 : Heap} {pc pc' : Nat} {Ls : Array Slot} {rest : List Value}
/-- from U the invocation comes to its end, returns, and Q holds there -/
def Till (p : Program) (e : Env) (below : List Frame) (s : State) (Q : Option Value → Heap → List Loc → Prop) (k n : Nat) (U : State) : Prop :=
  ∃ s₂ o, Steps p.tables e below U s₂ ∧ s₂.status = .running ∧ Ended s₂ below o ∧ ∃ v L, o = .returned v ∧ Q v s₂.heap L ∧ FrameEnd s o s₂ L k n
/-- a body's contract -/
def Ctr (l : Launch) (Z : State) (y : MethodName) (bytes : ByteArray) (maxL : Nat) (ret : Option FieldType) (rm : Room) (as : Array Value) (h : Heap) (Q : Option Value → Heap → List Loc → Prop) : Prop :=
  ∀ ws, MetFree l y (head1 (Jvm.Cond.code y bytes maxL ret :: ws) rm) (fun a U => a = as ∧ Z.Warmed39 U.vm ∧ U.heap = h) (fun _ _ _ _ _ => True) (fun _ U o U' => ∃ v L, o = .returned v ∧ Q v U'.heap L ∧ FrameEnd U o U' L rm.cells rm.slots)
theorem Till.pre {U V : State} (hs : ∀ t, Steps p.tables e below V t → Steps p.tables e below U t) (r : Till p e below s Q k n V) : Till p e below s Q k n U := by
  obtain ⟨s₂, o, h1, r⟩ := r; exact ⟨s₂, o, hs _ h1, r⟩
theorem Till.via {U V : State} (hs : Steps p.tables e below U V) (r : Till p e below s Q k n V) : Till p e below s Q k n U := by
  obtain ⟨s₂, o, h1, r⟩ := r; exact ⟨s₂, o, hs.trans h1, r⟩
theorem Till.cast {g g' : JFrame} (q : g = g') (r : Till p e below s Q k n (T.setTop g')) : Till p e below s Q k n (T.setTop g) := q ▸ r
theorem Ctr.of {y : MethodName} {bytes : ByteArray} {maxL : Nat} {ret : Option FieldType} {rm : Room} {as : Array Value} (hp : plainFor y = true)
    (body : ∀ p e s m below meth c s₁, p.tables.exec = Jvm.exec → c.code = bytes → c.maxLocals = maxL → s.vm.findClass y.cls = some m.cls → meth.name = y.name → meth.sig.returnType = ret → meth.locks = false → Z.Warmed39 s.vm → s₁.heap = h →
      Stand p l e rm s m as below meth c s₁ [] 0 0 → Till p e below s Q rm.cells rm.slots (s₁.setTop (entryFrame m as maxL))) : Ctr l Z y bytes maxL ret rm as h Q := by
  intro ws
  refine MetFree.of_bodySF hp hisR ?_
  intro p e s m args below meth c s₁ Bd hml hP hK
  obtain ⟨rfl, hZ, hh⟩ := hP
  exact body p e s m below meth c s₁ Bd.exec Bd.bytes hml (findClass_of_methodNamed Bd.named) (name_of_methodNamed Bd.named Bd.method).1 Bd.returns Bd.notSynchronized hZ (by rw [← hh, Bd.state]; rfl) (Stand.of_body Bd)
/-! branches -/
theorem Till.icmp {cd : ClassFile.Cond} {x y : Int32} {o : Int} (h : At T m c below) (hx : p.tables.exec = Jvm.exec) (hd : decode c.code pc = .ok (.if_icmp cd o, 3)) (ho : 0 ≤ (pc : Int) + o) (hp : ((pc : Int) + o).toNat = pc')
    (r1 : if_icmp.holds cd x y = true → Till p e below s Q k n (T.setTop (mkF m pc' Ls rest))) (r2 : if_icmp.holds cd x y = false → Till p e below s Q k n (T.setTop (mkF m (pc + 3) Ls rest))) : Till p e below s Q k n (T.setTop (mkF m pc Ls (.int y :: .int x :: rest))) := by
  cases hb : if_icmp.holds cd x y with
  | true => exact Till.pre (fun _ hr => XS.icmpYes h hx rfl (pc0 := pc) (pc' := pc') rfl hd rfl hb ho hp hr) (r1 hb)
  | false => exact Till.pre (fun _ hr => XS.icmpNo h hx rfl hd rfl hb hr) (r2 hb)
theorem Till.ifc {cd : ClassFile.Cond} {x : Int32} {o : Int} (h : At T m c below) (hx : p.tables.exec = Jvm.exec) (hd : decode c.code pc = .ok (.ifCond cd o, 3)) (ho : 0 ≤ (pc : Int) + o) (hp : ((pc : Int) + o).toNat = pc')
    (r1 : if_icmp.holds cd x 0 = true → Till p e below s Q k n (T.setTop (mkF m pc' Ls rest))) (r2 : if_icmp.holds cd x 0 = false → Till p e below s Q k n (T.setTop (mkF m (pc + 3) Ls rest))) : Till p e below s Q k n (T.setTop (mkF m pc Ls (.int x :: rest))) := by
  cases hb : if_icmp.holds cd x 0 with
  | true => exact Till.pre (fun _ hr => XS.ifYes h hx rfl (pc0 := pc) (pc' := pc') rfl hd rfl ((if0 _ _).trans hb) ho hp hr) (r1 hb)
  | false => exact Till.pre (fun _ hr => XS.ifNo h hx rfl hd rfl ((if0 _ _).trans hb) hr) (r2 hb)
theorem hEq {x y : Int32} : (if_icmp.holds .eq x y = true → x = y) ∧ (if_icmp.holds .eq x y = false → ¬ x = y) ∧ (if_icmp.holds .ne x y = true → ¬ x = y) ∧ (if_icmp.holds .ne x y = false → x = y) := by
  by_cases q : x = y
  · obtain ⟨h1, h2⟩ := teq q; rw [h1, h2]; simp [q]
  · obtain ⟨h1, h2⟩ := feq q; rw [h1, h2]; simp [q]
theorem hLt {x y : Int32} : (if_icmp.holds .lt x y = true → x < y) ∧ (if_icmp.holds .lt x y = false → ¬ x < y) ∧ (if_icmp.holds .ge x y = true → ¬ x < y) ∧ (if_icmp.holds .ge x y = false → x < y) ∧ (if_icmp.holds .gt y x = true → x < y) ∧ (if_icmp.holds .gt y x = false → ¬ x < y) ∧ (if_icmp.holds .le y x = true → ¬ x < y) ∧ (if_icmp.holds .le y x = false → x < y) := by
  by_cases q : x < y
  · obtain ⟨h1, h2, h3, h4⟩ := tlt q; rw [h1, h2, h3, h4]; simp [q]
  · obtain ⟨h1, h2, h3, h4⟩ := flt q; rw [h1, h2, h3, h4]; simp [q]
theorem lEq {x y : Int64} : lcmpW x y = 0 ↔ x = y := by rw [lcW x y]; exact lc_eq x y
theorem lLt {x y : Int64} : lcmpW x y < 0 ↔ x < y := by rw [lcW x y]; exact lc_lt x y
theorem lGt {x y : Int64} : 0 < lcmpW x y ↔ y < x := by rw [lcW x y]; exact lc_gt x y
/-- Java's >>> on longs -/
def lsr (x : Int64) (y : Int32) : Int64 := (x.toUInt64 >>> (y &&& 0x3f).toInt64.toUInt64).toInt64
/-! returns -/
theorem Till.retI (X : Stand p l e R s m args below meth c T locs cells slots) (hx : p.tables.exec = Jvm.exec) (hret : meth.sig.returnType = some .int) (hlk : meth.locks = false) {z : Int32} (hd : decode c.code pc = .ok (.ireturn, 1)) (hk : cells ≤ k) (hn : slots ≤ n) (hq : Q (some (.int z)) T.heap locs) : Till p e below s Q k n (T.setTop (mkF m pc Ls (.int z :: rest))) := by
  obtain ⟨fs, hr, hrun, hended, hW, hsame⟩ := X.leave (v := some (.int z)) (fun q => by rw [hret] at q; cases q) hlk
  exact ⟨_, _, retOut X hx hret rfl (Or.inl ⟨rfl, Or.inl rfl, z, rfl⟩) hd hr, hrun, hended, _, _, rfl, hq, ⟨_, rfl⟩, hW, hsame.mono hk hn⟩
theorem Till.retZ (X : Stand p l e R s m args below meth c T locs cells slots) (hx : p.tables.exec = Jvm.exec) (hret : meth.sig.returnType = some .boolean) (hlk : meth.locks = false) {z w : Int32} (hd : decode c.code pc = .ok (.ireturn, 1)) (hk : cells ≤ k) (hn : slots ≤ n) (hz : z &&& 1 = w) (hq : Q (some (.int w)) T.heap locs) : Till p e below s Q k n (T.setTop (mkF m pc Ls (.int z :: rest))) := by
  subst hz
  obtain ⟨fs, hr, hrun, hended, hW, hsame⟩ := X.leave (v := some (.int (z &&& 1))) (fun q => by rw [hret] at q; cases q) hlk
  exact ⟨_, _, retN X hx (t := .boolean) hret (Or.inl rfl) hd hr, hrun, hended, _, _, rfl, hq, ⟨_, rfl⟩, hW, hsame.mono hk hn⟩
theorem Till.retJ (X : Stand p l e R s m args below meth c T locs cells slots) (hx : p.tables.exec = Jvm.exec) (hret : meth.sig.returnType = some .long) (hlk : meth.locks = false) {z : Int64} (hd : decode c.code pc = .ok (.lreturn, 1)) (hk : cells ≤ k) (hn : slots ≤ n) (hq : Q (some (.long z)) T.heap locs) : Till p e below s Q k n (T.setTop (mkF m pc Ls (.long z :: rest))) := by
  obtain ⟨fs, hr, hrun, hended, hW, hsame⟩ := X.leave (v := some (.long z)) (fun q => by rw [hret] at q; cases q) hlk
  exact ⟨_, _, retOut X hx hret rfl (Or.inr (Or.inl ⟨rfl, rfl, z, rfl⟩)) hd hr, hrun, hended, _, _, rfl, hq, ⟨_, rfl⟩, hW, hsame.mono hk hn⟩
theorem Till.retA (X : Stand p l e R s m args below meth c T locs cells slots) (hx : p.tables.exec = Jvm.exec) {t : FieldType} (hret : meth.sig.returnType = some t) (ht : t.isReference = true) (hlk : meth.locks = false) {w : Value} (hw : w.isRef = true) (hnw : narrow t w = w) (hd : decode c.code pc = .ok (.areturn, 1)) (hk : cells ≤ k) (hn : slots ≤ n) (hq : Q (some w) T.heap locs) : Till p e below s Q k n (T.setTop (mkF m pc Ls (w :: rest))) := by
  obtain ⟨fs, hr, hrun, hended, hW, hsame⟩ := X.leave (v := some w) (fun q => by rw [hret] at q; cases q) hlk
  exact ⟨_, _, retOut X hx hret hnw (Or.inr (Or.inr (Or.inr (Or.inr ⟨rfl, ht, hw⟩)))) hd hr, hrun, hended, _, _, rfl, hq, ⟨_, rfl⟩, hW, hsame.mono hk hn⟩
theorem Till.retV (X : Stand p l e R s m args below meth c T locs cells slots) (hx : p.tables.exec = Jvm.exec) (hret : meth.sig.returnType = none) (hlk : meth.locks = false) (hd : decode c.code pc = .ok (.return_, 1)) (hk : cells ≤ k) (hn : slots ≤ n) (hq : Q none T.heap locs) : Till p e below s Q k n (T.setTop (mkF m pc Ls [])) := by
  obtain ⟨fs, hr, hrun, hended, hW, hsame⟩ := X.leave (v := none) (fun _ => rfl) hlk
  exact ⟨_, _, X.returnOut hx hret hd hr, hrun, hended, _, _, rfl, hq, ⟨_, rfl⟩, hW, hsame.mono hk hn⟩
/-! the heap -/
theorem Till.getF (X : Stand p l e R s m args below meth c T locs cells slots) (hx : p.tables.exec = Jvm.exec) (hZ : Z.Warmed39 s.vm) {own O nm d : String} {index : Nat} (hown : s.vm.findClass own = some m.cls) (w : (Jvm.Cond.fieldLink own index O nm d).before a0 Z = true) (eT : T.heap = h) {a : Addr} {v : Value} (F : Fld Z h a O nm d v) (hd : decode c.code pc = .ok (.getfield index, 3))
    (r : ∀ T', Stand p l e R s m args below meth c T' locs cells slots → T'.heap = h → Till p e below s Q k n (T'.setTop (mkF m (pc + 3) Ls (v :: rest)))) : Till p e below s Q k n (T.setTop (mkF m pc Ls (.ref a :: rest))) := by
  obtain ⟨T', X', e', st⟩ := Jvm.RoadKit.getF X hx hZ hown (host := "") (Or.inl w) Via.refl eT F (g := mkF m pc Ls (.ref a :: rest)) rfl rfl hd
  exact Till.pre st (r T' X' e')
theorem Till.putF (X : Stand p l e R s m args below meth c T locs cells slots) (hx : p.tables.exec = Jvm.exec) (hZ : Z.Warmed39 s.vm) {own O nm d C : String} {index kk : Nat} {ty : FieldType} (hown : s.vm.findClass own = some m.cls) (w : (Jvm.Cond.fieldLink own index O nm d).before a0 Z = true) (eT : T.heap = h) {a : Addr} {v old : Value} (F : Fld Z h a O nm d old) (E : Exa Z h a C)
    (L : (Jvm.Cond.lays C O nm d).before a0 Z = true ∨ ((Jvm.Cond.laysFinal C O nm d).before a0 Z = true ∧ own = O ∧ meth.name = "<init>")) (wi : (Jvm.Cond.instantiable C kk).before a0 Z = true) (hty : parseFieldDescriptor d = some ty) (hn : narrow ty v = v) (hf : fits ty v = true) (hd : decode c.code pc = .ok (.putfield index, 3))
    (r : ∀ T' h', Stand p l e R s m args below meth c T' (locs ++ [⟨a, Jvm.RoadKit.slotOf Z O nm d⟩]) cells slots → T'.heap = h' → Wr h h' a (Jvm.RoadKit.slotOf Z O nm d) v → Till p e below s Q k n (T'.setTop (mkF m (pc + 3) Ls rest))) : Till p e below s Q k n (T.setTop (mkF m pc Ls (v :: .ref a :: rest))) := by
  obtain ⟨T', h', X', e', W, st⟩ := Jvm.RoadKit.putF X hx hZ hown (host := "") (Or.inl w) Via.refl eT F E L wi hty hn hf (g := mkF m pc Ls (v :: .ref a :: rest)) rfl rfl hd
  exact Till.pre st (r T' h' X' e' W)
theorem Till.newO (X : Stand p l e R s m args below meth c T locs cells slots) (hx : p.tables.exec = Jvm.exec) (hZ : Z.Warmed39 s.vm) {own C : String} {index sl : Nat} (hown : s.vm.findClass own = some m.cls) (w : (Jvm.Cond.classLink own index C).before a0 Z = true) (wi : (Jvm.Cond.instantiable C sl).before a0 Z = true) (wz : (Jvm.Cond.initialized C).before a0 Z = true) (eT : T.heap = h) (hd : decode c.code pc = .ok (.new index, 3)) (hc : cells + 1 ≤ R.cells) (hl : slots + sl ≤ R.slots)
    (r : ∀ T' h' b, b = h.size → Stand p l e R s m args below meth c T' locs (cells + 1) (slots + sl) → T'.heap = h' → Ext h h' → Exa Z h' b C → (∀ {O nm d : String} {ty : FieldType}, Laid Z a0 C O nm d → parseFieldDescriptor d = some ty → Fld Z h' b O nm d (defaultValue ty)) → Till p e below s Q k n (T'.setTop (mkF m (pc + 3) Ls (.ref b :: rest)))) : Till p e below s Q k n (T.setTop (mkF m pc Ls rest)) := by
  obtain ⟨T', h', X', e', E, A, D, -, st⟩ := Jvm.RoadKit.newO X hx hZ hown w wi wz eT (g := mkF m pc Ls rest) rfl hd hc hl
  exact Till.pre st (r T' h' _ rfl X' e' E A D)
theorem Till.initO (X : Stand p l e R s m args below meth c T locs cells slots) (hx : p.tables.exec = Jvm.exec) (hZ : Z.Warmed39 s.vm) {own : String} {idx : Nat} (hown : s.vm.findClass own = some m.cls) (w1 : (Jvm.Cond.methodLink own idx Lib.objectInit).before a0 Z = true) (w2 : (Jvm.Cond.instanceMethod Lib.objectInit).before a0 Z = true) (w3 : (Jvm.Cond.code Lib.objectInit ⟨#[0xb1]⟩ 1 none).before a0 Z = true) (eT : T.heap = h) (hsize : Ls.size = c.maxLocals) {a : Addr} (hd : decode c.code pc = .ok (.invokespecial idx, 3))
    (hf : 1 ≤ R.frames) {W : Nat} (hW : (rest.map fun v => v.category).sum ≤ W) (hl : W + 12 ≤ R.locals)
    (r : ∀ T', Stand p l e R s m args below meth c T' locs cells slots → T'.heap = h → Till p e below s Q k n (T'.setTop (mkF m (pc + 3) Ls rest))) : Till p e below s Q k n (T.setTop (mkF m pc Ls (.ref a :: rest))) := by
  obtain ⟨T', X', e', st⟩ := Jvm.RoadKit.initO X hx hZ hown w1 w2 w3 eT (g := mkF m pc Ls (.ref a :: rest)) rfl hsize rfl hd hf (W := W) (by show 2 * 0 + _ ≤ _; omega) hl
  exact Till.pre st (r T' X' e')
/-! arrays: what they hold, as a function of the place -/
def AR {α : Type} (ty : FieldType) (w : α → Value) (Z : State) (h : Heap) (a : Addr) (z : Int32) (f : Nat → α) : Prop := ∃ c : Cell, Arr Z h a c ty ∧ c.slots.size = z.toNatClampNeg ∧ ¬ z < 0 ∧ ∀ i, i < c.slots.size → c.slots[i]? = some (w (f i))
abbrev LA := @AR Int64 .long Value.long
abbrev IA := @AR Int32 .int Value.int
abbrev BA := @AR Int32 .byte Value.int
def oupd {α : Type} (f : Nat → α) (i : Nat) (v : α) : Nat → α := fun x => if x = i then v else f x
theorem upd_hit {α : Type} {f : Nat → α} {i j : Nat} {v : α} (q : j = i) : oupd f i v j = v := if_pos q
theorem upd_miss {α : Type} {f : Nat → α} {i j : Nat} {v : α} (q : ¬ j = i) : oupd f i v j = f j := if_neg q
section Ary
variable {α : Type} {ty : FieldType} {w : α → Value} {a b : Addr} {z j : Int32} {f : Nat → α} {ws : List Addr} {sl : Nat} {v : Value}
theorem AR.lt (A : AR ty w Z h a z f) : a < h.size := by obtain ⟨c, A, -⟩ := A; exact A.lt
theorem AR.pos (A : AR ty w Z h a z f) : ¬ z < 0 := by obtain ⟨c, -, -, q, -⟩ := A; exact q
theorem AR.ext (A : AR ty w Z h a z f) (E : Ext h h') : AR ty w Z h' a z f := by obtain ⟨c, A, r⟩ := A; exact ⟨c, A.ext E, r⟩
theorem AR.keep (A : AR ty w Z h a z f) (K : Keep h h' ws) (q : a ∉ ws) : AR ty w Z h' a z f := by obtain ⟨c, A, r⟩ := A; exact ⟨c, ⟨K.2.1 a c A.1 q, A.2⟩, r⟩
theorem AR.wr (A : AR ty w Z h a z f) (W : Wr h h' b sl v) (q : a ≠ b) : AR ty w Z h' a z f := by obtain ⟨c, A, r⟩ := A; exact ⟨c, A.other W q, r⟩
theorem AR.congr {g : Nat → α} (A : AR ty w Z h a z f) (q : ∀ i, i < z.toNatClampNeg → f i = g i) : AR ty w Z h a z g := by obtain ⟨c, A, S, N, H⟩ := A; exact ⟨c, A, S, N, fun i hi => by rw [H i hi, q i (S ▸ hi)]⟩
theorem AR.set {x : α} (A : AR ty w Z h a z f) (W : Wr h h' a j.toNatClampNeg (w x)) : AR ty w Z h' a z (oupd f j.toNatClampNeg x) := by
  obtain ⟨c, A, S, N, H⟩ := A
  refine ⟨_, A.same W, by rw [sz_set]; exact S, N, fun i hi => ?_⟩
  rw [sz_set] at hi
  by_cases u : i = j.toNatClampNeg
  · rw [upd_hit u]; subst u; simp [Cell.setSlot, hi]
  · rw [upd_miss u]; simp only [Cell.setSlot]; rw [Array.getElem?_setIfInBounds_ne (Ne.symm u)]; exact H i hi
theorem Till.newA {aty : ArrayType} {d0 : α} (X : Stand p l e R s m args below meth c T locs cells slots) (hx : p.tables.exec = Jvm.exec) (hZ : Z.Warmed39 s.vm) (wa : (Jvm.Cond.arrayClass (newarray.typeOf aty)).before a0 Z = true) (eT : T.heap = h) (hd : decode c.code pc = .ok (.newarray aty, 2)) (hdv : defaultValue (newarray.typeOf aty) = w d0) (hz : ¬ z < 0) (cap : Nat) (hcap : z.toNatClampNeg ≤ cap) (hb : cap * 8 ≤ 536870912) (hc : cells + 1 ≤ R.cells) (hl : slots + cap ≤ R.slots)
    (r : ∀ T' h' b, b = h.size → Stand p l e R s m args below meth c T' locs (cells + 1) (slots + cap) → T'.heap = h' → Ext h h' → AR (newarray.typeOf aty) w Z h' b z (fun _ => d0) → Till p e below s Q k n (T'.setTop (mkF m (pc + 2) Ls (.ref b :: rest)))) : Till p e below s Q k n (T.setTop (mkF m pc Ls (.int z :: rest))) := by
  obtain ⟨T', h', cA, X', e', E, A, st⟩ := newP X hx hZ wa eT (g := mkF m pc Ls (.int z :: rest)) rfl hd rfl hz (cap := cap) hcap hb hc hl
  exact Till.pre st (r T' h' _ rfl X' e' E ⟨_, A, sz_new _ _ _, hz, fun i hi => by rw [sz_new] at hi; simp [Jvm.RoadKit.newA, hi, hdv]⟩)
theorem Till.alen (A : AR ty w Z h a z f) (X : Stand p l e R s m args below meth c T locs cells slots) (hx : p.tables.exec = Jvm.exec) (hZ : Z.Warmed39 s.vm) (eT : T.heap = h) (hd : decode c.code pc = .ok (.arraylength, 1))
    (r : Till p e below s Q k n (T.setTop (mkF m (pc + 1) Ls (.int z :: rest)))) : Till p e below s Q k n (T.setTop (mkF m pc Ls (.ref a :: rest))) := by
  obtain ⟨c', A, S, N, H⟩ := A
  refine Till.pre (X.arraylength hx (by rw [eT]; exact A.1) (State.isArrayOf_alike hZ.alike A.2.1) (g := mkF m pc Ls (.ref a :: rest)) rfl rfl hd) ?_
  rw [len_of S N]; exact r
theorem AR.at (A : AR ty w Z h a z f) (h1 : ¬ j < 0) (h2 : j < z) : ∃ c : Cell, Arr Z h a c ty ∧ ¬ (j < 0 ∨ c.slots.size ≤ j.toNatClampNeg) ∧ c.slots[j.toNatClampNeg]? = some (w (f j.toNatClampNeg)) := by
  obtain ⟨c', A, S, N, H⟩ := A
  have hin := inb_of S ⟨h1, h2⟩
  exact ⟨c', A, hin, H _ (Nat.lt_of_not_le fun y => hin (Or.inr y))⟩
end Ary
section Acc
variable {a : Addr} {z j : Int32}
theorem Till.laload {f : Nat → Int64} (A : LA Z h a z f) (h1 : ¬ j < 0) (h2 : j < z) (X : Stand p l e R s m args below meth c T locs cells slots) (hx : p.tables.exec = Jvm.exec) (hZ : Z.Warmed39 s.vm) (eT : T.heap = h) (hd : decode c.code pc = .ok (.laload, 1))
    (r : Till p e below s Q k n (T.setTop (mkF m (pc + 1) Ls (.long (f j.toNatClampNeg) :: rest)))) : Till p e below s Q k n (T.setTop (mkF m pc Ls (.int j :: .ref a :: rest))) := by
  obtain ⟨c', A, hin, hv⟩ := A.at h1 h2
  exact Till.pre (X.laload hx (by rw [eT]; exact A.1) (State.isArrayOf_alike hZ.alike A.2.1) A.2.2 hin hv (g := mkF m pc Ls (.int j :: .ref a :: rest)) rfl rfl hd) r
theorem Till.iaload {f : Nat → Int32} (A : IA Z h a z f) (h1 : ¬ j < 0) (h2 : j < z) (X : Stand p l e R s m args below meth c T locs cells slots) (hx : p.tables.exec = Jvm.exec) (hZ : Z.Warmed39 s.vm) (eT : T.heap = h) (hd : decode c.code pc = .ok (.iaload, 1))
    (r : Till p e below s Q k n (T.setTop (mkF m (pc + 1) Ls (.int (f j.toNatClampNeg) :: rest)))) : Till p e below s Q k n (T.setTop (mkF m pc Ls (.int j :: .ref a :: rest))) := by
  obtain ⟨c', A, hin, hv⟩ := A.at h1 h2
  exact Till.pre (X.iaload hx (by rw [eT]; exact A.1) (State.isArrayOf_alike hZ.alike A.2.1) A.2.2 hin hv (g := mkF m pc Ls (.int j :: .ref a :: rest)) rfl rfl hd) r
theorem Till.baload {f : Nat → Int32} (A : BA Z h a z f) (h1 : ¬ j < 0) (h2 : j < z) (X : Stand p l e R s m args below meth c T locs cells slots) (hx : p.tables.exec = Jvm.exec) (hZ : Z.Warmed39 s.vm) (eT : T.heap = h) (hd : decode c.code pc = .ok (.baload, 1))
    (r : Till p e below s Q k n (T.setTop (mkF m (pc + 1) Ls (.int (f j.toNatClampNeg) :: rest)))) : Till p e below s Q k n (T.setTop (mkF m pc Ls (.int j :: .ref a :: rest))) := by
  obtain ⟨c', A, hin, hv⟩ := A.at h1 h2
  exact Till.pre (X.baloadBytes hx (by rw [eT]; exact A.1) (State.isArrayOf_alike hZ.alike A.2.1) A.2.2 hin hv (g := mkF m pc Ls (.int j :: .ref a :: rest)) rfl rfl hd) r
theorem Till.lastore {f : Nat → Int64} {x : Int64} (A : LA Z h a z f) (h1 : ¬ j < 0) (h2 : j < z) (X : Stand p l e R s m args below meth c T locs cells slots) (hx : p.tables.exec = Jvm.exec) (hZ : Z.Warmed39 s.vm) (eT : T.heap = h) (hd : decode c.code pc = .ok (.lastore, 1))
    (r : ∀ T' h', Stand p l e R s m args below meth c T' (locs ++ [⟨a, j.toNatClampNeg⟩]) cells slots → T'.heap = h' → Wr h h' a j.toNatClampNeg (.long x) → LA Z h' a z (oupd f j.toNatClampNeg x) → Till p e below s Q k n (T'.setTop (mkF m (pc + 1) Ls rest))) : Till p e below s Q k n (T.setTop (mkF m pc Ls (.long x :: .int j :: .ref a :: rest))) := by
  obtain ⟨c', A', hin, hv⟩ := A.at h1 h2
  obtain ⟨T', h', X', e', W, st⟩ := stJ X hx hZ eT A' hin (x := x) (g := mkF m pc Ls (.long x :: .int j :: .ref a :: rest)) rfl rfl hd
  exact Till.pre st (r T' h' X' e' W (AR.set A W))
theorem Till.iastore {f : Nat → Int32} {x : Int32} (A : IA Z h a z f) (h1 : ¬ j < 0) (h2 : j < z) (X : Stand p l e R s m args below meth c T locs cells slots) (hx : p.tables.exec = Jvm.exec) (hZ : Z.Warmed39 s.vm) (eT : T.heap = h) (hd : decode c.code pc = .ok (.iastore, 1))
    (r : ∀ T' h', Stand p l e R s m args below meth c T' (locs ++ [⟨a, j.toNatClampNeg⟩]) cells slots → T'.heap = h' → Wr h h' a j.toNatClampNeg (.int x) → IA Z h' a z (oupd f j.toNatClampNeg x) → Till p e below s Q k n (T'.setTop (mkF m (pc + 1) Ls rest))) : Till p e below s Q k n (T.setTop (mkF m pc Ls (.int x :: .int j :: .ref a :: rest))) := by
  obtain ⟨c', A', hin, hv⟩ := A.at h1 h2
  obtain ⟨T', h', X', e', W, st⟩ := stI X hx hZ eT A' hin (x := x) (g := mkF m pc Ls (.int x :: .int j :: .ref a :: rest)) rfl rfl hd
  exact Till.pre st (r T' h' X' e' W (AR.set A W))
theorem Till.bastore {f : Nat → Int32} {x : Int32} (A : BA Z h a z f) (h1 : ¬ j < 0) (h2 : j < z) (X : Stand p l e R s m args below meth c T locs cells slots) (hx : p.tables.exec = Jvm.exec) (hZ : Z.Warmed39 s.vm) (eT : T.heap = h) (hd : decode c.code pc = .ok (.bastore, 1))
    (r : ∀ T' h', Stand p l e R s m args below meth c T' (locs ++ [⟨a, j.toNatClampNeg⟩]) cells slots → T'.heap = h' → Wr h h' a j.toNatClampNeg (.int x.toInt8.toInt32) → BA Z h' a z (oupd f j.toNatClampNeg x.toInt8.toInt32) → Till p e below s Q k n (T'.setTop (mkF m (pc + 1) Ls rest))) : Till p e below s Q k n (T.setTop (mkF m pc Ls (.int x :: .int j :: .ref a :: rest))) := by
  obtain ⟨c', A', hin, hv⟩ := A.at h1 h2
  obtain ⟨T', h', X', e', W, st⟩ := stB X hx hZ eT A' hin (x := x) (g := mkF m pc Ls (.int x :: .int j :: .ref a :: rest)) rfl rfl hd
  exact Till.pre st (r T' h' X' e' W (AR.set A W))
end Acc
/-! calls -/
section Calls
variable {own : String} {index maxL : Nat} {y : MethodName} {bytes : ByteArray} {ret : Option FieldType} {rm : Room} {as : Array Value} {Qc : Option Value → Heap → List Loc → Prop} {W : Nat} {argsL st : List Value}
theorem Till.callS (C : Ctr l Z y bytes maxL ret rm as h Qc) (X : Stand p l e R s m args below meth c T locs cells slots) (hx : p.tables.exec = Jvm.exec) (hZ : Z.Warmed39 s.vm) (hown : s.vm.findClass own = some m.cls) (w1 : (Jvm.Cond.methodLink own index y).before a0 Z = true) (w2 : (Jvm.Cond.static y).before a0 Z = true) (w3 : (Jvm.Cond.initialized y.cls).before a0 Z = true) (w4 : (Jvm.Cond.code y bytes maxL ret).before a0 Z = true)
    (hy : y.cls ≠ "java/lang/invoke/MethodHandle" ∧ y.cls ≠ "java/lang/invoke/VarHandle") (hf : rm.frames + 1 ≤ R.frames) (hl : W + (maxL + 11) + rm.locals ≤ R.locals) (hsize : Ls.size = c.maxLocals) (hlen : ∀ sig, parseMethodDescriptor y.desc = some sig → argsL.length = sig.parameters.length) (has : argsL.toArray = as) (hst : st = argsL.reverse ++ rest) (hW : (rest.map fun v => v.category).sum ≤ W) (hd : decode c.code pc = .ok (.invokestatic index, 3)) (eT : T.heap = h) (hc : cells + rm.cells ≤ R.cells) (hs : slots + rm.slots ≤ R.slots)
    (r : ∀ v T' L, Stand p l e R s m args below meth c T' (locs ++ L) (cells + rm.cells) (slots + rm.slots) → Qc v T'.heap L → Till p e below s Q k n (T'.setTop (mkF m (pc + 3) Ls (v.toList ++ rest)))) : Till p e below s Q k n (T.setTop (mkF m pc Ls st)) := by
  obtain ⟨v, vm1, ⟨T', L', c', s'⟩, -, X', ⟨Lc, hQ, l1, y1, z1⟩, stp⟩ := Jvm.LawKit.callS X hx hown (mvT hZ w1) (mvT hZ w2) (mvT hZ w3) (mvT hZ w4) hy (backOf (W := W) (C []) hZ w4 w3 hf hl) (g := mkF m pc Ls st) rfl hsize (argsL := argsL) (rest := rest) hlen hst (by show 2 * 0 + _ ≤ _; omega) hd (fun _ _ => ⟨has, eT, hc, hs⟩)
  dsimp only [Pt.U, Pt.locs, Pt.cells, Pt.slots] at X' l1 y1 z1 stp hQ
  subst l1 y1 z1
  exact Till.pre stp (r v T' Lc X' hQ)
theorem Till.callC {a : Addr} (C : Ctr l Z y bytes maxL none rm as h Qc) (X : Stand p l e R s m args below meth c T locs cells slots) (hx : p.tables.exec = Jvm.exec) (hZ : Z.Warmed39 s.vm) (hown : s.vm.findClass own = some m.cls) (hy1 : y.name = "<init>") (w1 : (Jvm.Cond.methodLink own index y).before a0 Z = true) (w2 : (Jvm.Cond.instanceMethod y).before a0 Z = true) (w3 : (Jvm.Cond.initialized y.cls).before a0 Z = true) (w4 : (Jvm.Cond.code y bytes maxL none).before a0 Z = true)
    (hy : y.cls ≠ "java/lang/invoke/MethodHandle" ∧ y.cls ≠ "java/lang/invoke/VarHandle") (hf : rm.frames + 1 ≤ R.frames) (hl : W + (maxL + 11) + rm.locals ≤ R.locals) (hsize : Ls.size = c.maxLocals) (hlen : ∀ sig, parseMethodDescriptor y.desc = some sig → argsL.length = sig.parameters.length) (has : (.ref a :: argsL).toArray = as) (hst : st = argsL.reverse ++ .ref a :: rest) (hW : (rest.map fun v => v.category).sum ≤ W) (hd : decode c.code pc = .ok (.invokespecial index, 3)) (eT : T.heap = h) (hc : cells + rm.cells ≤ R.cells) (hs : slots + rm.slots ≤ R.slots)
    (r : ∀ v T' L, Stand p l e R s m args below meth c T' (locs ++ L) (cells + rm.cells) (slots + rm.slots) → Qc v T'.heap L → Till p e below s Q k n (T'.setTop (mkF m (pc + 3) Ls (v.toList ++ rest)))) : Till p e below s Q k n (T.setTop (mkF m pc Ls st)) := by
  obtain ⟨v, vm1, ⟨T', L', c', s'⟩, -, X', ⟨Lc, hQ, l1, y1, z1⟩, stp⟩ := X.specialBack hx hy1 hown (mvT hZ w1) (mvT hZ w2) (mvT hZ w4) hy (backOf (W := W) (C []) hZ w4 w3 hf hl) (g := mkF m pc Ls st) rfl hsize (Steps.refl _) (a := a) (argsL := argsL) (rest := rest) hlen hst (by show 2 * 0 + _ ≤ _; omega) hd (fun _ _ => ⟨has, eT, hc, hs⟩)
  dsimp only [Pt.U, Pt.locs, Pt.cells, Pt.slots] at X' l1 y1 z1 stp hQ
  subst l1 y1 z1
  exact Till.via stp (r v T' Lc X' hQ)
theorem Till.callV {a : Addr} (C : Ctr l Z y bytes maxL ret rm as h Qc) (E : Exa Z h a y.cls) (X : Stand p l e R s m args below meth c T locs cells slots) (hx : p.tables.exec = Jvm.exec) (hZ : Z.Warmed39 s.vm) (hown : s.vm.findClass own = some m.cls) (w1 : (Jvm.Cond.methodLink own index y).before a0 Z = true) (w5 : (Jvm.Cond.declares y).before a0 Z = true) (w6 : (Jvm.Cond.selects y.cls y y).before a0 Z = true) (w2 : (Jvm.Cond.instanceMethod y).before a0 Z = true) (w3 : (Jvm.Cond.initialized y.cls).before a0 Z = true) (w4 : (Jvm.Cond.code y bytes maxL ret).before a0 Z = true)
    (hy : y.cls ≠ "java/lang/invoke/MethodHandle" ∧ y.cls ≠ "java/lang/invoke/VarHandle") (hf : rm.frames + 1 ≤ R.frames) (hl : W + (maxL + 11) + rm.locals ≤ R.locals) (hsize : Ls.size = c.maxLocals) (hlen : ∀ sig, parseMethodDescriptor y.desc = some sig → argsL.length = sig.parameters.length) (has : (.ref a :: argsL).toArray = as) (hst : st = argsL.reverse ++ .ref a :: rest) (hW : (rest.map fun v => v.category).sum ≤ W) (hd : decode c.code pc = .ok (.invokevirtual index, 3)) (eT : T.heap = h) (hc : cells + rm.cells ≤ R.cells) (hs : slots + rm.slots ≤ R.slots)
    (r : ∀ v T' L, Stand p l e R s m args below meth c T' (locs ++ L) (cells + rm.cells) (slots + rm.slots) → Qc v T'.heap L → Till p e below s Q k n (T'.setTop (mkF m (pc + 3) Ls (v.toList ++ rest)))) : Till p e below s Q k n (T.setTop (mkF m pc Ls st)) := by
  obtain ⟨cq, kq, qa, qb, qc⟩ := isOf hZ eT E
  obtain ⟨v, vm1, ⟨T', L', c', s'⟩, -, X', ⟨Lc, hQ, l1, y1, z1⟩, stp⟩ := X.virtualBack hx (y := y) (z := y) hown (mvT hZ w1) (mvT hZ w5) (notFace_of_selects (args := #[]) (mvT hZ w6)) (mvT hZ w6) (mvT hZ w2) hy (backOf (W := W) (C []) hZ w4 w3 hf hl) qa qc (g := mkF m pc Ls st) rfl hsize (Steps.refl _) (argsL := argsL) (rest := rest) hlen hst (by show 2 * 0 + _ ≤ _; omega) hd (fun _ _ => ⟨has, eT, hc, hs⟩)
  dsimp only [Pt.U, Pt.locs, Pt.cells, Pt.slots] at X' l1 y1 z1 stp hQ
  subst l1 y1 z1
  exact Till.via stp (r v T' Lc X' hQ)
theorem Till.callP {a : Addr} {kk : Nat} (C : Ctr l Z y bytes maxL ret rm as h Qc) (E : Exa Z h a y.cls) (X : Stand p l e R s m args below meth c T locs cells slots) (hx : p.tables.exec = Jvm.exec) (hZ : Z.Warmed39 s.vm) (hown : s.vm.findClass own = some m.cls) (w1 : (Jvm.Cond.methodLink own index y).before a0 Z = true) (w2 : (Jvm.Cond.instanceMethod y).before a0 Z = true) (wp : (Jvm.Cond.privateMethod y).before a0 Z = true) (wi : (Jvm.Cond.instantiable y.cls kk).before a0 Z = true) (w3 : (Jvm.Cond.initialized y.cls).before a0 Z = true) (w4 : (Jvm.Cond.code y bytes maxL ret).before a0 Z = true)
    (hy : y.cls ≠ "java/lang/invoke/MethodHandle" ∧ y.cls ≠ "java/lang/invoke/VarHandle") (hf : rm.frames + 1 ≤ R.frames) (hl : W + (maxL + 11) + rm.locals ≤ R.locals) (hsize : Ls.size = c.maxLocals) (hlen : ∀ sig, parseMethodDescriptor y.desc = some sig → argsL.length = sig.parameters.length) (has : (.ref a :: argsL).toArray = as) (hst : st = argsL.reverse ++ .ref a :: rest) (hW : (rest.map fun v => v.category).sum ≤ W) (hd : decode c.code pc = .ok (.invokevirtual index, 3)) (eT : T.heap = h) (hc : cells + rm.cells ≤ R.cells) (hs : slots + rm.slots ≤ R.slots)
    (r : ∀ v T' L, Stand p l e R s m args below meth c T' (locs ++ L) (cells + rm.cells) (slots + rm.slots) → Qc v T'.heap L → Till p e below s Q k n (T'.setTop (mkF m (pc + 3) Ls (v.toList ++ rest)))) : Till p e below s Q k n (T.setTop (mkF m pc Ls st)) := by
  have wi' : (Jvm.Cond.instantiable y.cls kk).before args s = true := mvT hZ wi
  have w2' : (Jvm.Cond.instanceMethod y).before args s = true := mvT hZ w2
  obtain ⟨c2, k2, i1, i2, -, hniab, -, -⟩ := Cond.instantiable_spec wi'
  have hpr := Cond.privateMethod_at (mvP hZ wp (args := args))
  have hsel : (Jvm.Cond.selects y.cls y y).before args s = true := selects_self_of_private i1 i2 (Bool.or_eq_false_iff.mp hniab).1 hpr w2' hy
  obtain ⟨cell, hcell, hobj⟩ := E.cell
  obtain ⟨v, vm1, ⟨T', L', c', s'⟩, -, X', ⟨Lc, hQ, l1, y1, z1⟩, stp⟩ := X.privateBack hx hown (mvT hZ w1) w2' hsel hpr (mvT hZ w4) hy (backOf (W := W) (C []) hZ w4 w3 hf hl) (g := mkF m pc Ls st) rfl hsize (Steps.refl _) (a := a) (by rw [eT]; exact hcell) hobj (argsL := argsL) (rest := rest) hlen hst (by show 2 * 0 + _ ≤ _; omega) hd (fun _ _ => ⟨has, eT, hc, hs⟩)
  dsimp only [Pt.U, Pt.locs, Pt.cells, Pt.slots] at X' l1 y1 z1 stp hQ
  subst l1 y1 z1
  exact Till.via stp (r v T' Lc X' hQ)
end Calls
theorem Till.pop2L {x : Int64} (X : Stand p l e R s m args below meth c T locs cells slots) (hx : p.tables.exec = Jvm.exec) (hd : decode c.code pc = .ok (.pop2, 1)) (r : Till p e below s Q k n (T.setTop (mkF m (pc + 1) Ls rest))) : Till p e below s Q k n (T.setTop (mkF m pc Ls (.long x :: rest))) := by
  refine Till.pre (fun t hr => ?_) r
  show Steps p.tables e below (T.setTop { method := m, pc := pc, locals := Ls, stack := _ :: rest, locked := none }) _
  jvm_step X.here [X.here.top, hx, hd, Value.category]
  exact hr
end Own
end Jvm.Own
namespace Jvm.Pilot.@@N@@
open Jvm Jvm.ClassFile Sem Op Lib Jvm.Free Jvm.Stand Jvm.LawKit Jvm.RoadKit Bundle Jvm.Own Jvm.Pilot.@@N@@.Jvm.D
theorem own_ax {x y : Int64} (h : -9223372036854775808 ≤ x.toInt + y.toInt ∧ x.toInt + y.toInt < 9223372036854775808) : ¬ (((x ^^^ (x + y)) &&& (y ^^^ (x + y))) < (0 : Int64)) := by
  have hr := c_ladd x y
  have rr := rng64 (x + y)
  have e : (x + y).toInt = x.toInt + y.toInt := by omega
  generalize x + y = r at *
  have a1 := c_xorSL x r
  have a2 := c_xorSL y r
  have a3 := c_andSL (x ^^^ r) (y ^^^ r)
  rw [Int64.lt_iff_toInt_lt, show (0 : Int64).toInt = 0 from rfl]
  rcases Int.lt_or_le x.toInt 0 with h1 | h1 <;> rcases Int.lt_or_le y.toInt 0 with h2 | h2 <;> rcases Int.lt_or_le r.toInt 0 with h3 | h3 <;> simp only [h1, h2, h3, true_implies] at a1 a2 a3 <;> omega
theorem own_o1 {x : Int64} (h : x.toInt < 9223372036854775807) : -9223372036854775808 ≤ x.toInt + (1 : Int64).toInt ∧ x.toInt + (1 : Int64).toInt < 9223372036854775808 := by
  have := rng64 x
  have : (1 : Int64).toInt = 1 := rfl
  omega
theorem own_add2 (x : Int64) : (x + (1 : Int64)) + (1 : Int64) = x + (2 : Int64) := by rw [Int64.add_assoc]; rfl
theorem own_p1 {x : Int64} {K : Int} (h : x.toInt ≤ K) (hK : K < 9223372036854775807) : (x + (1 : Int64)).toInt ≤ K + 1 := by
  have := c_ladd x 1
  have := rng64 x
  have := rng64 (x + 1)
  have : (1 : Int64).toInt = 1 := rfl
  omega
def Clk (Z : State) (h : Heap) (a : Addr) (x0 : Int64) : Prop := Exa Z h a "com/example/arbiter/arbiter/LamportClock" ∧ Fld Z h a "com/example/arbiter/arbiter/LamportClock" "time" "J" (.long x0)
theorem Clk.lt {Z : State} {h : Heap} {a : Addr} {x0 : Int64} (F : Clk Z h a x0) : a < h.size := F.1.lt
theorem Clk.ext {Z : State} {h h' : Heap} {a : Addr} {x0 : Int64} (F : Clk Z h a x0) (E : Ext h h') : Clk Z h' a x0 := ⟨F.1.ext E, F.2.ext E⟩
theorem Clk.keep {Z : State} {h h' : Heap} {a : Addr} {x0 : Int64} {ws : List Addr} (F : Clk Z h a x0) (K : Keep h h' ws) (q : a ∉ ws) : Clk Z h' a x0 := ⟨F.1.keep K, F.2.keep K q⟩
theorem Clk.wr {Z : State} {h h' : Heap} {a : Addr} {x0 : Int64} {b : Addr} {sl : Nat} {v : Value} (F : Clk Z h a x0) (W : Wr h h' b sl v) (q : a ≠ b) : Clk Z h' a x0 := ⟨F.1.wr W, F.2.other W (Or.inl q)⟩
theorem Clk.set_time {Z : State} {h h' : Heap} {a : Addr} {x0 : Int64} {y : Int64} {a0 : Array Value} (hw : ∀ d ∈ tables_1, d.before a0 Z = true) (F : Clk Z h a x0) (W : Wr h h' a (Jvm.RoadKit.slotOf Z "com/example/arbiter/arbiter/LamportClock" "time" "J") (.long y)) : Clk Z h' a y := ⟨F.1.wr W, F.2.same W⟩
theorem d1_0 : decode prog_4_method_1_code 0 = .ok (.aload_n 0, 1) := by decide +kernel
theorem d1_1 : decode prog_4_method_1_code 1 = .ok (.invokespecial 1, 3) := by decide +kernel
theorem d1_4 : decode prog_4_method_1_code 4 = .ok (.return_, 1) := by decide +kernel
theorem pn_1 : plainName "com/example/arbiter/arbiter/LamportClock" = true := by first | (simp [plainName, overriddenIn]; done) | decide +kernel
theorem ef_1 (m : MethodId) (a1 : Addr) : entryFrame m #[(.ref a1)] 1 = mkF m 0 #[.val (.ref a1)] [] := by first | (simp [entryFrame, mkF, argsToLocals, Value.category]; done) | rfl
def Q1 (Z : State) (a1 : Addr) (w1 : Int64) (h0 : Heap) (n0 : Nat) : Option Value → Heap → List Loc → Prop := fun v h L => v = none ∧ Fr n0 L ∧ Keep h0 h [a1] ∧ Clk Z h a1 w1
def room1 : Room := { frames := 1, cells := 0, slots := 0, locals := 12 }
set_option maxRecDepth 65536 in
set_option maxHeartbeats 40000000 in
theorem rm1 (l : Launch) (Z : State) (a0 : Array Value) (hw : ∀ d ∈ tables_1, d.before a0 Z = true) (a1 : Addr) (w1 : Int64) (h0 : Heap) (n0 : Nat) (Zs : n0 ≤ h0.size) (R_a1 : Clk Z h0 a1 w1) (g_a1 : n0 ≤ a1) : Ctr l Z (⟨"com/example/arbiter/arbiter/LamportClock", "<init>", "()V"⟩ : MethodName) prog_4_method_1_code 1 none room1 #[(.ref a1)] h0 (Q1 Z a1 w1 h0 n0) := by
  refine Ctr.of (plainFor_of_name pn_1) ?_
  intro p e s m below meth c s₁ hx hby hml hown hnm hret hlk hZ e0 X0
  have hown : s.vm.findClass "com/example/arbiter/arbiter/LamportClock" = some m.cls := hown
  have hml : c.maxLocals = 1 := hml
  have hnm : meth.name = "<init>" := hnm
  have hret : meth.sig.returnType = none := hret
  have N0 := Fr.nil n0
  refine Till.cast (ef_1 m a1) ?_
  have Kp := Keep.refl h0 [a1]
  show Till p e below s (Q1 Z a1 w1 h0 n0) room1.cells room1.slots (s₁.setTop (mkF m 0 #[.val (.ref a1)] []))
  refine Till.pre (fun _ hr => XS.aloadN X0.here hx rfl (hb hby d1_0) rfl rfl hr) ?_
  show Till p e below s (Q1 Z a1 w1 h0 n0) room1.cells room1.slots (s₁.setTop (mkF m 1 #[.val (.ref a1)] [(.ref a1)]))
  refine Till.initO X0 hx hZ hown (hw _ (List.mem_of_getElem? (i := 6) rfl)) (hw _ (List.mem_of_getElem? (i := 7) rfl)) (hw _ (List.mem_of_getElem? (i := 8) rfl)) e0 (by rw [hml]; rfl) (hb hby d1_1) (by decide) (W := 0) (Nat.le_of_eq rfl) (by decide) (fun T1 X2 e3 => ?_)
  show Till p e below s (Q1 Z a1 w1 h0 n0) room1.cells room1.slots (T1.setTop (mkF m 4 #[.val (.ref a1)] []))
  refine Till.retV X2 hx hret hlk (hb hby d1_4) (by decide) (by decide) ?_
  show (Q1 Z a1 w1 h0 n0) _ T1.heap _
  rw [e3]
  exact ⟨rfl, N0, Kp, R_a1⟩
theorem d5_0 : decode prog_4_method_2_code 0 = .ok (.aload_n 0, 1) := by decide +kernel
theorem d5_1 : decode prog_4_method_2_code 1 = .ok (.getfield 7, 3) := by decide +kernel
theorem d5_4 : decode prog_4_method_2_code 4 = .ok (.lreturn, 1) := by decide +kernel
theorem ef_5 (m : MethodId) (a1 : Addr) : entryFrame m #[(.ref a1)] 1 = mkF m 0 #[.val (.ref a1)] [] := by first | (simp [entryFrame, mkF, argsToLocals, Value.category]; done) | rfl
def Q5 (Z : State) (a1 : Addr) (w1 : Int64) (h0 : Heap) (n0 : Nat) : Option Value → Heap → List Loc → Prop := fun v h L => v = some (Value.long w1) ∧ Fr n0 L ∧ h = h0
def room5 : Room := { frames := 0, cells := 0, slots := 0, locals := 0 }
set_option maxRecDepth 65536 in
set_option maxHeartbeats 40000000 in
theorem rm5 (l : Launch) (Z : State) (a0 : Array Value) (hw : ∀ d ∈ tables_1, d.before a0 Z = true) (a1 : Addr) (w1 : Int64) (h0 : Heap) (n0 : Nat) (R_a1 : Clk Z h0 a1 w1) : Ctr l Z (⟨"com/example/arbiter/arbiter/LamportClock", "time", "()J"⟩ : MethodName) prog_4_method_2_code 1 (some .long) room5 #[(.ref a1)] h0 (Q5 Z a1 w1 h0 n0) := by
  refine Ctr.of (plainFor_of_name pn_1) ?_
  intro p e s m below meth c s₁ hx hby hml hown hnm hret hlk hZ e0 X0
  have hown : s.vm.findClass "com/example/arbiter/arbiter/LamportClock" = some m.cls := hown
  have hml : c.maxLocals = 1 := hml
  have hnm : meth.name = "time" := hnm
  have hret : meth.sig.returnType = (some .long) := hret
  have N0 := Fr.nil n0
  refine Till.cast (ef_5 m a1) ?_
  show Till p e below s (Q5 Z a1 w1 h0 n0) room5.cells room5.slots (s₁.setTop (mkF m 0 #[.val (.ref a1)] []))
  refine Till.pre (fun _ hr => XS.aloadN X0.here hx rfl (hb hby d5_0) rfl rfl hr) ?_
  show Till p e below s (Q5 Z a1 w1 h0 n0) room5.cells room5.slots (s₁.setTop (mkF m 1 #[.val (.ref a1)] [(.ref a1)]))
  refine Till.getF X0 hx hZ hown (hw _ (List.mem_of_getElem? (i := 15) rfl)) e0 R_a1.2 (hb hby d5_1) (fun T1 X2 e3 => ?_)
  show Till p e below s (Q5 Z a1 w1 h0 n0) room5.cells room5.slots (T1.setTop (mkF m 4 #[.val (.ref a1)] [(.long w1)]))
  refine Till.retJ X2 hx hret hlk (hb hby d5_4) (by decide) (by decide) ?_
  exact ⟨rfl, N0, e3⟩
theorem d3_0 : decode jdk_29_method_66_code 0 = .ok (.lload_n 0, 1) := by decide +kernel
theorem d3_1 : decode jdk_29_method_66_code 1 = .ok (.lload_n 2, 1) := by decide +kernel
theorem d3_2 : decode jdk_29_method_66_code 2 = .ok (.lcmp, 1) := by decide +kernel
theorem d3_3 : decode jdk_29_method_66_code 3 = .ok (.ifCond .lt 7, 3) := by decide +kernel
theorem d3_6 : decode jdk_29_method_66_code 6 = .ok (.lload_n 0, 1) := by decide +kernel
theorem d3_7 : decode jdk_29_method_66_code 7 = .ok (.goto 4, 3) := by decide +kernel
theorem d3_10 : decode jdk_29_method_66_code 10 = .ok (.lload_n 2, 1) := by decide +kernel
theorem d3_11 : decode jdk_29_method_66_code 11 = .ok (.lreturn, 1) := by decide +kernel
theorem ef_3 (m : MethodId) (q1 : Int64) (q2 : Int64) : entryFrame m #[(.long q1), (.long q2)] 4 = mkF m 0 #[.val (.long q1), .second, .val (.long q2), .second] [] := by first | (simp [entryFrame, mkF, argsToLocals, Value.category]; done) | rfl
def fn3 (q1 : Int64) (q2 : Int64) : Int64 := (if (q1 < q2) then q2 else q1)
def Q3 (Z : State) (q1 : Int64) (q2 : Int64) (h0 : Heap) (n0 : Nat) : Option Value → Heap → List Loc → Prop := fun v h L => v = some (Value.long (fn3 q1 q2)) ∧ Fr n0 L ∧ h = h0
def room3 : Room := { frames := 0, cells := 0, slots := 0, locals := 0 }
set_option maxRecDepth 65536 in
set_option maxHeartbeats 40000000 in
theorem rm3 (l : Launch) (Z : State) (a0 : Array Value) (hw : ∀ d ∈ tables_1, d.before a0 Z = true) (q1 : Int64) (q2 : Int64) (h0 : Heap) (n0 : Nat)  : Ctr l Z (⟨"java/lang/Math", "max", "(JJ)J"⟩ : MethodName) jdk_29_method_66_code 4 (some .long) room3 #[(.long q1), (.long q2)] h0 (Q3 Z q1 q2 h0 n0) := by
  refine Ctr.of (Jvm.Free.JP.mathPlain rfl (by decide +kernel)) ?_
  intro p e s m below meth c s₁ hx hby hml hown hnm hret hlk hZ e0 X0
  have hown : s.vm.findClass "java/lang/Math" = some m.cls := hown
  have hml : c.maxLocals = 4 := hml
  have hnm : meth.name = "max" := hnm
  have hret : meth.sig.returnType = (some .long) := hret
  have N0 := Fr.nil n0
  refine Till.cast (ef_3 m q1 q2) ?_
  show Till p e below s (Q3 Z q1 q2 h0 n0) room3.cells room3.slots (s₁.setTop (mkF m 0 #[.val (.long q1), .second, .val (.long q2), .second] []))
  refine Till.pre (fun _ hr => XS.lloadN X0.here hx rfl (hb hby d3_0) rfl hr) ?_
  show Till p e below s (Q3 Z q1 q2 h0 n0) room3.cells room3.slots (s₁.setTop (mkF m 1 #[.val (.long q1), .second, .val (.long q2), .second] [(.long q1)]))
  refine Till.pre (fun _ hr => XS.lloadN X0.here hx rfl (hb hby d3_1) rfl hr) ?_
  show Till p e below s (Q3 Z q1 q2 h0 n0) room3.cells room3.slots (s₁.setTop (mkF m 2 #[.val (.long q1), .second, .val (.long q2), .second] [(.long q2), (.long q1)]))
  refine Till.pre (fun _ hr => XS.lcmp X0.here hx rfl (hb hby d3_2) rfl hr) ?_
  show Till p e below s (Q3 Z q1 q2 h0 n0) room3.cells room3.slots (s₁.setTop (mkF m 3 #[.val (.long q1), .second, .val (.long q2), .second] [(.int (lcmpW q1 q2))]))
  have J11_1 : ∀ (v11s0 : Int64) (hv11s0 : v11s0 = (if (q1 < q2) then q2 else q1)), Till p e below s (Q3 Z q1 q2 h0 n0) room3.cells room3.slots (s₁.setTop (mkF m 11 #[.val (.long q1), .second, .val (.long q2), .second] [(.long v11s0)])) := by
    intro v11s0 hv11s0
    show Till p e below s (Q3 Z q1 q2 h0 n0) room3.cells room3.slots (s₁.setTop (mkF m 11 #[.val (.long q1), .second, .val (.long q2), .second] [(.long v11s0)]))
    refine Till.retJ X0 hx hret hlk (hb hby d3_11) (by decide) (by decide) ?_
    subst hv11s0
    exact ⟨rfl, N0, e0⟩
  refine Till.ifc (pc' := 10) X0.here hx (hb hby d3_3) (by decide) (by decide) (fun q => ?_) (fun q => ?_)
  · have hc1 := (lLt.mp (hLt.1 q))
    show Till p e below s (Q3 Z q1 q2 h0 n0) room3.cells room3.slots (s₁.setTop (mkF m 10 #[.val (.long q1), .second, .val (.long q2), .second] []))
    refine Till.pre (fun _ hr => XS.lloadN X0.here hx rfl (hb hby d3_10) rfl hr) ?_
    show Till p e below s (Q3 Z q1 q2 h0 n0) room3.cells room3.slots (s₁.setTop (mkF m 11 #[.val (.long q1), .second, .val (.long q2), .second] [(.long q2)]))
    exact J11_1 _ (Eq.symm (if_pos hc1))
  · have hc1 := (mt lLt.mpr (hLt.2.1 q))
    show Till p e below s (Q3 Z q1 q2 h0 n0) room3.cells room3.slots (s₁.setTop (mkF m 6 #[.val (.long q1), .second, .val (.long q2), .second] []))
    refine Till.pre (fun _ hr => XS.lloadN X0.here hx rfl (hb hby d3_6) rfl hr) ?_
    show Till p e below s (Q3 Z q1 q2 h0 n0) room3.cells room3.slots (s₁.setTop (mkF m 7 #[.val (.long q1), .second, .val (.long q2), .second] [(.long q1)]))
    refine Till.pre (fun _ hr => XS.goto X0.here hx rfl (pc0 := 7) (pc' := 11) rfl (hb hby d3_7) (by decide) (by decide) hr) ?_
    show Till p e below s (Q3 Z q1 q2 h0 n0) room3.cells room3.slots (s₁.setTop (mkF m 11 #[.val (.long q1), .second, .val (.long q2), .second] [(.long q1)]))
    exact J11_1 _ (Eq.symm (if_neg hc1))
theorem own_mx {x y : Int64} {K : Int} (h1 : x.toInt < K) (h2 : y.toInt < K) : (fn3 x y).toInt < K := by unfold fn3; split <;> assumption
theorem d4_0 : decode jdk_29_method_25_code 0 = .ok (.lload_n 0, 1) := by decide +kernel
theorem d4_1 : decode jdk_29_method_25_code 1 = .ok (.lload_n 2, 1) := by decide +kernel
theorem d4_2 : decode jdk_29_method_25_code 2 = .ok (.ladd, 1) := by decide +kernel
theorem d4_3 : decode jdk_29_method_25_code 3 = .ok (.lstore 4, 2) := by decide +kernel
theorem d4_5 : decode jdk_29_method_25_code 5 = .ok (.lload_n 0, 1) := by decide +kernel
theorem d4_6 : decode jdk_29_method_25_code 6 = .ok (.lload 4, 2) := by decide +kernel
theorem d4_8 : decode jdk_29_method_25_code 8 = .ok (.lxor, 1) := by decide +kernel
theorem d4_9 : decode jdk_29_method_25_code 9 = .ok (.lload_n 2, 1) := by decide +kernel
theorem d4_10 : decode jdk_29_method_25_code 10 = .ok (.lload 4, 2) := by decide +kernel
theorem d4_12 : decode jdk_29_method_25_code 12 = .ok (.lxor, 1) := by decide +kernel
theorem d4_13 : decode jdk_29_method_25_code 13 = .ok (.land, 1) := by decide +kernel
theorem d4_14 : decode jdk_29_method_25_code 14 = .ok (.lconst 0, 1) := by decide +kernel
theorem d4_15 : decode jdk_29_method_25_code 15 = .ok (.lcmp, 1) := by decide +kernel
theorem d4_16 : decode jdk_29_method_25_code 16 = .ok (.ifCond .ge 13, 3) := by decide +kernel
theorem d4_29 : decode jdk_29_method_25_code 29 = .ok (.lload 4, 2) := by decide +kernel
theorem d4_31 : decode jdk_29_method_25_code 31 = .ok (.lreturn, 1) := by decide +kernel
theorem ef_4 (m : MethodId) (q1 : Int64) (q2 : Int64) : entryFrame m #[(.long q1), (.long q2)] 6 = mkF m 0 #[.val (.long q1), .second, .val (.long q2), .second, .unset, .unset] [] := by first | (simp [entryFrame, mkF, argsToLocals, Value.category]; done) | rfl
def Q4 (Z : State) (q1 : Int64) (q2 : Int64) (h0 : Heap) (n0 : Nat) : Option Value → Heap → List Loc → Prop := fun v h L => v = some (Value.long (q1 + q2)) ∧ Fr n0 L ∧ h = h0
def room4 : Room := { frames := 0, cells := 0, slots := 0, locals := 0 }
set_option maxRecDepth 65536 in
set_option maxHeartbeats 40000000 in
theorem rm4 (l : Launch) (Z : State) (a0 : Array Value) (hw : ∀ d ∈ tables_1, d.before a0 Z = true) (q1 : Int64) (q2 : Int64) (h0 : Heap) (n0 : Nat) (hov : -9223372036854775808 ≤ q1.toInt + q2.toInt ∧ q1.toInt + q2.toInt < 9223372036854775808) : Ctr l Z (⟨"java/lang/Math", "addExact", "(JJ)J"⟩ : MethodName) jdk_29_method_25_code 6 (some .long) room4 #[(.long q1), (.long q2)] h0 (Q4 Z q1 q2 h0 n0) := by
  refine Ctr.of (Jvm.Free.JP.mathPlain rfl (by decide +kernel)) ?_
  intro p e s m below meth c s₁ hx hby hml hown hnm hret hlk hZ e0 X0
  have hown : s.vm.findClass "java/lang/Math" = some m.cls := hown
  have hml : c.maxLocals = 6 := hml
  have hnm : meth.name = "addExact" := hnm
  have hret : meth.sig.returnType = (some .long) := hret
  have N0 := Fr.nil n0
  refine Till.cast (ef_4 m q1 q2) ?_
  show Till p e below s (Q4 Z q1 q2 h0 n0) room4.cells room4.slots (s₁.setTop (mkF m 0 #[.val (.long q1), .second, .val (.long q2), .second, .unset, .unset] []))
  refine Till.pre (fun _ hr => XS.lloadN X0.here hx rfl (hb hby d4_0) rfl hr) ?_
  show Till p e below s (Q4 Z q1 q2 h0 n0) room4.cells room4.slots (s₁.setTop (mkF m 1 #[.val (.long q1), .second, .val (.long q2), .second, .unset, .unset] [(.long q1)]))
  refine Till.pre (fun _ hr => XS.lloadN X0.here hx rfl (hb hby d4_1) rfl hr) ?_
  show Till p e below s (Q4 Z q1 q2 h0 n0) room4.cells room4.slots (s₁.setTop (mkF m 2 #[.val (.long q1), .second, .val (.long q2), .second, .unset, .unset] [(.long q2), (.long q1)]))
  refine Till.pre (fun _ hr => XS.ladd X0.here hx rfl (hb hby d4_2) rfl hr) ?_
  show Till p e below s (Q4 Z q1 q2 h0 n0) room4.cells room4.slots (s₁.setTop (mkF m 3 #[.val (.long q1), .second, .val (.long q2), .second, .unset, .unset] [(.long (q1 + q2))]))
  refine Till.pre (fun _ hr => XS.lstore X0.here hx rfl (hb hby d4_3) rfl (l' := #[.val (.long q1), .second, .val (.long q2), .second, .val (.long (q1 + q2)), .second]) rfl hr) ?_
  show Till p e below s (Q4 Z q1 q2 h0 n0) room4.cells room4.slots (s₁.setTop (mkF m 5 #[.val (.long q1), .second, .val (.long q2), .second, .val (.long (q1 + q2)), .second] []))
  refine Till.pre (fun _ hr => XS.lloadN X0.here hx rfl (hb hby d4_5) rfl hr) ?_
  show Till p e below s (Q4 Z q1 q2 h0 n0) room4.cells room4.slots (s₁.setTop (mkF m 6 #[.val (.long q1), .second, .val (.long q2), .second, .val (.long (q1 + q2)), .second] [(.long q1)]))
  refine Till.pre (fun _ hr => XS.lload X0.here hx rfl (hb hby d4_6) rfl hr) ?_
  show Till p e below s (Q4 Z q1 q2 h0 n0) room4.cells room4.slots (s₁.setTop (mkF m 8 #[.val (.long q1), .second, .val (.long q2), .second, .val (.long (q1 + q2)), .second] [(.long (q1 + q2)), (.long q1)]))
  refine Till.pre (fun _ hr => XS.lxor X0.here hx rfl (hb hby d4_8) rfl hr) ?_
  show Till p e below s (Q4 Z q1 q2 h0 n0) room4.cells room4.slots (s₁.setTop (mkF m 9 #[.val (.long q1), .second, .val (.long q2), .second, .val (.long (q1 + q2)), .second] [(.long (q1 ^^^ (q1 + q2)))]))
  refine Till.pre (fun _ hr => XS.lloadN X0.here hx rfl (hb hby d4_9) rfl hr) ?_
  show Till p e below s (Q4 Z q1 q2 h0 n0) room4.cells room4.slots (s₁.setTop (mkF m 10 #[.val (.long q1), .second, .val (.long q2), .second, .val (.long (q1 + q2)), .second] [(.long q2), (.long (q1 ^^^ (q1 + q2)))]))
  refine Till.pre (fun _ hr => XS.lload X0.here hx rfl (hb hby d4_10) rfl hr) ?_
  show Till p e below s (Q4 Z q1 q2 h0 n0) room4.cells room4.slots (s₁.setTop (mkF m 12 #[.val (.long q1), .second, .val (.long q2), .second, .val (.long (q1 + q2)), .second] [(.long (q1 + q2)), (.long q2), (.long (q1 ^^^ (q1 + q2)))]))
  refine Till.pre (fun _ hr => XS.lxor X0.here hx rfl (hb hby d4_12) rfl hr) ?_
  show Till p e below s (Q4 Z q1 q2 h0 n0) room4.cells room4.slots (s₁.setTop (mkF m 13 #[.val (.long q1), .second, .val (.long q2), .second, .val (.long (q1 + q2)), .second] [(.long (q2 ^^^ (q1 + q2))), (.long (q1 ^^^ (q1 + q2)))]))
  refine Till.pre (fun _ hr => XS.land X0.here hx rfl (hb hby d4_13) rfl hr) ?_
  show Till p e below s (Q4 Z q1 q2 h0 n0) room4.cells room4.slots (s₁.setTop (mkF m 14 #[.val (.long q1), .second, .val (.long q2), .second, .val (.long (q1 + q2)), .second] [(.long ((q1 ^^^ (q1 + q2)) &&& (q2 ^^^ (q1 + q2))))]))
  refine Till.pre (fun _ hr => XS.lconst X0.here hx rfl (hb hby d4_14) hr) ?_
  show Till p e below s (Q4 Z q1 q2 h0 n0) room4.cells room4.slots (s₁.setTop (mkF m 15 #[.val (.long q1), .second, .val (.long q2), .second, .val (.long (q1 + q2)), .second] [(.long (0 : Int64)), (.long ((q1 ^^^ (q1 + q2)) &&& (q2 ^^^ (q1 + q2))))]))
  refine Till.pre (fun _ hr => XS.lcmp X0.here hx rfl (hb hby d4_15) rfl hr) ?_
  show Till p e below s (Q4 Z q1 q2 h0 n0) room4.cells room4.slots (s₁.setTop (mkF m 16 #[.val (.long q1), .second, .val (.long q2), .second, .val (.long (q1 + q2)), .second] [(.int (lcmpW ((q1 ^^^ (q1 + q2)) &&& (q2 ^^^ (q1 + q2))) (0 : Int64)))]))
  refine Till.ifc (pc' := 29) X0.here hx (hb hby d4_16) (by decide) (by decide) (fun q => ?_) (fun q => absurd (lLt.mp (hLt.2.2.2.1 q)) (own_ax hov : ¬ (((q1 ^^^ (q1 + q2)) &&& (q2 ^^^ (q1 + q2))) < (0 : Int64))))
  show Till p e below s (Q4 Z q1 q2 h0 n0) room4.cells room4.slots (s₁.setTop (mkF m 29 #[.val (.long q1), .second, .val (.long q2), .second, .val (.long (q1 + q2)), .second] []))
  refine Till.pre (fun _ hr => XS.lload X0.here hx rfl (hb hby d4_29) rfl hr) ?_
  show Till p e below s (Q4 Z q1 q2 h0 n0) room4.cells room4.slots (s₁.setTop (mkF m 31 #[.val (.long q1), .second, .val (.long q2), .second, .val (.long (q1 + q2)), .second] [(.long (q1 + q2))]))
  refine Till.retJ X0 hx hret hlk (hb hby d4_31) (by decide) (by decide) ?_
  exact ⟨rfl, N0, e0⟩
theorem d6_0 : decode prog_4_method_3_code 0 = .ok (.aload_n 0, 1) := by decide +kernel
theorem d6_1 : decode prog_4_method_3_code 1 = .ok (.aload_n 0, 1) := by decide +kernel
theorem d6_2 : decode prog_4_method_3_code 2 = .ok (.getfield 7, 3) := by decide +kernel
theorem d6_5 : decode prog_4_method_3_code 5 = .ok (.lconst 1, 1) := by decide +kernel
theorem d6_6 : decode prog_4_method_3_code 6 = .ok (.invokestatic 13, 3) := by decide +kernel
theorem d6_9 : decode prog_4_method_3_code 9 = .ok (.putfield 7, 3) := by decide +kernel
theorem d6_12 : decode prog_4_method_3_code 12 = .ok (.aload_n 0, 1) := by decide +kernel
theorem d6_13 : decode prog_4_method_3_code 13 = .ok (.getfield 7, 3) := by decide +kernel
theorem d6_16 : decode prog_4_method_3_code 16 = .ok (.lreturn, 1) := by decide +kernel
theorem pd6_3 : parseMethodDescriptor "(JJ)J" = some ⟨[.long, .long], some .long⟩ := by decide +kernel
theorem ef_6 (m : MethodId) (a1 : Addr) : entryFrame m #[(.ref a1)] 1 = mkF m 0 #[.val (.ref a1)] [] := by first | (simp [entryFrame, mkF, argsToLocals, Value.category]; done) | rfl
def Q6 (Z : State) (a1 : Addr) (w1 : Int64) (h0 : Heap) (n0 : Nat) : Option Value → Heap → List Loc → Prop := fun v h L => v = some (.long (w1 + (1 : Int64))) ∧ Fr n0 L ∧ Keep h0 h [a1] ∧ Clk Z h a1 (w1 + (1 : Int64))
def room6 : Room := { frames := 1, cells := 0, slots := 0, locals := 18 }
set_option maxRecDepth 65536 in
set_option maxHeartbeats 40000000 in
theorem rm6 (l : Launch) (Z : State) (a0 : Array Value) (hw : ∀ d ∈ tables_1, d.before a0 Z = true) (a1 : Addr) (w1 : Int64) (h0 : Heap) (n0 : Nat) (Zs : n0 ≤ h0.size) (R_a1 : Clk Z h0 a1 w1) (g_a1 : n0 ≤ a1) (hov : w1.toInt < 9223372036854775807) : Ctr l Z (⟨"com/example/arbiter/arbiter/LamportClock", "stamp", "()J"⟩ : MethodName) prog_4_method_3_code 1 (some .long) room6 #[(.ref a1)] h0 (Q6 Z a1 w1 h0 n0) := by
  refine Ctr.of (plainFor_of_name pn_1) ?_
  intro p e s m below meth c s₁ hx hby hml hown hnm hret hlk hZ e0 X0
  have hown : s.vm.findClass "com/example/arbiter/arbiter/LamportClock" = some m.cls := hown
  have hml : c.maxLocals = 1 := hml
  have hnm : meth.name = "stamp" := hnm
  have hret : meth.sig.returnType = (some .long) := hret
  have N0 := Fr.nil n0
  refine Till.cast (ef_6 m a1) ?_
  have Kp := Keep.refl h0 [a1]
  show Till p e below s (Q6 Z a1 w1 h0 n0) room6.cells room6.slots (s₁.setTop (mkF m 0 #[.val (.ref a1)] []))
  refine Till.pre (fun _ hr => XS.aloadN X0.here hx rfl (hb hby d6_0) rfl rfl hr) ?_
  show Till p e below s (Q6 Z a1 w1 h0 n0) room6.cells room6.slots (s₁.setTop (mkF m 1 #[.val (.ref a1)] [(.ref a1)]))
  refine Till.pre (fun _ hr => XS.aloadN X0.here hx rfl (hb hby d6_1) rfl rfl hr) ?_
  show Till p e below s (Q6 Z a1 w1 h0 n0) room6.cells room6.slots (s₁.setTop (mkF m 2 #[.val (.ref a1)] [(.ref a1), (.ref a1)]))
  refine Till.getF X0 hx hZ hown (hw _ (List.mem_of_getElem? (i := 15) rfl)) e0 R_a1.2 (hb hby d6_2) (fun T1 X2 e3 => ?_)
  show Till p e below s (Q6 Z a1 w1 h0 n0) room6.cells room6.slots (T1.setTop (mkF m 5 #[.val (.ref a1)] [(.long w1), (.ref a1)]))
  refine Till.pre (fun _ hr => XS.lconst X2.here hx rfl (hb hby d6_5) hr) ?_
  show Till p e below s (Q6 Z a1 w1 h0 n0) room6.cells room6.slots (T1.setTop (mkF m 6 #[.val (.ref a1)] [(.long (1 : Int64)), (.long w1), (.ref a1)]))
  refine Till.callS (rm4 l Z a0 hw w1 (1 : Int64) h0 n0 (own_o1 hov)) X2 hx hZ hown (hw _ (List.mem_of_getElem? (i := 21) rfl)) (hw _ (List.mem_of_getElem? (i := 22) rfl)) (hw _ (List.mem_of_getElem? (i := 19) rfl)) (hw _ (List.mem_of_getElem? (i := 23) rfl)) (by decide) (by decide) (W := 1) (by decide) (by rw [hml]; rfl) (argsL := [(.long w1), (.long (1 : Int64))]) (rest := [(.ref a1)]) (lenOf pd6_3 rfl) rfl rfl (Nat.le_of_eq rfl) (hb hby d6_6) e3 (by decide) (by decide) ?_
  rintro _ T4 L5 X6 ⟨rfl, N7, e8⟩
  have N7 := Fr.app N0 N7
  show Till p e below s (Q6 Z a1 w1 h0 n0) room6.cells room6.slots (T4.setTop (mkF m 9 #[.val (.ref a1)] [(.long (w1 + (1 : Int64))), (.ref a1)]))
  refine Till.putF X6 hx hZ hown (hw _ (List.mem_of_getElem? (i := 15) rfl)) e8 R_a1.2 R_a1.1 (Or.inl (hw _ (List.mem_of_getElem? (i := 16) rfl))) (hw _ (List.mem_of_getElem? (i := 1) rfl)) (ty := .long) (by decide) rfl rfl (hb hby d6_9) (fun T9 h10 X11 e12 W13 => ?_)
  have N14 := Fr.snoc X11 N7 g_a1
  have Zs := Nat.le_trans Zs (Keep.of_wr W13).1
  have Kp := Kp.wr W13 (Or.inl (List.mem_of_getElem? (i := 0) rfl))
  have R_a1 := Clk.set_time hw R_a1 W13
  show Till p e below s (Q6 Z a1 w1 h0 n0) room6.cells room6.slots (T9.setTop (mkF m 12 #[.val (.ref a1)] []))
  refine Till.pre (fun _ hr => XS.aloadN X11.here hx rfl (hb hby d6_12) rfl rfl hr) ?_
  show Till p e below s (Q6 Z a1 w1 h0 n0) room6.cells room6.slots (T9.setTop (mkF m 13 #[.val (.ref a1)] [(.ref a1)]))
  refine Till.getF X11 hx hZ hown (hw _ (List.mem_of_getElem? (i := 15) rfl)) e12 R_a1.2 (hb hby d6_13) (fun T15 X16 e17 => ?_)
  show Till p e below s (Q6 Z a1 w1 h0 n0) room6.cells room6.slots (T15.setTop (mkF m 16 #[.val (.ref a1)] [(.long (w1 + (1 : Int64)))]))
  refine Till.retJ X16 hx hret hlk (hb hby d6_16) (by decide) (by decide) ?_
  show (Q6 Z a1 w1 h0 n0) _ T15.heap _
  rw [e17]
  exact ⟨rfl, N14, Kp, R_a1⟩
theorem d2_0 : decode prog_4_method_4_code 0 = .ok (.aload_n 0, 1) := by decide +kernel
theorem d2_1 : decode prog_4_method_4_code 1 = .ok (.aload_n 0, 1) := by decide +kernel
theorem d2_2 : decode prog_4_method_4_code 2 = .ok (.getfield 7, 3) := by decide +kernel
theorem d2_5 : decode prog_4_method_4_code 5 = .ok (.lload_n 1, 1) := by decide +kernel
theorem d2_6 : decode prog_4_method_4_code 6 = .ok (.invokestatic 19, 3) := by decide +kernel
theorem d2_9 : decode prog_4_method_4_code 9 = .ok (.lconst 1, 1) := by decide +kernel
theorem d2_10 : decode prog_4_method_4_code 10 = .ok (.invokestatic 13, 3) := by decide +kernel
theorem d2_13 : decode prog_4_method_4_code 13 = .ok (.putfield 7, 3) := by decide +kernel
theorem d2_16 : decode prog_4_method_4_code 16 = .ok (.return_, 1) := by decide +kernel
theorem pd2_3 : parseMethodDescriptor "(JJ)J" = some ⟨[.long, .long], some .long⟩ := by decide +kernel
theorem ef_2 (m : MethodId) (a1 : Addr) (q2 : Int64) : entryFrame m #[(.ref a1), (.long q2)] 3 = mkF m 0 #[.val (.ref a1), .val (.long q2), .second] [] := by first | (simp [entryFrame, mkF, argsToLocals, Value.category]; done) | rfl
def Q2 (Z : State) (a1 : Addr) (q2 : Int64) (w1 : Int64) (h0 : Heap) (n0 : Nat) : Option Value → Heap → List Loc → Prop := fun v h L => v = none ∧ Fr n0 L ∧ Keep h0 h [a1] ∧ Clk Z h a1 ((fn3 w1 q2) + (1 : Int64))
def room2 : Room := { frames := 1, cells := 0, slots := 0, locals := 18 }
set_option maxRecDepth 65536 in
set_option maxHeartbeats 40000000 in
theorem rm2 (l : Launch) (Z : State) (a0 : Array Value) (hw : ∀ d ∈ tables_1, d.before a0 Z = true) (a1 : Addr) (q2 : Int64) (w1 : Int64) (h0 : Heap) (n0 : Nat) (Zs : n0 ≤ h0.size) (R_a1 : Clk Z h0 a1 w1) (g_a1 : n0 ≤ a1) (hov : w1.toInt < 9223372036854775807 ∧ q2.toInt < 9223372036854775807) : Ctr l Z (⟨"com/example/arbiter/arbiter/LamportClock", "receive", "(J)V"⟩ : MethodName) prog_4_method_4_code 3 none room2 #[(.ref a1), (.long q2)] h0 (Q2 Z a1 q2 w1 h0 n0) := by
  refine Ctr.of (plainFor_of_name pn_1) ?_
  intro p e s m below meth c s₁ hx hby hml hown hnm hret hlk hZ e0 X0
  have hown : s.vm.findClass "com/example/arbiter/arbiter/LamportClock" = some m.cls := hown
  have hml : c.maxLocals = 3 := hml
  have hnm : meth.name = "receive" := hnm
  have hret : meth.sig.returnType = none := hret
  have N0 := Fr.nil n0
  refine Till.cast (ef_2 m a1 q2) ?_
  have Kp := Keep.refl h0 [a1]
  show Till p e below s (Q2 Z a1 q2 w1 h0 n0) room2.cells room2.slots (s₁.setTop (mkF m 0 #[.val (.ref a1), .val (.long q2), .second] []))
  refine Till.pre (fun _ hr => XS.aloadN X0.here hx rfl (hb hby d2_0) rfl rfl hr) ?_
  show Till p e below s (Q2 Z a1 q2 w1 h0 n0) room2.cells room2.slots (s₁.setTop (mkF m 1 #[.val (.ref a1), .val (.long q2), .second] [(.ref a1)]))
  refine Till.pre (fun _ hr => XS.aloadN X0.here hx rfl (hb hby d2_1) rfl rfl hr) ?_
  show Till p e below s (Q2 Z a1 q2 w1 h0 n0) room2.cells room2.slots (s₁.setTop (mkF m 2 #[.val (.ref a1), .val (.long q2), .second] [(.ref a1), (.ref a1)]))
  refine Till.getF X0 hx hZ hown (hw _ (List.mem_of_getElem? (i := 15) rfl)) e0 R_a1.2 (hb hby d2_2) (fun T1 X2 e3 => ?_)
  show Till p e below s (Q2 Z a1 q2 w1 h0 n0) room2.cells room2.slots (T1.setTop (mkF m 5 #[.val (.ref a1), .val (.long q2), .second] [(.long w1), (.ref a1)]))
  refine Till.pre (fun _ hr => XS.lloadN X2.here hx rfl (hb hby d2_5) rfl hr) ?_
  show Till p e below s (Q2 Z a1 q2 w1 h0 n0) room2.cells room2.slots (T1.setTop (mkF m 6 #[.val (.ref a1), .val (.long q2), .second] [(.long q2), (.long w1), (.ref a1)]))
  refine Till.callS (rm3 l Z a0 hw w1 q2 h0 n0) X2 hx hZ hown (hw _ (List.mem_of_getElem? (i := 17) rfl)) (hw _ (List.mem_of_getElem? (i := 18) rfl)) (hw _ (List.mem_of_getElem? (i := 19) rfl)) (hw _ (List.mem_of_getElem? (i := 20) rfl)) (by decide) (by decide) (W := 1) (by decide) (by rw [hml]; rfl) (argsL := [(.long w1), (.long q2)]) (rest := [(.ref a1)]) (lenOf pd2_3 rfl) rfl rfl (Nat.le_of_eq rfl) (hb hby d2_6) e3 (by decide) (by decide) ?_
  rintro _ T4 L5 X6 ⟨rfl, N7, e8⟩
  have N7 := Fr.app N0 N7
  show Till p e below s (Q2 Z a1 q2 w1 h0 n0) room2.cells room2.slots (T4.setTop (mkF m 9 #[.val (.ref a1), .val (.long q2), .second] [(.long (fn3 w1 q2)), (.ref a1)]))
  refine Till.pre (fun _ hr => XS.lconst X6.here hx rfl (hb hby d2_9) hr) ?_
  show Till p e below s (Q2 Z a1 q2 w1 h0 n0) room2.cells room2.slots (T4.setTop (mkF m 10 #[.val (.ref a1), .val (.long q2), .second] [(.long (1 : Int64)), (.long (fn3 w1 q2)), (.ref a1)]))
  refine Till.callS (rm4 l Z a0 hw (fn3 w1 q2) (1 : Int64) h0 n0 (own_o1 (own_mx hov.1 hov.2))) X6 hx hZ hown (hw _ (List.mem_of_getElem? (i := 21) rfl)) (hw _ (List.mem_of_getElem? (i := 22) rfl)) (hw _ (List.mem_of_getElem? (i := 19) rfl)) (hw _ (List.mem_of_getElem? (i := 23) rfl)) (by decide) (by decide) (W := 1) (by decide) (by rw [hml]; rfl) (argsL := [(.long (fn3 w1 q2)), (.long (1 : Int64))]) (rest := [(.ref a1)]) (lenOf pd2_3 rfl) rfl rfl (Nat.le_of_eq rfl) (hb hby d2_10) e8 (by decide) (by decide) ?_
  rintro _ T9 L10 X11 ⟨rfl, N12, e13⟩
  have N12 := Fr.app N7 N12
  show Till p e below s (Q2 Z a1 q2 w1 h0 n0) room2.cells room2.slots (T9.setTop (mkF m 13 #[.val (.ref a1), .val (.long q2), .second] [(.long ((fn3 w1 q2) + (1 : Int64))), (.ref a1)]))
  refine Till.putF X11 hx hZ hown (hw _ (List.mem_of_getElem? (i := 15) rfl)) e13 R_a1.2 R_a1.1 (Or.inl (hw _ (List.mem_of_getElem? (i := 16) rfl))) (hw _ (List.mem_of_getElem? (i := 1) rfl)) (ty := .long) (by decide) rfl rfl (hb hby d2_13) (fun T14 h15 X16 e17 W18 => ?_)
  have N19 := Fr.snoc X16 N12 g_a1
  have Zs := Nat.le_trans Zs (Keep.of_wr W18).1
  have Kp := Kp.wr W18 (Or.inl (List.mem_of_getElem? (i := 0) rfl))
  have R_a1 := Clk.set_time hw R_a1 W18
  show Till p e below s (Q2 Z a1 q2 w1 h0 n0) room2.cells room2.slots (T14.setTop (mkF m 16 #[.val (.ref a1), .val (.long q2), .second] []))
  refine Till.retV X16 hx hret hlk (hb hby d2_16) (by decide) (by decide) ?_
  show (Q2 Z a1 q2 w1 h0 n0) _ T14.heap _
  rw [e17]
  exact ⟨rfl, N19, Kp, R_a1⟩
theorem own_c1 {c : Prop} [Decidable c] {v a : Int64} {K : Int} (h : v = if c then a else a + (1 : Int64)) (ha : 0 ≤ a.toInt ∧ a.toInt ≤ K) (hK : K < 100) : 0 ≤ v.toInt ∧ v.toInt ≤ K + 1 := by
  have := c_ladd a 1
  have := rng64 (a + 1)
  have e1 : (1 : Int64).toInt = 1 := rfl
  rw [h]; split <;> omega
theorem own_c0 {c : Prop} [Decidable c] {v : Int64} (h : v = if c then (0 : Int64) else (1 : Int64)) : 0 ≤ v.toInt ∧ v.toInt ≤ 1 := by
  rw [h]; split <;> decide
theorem own_n3 (p : Int32) : p &&& 3 = 0 ∨ p &&& 3 = 1 ∨ p &&& 3 = 2 ∨ p &&& 3 = 3 := by
  have := c_mask p 3 2 (by decide) (by decide)
  simp only [← Int32.toInt_inj, show (0 : Int32).toInt = 0 from rfl, show (1 : Int32).toInt = 1 from rfl, show (2 : Int32).toInt = 2 from rfl, show (3 : Int32).toInt = 3 from rfl]
  omega
theorem own_t0 {p : Int32} {v1 v2 v3 : Int64} (h1 : v1 = if (p &&& (3 : Int32)) < (1 : Int32) then (0 : Int64) else (1 : Int64)) (h2 : v2 = if (p &&& (3 : Int32)) < (2 : Int32) then v1 else v1 + (1 : Int64)) (h3 : v3 = if (p &&& (3 : Int32)) < (3 : Int32) then v2 else v2 + (1 : Int64)) : v3 = (p &&& (3 : Int32)).toInt64 := by
  rcases own_n3 p with h | h | h | h <;> rw [h] at h1 h2 h3 ⊢ <;> subst h1 h2 h3 <;> decide
theorem own_a1 {v q : Int64} (h : v = if q = (9223372036854775807 : Int64) then (9223372036854775806 : Int64) else q) : v.toInt < 9223372036854775807 := by
  rw [h]; split
  · decide
  · rename_i hn; rw [← Int64.toInt_inj, show (9223372036854775807 : Int64).toInt = 9223372036854775807 from rfl] at hn; have := rng64 q; omega
theorem own_e1 {t0 v50 v70 v111 : Int64} (h : v50 = t0) (h111 : v111 = if t0 < v70 then v70 else t0) : fn3 v50 v70 = v111 := by rw [h, h111]; rfl
theorem own_e2 {x v111 v87 v167 : Int64} (h : x = v111) (h167 : v167 = if v111 + (1 : Int64) < v87 then v87 else v111 + (1 : Int64)) : fn3 (x + (1 : Int64)) v87 = v167 := by rw [h, h167]; rfl
theorem own_l1 {x v : Int64} (h : x = v) (h1 : x.toInt < 9223372036854775807) (hc : ¬ (v + (1 : Int64) = (9223372036854775807 : Int64))) : (x + (1 : Int64)).toInt < 9223372036854775807 := by
  rw [← h, ← Int64.toInt_inj, show (9223372036854775807 : Int64).toInt = 9223372036854775807 from rfl] at hc
  have := rng64 (x + 1)
  omega
theorem pn_0 : plainName "com/example/arbiter/arbiter/LamportClockReceivePinLaw" = true := by first | (simp [plainName, overriddenIn]; done) | decide +kernel
theorem pd0_0 : parseMethodDescriptor "()J" = some ⟨[], some .long⟩ := by decide +kernel
theorem pd0_1 : parseMethodDescriptor "()V" = some ⟨[], none⟩ := by decide +kernel
theorem pd0_2 : parseMethodDescriptor "(J)V" = some ⟨[.long], none⟩ := by decide +kernel
theorem ef_0 (m : MethodId) (p1 : Int32) (q2 : Int64) (q3 : Int64) : entryFrame m #[(.int p1), (.long q2), (.long q3)] maxLocals = mkF m 0 #[.val (.int p1), .val (.long q2), .second, .val (.long q3), .second, .unset, .unset, .unset, .unset, .unset, .unset, .unset, .unset, .unset, .unset, .unset, .unset, .unset] [] := by first | (simp [entryFrame, mkF, argsToLocals, Value.category, maxLocals]; done) | rfl
def Q0 (Z : State) (p1 : Int32) (q2 : Int64) (q3 : Int64) (h0 : Heap) (n0 : Nat) : Option Value → Heap → List Loc → Prop := fun v h L => v = some (.int 1) ∧ Fr n0 L
set_option maxRecDepth 65536 in
set_option maxHeartbeats 40000000 in
theorem rm0 (l : Launch) (Z : State) (a0 : Array Value) (hw : ∀ d ∈ tables_1, d.before a0 Z = true) (p1 : Int32) (q2 : Int64) (q3 : Int64) (h0 : Heap) (n0 : Nat) (Zs : n0 ≤ h0.size) : Ctr l Z x code maxLocals ret room_1 #[(.int p1), (.long q2), (.long q3)] h0 (Q0 Z p1 q2 q3 h0 n0) := by
  refine Ctr.of (plainFor_of_name pn_0) ?_
  intro p e s m below meth c s₁ hx hby hml hown hnm hret hlk hZ e0 X0
  have hown : s.vm.findClass "com/example/arbiter/arbiter/LamportClockReceivePinLaw" = some m.cls := hown
  have hml : c.maxLocals = 18 := hml
  have hnm : meth.name = "law" := hnm
  have hret : meth.sig.returnType = (some .boolean) := hret
  have N0 := Fr.nil n0
  refine Till.cast (ef_0 m p1 q2 q3) ?_
  show Till p e below s (Q0 Z p1 q2 q3 h0 n0) room_1.cells room_1.slots (s₁.setTop (mkF m 0 #[.val (.int p1), .val (.long q2), .second, .val (.long q3), .second, .unset, .unset, .unset, .unset, .unset, .unset, .unset, .unset, .unset, .unset, .unset, .unset, .unset] []))
  refine Till.newO X0 hx hZ hown (hw _ (List.mem_of_getElem? (i := 0) rfl)) (hw _ (List.mem_of_getElem? (i := 1) rfl)) (hw _ (List.mem_of_getElem? (i := 2) rfl)) e0 (hb hby at_0) (by decide) (by decide) (fun T1 h2 b3 g4 X5 e6 E7 A8 D9 => ?_)
  have g_b3 : n0 ≤ b3 := Nat.le_trans Zs (Nat.le_of_eq g4.symm)
  have Zs := Nat.le_trans Zs E7.1
  have R_b3 : Clk Z h2 b3 (0 : Int64) := ⟨A8, D9 (Or.inl (hw _ (List.mem_of_getElem? (i := 16) rfl))) (ty := .long) (by decide)⟩
  show Till p e below s (Q0 Z p1 q2 q3 h0 n0) room_1.cells room_1.slots (T1.setTop (mkF m 3 #[.val (.int p1), .val (.long q2), .second, .val (.long q3), .second, .unset, .unset, .unset, .unset, .unset, .unset, .unset, .unset, .unset, .unset, .unset, .unset, .unset] [(.ref b3)]))
  refine Till.pre (fun _ hr => XS.dup X5.here hx rfl (hb hby at_3) rfl rfl hr) ?_
  show Till p e below s (Q0 Z p1 q2 q3 h0 n0) room_1.cells room_1.slots (T1.setTop (mkF m 4 #[.val (.int p1), .val (.long q2), .second, .val (.long q3), .second, .unset, .unset, .unset, .unset, .unset, .unset, .unset, .unset, .unset, .unset, .unset, .unset, .unset] [(.ref b3), (.ref b3)]))
  refine Till.callC (rm1 l Z a0 hw b3 (0 : Int64) h2 n0 Zs R_b3 g_b3) X5 hx hZ hown rfl (hw _ (List.mem_of_getElem? (i := 3) rfl)) (hw _ (List.mem_of_getElem? (i := 4) rfl)) (hw _ (List.mem_of_getElem? (i := 2) rfl)) (hw _ (List.mem_of_getElem? (i := 5) rfl)) (by decide) (by decide) (W := 1) (by decide) (by rw [hml]; rfl) (a := b3) (argsL := []) (rest := [(.ref b3)]) (lenOf pd0_1 rfl) rfl rfl (Nat.le_of_eq rfl) (hb hby at_4) e6 (by decide) (by decide) ?_
  rintro _ T10 L11 X12 ⟨rfl, N13, K14, q15⟩
  have N13 := Fr.app N0 N13
  have Zs := Nat.le_trans Zs K14.1
  have R_b3 : Clk Z T10.heap b3 (0 : Int64) := q15
  show Till p e below s (Q0 Z p1 q2 q3 h0 n0) room_1.cells room_1.slots (T10.setTop (mkF m 7 #[.val (.int p1), .val (.long q2), .second, .val (.long q3), .second, .unset, .unset, .unset, .unset, .unset, .unset, .unset, .unset, .unset, .unset, .unset, .unset, .unset] [(.ref b3)]))
  refine Till.pre (fun _ hr => XS.astore X12.here hx rfl (hb hby at_7) rfl rfl (l' := #[.val (.int p1), .val (.long q2), .second, .val (.long q3), .second, .val (.ref b3), .unset, .unset, .unset, .unset, .unset, .unset, .unset, .unset, .unset, .unset, .unset, .unset]) rfl hr) ?_
  show Till p e below s (Q0 Z p1 q2 q3 h0 n0) room_1.cells room_1.slots (T10.setTop (mkF m 9 #[.val (.int p1), .val (.long q2), .second, .val (.long q3), .second, .val (.ref b3), .unset, .unset, .unset, .unset, .unset, .unset, .unset, .unset, .unset, .unset, .unset, .unset] []))
  refine Till.pre (fun _ hr => XS.iloadN X12.here hx rfl (hb hby at_9) rfl hr) ?_
  show Till p e below s (Q0 Z p1 q2 q3 h0 n0) room_1.cells room_1.slots (T10.setTop (mkF m 10 #[.val (.int p1), .val (.long q2), .second, .val (.long q3), .second, .val (.ref b3), .unset, .unset, .unset, .unset, .unset, .unset, .unset, .unset, .unset, .unset, .unset, .unset] [(.int p1)]))
  refine Till.pre (fun _ hr => XS.iconst X12.here hx rfl (hb hby at_10) hr) ?_
  show Till p e below s (Q0 Z p1 q2 q3 h0 n0) room_1.cells room_1.slots (T10.setTop (mkF m 11 #[.val (.int p1), .val (.long q2), .second, .val (.long q3), .second, .val (.ref b3), .unset, .unset, .unset, .unset, .unset, .unset, .unset, .unset, .unset, .unset, .unset, .unset] [(.int (3 : Int32)), (.int p1)]))
  refine Till.pre (fun _ hr => XS.iand X12.here hx rfl (hb hby at_11) rfl hr) ?_
  show Till p e below s (Q0 Z p1 q2 q3 h0 n0) room_1.cells room_1.slots (T10.setTop (mkF m 12 #[.val (.int p1), .val (.long q2), .second, .val (.long q3), .second, .val (.ref b3), .unset, .unset, .unset, .unset, .unset, .unset, .unset, .unset, .unset, .unset, .unset, .unset] [(.int (p1 &&& (3 : Int32)))]))
  refine Till.pre (fun _ hr => XS.istore X12.here hx rfl (hb hby at_12) rfl (l' := #[.val (.int p1), .val (.long q2), .second, .val (.long q3), .second, .val (.ref b3), .val (.int (p1 &&& (3 : Int32))), .unset, .unset, .unset, .unset, .unset, .unset, .unset, .unset, .unset, .unset, .unset]) rfl hr) ?_
  show Till p e below s (Q0 Z p1 q2 q3 h0 n0) room_1.cells room_1.slots (T10.setTop (mkF m 14 #[.val (.int p1), .val (.long q2), .second, .val (.long q3), .second, .val (.ref b3), .val (.int (p1 &&& (3 : Int32))), .unset, .unset, .unset, .unset, .unset, .unset, .unset, .unset, .unset, .unset, .unset] []))
  refine Till.pre (fun _ hr => XS.iload X12.here hx rfl (hb hby at_14) rfl hr) ?_
  show Till p e below s (Q0 Z p1 q2 q3 h0 n0) room_1.cells room_1.slots (T10.setTop (mkF m 16 #[.val (.int p1), .val (.long q2), .second, .val (.long q3), .second, .val (.ref b3), .val (.int (p1 &&& (3 : Int32))), .unset, .unset, .unset, .unset, .unset, .unset, .unset, .unset, .unset, .unset, .unset] [(.int (p1 &&& (3 : Int32)))]))
  refine Till.pre (fun _ hr => XS.iconst X12.here hx rfl (hb hby at_16) hr) ?_
  show Till p e below s (Q0 Z p1 q2 q3 h0 n0) room_1.cells room_1.slots (T10.setTop (mkF m 17 #[.val (.int p1), .val (.long q2), .second, .val (.long q3), .second, .val (.ref b3), .val (.int (p1 &&& (3 : Int32))), .unset, .unset, .unset, .unset, .unset, .unset, .unset, .unset, .unset, .unset, .unset] [(.int (1 : Int32)), (.int (p1 &&& (3 : Int32)))]))
  have J26_26 : ∀ (T23 : State) (L24 : List Loc) (X25 : Stand p l e room_1 s m #[(.int p1), (.long q2), (.long q3)] below meth c T23 L24 1 1) (N26 : Fr n0 L24) (Zs : n0 ≤ T23.heap.size) (v26f0_0 : Int64) (hv26f0_0 : v26f0_0 = (if ((p1 &&& (3 : Int32)) < (1 : Int32)) then (0 : Int64) else (1 : Int64))) (R_b3 : Clk Z T23.heap b3 v26f0_0), Till p e below s (Q0 Z p1 q2 q3 h0 n0) room_1.cells room_1.slots (T23.setTop (mkF m 26 #[.val (.int p1), .val (.long q2), .second, .val (.long q3), .second, .val (.ref b3), .val (.int (p1 &&& (3 : Int32))), .unset, .unset, .unset, .unset, .unset, .unset, .unset, .unset, .unset, .unset, .unset] [])) := by
    intro T23 L24 X25 N26 Zs v26f0_0 hv26f0_0 R_b3
    show Till p e below s (Q0 Z p1 q2 q3 h0 n0) room_1.cells room_1.slots (T23.setTop (mkF m 26 #[.val (.int p1), .val (.long q2), .second, .val (.long q3), .second, .val (.ref b3), .val (.int (p1 &&& (3 : Int32))), .unset, .unset, .unset, .unset, .unset, .unset, .unset, .unset, .unset, .unset, .unset] []))
    refine Till.pre (fun _ hr => XS.iload X25.here hx rfl (hb hby at_26) rfl hr) ?_
    show Till p e below s (Q0 Z p1 q2 q3 h0 n0) room_1.cells room_1.slots (T23.setTop (mkF m 28 #[.val (.int p1), .val (.long q2), .second, .val (.long q3), .second, .val (.ref b3), .val (.int (p1 &&& (3 : Int32))), .unset, .unset, .unset, .unset, .unset, .unset, .unset, .unset, .unset, .unset, .unset] [(.int (p1 &&& (3 : Int32)))]))
    refine Till.pre (fun _ hr => XS.iconst X25.here hx rfl (hb hby at_28) hr) ?_
    show Till p e below s (Q0 Z p1 q2 q3 h0 n0) room_1.cells room_1.slots (T23.setTop (mkF m 29 #[.val (.int p1), .val (.long q2), .second, .val (.long q3), .second, .val (.ref b3), .val (.int (p1 &&& (3 : Int32))), .unset, .unset, .unset, .unset, .unset, .unset, .unset, .unset, .unset, .unset, .unset] [(.int (2 : Int32)), (.int (p1 &&& (3 : Int32)))]))
    have J38_38 : ∀ (T35 : State) (L36 : List Loc) (X37 : Stand p l e room_1 s m #[(.int p1), (.long q2), (.long q3)] below meth c T35 L36 1 1) (N38 : Fr n0 L36) (Zs : n0 ≤ T35.heap.size) (v38f0_0 : Int64) (hv38f0_0 : v38f0_0 = (if ((p1 &&& (3 : Int32)) < (2 : Int32)) then v26f0_0 else (v26f0_0 + (1 : Int64)))) (R_b3 : Clk Z T35.heap b3 v38f0_0), Till p e below s (Q0 Z p1 q2 q3 h0 n0) room_1.cells room_1.slots (T35.setTop (mkF m 38 #[.val (.int p1), .val (.long q2), .second, .val (.long q3), .second, .val (.ref b3), .val (.int (p1 &&& (3 : Int32))), .unset, .unset, .unset, .unset, .unset, .unset, .unset, .unset, .unset, .unset, .unset] [])) := by
      intro T35 L36 X37 N38 Zs v38f0_0 hv38f0_0 R_b3
      show Till p e below s (Q0 Z p1 q2 q3 h0 n0) room_1.cells room_1.slots (T35.setTop (mkF m 38 #[.val (.int p1), .val (.long q2), .second, .val (.long q3), .second, .val (.ref b3), .val (.int (p1 &&& (3 : Int32))), .unset, .unset, .unset, .unset, .unset, .unset, .unset, .unset, .unset, .unset, .unset] []))
      refine Till.pre (fun _ hr => XS.iload X37.here hx rfl (hb hby at_38) rfl hr) ?_
      show Till p e below s (Q0 Z p1 q2 q3 h0 n0) room_1.cells room_1.slots (T35.setTop (mkF m 40 #[.val (.int p1), .val (.long q2), .second, .val (.long q3), .second, .val (.ref b3), .val (.int (p1 &&& (3 : Int32))), .unset, .unset, .unset, .unset, .unset, .unset, .unset, .unset, .unset, .unset, .unset] [(.int (p1 &&& (3 : Int32)))]))
      refine Till.pre (fun _ hr => XS.iconst X37.here hx rfl (hb hby at_40) hr) ?_
      show Till p e below s (Q0 Z p1 q2 q3 h0 n0) room_1.cells room_1.slots (T35.setTop (mkF m 41 #[.val (.int p1), .val (.long q2), .second, .val (.long q3), .second, .val (.ref b3), .val (.int (p1 &&& (3 : Int32))), .unset, .unset, .unset, .unset, .unset, .unset, .unset, .unset, .unset, .unset, .unset] [(.int (3 : Int32)), (.int (p1 &&& (3 : Int32)))]))
      have J50_50 : ∀ (T47 : State) (L48 : List Loc) (X49 : Stand p l e room_1 s m #[(.int p1), (.long q2), (.long q3)] below meth c T47 L48 1 1) (N50 : Fr n0 L48) (Zs : n0 ≤ T47.heap.size) (v50f0_0 : Int64) (hv50f0_0 : v50f0_0 = (if ((p1 &&& (3 : Int32)) < (3 : Int32)) then v38f0_0 else (v38f0_0 + (1 : Int64)))) (R_b3 : Clk Z T47.heap b3 v50f0_0), Till p e below s (Q0 Z p1 q2 q3 h0 n0) room_1.cells room_1.slots (T47.setTop (mkF m 50 #[.val (.int p1), .val (.long q2), .second, .val (.long q3), .second, .val (.ref b3), .val (.int (p1 &&& (3 : Int32))), .unset, .unset, .unset, .unset, .unset, .unset, .unset, .unset, .unset, .unset, .unset] [])) := by
        intro T47 L48 X49 N50 Zs v50f0_0 hv50f0_0 R_b3
        show Till p e below s (Q0 Z p1 q2 q3 h0 n0) room_1.cells room_1.slots (T47.setTop (mkF m 50 #[.val (.int p1), .val (.long q2), .second, .val (.long q3), .second, .val (.ref b3), .val (.int (p1 &&& (3 : Int32))), .unset, .unset, .unset, .unset, .unset, .unset, .unset, .unset, .unset, .unset, .unset] []))
        refine Till.pre (fun _ hr => XS.iload X49.here hx rfl (hb hby at_50) rfl hr) ?_
        show Till p e below s (Q0 Z p1 q2 q3 h0 n0) room_1.cells room_1.slots (T47.setTop (mkF m 52 #[.val (.int p1), .val (.long q2), .second, .val (.long q3), .second, .val (.ref b3), .val (.int (p1 &&& (3 : Int32))), .unset, .unset, .unset, .unset, .unset, .unset, .unset, .unset, .unset, .unset, .unset] [(.int (p1 &&& (3 : Int32)))]))
        refine Till.pre (fun _ hr => XS.i2l X49.here hx rfl (hb hby at_52) rfl hr) ?_
        show Till p e below s (Q0 Z p1 q2 q3 h0 n0) room_1.cells room_1.slots (T47.setTop (mkF m 53 #[.val (.int p1), .val (.long q2), .second, .val (.long q3), .second, .val (.ref b3), .val (.int (p1 &&& (3 : Int32))), .unset, .unset, .unset, .unset, .unset, .unset, .unset, .unset, .unset, .unset, .unset] [(.long (p1 &&& (3 : Int32)).toInt64)]))
        refine Till.pre (fun _ hr => XS.lstore X49.here hx rfl (hb hby at_53) rfl (l' := #[.val (.int p1), .val (.long q2), .second, .val (.long q3), .second, .val (.ref b3), .val (.int (p1 &&& (3 : Int32))), .val (.long (p1 &&& (3 : Int32)).toInt64), .second, .unset, .unset, .unset, .unset, .unset, .unset, .unset, .unset, .unset]) rfl hr) ?_
        show Till p e below s (Q0 Z p1 q2 q3 h0 n0) room_1.cells room_1.slots (T47.setTop (mkF m 55 #[.val (.int p1), .val (.long q2), .second, .val (.long q3), .second, .val (.ref b3), .val (.int (p1 &&& (3 : Int32))), .val (.long (p1 &&& (3 : Int32)).toInt64), .second, .unset, .unset, .unset, .unset, .unset, .unset, .unset, .unset, .unset] []))
        refine Till.pre (fun _ hr => XS.lloadN X49.here hx rfl (hb hby at_55) rfl hr) ?_
        show Till p e below s (Q0 Z p1 q2 q3 h0 n0) room_1.cells room_1.slots (T47.setTop (mkF m 56 #[.val (.int p1), .val (.long q2), .second, .val (.long q3), .second, .val (.ref b3), .val (.int (p1 &&& (3 : Int32))), .val (.long (p1 &&& (3 : Int32)).toInt64), .second, .unset, .unset, .unset, .unset, .unset, .unset, .unset, .unset, .unset] [(.long q2)]))
        refine Till.pre (X49.ldc2Long hx hown (mvT hZ (hw _ (List.mem_of_getElem? (i := 9) rfl))) (g := (mkF m 56 #[.val (.int p1), .val (.long q2), .second, .val (.long q3), .second, .val (.ref b3), .val (.int (p1 &&& (3 : Int32))), .val (.long (p1 &&& (3 : Int32)).toInt64), .second, .unset, .unset, .unset, .unset, .unset, .unset, .unset, .unset, .unset] [(.long q2)])) rfl (hb hby at_56)) ?_
        show Till p e below s (Q0 Z p1 q2 q3 h0 n0) room_1.cells room_1.slots (T47.setTop (mkF m 59 #[.val (.int p1), .val (.long q2), .second, .val (.long q3), .second, .val (.ref b3), .val (.int (p1 &&& (3 : Int32))), .val (.long (p1 &&& (3 : Int32)).toInt64), .second, .unset, .unset, .unset, .unset, .unset, .unset, .unset, .unset, .unset] [(.long (9223372036854775807 : Int64)), (.long q2)]))
        refine Till.pre (fun _ hr => XS.lcmp X49.here hx rfl (hb hby at_59) rfl hr) ?_
        show Till p e below s (Q0 Z p1 q2 q3 h0 n0) room_1.cells room_1.slots (T47.setTop (mkF m 60 #[.val (.int p1), .val (.long q2), .second, .val (.long q3), .second, .val (.ref b3), .val (.int (p1 &&& (3 : Int32))), .val (.long (p1 &&& (3 : Int32)).toInt64), .second, .unset, .unset, .unset, .unset, .unset, .unset, .unset, .unset, .unset] [(.int (lcmpW q2 (9223372036854775807 : Int64)))]))
        have J70_52 : ∀ (v70s0 : Int64) (hv70s0 : v70s0 = (if (q2 = (9223372036854775807 : Int64)) then (9223372036854775806 : Int64) else q2)), Till p e below s (Q0 Z p1 q2 q3 h0 n0) room_1.cells room_1.slots (T47.setTop (mkF m 70 #[.val (.int p1), .val (.long q2), .second, .val (.long q3), .second, .val (.ref b3), .val (.int (p1 &&& (3 : Int32))), .val (.long (p1 &&& (3 : Int32)).toInt64), .second, .unset, .unset, .unset, .unset, .unset, .unset, .unset, .unset, .unset] [(.long v70s0)])) := by
          intro v70s0 hv70s0
          show Till p e below s (Q0 Z p1 q2 q3 h0 n0) room_1.cells room_1.slots (T47.setTop (mkF m 70 #[.val (.int p1), .val (.long q2), .second, .val (.long q3), .second, .val (.ref b3), .val (.int (p1 &&& (3 : Int32))), .val (.long (p1 &&& (3 : Int32)).toInt64), .second, .unset, .unset, .unset, .unset, .unset, .unset, .unset, .unset, .unset] [(.long v70s0)]))
          refine Till.pre (fun _ hr => XS.lstore X49.here hx rfl (hb hby at_70) rfl (l' := #[.val (.int p1), .val (.long q2), .second, .val (.long q3), .second, .val (.ref b3), .val (.int (p1 &&& (3 : Int32))), .val (.long (p1 &&& (3 : Int32)).toInt64), .second, .val (.long v70s0), .second, .unset, .unset, .unset, .unset, .unset, .unset, .unset]) rfl hr) ?_
          show Till p e below s (Q0 Z p1 q2 q3 h0 n0) room_1.cells room_1.slots (T47.setTop (mkF m 72 #[.val (.int p1), .val (.long q2), .second, .val (.long q3), .second, .val (.ref b3), .val (.int (p1 &&& (3 : Int32))), .val (.long (p1 &&& (3 : Int32)).toInt64), .second, .val (.long v70s0), .second, .unset, .unset, .unset, .unset, .unset, .unset, .unset] []))
          refine Till.pre (fun _ hr => XS.lloadN X49.here hx rfl (hb hby at_72) rfl hr) ?_
          show Till p e below s (Q0 Z p1 q2 q3 h0 n0) room_1.cells room_1.slots (T47.setTop (mkF m 73 #[.val (.int p1), .val (.long q2), .second, .val (.long q3), .second, .val (.ref b3), .val (.int (p1 &&& (3 : Int32))), .val (.long (p1 &&& (3 : Int32)).toInt64), .second, .val (.long v70s0), .second, .unset, .unset, .unset, .unset, .unset, .unset, .unset] [(.long q3)]))
          refine Till.pre (X49.ldc2Long hx hown (mvT hZ (hw _ (List.mem_of_getElem? (i := 9) rfl))) (g := (mkF m 73 #[.val (.int p1), .val (.long q2), .second, .val (.long q3), .second, .val (.ref b3), .val (.int (p1 &&& (3 : Int32))), .val (.long (p1 &&& (3 : Int32)).toInt64), .second, .val (.long v70s0), .second, .unset, .unset, .unset, .unset, .unset, .unset, .unset] [(.long q3)])) rfl (hb hby at_73)) ?_
          show Till p e below s (Q0 Z p1 q2 q3 h0 n0) room_1.cells room_1.slots (T47.setTop (mkF m 76 #[.val (.int p1), .val (.long q2), .second, .val (.long q3), .second, .val (.ref b3), .val (.int (p1 &&& (3 : Int32))), .val (.long (p1 &&& (3 : Int32)).toInt64), .second, .val (.long v70s0), .second, .unset, .unset, .unset, .unset, .unset, .unset, .unset] [(.long (9223372036854775807 : Int64)), (.long q3)]))
          refine Till.pre (fun _ hr => XS.lcmp X49.here hx rfl (hb hby at_76) rfl hr) ?_
          show Till p e below s (Q0 Z p1 q2 q3 h0 n0) room_1.cells room_1.slots (T47.setTop (mkF m 77 #[.val (.int p1), .val (.long q2), .second, .val (.long q3), .second, .val (.ref b3), .val (.int (p1 &&& (3 : Int32))), .val (.long (p1 &&& (3 : Int32)).toInt64), .second, .val (.long v70s0), .second, .unset, .unset, .unset, .unset, .unset, .unset, .unset] [(.int (lcmpW q3 (9223372036854775807 : Int64)))]))
          have J87_54 : ∀ (v87s0 : Int64) (hv87s0 : v87s0 = (if (q3 = (9223372036854775807 : Int64)) then (9223372036854775806 : Int64) else q3)), Till p e below s (Q0 Z p1 q2 q3 h0 n0) room_1.cells room_1.slots (T47.setTop (mkF m 87 #[.val (.int p1), .val (.long q2), .second, .val (.long q3), .second, .val (.ref b3), .val (.int (p1 &&& (3 : Int32))), .val (.long (p1 &&& (3 : Int32)).toInt64), .second, .val (.long v70s0), .second, .unset, .unset, .unset, .unset, .unset, .unset, .unset] [(.long v87s0)])) := by
            intro v87s0 hv87s0
            show Till p e below s (Q0 Z p1 q2 q3 h0 n0) room_1.cells room_1.slots (T47.setTop (mkF m 87 #[.val (.int p1), .val (.long q2), .second, .val (.long q3), .second, .val (.ref b3), .val (.int (p1 &&& (3 : Int32))), .val (.long (p1 &&& (3 : Int32)).toInt64), .second, .val (.long v70s0), .second, .unset, .unset, .unset, .unset, .unset, .unset, .unset] [(.long v87s0)]))
            refine Till.pre (fun _ hr => XS.lstore X49.here hx rfl (hb hby at_87) rfl (l' := #[.val (.int p1), .val (.long q2), .second, .val (.long q3), .second, .val (.ref b3), .val (.int (p1 &&& (3 : Int32))), .val (.long (p1 &&& (3 : Int32)).toInt64), .second, .val (.long v70s0), .second, .val (.long v87s0), .second, .unset, .unset, .unset, .unset, .unset]) rfl hr) ?_
            show Till p e below s (Q0 Z p1 q2 q3 h0 n0) room_1.cells room_1.slots (T47.setTop (mkF m 89 #[.val (.int p1), .val (.long q2), .second, .val (.long q3), .second, .val (.ref b3), .val (.int (p1 &&& (3 : Int32))), .val (.long (p1 &&& (3 : Int32)).toInt64), .second, .val (.long v70s0), .second, .val (.long v87s0), .second, .unset, .unset, .unset, .unset, .unset] []))
            refine Till.pre (fun _ hr => XS.aload X49.here hx rfl (hb hby at_89) rfl rfl hr) ?_
            show Till p e below s (Q0 Z p1 q2 q3 h0 n0) room_1.cells room_1.slots (T47.setTop (mkF m 91 #[.val (.int p1), .val (.long q2), .second, .val (.long q3), .second, .val (.ref b3), .val (.int (p1 &&& (3 : Int32))), .val (.long (p1 &&& (3 : Int32)).toInt64), .second, .val (.long v70s0), .second, .val (.long v87s0), .second, .unset, .unset, .unset, .unset, .unset] [(.ref b3)]))
            refine Till.pre (fun _ hr => XS.lload X49.here hx rfl (hb hby at_91) rfl hr) ?_
            show Till p e below s (Q0 Z p1 q2 q3 h0 n0) room_1.cells room_1.slots (T47.setTop (mkF m 93 #[.val (.int p1), .val (.long q2), .second, .val (.long q3), .second, .val (.ref b3), .val (.int (p1 &&& (3 : Int32))), .val (.long (p1 &&& (3 : Int32)).toInt64), .second, .val (.long v70s0), .second, .val (.long v87s0), .second, .unset, .unset, .unset, .unset, .unset] [(.long v70s0), (.ref b3)]))
            refine Till.callV (rm2 l Z a0 hw b3 v70s0 v50f0_0 T47.heap n0 Zs R_b3 g_b3 (⟨Int.lt_of_le_of_lt (own_c1 hv50f0_0 (own_c1 hv38f0_0 (own_c0 hv26f0_0) (by decide)) (by decide)).2 (by decide), own_a1 hv70s0⟩)) R_b3.1 X49 hx hZ hown (hw _ (List.mem_of_getElem? (i := 10) rfl)) (hw _ (List.mem_of_getElem? (i := 11) rfl)) (hw _ (List.mem_of_getElem? (i := 13) rfl)) (hw _ (List.mem_of_getElem? (i := 12) rfl)) (hw _ (List.mem_of_getElem? (i := 2) rfl)) (hw _ (List.mem_of_getElem? (i := 14) rfl)) (by decide) (by decide) (W := 0) (by decide) (by rw [hml]; rfl) (a := b3) (argsL := [(.long v70s0)]) (rest := []) (lenOf pd0_2 rfl) rfl rfl (Nat.le_of_eq rfl) (hb hby at_93) rfl (by decide) (by decide) ?_
            rintro _ T56 L57 X58 ⟨rfl, N59, K60, q61⟩
            have N59 := Fr.app N50 N59
            have Zs := Nat.le_trans Zs K60.1
            have R_b3 : Clk Z T56.heap b3 ((fn3 v50f0_0 v70s0) + (1 : Int64)) := q61
            show Till p e below s (Q0 Z p1 q2 q3 h0 n0) room_1.cells room_1.slots (T56.setTop (mkF m 96 #[.val (.int p1), .val (.long q2), .second, .val (.long q3), .second, .val (.ref b3), .val (.int (p1 &&& (3 : Int32))), .val (.long (p1 &&& (3 : Int32)).toInt64), .second, .val (.long v70s0), .second, .val (.long v87s0), .second, .unset, .unset, .unset, .unset, .unset] []))
            refine Till.pre (fun _ hr => XS.lload X58.here hx rfl (hb hby at_96) rfl hr) ?_
            show Till p e below s (Q0 Z p1 q2 q3 h0 n0) room_1.cells room_1.slots (T56.setTop (mkF m 98 #[.val (.int p1), .val (.long q2), .second, .val (.long q3), .second, .val (.ref b3), .val (.int (p1 &&& (3 : Int32))), .val (.long (p1 &&& (3 : Int32)).toInt64), .second, .val (.long v70s0), .second, .val (.long v87s0), .second, .unset, .unset, .unset, .unset, .unset] [(.long v70s0)]))
            refine Till.pre (fun _ hr => XS.lload X58.here hx rfl (hb hby at_98) rfl hr) ?_
            show Till p e below s (Q0 Z p1 q2 q3 h0 n0) room_1.cells room_1.slots (T56.setTop (mkF m 100 #[.val (.int p1), .val (.long q2), .second, .val (.long q3), .second, .val (.ref b3), .val (.int (p1 &&& (3 : Int32))), .val (.long (p1 &&& (3 : Int32)).toInt64), .second, .val (.long v70s0), .second, .val (.long v87s0), .second, .unset, .unset, .unset, .unset, .unset] [(.long (p1 &&& (3 : Int32)).toInt64), (.long v70s0)]))
            refine Till.pre (fun _ hr => XS.lcmp X58.here hx rfl (hb hby at_100) rfl hr) ?_
            show Till p e below s (Q0 Z p1 q2 q3 h0 n0) room_1.cells room_1.slots (T56.setTop (mkF m 101 #[.val (.int p1), .val (.long q2), .second, .val (.long q3), .second, .val (.ref b3), .val (.int (p1 &&& (3 : Int32))), .val (.long (p1 &&& (3 : Int32)).toInt64), .second, .val (.long v70s0), .second, .val (.long v87s0), .second, .unset, .unset, .unset, .unset, .unset] [(.int (lcmpW v70s0 (p1 &&& (3 : Int32)).toInt64))]))
            have J111_62 : ∀ (v111s0 : Int64) (hv111s0 : v111s0 = (if ((p1 &&& (3 : Int32)).toInt64 < v70s0) then v70s0 else (p1 &&& (3 : Int32)).toInt64)), Till p e below s (Q0 Z p1 q2 q3 h0 n0) room_1.cells room_1.slots (T56.setTop (mkF m 111 #[.val (.int p1), .val (.long q2), .second, .val (.long q3), .second, .val (.ref b3), .val (.int (p1 &&& (3 : Int32))), .val (.long (p1 &&& (3 : Int32)).toInt64), .second, .val (.long v70s0), .second, .val (.long v87s0), .second, .unset, .unset, .unset, .unset, .unset] [(.long v111s0)])) := by
              intro v111s0 hv111s0
              show Till p e below s (Q0 Z p1 q2 q3 h0 n0) room_1.cells room_1.slots (T56.setTop (mkF m 111 #[.val (.int p1), .val (.long q2), .second, .val (.long q3), .second, .val (.ref b3), .val (.int (p1 &&& (3 : Int32))), .val (.long (p1 &&& (3 : Int32)).toInt64), .second, .val (.long v70s0), .second, .val (.long v87s0), .second, .unset, .unset, .unset, .unset, .unset] [(.long v111s0)]))
              refine Till.pre (fun _ hr => XS.lconst X58.here hx rfl (hb hby at_111) hr) ?_
              show Till p e below s (Q0 Z p1 q2 q3 h0 n0) room_1.cells room_1.slots (T56.setTop (mkF m 112 #[.val (.int p1), .val (.long q2), .second, .val (.long q3), .second, .val (.ref b3), .val (.int (p1 &&& (3 : Int32))), .val (.long (p1 &&& (3 : Int32)).toInt64), .second, .val (.long v70s0), .second, .val (.long v87s0), .second, .unset, .unset, .unset, .unset, .unset] [(.long (1 : Int64)), (.long v111s0)]))
              refine Till.pre (fun _ hr => XS.ladd X58.here hx rfl (hb hby at_112) rfl hr) ?_
              show Till p e below s (Q0 Z p1 q2 q3 h0 n0) room_1.cells room_1.slots (T56.setTop (mkF m 113 #[.val (.int p1), .val (.long q2), .second, .val (.long q3), .second, .val (.ref b3), .val (.int (p1 &&& (3 : Int32))), .val (.long (p1 &&& (3 : Int32)).toInt64), .second, .val (.long v70s0), .second, .val (.long v87s0), .second, .unset, .unset, .unset, .unset, .unset] [(.long (v111s0 + (1 : Int64)))]))
              refine Till.pre (fun _ hr => XS.lstore X58.here hx rfl (hb hby at_113) rfl (l' := #[.val (.int p1), .val (.long q2), .second, .val (.long q3), .second, .val (.ref b3), .val (.int (p1 &&& (3 : Int32))), .val (.long (p1 &&& (3 : Int32)).toInt64), .second, .val (.long v70s0), .second, .val (.long v87s0), .second, .val (.long (v111s0 + (1 : Int64))), .second, .unset, .unset, .unset]) rfl hr) ?_
              show Till p e below s (Q0 Z p1 q2 q3 h0 n0) room_1.cells room_1.slots (T56.setTop (mkF m 115 #[.val (.int p1), .val (.long q2), .second, .val (.long q3), .second, .val (.ref b3), .val (.int (p1 &&& (3 : Int32))), .val (.long (p1 &&& (3 : Int32)).toInt64), .second, .val (.long v70s0), .second, .val (.long v87s0), .second, .val (.long (v111s0 + (1 : Int64))), .second, .unset, .unset, .unset] []))
              refine Till.pre (fun _ hr => XS.aload X58.here hx rfl (hb hby at_115) rfl rfl hr) ?_
              show Till p e below s (Q0 Z p1 q2 q3 h0 n0) room_1.cells room_1.slots (T56.setTop (mkF m 117 #[.val (.int p1), .val (.long q2), .second, .val (.long q3), .second, .val (.ref b3), .val (.int (p1 &&& (3 : Int32))), .val (.long (p1 &&& (3 : Int32)).toInt64), .second, .val (.long v70s0), .second, .val (.long v87s0), .second, .val (.long (v111s0 + (1 : Int64))), .second, .unset, .unset, .unset] [(.ref b3)]))
              refine Till.callV (rm5 l Z a0 hw b3 ((fn3 v50f0_0 v70s0) + (1 : Int64)) T56.heap n0 R_b3) R_b3.1 X58 hx hZ hown (hw _ (List.mem_of_getElem? (i := 24) rfl)) (hw _ (List.mem_of_getElem? (i := 25) rfl)) (hw _ (List.mem_of_getElem? (i := 27) rfl)) (hw _ (List.mem_of_getElem? (i := 26) rfl)) (hw _ (List.mem_of_getElem? (i := 2) rfl)) (hw _ (List.mem_of_getElem? (i := 28) rfl)) (by decide) (by decide) (W := 0) (by decide) (by rw [hml]; rfl) (a := b3) (argsL := []) (rest := []) (lenOf pd0_0 rfl) rfl rfl (Nat.le_of_eq rfl) (hb hby at_117) rfl (by decide) (by decide) ?_
              rintro _ T64 L65 X66 ⟨rfl, N67, e68⟩
              have N67 := Fr.app N59 N67
              show Till p e below s (Q0 Z p1 q2 q3 h0 n0) room_1.cells room_1.slots (T64.setTop (mkF m 120 #[.val (.int p1), .val (.long q2), .second, .val (.long q3), .second, .val (.ref b3), .val (.int (p1 &&& (3 : Int32))), .val (.long (p1 &&& (3 : Int32)).toInt64), .second, .val (.long v70s0), .second, .val (.long v87s0), .second, .val (.long (v111s0 + (1 : Int64))), .second, .unset, .unset, .unset] [(.long ((fn3 v50f0_0 v70s0) + (1 : Int64)))]))
              refine Till.pre (fun _ hr => XS.lload X66.here hx rfl (hb hby at_120) rfl hr) ?_
              show Till p e below s (Q0 Z p1 q2 q3 h0 n0) room_1.cells room_1.slots (T64.setTop (mkF m 122 #[.val (.int p1), .val (.long q2), .second, .val (.long q3), .second, .val (.ref b3), .val (.int (p1 &&& (3 : Int32))), .val (.long (p1 &&& (3 : Int32)).toInt64), .second, .val (.long v70s0), .second, .val (.long v87s0), .second, .val (.long (v111s0 + (1 : Int64))), .second, .unset, .unset, .unset] [(.long (v111s0 + (1 : Int64))), (.long ((fn3 v50f0_0 v70s0) + (1 : Int64)))]))
              refine Till.pre (fun _ hr => XS.lcmp X66.here hx rfl (hb hby at_122) rfl hr) ?_
              show Till p e below s (Q0 Z p1 q2 q3 h0 n0) room_1.cells room_1.slots (T64.setTop (mkF m 123 #[.val (.int p1), .val (.long q2), .second, .val (.long q3), .second, .val (.ref b3), .val (.int (p1 &&& (3 : Int32))), .val (.long (p1 &&& (3 : Int32)).toInt64), .second, .val (.long v70s0), .second, .val (.long v87s0), .second, .val (.long (v111s0 + (1 : Int64))), .second, .unset, .unset, .unset] [(.int (lcmpW ((fn3 v50f0_0 v70s0) + (1 : Int64)) (v111s0 + (1 : Int64))))]))
              have J131_69 : ∀ (v131s0 : Int32) (hv131s0 : v131s0 = (if (((fn3 v50f0_0 v70s0) + (1 : Int64)) = (v111s0 + (1 : Int64))) then (1 : Int32) else (0 : Int32))), Till p e below s (Q0 Z p1 q2 q3 h0 n0) room_1.cells room_1.slots (T64.setTop (mkF m 131 #[.val (.int p1), .val (.long q2), .second, .val (.long q3), .second, .val (.ref b3), .val (.int (p1 &&& (3 : Int32))), .val (.long (p1 &&& (3 : Int32)).toInt64), .second, .val (.long v70s0), .second, .val (.long v87s0), .second, .val (.long (v111s0 + (1 : Int64))), .second, .unset, .unset, .unset] [(.int v131s0)])) := by
                intro v131s0 hv131s0
                show Till p e below s (Q0 Z p1 q2 q3 h0 n0) room_1.cells room_1.slots (T64.setTop (mkF m 131 #[.val (.int p1), .val (.long q2), .second, .val (.long q3), .second, .val (.ref b3), .val (.int (p1 &&& (3 : Int32))), .val (.long (p1 &&& (3 : Int32)).toInt64), .second, .val (.long v70s0), .second, .val (.long v87s0), .second, .val (.long (v111s0 + (1 : Int64))), .second, .unset, .unset, .unset] [(.int v131s0)]))
                refine Till.pre (fun _ hr => XS.istore X66.here hx rfl (hb hby at_131) rfl (l' := #[.val (.int p1), .val (.long q2), .second, .val (.long q3), .second, .val (.ref b3), .val (.int (p1 &&& (3 : Int32))), .val (.long (p1 &&& (3 : Int32)).toInt64), .second, .val (.long v70s0), .second, .val (.long v87s0), .second, .val (.long (v111s0 + (1 : Int64))), .second, .val (.int v131s0), .unset, .unset]) rfl hr) ?_
                show Till p e below s (Q0 Z p1 q2 q3 h0 n0) room_1.cells room_1.slots (T64.setTop (mkF m 133 #[.val (.int p1), .val (.long q2), .second, .val (.long q3), .second, .val (.ref b3), .val (.int (p1 &&& (3 : Int32))), .val (.long (p1 &&& (3 : Int32)).toInt64), .second, .val (.long v70s0), .second, .val (.long v87s0), .second, .val (.long (v111s0 + (1 : Int64))), .second, .val (.int v131s0), .unset, .unset] []))
                refine Till.pre (fun _ hr => XS.lload X66.here hx rfl (hb hby at_133) rfl hr) ?_
                show Till p e below s (Q0 Z p1 q2 q3 h0 n0) room_1.cells room_1.slots (T64.setTop (mkF m 135 #[.val (.int p1), .val (.long q2), .second, .val (.long q3), .second, .val (.ref b3), .val (.int (p1 &&& (3 : Int32))), .val (.long (p1 &&& (3 : Int32)).toInt64), .second, .val (.long v70s0), .second, .val (.long v87s0), .second, .val (.long (v111s0 + (1 : Int64))), .second, .val (.int v131s0), .unset, .unset] [(.long (v111s0 + (1 : Int64)))]))
                refine Till.pre (X66.ldc2Long hx hown (mvT hZ (hw _ (List.mem_of_getElem? (i := 9) rfl))) (g := (mkF m 135 #[.val (.int p1), .val (.long q2), .second, .val (.long q3), .second, .val (.ref b3), .val (.int (p1 &&& (3 : Int32))), .val (.long (p1 &&& (3 : Int32)).toInt64), .second, .val (.long v70s0), .second, .val (.long v87s0), .second, .val (.long (v111s0 + (1 : Int64))), .second, .val (.int v131s0), .unset, .unset] [(.long (v111s0 + (1 : Int64)))])) rfl (hb hby at_135)) ?_
                show Till p e below s (Q0 Z p1 q2 q3 h0 n0) room_1.cells room_1.slots (T64.setTop (mkF m 138 #[.val (.int p1), .val (.long q2), .second, .val (.long q3), .second, .val (.ref b3), .val (.int (p1 &&& (3 : Int32))), .val (.long (p1 &&& (3 : Int32)).toInt64), .second, .val (.long v70s0), .second, .val (.long v87s0), .second, .val (.long (v111s0 + (1 : Int64))), .second, .val (.int v131s0), .unset, .unset] [(.long (9223372036854775807 : Int64)), (.long (v111s0 + (1 : Int64)))]))
                refine Till.pre (fun _ hr => XS.lcmp X66.here hx rfl (hb hby at_138) rfl hr) ?_
                show Till p e below s (Q0 Z p1 q2 q3 h0 n0) room_1.cells room_1.slots (T64.setTop (mkF m 139 #[.val (.int p1), .val (.long q2), .second, .val (.long q3), .second, .val (.ref b3), .val (.int (p1 &&& (3 : Int32))), .val (.long (p1 &&& (3 : Int32)).toInt64), .second, .val (.long v70s0), .second, .val (.long v87s0), .second, .val (.long (v111s0 + (1 : Int64))), .second, .val (.int v131s0), .unset, .unset] [(.int (lcmpW (v111s0 + (1 : Int64)) (9223372036854775807 : Int64)))]))
                refine Till.ifc (pc' := 145) X66.here hx (hb hby at_139) (by decide) (by decide) (fun q => ?_) (fun q => ?_)
                · have hc71 := (mt lEq.mpr (hEq.2.2.1 q))
                  show Till p e below s (Q0 Z p1 q2 q3 h0 n0) room_1.cells room_1.slots (T64.setTop (mkF m 145 #[.val (.int p1), .val (.long q2), .second, .val (.long q3), .second, .val (.ref b3), .val (.int (p1 &&& (3 : Int32))), .val (.long (p1 &&& (3 : Int32)).toInt64), .second, .val (.long v70s0), .second, .val (.long v87s0), .second, .val (.long (v111s0 + (1 : Int64))), .second, .val (.int v131s0), .unset, .unset] []))
                  refine Till.pre (fun _ hr => XS.aload X66.here hx rfl (hb hby at_145) rfl rfl hr) ?_
                  show Till p e below s (Q0 Z p1 q2 q3 h0 n0) room_1.cells room_1.slots (T64.setTop (mkF m 147 #[.val (.int p1), .val (.long q2), .second, .val (.long q3), .second, .val (.ref b3), .val (.int (p1 &&& (3 : Int32))), .val (.long (p1 &&& (3 : Int32)).toInt64), .second, .val (.long v70s0), .second, .val (.long v87s0), .second, .val (.long (v111s0 + (1 : Int64))), .second, .val (.int v131s0), .unset, .unset] [(.ref b3)]))
                  refine Till.pre (fun _ hr => XS.lload X66.here hx rfl (hb hby at_147) rfl hr) ?_
                  show Till p e below s (Q0 Z p1 q2 q3 h0 n0) room_1.cells room_1.slots (T64.setTop (mkF m 149 #[.val (.int p1), .val (.long q2), .second, .val (.long q3), .second, .val (.ref b3), .val (.int (p1 &&& (3 : Int32))), .val (.long (p1 &&& (3 : Int32)).toInt64), .second, .val (.long v70s0), .second, .val (.long v87s0), .second, .val (.long (v111s0 + (1 : Int64))), .second, .val (.int v131s0), .unset, .unset] [(.long v87s0), (.ref b3)]))
                  refine Till.callV (rm2 l Z a0 hw b3 v87s0 ((fn3 v50f0_0 v70s0) + (1 : Int64)) T56.heap n0 Zs R_b3 g_b3 (⟨own_l1 (own_e1 (own_t0 hv26f0_0 hv38f0_0 hv50f0_0) hv111s0) (own_mx (Int.lt_of_le_of_lt (own_c1 hv50f0_0 (own_c1 hv38f0_0 (own_c0 hv26f0_0) (by decide)) (by decide)).2 (by decide)) (own_a1 hv70s0)) hc71, own_a1 hv87s0⟩)) R_b3.1 X66 hx hZ hown (hw _ (List.mem_of_getElem? (i := 10) rfl)) (hw _ (List.mem_of_getElem? (i := 11) rfl)) (hw _ (List.mem_of_getElem? (i := 13) rfl)) (hw _ (List.mem_of_getElem? (i := 12) rfl)) (hw _ (List.mem_of_getElem? (i := 2) rfl)) (hw _ (List.mem_of_getElem? (i := 14) rfl)) (by decide) (by decide) (W := 0) (by decide) (by rw [hml]; rfl) (a := b3) (argsL := [(.long v87s0)]) (rest := []) (lenOf pd0_2 rfl) rfl rfl (Nat.le_of_eq rfl) (hb hby at_149) e68 (by decide) (by decide) ?_
                  rintro _ T72 L73 X74 ⟨rfl, N75, K76, q77⟩
                  have N75 := Fr.app N67 N75
                  have Zs := Nat.le_trans Zs K76.1
                  have R_b3 : Clk Z T72.heap b3 ((fn3 ((fn3 v50f0_0 v70s0) + (1 : Int64)) v87s0) + (1 : Int64)) := q77
                  show Till p e below s (Q0 Z p1 q2 q3 h0 n0) room_1.cells room_1.slots (T72.setTop (mkF m 152 #[.val (.int p1), .val (.long q2), .second, .val (.long q3), .second, .val (.ref b3), .val (.int (p1 &&& (3 : Int32))), .val (.long (p1 &&& (3 : Int32)).toInt64), .second, .val (.long v70s0), .second, .val (.long v87s0), .second, .val (.long (v111s0 + (1 : Int64))), .second, .val (.int v131s0), .unset, .unset] []))
                  refine Till.pre (fun _ hr => XS.lload X74.here hx rfl (hb hby at_152) rfl hr) ?_
                  show Till p e below s (Q0 Z p1 q2 q3 h0 n0) room_1.cells room_1.slots (T72.setTop (mkF m 154 #[.val (.int p1), .val (.long q2), .second, .val (.long q3), .second, .val (.ref b3), .val (.int (p1 &&& (3 : Int32))), .val (.long (p1 &&& (3 : Int32)).toInt64), .second, .val (.long v70s0), .second, .val (.long v87s0), .second, .val (.long (v111s0 + (1 : Int64))), .second, .val (.int v131s0), .unset, .unset] [(.long v87s0)]))
                  refine Till.pre (fun _ hr => XS.lload X74.here hx rfl (hb hby at_154) rfl hr) ?_
                  show Till p e below s (Q0 Z p1 q2 q3 h0 n0) room_1.cells room_1.slots (T72.setTop (mkF m 156 #[.val (.int p1), .val (.long q2), .second, .val (.long q3), .second, .val (.ref b3), .val (.int (p1 &&& (3 : Int32))), .val (.long (p1 &&& (3 : Int32)).toInt64), .second, .val (.long v70s0), .second, .val (.long v87s0), .second, .val (.long (v111s0 + (1 : Int64))), .second, .val (.int v131s0), .unset, .unset] [(.long (v111s0 + (1 : Int64))), (.long v87s0)]))
                  refine Till.pre (fun _ hr => XS.lcmp X74.here hx rfl (hb hby at_156) rfl hr) ?_
                  show Till p e below s (Q0 Z p1 q2 q3 h0 n0) room_1.cells room_1.slots (T72.setTop (mkF m 157 #[.val (.int p1), .val (.long q2), .second, .val (.long q3), .second, .val (.ref b3), .val (.int (p1 &&& (3 : Int32))), .val (.long (p1 &&& (3 : Int32)).toInt64), .second, .val (.long v70s0), .second, .val (.long v87s0), .second, .val (.long (v111s0 + (1 : Int64))), .second, .val (.int v131s0), .unset, .unset] [(.int (lcmpW v87s0 (v111s0 + (1 : Int64))))]))
                  have J167_78 : ∀ (v167s0 : Int64) (hv167s0 : v167s0 = (if ((v111s0 + (1 : Int64)) < v87s0) then v87s0 else (v111s0 + (1 : Int64)))), Till p e below s (Q0 Z p1 q2 q3 h0 n0) room_1.cells room_1.slots (T72.setTop (mkF m 167 #[.val (.int p1), .val (.long q2), .second, .val (.long q3), .second, .val (.ref b3), .val (.int (p1 &&& (3 : Int32))), .val (.long (p1 &&& (3 : Int32)).toInt64), .second, .val (.long v70s0), .second, .val (.long v87s0), .second, .val (.long (v111s0 + (1 : Int64))), .second, .val (.int v131s0), .unset, .unset] [(.long v167s0)])) := by
                    intro v167s0 hv167s0
                    show Till p e below s (Q0 Z p1 q2 q3 h0 n0) room_1.cells room_1.slots (T72.setTop (mkF m 167 #[.val (.int p1), .val (.long q2), .second, .val (.long q3), .second, .val (.ref b3), .val (.int (p1 &&& (3 : Int32))), .val (.long (p1 &&& (3 : Int32)).toInt64), .second, .val (.long v70s0), .second, .val (.long v87s0), .second, .val (.long (v111s0 + (1 : Int64))), .second, .val (.int v131s0), .unset, .unset] [(.long v167s0)]))
                    refine Till.pre (fun _ hr => XS.lconst X74.here hx rfl (hb hby at_167) hr) ?_
                    show Till p e below s (Q0 Z p1 q2 q3 h0 n0) room_1.cells room_1.slots (T72.setTop (mkF m 168 #[.val (.int p1), .val (.long q2), .second, .val (.long q3), .second, .val (.ref b3), .val (.int (p1 &&& (3 : Int32))), .val (.long (p1 &&& (3 : Int32)).toInt64), .second, .val (.long v70s0), .second, .val (.long v87s0), .second, .val (.long (v111s0 + (1 : Int64))), .second, .val (.int v131s0), .unset, .unset] [(.long (1 : Int64)), (.long v167s0)]))
                    refine Till.pre (fun _ hr => XS.ladd X74.here hx rfl (hb hby at_168) rfl hr) ?_
                    show Till p e below s (Q0 Z p1 q2 q3 h0 n0) room_1.cells room_1.slots (T72.setTop (mkF m 169 #[.val (.int p1), .val (.long q2), .second, .val (.long q3), .second, .val (.ref b3), .val (.int (p1 &&& (3 : Int32))), .val (.long (p1 &&& (3 : Int32)).toInt64), .second, .val (.long v70s0), .second, .val (.long v87s0), .second, .val (.long (v111s0 + (1 : Int64))), .second, .val (.int v131s0), .unset, .unset] [(.long (v167s0 + (1 : Int64)))]))
                    refine Till.pre (fun _ hr => XS.lstore X74.here hx rfl (hb hby at_169) rfl (l' := #[.val (.int p1), .val (.long q2), .second, .val (.long q3), .second, .val (.ref b3), .val (.int (p1 &&& (3 : Int32))), .val (.long (p1 &&& (3 : Int32)).toInt64), .second, .val (.long v70s0), .second, .val (.long v87s0), .second, .val (.long (v111s0 + (1 : Int64))), .second, .val (.int v131s0), .val (.long (v167s0 + (1 : Int64))), .second]) rfl hr) ?_
                    show Till p e below s (Q0 Z p1 q2 q3 h0 n0) room_1.cells room_1.slots (T72.setTop (mkF m 171 #[.val (.int p1), .val (.long q2), .second, .val (.long q3), .second, .val (.ref b3), .val (.int (p1 &&& (3 : Int32))), .val (.long (p1 &&& (3 : Int32)).toInt64), .second, .val (.long v70s0), .second, .val (.long v87s0), .second, .val (.long (v111s0 + (1 : Int64))), .second, .val (.int v131s0), .val (.long (v167s0 + (1 : Int64))), .second] []))
                    refine Till.pre (fun _ hr => XS.iload X74.here hx rfl (hb hby at_171) rfl hr) ?_
                    show Till p e below s (Q0 Z p1 q2 q3 h0 n0) room_1.cells room_1.slots (T72.setTop (mkF m 173 #[.val (.int p1), .val (.long q2), .second, .val (.long q3), .second, .val (.ref b3), .val (.int (p1 &&& (3 : Int32))), .val (.long (p1 &&& (3 : Int32)).toInt64), .second, .val (.long v70s0), .second, .val (.long v87s0), .second, .val (.long (v111s0 + (1 : Int64))), .second, .val (.int v131s0), .val (.long (v167s0 + (1 : Int64))), .second] [(.int v131s0)]))
                    have J192_91 : ∀ (T87 : State) (L88 : List Loc) (X89 : Stand p l e room_1 s m #[(.int p1), (.long q2), (.long q3)] below meth c T87 L88 1 1) (N90 : Fr n0 L88) (e91 : T87.heap = T72.heap) (v192s0 : Int32) (hv192s0 : v192s0 = (if (v131s0 = (0 : Int32)) then (0 : Int32) else (if (((fn3 ((fn3 v50f0_0 v70s0) + (1 : Int64)) v87s0) + (1 : Int64)) = (v167s0 + (1 : Int64))) then (1 : Int32) else (0 : Int32)))), Till p e below s (Q0 Z p1 q2 q3 h0 n0) room_1.cells room_1.slots (T87.setTop (mkF m 192 #[.val (.int p1), .val (.long q2), .second, .val (.long q3), .second, .val (.ref b3), .val (.int (p1 &&& (3 : Int32))), .val (.long (p1 &&& (3 : Int32)).toInt64), .second, .val (.long v70s0), .second, .val (.long v87s0), .second, .val (.long (v111s0 + (1 : Int64))), .second, .val (.int v131s0), .val (.long (v167s0 + (1 : Int64))), .second] [(.int v192s0)])) := by
                      intro T87 L88 X89 N90 e91 v192s0 hv192s0
                      show Till p e below s (Q0 Z p1 q2 q3 h0 n0) room_1.cells room_1.slots (T87.setTop (mkF m 192 #[.val (.int p1), .val (.long q2), .second, .val (.long q3), .second, .val (.ref b3), .val (.int (p1 &&& (3 : Int32))), .val (.long (p1 &&& (3 : Int32)).toInt64), .second, .val (.long v70s0), .second, .val (.long v87s0), .second, .val (.long (v111s0 + (1 : Int64))), .second, .val (.int v131s0), .val (.long (v167s0 + (1 : Int64))), .second] [(.int v192s0)]))
                      refine Till.retZ (w := (1 : Int32)) X89 hx hret hlk (hb hby at_192) (by decide) (by decide) (by rw [hv192s0, if_neg (by rw [hv131s0.trans (if_pos (congrArg (· + (1 : Int64)) (own_e1 (own_t0 hv26f0_0 hv38f0_0 hv50f0_0) hv111s0)))]; decide), if_pos (congrArg (· + (1 : Int64)) (own_e2 (own_e1 (own_t0 hv26f0_0 hv38f0_0 hv50f0_0) hv111s0) hv167s0))]; decide) ?_
                      exact ⟨rfl, N90⟩
                    refine Till.ifc (pc' := 191) X74.here hx (hb hby at_173) (by decide) (by decide) (fun q => ?_) (fun q => ?_)
                    · have hc80 := (hEq.1 q)
                      show Till p e below s (Q0 Z p1 q2 q3 h0 n0) room_1.cells room_1.slots (T72.setTop (mkF m 191 #[.val (.int p1), .val (.long q2), .second, .val (.long q3), .second, .val (.ref b3), .val (.int (p1 &&& (3 : Int32))), .val (.long (p1 &&& (3 : Int32)).toInt64), .second, .val (.long v70s0), .second, .val (.long v87s0), .second, .val (.long (v111s0 + (1 : Int64))), .second, .val (.int v131s0), .val (.long (v167s0 + (1 : Int64))), .second] []))
                      refine Till.pre (fun _ hr => XS.iconst X74.here hx rfl (hb hby at_191) hr) ?_
                      show Till p e below s (Q0 Z p1 q2 q3 h0 n0) room_1.cells room_1.slots (T72.setTop (mkF m 192 #[.val (.int p1), .val (.long q2), .second, .val (.long q3), .second, .val (.ref b3), .val (.int (p1 &&& (3 : Int32))), .val (.long (p1 &&& (3 : Int32)).toInt64), .second, .val (.long v70s0), .second, .val (.long v87s0), .second, .val (.long (v111s0 + (1 : Int64))), .second, .val (.int v131s0), .val (.long (v167s0 + (1 : Int64))), .second] [(.int (0 : Int32))]))
                      exact J192_91 _ _ X74 N75 rfl _ (Eq.symm (if_pos hc80))
                    · have hc80 := (hEq.2.1 q)
                      show Till p e below s (Q0 Z p1 q2 q3 h0 n0) room_1.cells room_1.slots (T72.setTop (mkF m 176 #[.val (.int p1), .val (.long q2), .second, .val (.long q3), .second, .val (.ref b3), .val (.int (p1 &&& (3 : Int32))), .val (.long (p1 &&& (3 : Int32)).toInt64), .second, .val (.long v70s0), .second, .val (.long v87s0), .second, .val (.long (v111s0 + (1 : Int64))), .second, .val (.int v131s0), .val (.long (v167s0 + (1 : Int64))), .second] []))
                      refine Till.pre (fun _ hr => XS.aload X74.here hx rfl (hb hby at_176) rfl rfl hr) ?_
                      show Till p e below s (Q0 Z p1 q2 q3 h0 n0) room_1.cells room_1.slots (T72.setTop (mkF m 178 #[.val (.int p1), .val (.long q2), .second, .val (.long q3), .second, .val (.ref b3), .val (.int (p1 &&& (3 : Int32))), .val (.long (p1 &&& (3 : Int32)).toInt64), .second, .val (.long v70s0), .second, .val (.long v87s0), .second, .val (.long (v111s0 + (1 : Int64))), .second, .val (.int v131s0), .val (.long (v167s0 + (1 : Int64))), .second] [(.ref b3)]))
                      refine Till.callV (rm5 l Z a0 hw b3 ((fn3 ((fn3 v50f0_0 v70s0) + (1 : Int64)) v87s0) + (1 : Int64)) T72.heap n0 R_b3) R_b3.1 X74 hx hZ hown (hw _ (List.mem_of_getElem? (i := 24) rfl)) (hw _ (List.mem_of_getElem? (i := 25) rfl)) (hw _ (List.mem_of_getElem? (i := 27) rfl)) (hw _ (List.mem_of_getElem? (i := 26) rfl)) (hw _ (List.mem_of_getElem? (i := 2) rfl)) (hw _ (List.mem_of_getElem? (i := 28) rfl)) (by decide) (by decide) (W := 0) (by decide) (by rw [hml]; rfl) (a := b3) (argsL := []) (rest := []) (lenOf pd0_0 rfl) rfl rfl (Nat.le_of_eq rfl) (hb hby at_178) rfl (by decide) (by decide) ?_
                      rintro _ T81 L82 X83 ⟨rfl, N84, e85⟩
                      have N84 := Fr.app N75 N84
                      show Till p e below s (Q0 Z p1 q2 q3 h0 n0) room_1.cells room_1.slots (T81.setTop (mkF m 181 #[.val (.int p1), .val (.long q2), .second, .val (.long q3), .second, .val (.ref b3), .val (.int (p1 &&& (3 : Int32))), .val (.long (p1 &&& (3 : Int32)).toInt64), .second, .val (.long v70s0), .second, .val (.long v87s0), .second, .val (.long (v111s0 + (1 : Int64))), .second, .val (.int v131s0), .val (.long (v167s0 + (1 : Int64))), .second] [(.long ((fn3 ((fn3 v50f0_0 v70s0) + (1 : Int64)) v87s0) + (1 : Int64)))]))
                      refine Till.pre (fun _ hr => XS.lload X83.here hx rfl (hb hby at_181) rfl hr) ?_
                      show Till p e below s (Q0 Z p1 q2 q3 h0 n0) room_1.cells room_1.slots (T81.setTop (mkF m 183 #[.val (.int p1), .val (.long q2), .second, .val (.long q3), .second, .val (.ref b3), .val (.int (p1 &&& (3 : Int32))), .val (.long (p1 &&& (3 : Int32)).toInt64), .second, .val (.long v70s0), .second, .val (.long v87s0), .second, .val (.long (v111s0 + (1 : Int64))), .second, .val (.int v131s0), .val (.long (v167s0 + (1 : Int64))), .second] [(.long (v167s0 + (1 : Int64))), (.long ((fn3 ((fn3 v50f0_0 v70s0) + (1 : Int64)) v87s0) + (1 : Int64)))]))
                      refine Till.pre (fun _ hr => XS.lcmp X83.here hx rfl (hb hby at_183) rfl hr) ?_
                      show Till p e below s (Q0 Z p1 q2 q3 h0 n0) room_1.cells room_1.slots (T81.setTop (mkF m 184 #[.val (.int p1), .val (.long q2), .second, .val (.long q3), .second, .val (.ref b3), .val (.int (p1 &&& (3 : Int32))), .val (.long (p1 &&& (3 : Int32)).toInt64), .second, .val (.long v70s0), .second, .val (.long v87s0), .second, .val (.long (v111s0 + (1 : Int64))), .second, .val (.int v131s0), .val (.long (v167s0 + (1 : Int64))), .second] [(.int (lcmpW ((fn3 ((fn3 v50f0_0 v70s0) + (1 : Int64)) v87s0) + (1 : Int64)) (v167s0 + (1 : Int64))))]))
                      refine Till.ifc (pc' := 191) X83.here hx (hb hby at_184) (by decide) (by decide) (fun q => ?_) (fun q => ?_)
                      · have hc86 := (mt lEq.mpr (hEq.2.2.1 q))
                        show Till p e below s (Q0 Z p1 q2 q3 h0 n0) room_1.cells room_1.slots (T81.setTop (mkF m 191 #[.val (.int p1), .val (.long q2), .second, .val (.long q3), .second, .val (.ref b3), .val (.int (p1 &&& (3 : Int32))), .val (.long (p1 &&& (3 : Int32)).toInt64), .second, .val (.long v70s0), .second, .val (.long v87s0), .second, .val (.long (v111s0 + (1 : Int64))), .second, .val (.int v131s0), .val (.long (v167s0 + (1 : Int64))), .second] []))
                        refine Till.pre (fun _ hr => XS.iconst X83.here hx rfl (hb hby at_191) hr) ?_
                        show Till p e below s (Q0 Z p1 q2 q3 h0 n0) room_1.cells room_1.slots (T81.setTop (mkF m 192 #[.val (.int p1), .val (.long q2), .second, .val (.long q3), .second, .val (.ref b3), .val (.int (p1 &&& (3 : Int32))), .val (.long (p1 &&& (3 : Int32)).toInt64), .second, .val (.long v70s0), .second, .val (.long v87s0), .second, .val (.long (v111s0 + (1 : Int64))), .second, .val (.int v131s0), .val (.long (v167s0 + (1 : Int64))), .second] [(.int (0 : Int32))]))
                        exact J192_91 _ _ X83 N84 e85 _ (Eq.symm ((if_neg hc80).trans (if_neg hc86)))
                      · have hc86 := (lEq.mp (hEq.2.2.2 q))
                        show Till p e below s (Q0 Z p1 q2 q3 h0 n0) room_1.cells room_1.slots (T81.setTop (mkF m 187 #[.val (.int p1), .val (.long q2), .second, .val (.long q3), .second, .val (.ref b3), .val (.int (p1 &&& (3 : Int32))), .val (.long (p1 &&& (3 : Int32)).toInt64), .second, .val (.long v70s0), .second, .val (.long v87s0), .second, .val (.long (v111s0 + (1 : Int64))), .second, .val (.int v131s0), .val (.long (v167s0 + (1 : Int64))), .second] []))
                        refine Till.pre (fun _ hr => XS.iconst X83.here hx rfl (hb hby at_187) hr) ?_
                        show Till p e below s (Q0 Z p1 q2 q3 h0 n0) room_1.cells room_1.slots (T81.setTop (mkF m 188 #[.val (.int p1), .val (.long q2), .second, .val (.long q3), .second, .val (.ref b3), .val (.int (p1 &&& (3 : Int32))), .val (.long (p1 &&& (3 : Int32)).toInt64), .second, .val (.long v70s0), .second, .val (.long v87s0), .second, .val (.long (v111s0 + (1 : Int64))), .second, .val (.int v131s0), .val (.long (v167s0 + (1 : Int64))), .second] [(.int (1 : Int32))]))
                        refine Till.pre (fun _ hr => XS.goto X83.here hx rfl (pc0 := 188) (pc' := 192) rfl (hb hby at_188) (by decide) (by decide) hr) ?_
                        show Till p e below s (Q0 Z p1 q2 q3 h0 n0) room_1.cells room_1.slots (T81.setTop (mkF m 192 #[.val (.int p1), .val (.long q2), .second, .val (.long q3), .second, .val (.ref b3), .val (.int (p1 &&& (3 : Int32))), .val (.long (p1 &&& (3 : Int32)).toInt64), .second, .val (.long v70s0), .second, .val (.long v87s0), .second, .val (.long (v111s0 + (1 : Int64))), .second, .val (.int v131s0), .val (.long (v167s0 + (1 : Int64))), .second] [(.int (1 : Int32))]))
                        exact J192_91 _ _ X83 N84 e85 _ (Eq.symm ((if_neg hc80).trans (if_pos hc86)))
                  refine Till.ifc (pc' := 165) X74.here hx (hb hby at_157) (by decide) (by decide) (fun q => ?_) (fun q => ?_)
                  · have hc78 := (mt lGt.mpr (hLt.2.2.2.2.2.2.1 q))
                    show Till p e below s (Q0 Z p1 q2 q3 h0 n0) room_1.cells room_1.slots (T72.setTop (mkF m 165 #[.val (.int p1), .val (.long q2), .second, .val (.long q3), .second, .val (.ref b3), .val (.int (p1 &&& (3 : Int32))), .val (.long (p1 &&& (3 : Int32)).toInt64), .second, .val (.long v70s0), .second, .val (.long v87s0), .second, .val (.long (v111s0 + (1 : Int64))), .second, .val (.int v131s0), .unset, .unset] []))
                    refine Till.pre (fun _ hr => XS.lload X74.here hx rfl (hb hby at_165) rfl hr) ?_
                    show Till p e below s (Q0 Z p1 q2 q3 h0 n0) room_1.cells room_1.slots (T72.setTop (mkF m 167 #[.val (.int p1), .val (.long q2), .second, .val (.long q3), .second, .val (.ref b3), .val (.int (p1 &&& (3 : Int32))), .val (.long (p1 &&& (3 : Int32)).toInt64), .second, .val (.long v70s0), .second, .val (.long v87s0), .second, .val (.long (v111s0 + (1 : Int64))), .second, .val (.int v131s0), .unset, .unset] [(.long (v111s0 + (1 : Int64)))]))
                    exact J167_78 _ (Eq.symm (if_neg hc78))
                  · have hc78 := (lGt.mp (hLt.2.2.2.2.2.2.2 q))
                    show Till p e below s (Q0 Z p1 q2 q3 h0 n0) room_1.cells room_1.slots (T72.setTop (mkF m 160 #[.val (.int p1), .val (.long q2), .second, .val (.long q3), .second, .val (.ref b3), .val (.int (p1 &&& (3 : Int32))), .val (.long (p1 &&& (3 : Int32)).toInt64), .second, .val (.long v70s0), .second, .val (.long v87s0), .second, .val (.long (v111s0 + (1 : Int64))), .second, .val (.int v131s0), .unset, .unset] []))
                    refine Till.pre (fun _ hr => XS.lload X74.here hx rfl (hb hby at_160) rfl hr) ?_
                    show Till p e below s (Q0 Z p1 q2 q3 h0 n0) room_1.cells room_1.slots (T72.setTop (mkF m 162 #[.val (.int p1), .val (.long q2), .second, .val (.long q3), .second, .val (.ref b3), .val (.int (p1 &&& (3 : Int32))), .val (.long (p1 &&& (3 : Int32)).toInt64), .second, .val (.long v70s0), .second, .val (.long v87s0), .second, .val (.long (v111s0 + (1 : Int64))), .second, .val (.int v131s0), .unset, .unset] [(.long v87s0)]))
                    refine Till.pre (fun _ hr => XS.goto X74.here hx rfl (pc0 := 162) (pc' := 167) rfl (hb hby at_162) (by decide) (by decide) hr) ?_
                    show Till p e below s (Q0 Z p1 q2 q3 h0 n0) room_1.cells room_1.slots (T72.setTop (mkF m 167 #[.val (.int p1), .val (.long q2), .second, .val (.long q3), .second, .val (.ref b3), .val (.int (p1 &&& (3 : Int32))), .val (.long (p1 &&& (3 : Int32)).toInt64), .second, .val (.long v70s0), .second, .val (.long v87s0), .second, .val (.long (v111s0 + (1 : Int64))), .second, .val (.int v131s0), .unset, .unset] [(.long v87s0)]))
                    exact J167_78 _ (Eq.symm (if_pos hc78))
                · have hc71 := (lEq.mp (hEq.2.2.2 q))
                  show Till p e below s (Q0 Z p1 q2 q3 h0 n0) room_1.cells room_1.slots (T64.setTop (mkF m 142 #[.val (.int p1), .val (.long q2), .second, .val (.long q3), .second, .val (.ref b3), .val (.int (p1 &&& (3 : Int32))), .val (.long (p1 &&& (3 : Int32)).toInt64), .second, .val (.long v70s0), .second, .val (.long v87s0), .second, .val (.long (v111s0 + (1 : Int64))), .second, .val (.int v131s0), .unset, .unset] []))
                  refine Till.pre (fun _ hr => XS.iload X66.here hx rfl (hb hby at_142) rfl hr) ?_
                  show Till p e below s (Q0 Z p1 q2 q3 h0 n0) room_1.cells room_1.slots (T64.setTop (mkF m 144 #[.val (.int p1), .val (.long q2), .second, .val (.long q3), .second, .val (.ref b3), .val (.int (p1 &&& (3 : Int32))), .val (.long (p1 &&& (3 : Int32)).toInt64), .second, .val (.long v70s0), .second, .val (.long v87s0), .second, .val (.long (v111s0 + (1 : Int64))), .second, .val (.int v131s0), .unset, .unset] [(.int v131s0)]))
                  refine Till.retZ (w := (1 : Int32)) X66 hx hret hlk (hb hby at_144) (by decide) (by decide) (by rw [hv131s0.trans (if_pos (congrArg (· + (1 : Int64)) (own_e1 (own_t0 hv26f0_0 hv38f0_0 hv50f0_0) hv111s0)))]; decide) ?_
                  exact ⟨rfl, N67⟩
              refine Till.ifc (pc' := 130) X66.here hx (hb hby at_123) (by decide) (by decide) (fun q => ?_) (fun q => ?_)
              · have hc69 := (mt lEq.mpr (hEq.2.2.1 q))
                show Till p e below s (Q0 Z p1 q2 q3 h0 n0) room_1.cells room_1.slots (T64.setTop (mkF m 130 #[.val (.int p1), .val (.long q2), .second, .val (.long q3), .second, .val (.ref b3), .val (.int (p1 &&& (3 : Int32))), .val (.long (p1 &&& (3 : Int32)).toInt64), .second, .val (.long v70s0), .second, .val (.long v87s0), .second, .val (.long (v111s0 + (1 : Int64))), .second, .unset, .unset, .unset] []))
                refine Till.pre (fun _ hr => XS.iconst X66.here hx rfl (hb hby at_130) hr) ?_
                show Till p e below s (Q0 Z p1 q2 q3 h0 n0) room_1.cells room_1.slots (T64.setTop (mkF m 131 #[.val (.int p1), .val (.long q2), .second, .val (.long q3), .second, .val (.ref b3), .val (.int (p1 &&& (3 : Int32))), .val (.long (p1 &&& (3 : Int32)).toInt64), .second, .val (.long v70s0), .second, .val (.long v87s0), .second, .val (.long (v111s0 + (1 : Int64))), .second, .unset, .unset, .unset] [(.int (0 : Int32))]))
                exact J131_69 _ (Eq.symm (if_neg hc69))
              · have hc69 := (lEq.mp (hEq.2.2.2 q))
                show Till p e below s (Q0 Z p1 q2 q3 h0 n0) room_1.cells room_1.slots (T64.setTop (mkF m 126 #[.val (.int p1), .val (.long q2), .second, .val (.long q3), .second, .val (.ref b3), .val (.int (p1 &&& (3 : Int32))), .val (.long (p1 &&& (3 : Int32)).toInt64), .second, .val (.long v70s0), .second, .val (.long v87s0), .second, .val (.long (v111s0 + (1 : Int64))), .second, .unset, .unset, .unset] []))
                refine Till.pre (fun _ hr => XS.iconst X66.here hx rfl (hb hby at_126) hr) ?_
                show Till p e below s (Q0 Z p1 q2 q3 h0 n0) room_1.cells room_1.slots (T64.setTop (mkF m 127 #[.val (.int p1), .val (.long q2), .second, .val (.long q3), .second, .val (.ref b3), .val (.int (p1 &&& (3 : Int32))), .val (.long (p1 &&& (3 : Int32)).toInt64), .second, .val (.long v70s0), .second, .val (.long v87s0), .second, .val (.long (v111s0 + (1 : Int64))), .second, .unset, .unset, .unset] [(.int (1 : Int32))]))
                refine Till.pre (fun _ hr => XS.goto X66.here hx rfl (pc0 := 127) (pc' := 131) rfl (hb hby at_127) (by decide) (by decide) hr) ?_
                show Till p e below s (Q0 Z p1 q2 q3 h0 n0) room_1.cells room_1.slots (T64.setTop (mkF m 131 #[.val (.int p1), .val (.long q2), .second, .val (.long q3), .second, .val (.ref b3), .val (.int (p1 &&& (3 : Int32))), .val (.long (p1 &&& (3 : Int32)).toInt64), .second, .val (.long v70s0), .second, .val (.long v87s0), .second, .val (.long (v111s0 + (1 : Int64))), .second, .unset, .unset, .unset] [(.int (1 : Int32))]))
                exact J131_69 _ (Eq.symm (if_pos hc69))
            refine Till.ifc (pc' := 109) X58.here hx (hb hby at_101) (by decide) (by decide) (fun q => ?_) (fun q => ?_)
            · have hc62 := (mt lGt.mpr (hLt.2.2.2.2.2.2.1 q))
              show Till p e below s (Q0 Z p1 q2 q3 h0 n0) room_1.cells room_1.slots (T56.setTop (mkF m 109 #[.val (.int p1), .val (.long q2), .second, .val (.long q3), .second, .val (.ref b3), .val (.int (p1 &&& (3 : Int32))), .val (.long (p1 &&& (3 : Int32)).toInt64), .second, .val (.long v70s0), .second, .val (.long v87s0), .second, .unset, .unset, .unset, .unset, .unset] []))
              refine Till.pre (fun _ hr => XS.lload X58.here hx rfl (hb hby at_109) rfl hr) ?_
              show Till p e below s (Q0 Z p1 q2 q3 h0 n0) room_1.cells room_1.slots (T56.setTop (mkF m 111 #[.val (.int p1), .val (.long q2), .second, .val (.long q3), .second, .val (.ref b3), .val (.int (p1 &&& (3 : Int32))), .val (.long (p1 &&& (3 : Int32)).toInt64), .second, .val (.long v70s0), .second, .val (.long v87s0), .second, .unset, .unset, .unset, .unset, .unset] [(.long (p1 &&& (3 : Int32)).toInt64)]))
              exact J111_62 _ (Eq.symm (if_neg hc62))
            · have hc62 := (lGt.mp (hLt.2.2.2.2.2.2.2 q))
              show Till p e below s (Q0 Z p1 q2 q3 h0 n0) room_1.cells room_1.slots (T56.setTop (mkF m 104 #[.val (.int p1), .val (.long q2), .second, .val (.long q3), .second, .val (.ref b3), .val (.int (p1 &&& (3 : Int32))), .val (.long (p1 &&& (3 : Int32)).toInt64), .second, .val (.long v70s0), .second, .val (.long v87s0), .second, .unset, .unset, .unset, .unset, .unset] []))
              refine Till.pre (fun _ hr => XS.lload X58.here hx rfl (hb hby at_104) rfl hr) ?_
              show Till p e below s (Q0 Z p1 q2 q3 h0 n0) room_1.cells room_1.slots (T56.setTop (mkF m 106 #[.val (.int p1), .val (.long q2), .second, .val (.long q3), .second, .val (.ref b3), .val (.int (p1 &&& (3 : Int32))), .val (.long (p1 &&& (3 : Int32)).toInt64), .second, .val (.long v70s0), .second, .val (.long v87s0), .second, .unset, .unset, .unset, .unset, .unset] [(.long v70s0)]))
              refine Till.pre (fun _ hr => XS.goto X58.here hx rfl (pc0 := 106) (pc' := 111) rfl (hb hby at_106) (by decide) (by decide) hr) ?_
              show Till p e below s (Q0 Z p1 q2 q3 h0 n0) room_1.cells room_1.slots (T56.setTop (mkF m 111 #[.val (.int p1), .val (.long q2), .second, .val (.long q3), .second, .val (.ref b3), .val (.int (p1 &&& (3 : Int32))), .val (.long (p1 &&& (3 : Int32)).toInt64), .second, .val (.long v70s0), .second, .val (.long v87s0), .second, .unset, .unset, .unset, .unset, .unset] [(.long v70s0)]))
              exact J111_62 _ (Eq.symm (if_pos hc62))
          refine Till.ifc (pc' := 86) X49.here hx (hb hby at_77) (by decide) (by decide) (fun q => ?_) (fun q => ?_)
          · have hc54 := (mt lEq.mpr (hEq.2.2.1 q))
            show Till p e below s (Q0 Z p1 q2 q3 h0 n0) room_1.cells room_1.slots (T47.setTop (mkF m 86 #[.val (.int p1), .val (.long q2), .second, .val (.long q3), .second, .val (.ref b3), .val (.int (p1 &&& (3 : Int32))), .val (.long (p1 &&& (3 : Int32)).toInt64), .second, .val (.long v70s0), .second, .unset, .unset, .unset, .unset, .unset, .unset, .unset] []))
            refine Till.pre (fun _ hr => XS.lloadN X49.here hx rfl (hb hby at_86) rfl hr) ?_
            show Till p e below s (Q0 Z p1 q2 q3 h0 n0) room_1.cells room_1.slots (T47.setTop (mkF m 87 #[.val (.int p1), .val (.long q2), .second, .val (.long q3), .second, .val (.ref b3), .val (.int (p1 &&& (3 : Int32))), .val (.long (p1 &&& (3 : Int32)).toInt64), .second, .val (.long v70s0), .second, .unset, .unset, .unset, .unset, .unset, .unset, .unset] [(.long q3)]))
            exact J87_54 _ (Eq.symm (if_neg hc54))
          · have hc54 := (lEq.mp (hEq.2.2.2 q))
            show Till p e below s (Q0 Z p1 q2 q3 h0 n0) room_1.cells room_1.slots (T47.setTop (mkF m 80 #[.val (.int p1), .val (.long q2), .second, .val (.long q3), .second, .val (.ref b3), .val (.int (p1 &&& (3 : Int32))), .val (.long (p1 &&& (3 : Int32)).toInt64), .second, .val (.long v70s0), .second, .unset, .unset, .unset, .unset, .unset, .unset, .unset] []))
            refine Till.pre (X49.ldc2Long hx hown (mvT hZ (hw _ (List.mem_of_getElem? (i := 34) rfl))) (g := (mkF m 80 #[.val (.int p1), .val (.long q2), .second, .val (.long q3), .second, .val (.ref b3), .val (.int (p1 &&& (3 : Int32))), .val (.long (p1 &&& (3 : Int32)).toInt64), .second, .val (.long v70s0), .second, .unset, .unset, .unset, .unset, .unset, .unset, .unset] [])) rfl (hb hby at_80)) ?_
            show Till p e below s (Q0 Z p1 q2 q3 h0 n0) room_1.cells room_1.slots (T47.setTop (mkF m 83 #[.val (.int p1), .val (.long q2), .second, .val (.long q3), .second, .val (.ref b3), .val (.int (p1 &&& (3 : Int32))), .val (.long (p1 &&& (3 : Int32)).toInt64), .second, .val (.long v70s0), .second, .unset, .unset, .unset, .unset, .unset, .unset, .unset] [(.long (9223372036854775806 : Int64))]))
            refine Till.pre (fun _ hr => XS.goto X49.here hx rfl (pc0 := 83) (pc' := 87) rfl (hb hby at_83) (by decide) (by decide) hr) ?_
            show Till p e below s (Q0 Z p1 q2 q3 h0 n0) room_1.cells room_1.slots (T47.setTop (mkF m 87 #[.val (.int p1), .val (.long q2), .second, .val (.long q3), .second, .val (.ref b3), .val (.int (p1 &&& (3 : Int32))), .val (.long (p1 &&& (3 : Int32)).toInt64), .second, .val (.long v70s0), .second, .unset, .unset, .unset, .unset, .unset, .unset, .unset] [(.long (9223372036854775806 : Int64))]))
            exact J87_54 _ (Eq.symm (if_pos hc54))
        refine Till.ifc (pc' := 69) X49.here hx (hb hby at_60) (by decide) (by decide) (fun q => ?_) (fun q => ?_)
        · have hc52 := (mt lEq.mpr (hEq.2.2.1 q))
          show Till p e below s (Q0 Z p1 q2 q3 h0 n0) room_1.cells room_1.slots (T47.setTop (mkF m 69 #[.val (.int p1), .val (.long q2), .second, .val (.long q3), .second, .val (.ref b3), .val (.int (p1 &&& (3 : Int32))), .val (.long (p1 &&& (3 : Int32)).toInt64), .second, .unset, .unset, .unset, .unset, .unset, .unset, .unset, .unset, .unset] []))
          refine Till.pre (fun _ hr => XS.lloadN X49.here hx rfl (hb hby at_69) rfl hr) ?_
          show Till p e below s (Q0 Z p1 q2 q3 h0 n0) room_1.cells room_1.slots (T47.setTop (mkF m 70 #[.val (.int p1), .val (.long q2), .second, .val (.long q3), .second, .val (.ref b3), .val (.int (p1 &&& (3 : Int32))), .val (.long (p1 &&& (3 : Int32)).toInt64), .second, .unset, .unset, .unset, .unset, .unset, .unset, .unset, .unset, .unset] [(.long q2)]))
          exact J70_52 _ (Eq.symm (if_neg hc52))
        · have hc52 := (lEq.mp (hEq.2.2.2 q))
          show Till p e below s (Q0 Z p1 q2 q3 h0 n0) room_1.cells room_1.slots (T47.setTop (mkF m 63 #[.val (.int p1), .val (.long q2), .second, .val (.long q3), .second, .val (.ref b3), .val (.int (p1 &&& (3 : Int32))), .val (.long (p1 &&& (3 : Int32)).toInt64), .second, .unset, .unset, .unset, .unset, .unset, .unset, .unset, .unset, .unset] []))
          refine Till.pre (X49.ldc2Long hx hown (mvT hZ (hw _ (List.mem_of_getElem? (i := 34) rfl))) (g := (mkF m 63 #[.val (.int p1), .val (.long q2), .second, .val (.long q3), .second, .val (.ref b3), .val (.int (p1 &&& (3 : Int32))), .val (.long (p1 &&& (3 : Int32)).toInt64), .second, .unset, .unset, .unset, .unset, .unset, .unset, .unset, .unset, .unset] [])) rfl (hb hby at_63)) ?_
          show Till p e below s (Q0 Z p1 q2 q3 h0 n0) room_1.cells room_1.slots (T47.setTop (mkF m 66 #[.val (.int p1), .val (.long q2), .second, .val (.long q3), .second, .val (.ref b3), .val (.int (p1 &&& (3 : Int32))), .val (.long (p1 &&& (3 : Int32)).toInt64), .second, .unset, .unset, .unset, .unset, .unset, .unset, .unset, .unset, .unset] [(.long (9223372036854775806 : Int64))]))
          refine Till.pre (fun _ hr => XS.goto X49.here hx rfl (pc0 := 66) (pc' := 70) rfl (hb hby at_66) (by decide) (by decide) hr) ?_
          show Till p e below s (Q0 Z p1 q2 q3 h0 n0) room_1.cells room_1.slots (T47.setTop (mkF m 70 #[.val (.int p1), .val (.long q2), .second, .val (.long q3), .second, .val (.ref b3), .val (.int (p1 &&& (3 : Int32))), .val (.long (p1 &&& (3 : Int32)).toInt64), .second, .unset, .unset, .unset, .unset, .unset, .unset, .unset, .unset, .unset] [(.long (9223372036854775806 : Int64))]))
          exact J70_52 _ (Eq.symm (if_pos hc52))
      refine Till.icmp (pc' := 50) X37.here hx (hb hby at_41) (by decide) (by decide) (fun q => ?_) (fun q => ?_)
      · have hc40 := (hLt.1 q)
        show Till p e below s (Q0 Z p1 q2 q3 h0 n0) room_1.cells room_1.slots (T35.setTop (mkF m 50 #[.val (.int p1), .val (.long q2), .second, .val (.long q3), .second, .val (.ref b3), .val (.int (p1 &&& (3 : Int32))), .unset, .unset, .unset, .unset, .unset, .unset, .unset, .unset, .unset, .unset, .unset] []))
        exact J50_50 _ _ X37 N38 Zs _ (Eq.symm (if_pos hc40)) R_b3
      · have hc40 := (hLt.2.1 q)
        show Till p e below s (Q0 Z p1 q2 q3 h0 n0) room_1.cells room_1.slots (T35.setTop (mkF m 44 #[.val (.int p1), .val (.long q2), .second, .val (.long q3), .second, .val (.ref b3), .val (.int (p1 &&& (3 : Int32))), .unset, .unset, .unset, .unset, .unset, .unset, .unset, .unset, .unset, .unset, .unset] []))
        refine Till.pre (fun _ hr => XS.aload X37.here hx rfl (hb hby at_44) rfl rfl hr) ?_
        show Till p e below s (Q0 Z p1 q2 q3 h0 n0) room_1.cells room_1.slots (T35.setTop (mkF m 46 #[.val (.int p1), .val (.long q2), .second, .val (.long q3), .second, .val (.ref b3), .val (.int (p1 &&& (3 : Int32))), .unset, .unset, .unset, .unset, .unset, .unset, .unset, .unset, .unset, .unset, .unset] [(.ref b3)]))
        refine Till.callV (rm6 l Z a0 hw b3 v38f0_0 T35.heap n0 Zs R_b3 g_b3 (Int.lt_of_le_of_lt (own_c1 hv38f0_0 (own_c0 hv26f0_0) (by decide)).2 (by decide))) R_b3.1 X37 hx hZ hown (hw _ (List.mem_of_getElem? (i := 29) rfl)) (hw _ (List.mem_of_getElem? (i := 30) rfl)) (hw _ (List.mem_of_getElem? (i := 32) rfl)) (hw _ (List.mem_of_getElem? (i := 31) rfl)) (hw _ (List.mem_of_getElem? (i := 2) rfl)) (hw _ (List.mem_of_getElem? (i := 33) rfl)) (by decide) (by decide) (W := 0) (by decide) (by rw [hml]; rfl) (a := b3) (argsL := []) (rest := []) (lenOf pd0_0 rfl) rfl rfl (Nat.le_of_eq rfl) (hb hby at_46) rfl (by decide) (by decide) ?_
        rintro _ T41 L42 X43 ⟨rfl, N44, K45, q46⟩
        have N44 := Fr.app N38 N44
        have Zs := Nat.le_trans Zs K45.1
        have R_b3 : Clk Z T41.heap b3 (v38f0_0 + (1 : Int64)) := q46
        show Till p e below s (Q0 Z p1 q2 q3 h0 n0) room_1.cells room_1.slots (T41.setTop (mkF m 49 #[.val (.int p1), .val (.long q2), .second, .val (.long q3), .second, .val (.ref b3), .val (.int (p1 &&& (3 : Int32))), .unset, .unset, .unset, .unset, .unset, .unset, .unset, .unset, .unset, .unset, .unset] [(.long (v38f0_0 + (1 : Int64)))]))
        refine Till.pop2L X43 hx (hb hby at_49) ?_
        show Till p e below s (Q0 Z p1 q2 q3 h0 n0) room_1.cells room_1.slots (T41.setTop (mkF m 50 #[.val (.int p1), .val (.long q2), .second, .val (.long q3), .second, .val (.ref b3), .val (.int (p1 &&& (3 : Int32))), .unset, .unset, .unset, .unset, .unset, .unset, .unset, .unset, .unset, .unset, .unset] []))
        exact J50_50 _ _ X43 N44 Zs _ (Eq.symm (if_neg hc40)) R_b3
    refine Till.icmp (pc' := 38) X25.here hx (hb hby at_29) (by decide) (by decide) (fun q => ?_) (fun q => ?_)
    · have hc28 := (hLt.1 q)
      show Till p e below s (Q0 Z p1 q2 q3 h0 n0) room_1.cells room_1.slots (T23.setTop (mkF m 38 #[.val (.int p1), .val (.long q2), .second, .val (.long q3), .second, .val (.ref b3), .val (.int (p1 &&& (3 : Int32))), .unset, .unset, .unset, .unset, .unset, .unset, .unset, .unset, .unset, .unset, .unset] []))
      exact J38_38 _ _ X25 N26 Zs _ (Eq.symm (if_pos hc28)) R_b3
    · have hc28 := (hLt.2.1 q)
      show Till p e below s (Q0 Z p1 q2 q3 h0 n0) room_1.cells room_1.slots (T23.setTop (mkF m 32 #[.val (.int p1), .val (.long q2), .second, .val (.long q3), .second, .val (.ref b3), .val (.int (p1 &&& (3 : Int32))), .unset, .unset, .unset, .unset, .unset, .unset, .unset, .unset, .unset, .unset, .unset] []))
      refine Till.pre (fun _ hr => XS.aload X25.here hx rfl (hb hby at_32) rfl rfl hr) ?_
      show Till p e below s (Q0 Z p1 q2 q3 h0 n0) room_1.cells room_1.slots (T23.setTop (mkF m 34 #[.val (.int p1), .val (.long q2), .second, .val (.long q3), .second, .val (.ref b3), .val (.int (p1 &&& (3 : Int32))), .unset, .unset, .unset, .unset, .unset, .unset, .unset, .unset, .unset, .unset, .unset] [(.ref b3)]))
      refine Till.callV (rm6 l Z a0 hw b3 v26f0_0 T23.heap n0 Zs R_b3 g_b3 (Int.lt_of_le_of_lt (own_c0 hv26f0_0).2 (by decide))) R_b3.1 X25 hx hZ hown (hw _ (List.mem_of_getElem? (i := 29) rfl)) (hw _ (List.mem_of_getElem? (i := 30) rfl)) (hw _ (List.mem_of_getElem? (i := 32) rfl)) (hw _ (List.mem_of_getElem? (i := 31) rfl)) (hw _ (List.mem_of_getElem? (i := 2) rfl)) (hw _ (List.mem_of_getElem? (i := 33) rfl)) (by decide) (by decide) (W := 0) (by decide) (by rw [hml]; rfl) (a := b3) (argsL := []) (rest := []) (lenOf pd0_0 rfl) rfl rfl (Nat.le_of_eq rfl) (hb hby at_34) rfl (by decide) (by decide) ?_
      rintro _ T29 L30 X31 ⟨rfl, N32, K33, q34⟩
      have N32 := Fr.app N26 N32
      have Zs := Nat.le_trans Zs K33.1
      have R_b3 : Clk Z T29.heap b3 (v26f0_0 + (1 : Int64)) := q34
      show Till p e below s (Q0 Z p1 q2 q3 h0 n0) room_1.cells room_1.slots (T29.setTop (mkF m 37 #[.val (.int p1), .val (.long q2), .second, .val (.long q3), .second, .val (.ref b3), .val (.int (p1 &&& (3 : Int32))), .unset, .unset, .unset, .unset, .unset, .unset, .unset, .unset, .unset, .unset, .unset] [(.long (v26f0_0 + (1 : Int64)))]))
      refine Till.pop2L X31 hx (hb hby at_37) ?_
      show Till p e below s (Q0 Z p1 q2 q3 h0 n0) room_1.cells room_1.slots (T29.setTop (mkF m 38 #[.val (.int p1), .val (.long q2), .second, .val (.long q3), .second, .val (.ref b3), .val (.int (p1 &&& (3 : Int32))), .unset, .unset, .unset, .unset, .unset, .unset, .unset, .unset, .unset, .unset, .unset] []))
      exact J38_38 _ _ X31 N32 Zs _ (Eq.symm (if_neg hc28)) R_b3
  refine Till.icmp (pc' := 26) X12.here hx (hb hby at_17) (by decide) (by decide) (fun q => ?_) (fun q => ?_)
  · have hc16 := (hLt.1 q)
    show Till p e below s (Q0 Z p1 q2 q3 h0 n0) room_1.cells room_1.slots (T10.setTop (mkF m 26 #[.val (.int p1), .val (.long q2), .second, .val (.long q3), .second, .val (.ref b3), .val (.int (p1 &&& (3 : Int32))), .unset, .unset, .unset, .unset, .unset, .unset, .unset, .unset, .unset, .unset, .unset] []))
    exact J26_26 _ _ X12 N13 Zs _ (Eq.symm (if_pos hc16)) R_b3
  · have hc16 := (hLt.2.1 q)
    show Till p e below s (Q0 Z p1 q2 q3 h0 n0) room_1.cells room_1.slots (T10.setTop (mkF m 20 #[.val (.int p1), .val (.long q2), .second, .val (.long q3), .second, .val (.ref b3), .val (.int (p1 &&& (3 : Int32))), .unset, .unset, .unset, .unset, .unset, .unset, .unset, .unset, .unset, .unset, .unset] []))
    refine Till.pre (fun _ hr => XS.aload X12.here hx rfl (hb hby at_20) rfl rfl hr) ?_
    show Till p e below s (Q0 Z p1 q2 q3 h0 n0) room_1.cells room_1.slots (T10.setTop (mkF m 22 #[.val (.int p1), .val (.long q2), .second, .val (.long q3), .second, .val (.ref b3), .val (.int (p1 &&& (3 : Int32))), .unset, .unset, .unset, .unset, .unset, .unset, .unset, .unset, .unset, .unset, .unset] [(.ref b3)]))
    refine Till.callV (rm6 l Z a0 hw b3 (0 : Int64) T10.heap n0 Zs R_b3 g_b3 (by decide)) R_b3.1 X12 hx hZ hown (hw _ (List.mem_of_getElem? (i := 29) rfl)) (hw _ (List.mem_of_getElem? (i := 30) rfl)) (hw _ (List.mem_of_getElem? (i := 32) rfl)) (hw _ (List.mem_of_getElem? (i := 31) rfl)) (hw _ (List.mem_of_getElem? (i := 2) rfl)) (hw _ (List.mem_of_getElem? (i := 33) rfl)) (by decide) (by decide) (W := 0) (by decide) (by rw [hml]; rfl) (a := b3) (argsL := []) (rest := []) (lenOf pd0_0 rfl) rfl rfl (Nat.le_of_eq rfl) (hb hby at_22) rfl (by decide) (by decide) ?_
    rintro _ T17 L18 X19 ⟨rfl, N20, K21, q22⟩
    have N20 := Fr.app N13 N20
    have Zs := Nat.le_trans Zs K21.1
    have R_b3 : Clk Z T17.heap b3 (1 : Int64) := q22
    show Till p e below s (Q0 Z p1 q2 q3 h0 n0) room_1.cells room_1.slots (T17.setTop (mkF m 25 #[.val (.int p1), .val (.long q2), .second, .val (.long q3), .second, .val (.ref b3), .val (.int (p1 &&& (3 : Int32))), .unset, .unset, .unset, .unset, .unset, .unset, .unset, .unset, .unset, .unset, .unset] [(.long (1 : Int64))]))
    refine Till.pop2L X19 hx (hb hby at_25) ?_
    show Till p e below s (Q0 Z p1 q2 q3 h0 n0) room_1.cells room_1.slots (T17.setTop (mkF m 26 #[.val (.int p1), .val (.long q2), .second, .val (.long q3), .second, .val (.ref b3), .val (.int (p1 &&& (3 : Int32))), .unset, .unset, .unset, .unset, .unset, .unset, .unset, .unset, .unset, .unset, .unset] []))
    exact J26_26 _ _ X19 N20 Zs _ (Eq.symm (if_neg hc16)) R_b3
set_option maxRecDepth 65536 in
set_option maxHeartbeats 40000000 in
theorem comes_1 {Post : Tables → Env → Array Value → State → Outcome → State → Prop} (hpost : ∀ tb e args s v u, (limb_1_1.after args s (.returned v) u = true ∧ limb_1_2.after args s (.returned v) u = true ∧ True) → FrameEnd s (.returned v) u (Jvm.fieldLocs frame_1_writes args s ++ Jvm.arrayLocs frame_1_arrays args s ++ Jvm.staticLocs frame_1_statics s) 16 128 → Post tb e args s (.returned v) u) :
    ArmFor flags0 classFile x code maxLocals ret World_1 tables_1 room_1 Calls_1 rest_1 Pre_1 Post := by
  intro l hfl _ _ p e ha hc hk s m args below hf hA hF happ hP
  obtain ⟨hcalls, hrest, hpre⟩ := hP
  obtain ⟨-, -, -, hnamed, -, -, -, hat⟩ := (Spec.applies_iff hf).mp happ
  obtain ⟨hg, hn⟩ := and_e (Cond.before_iff.mp (show (Jvm.Cond.and given_1 narrow_1).before args s = true from hpre))
  obtain ⟨h1, hg⟩ := and_e hg
  obtain ⟨k0, hg⟩ := and_e hg
  obtain ⟨k1, hg⟩ := and_e hg
  have k2 := hg
  obtain ⟨w0, w1, w2, rfl⟩ : ∃ w0 w1 w2 : Value, args = #[w0, w1, w2] := by
    have hs : args.size = 3 := by simpa [Cond.value, given_1] using h1
    obtain ⟨L⟩ := args
    match L, hs with
    | [w0, w1, w2], _ => exact ⟨w0, w1, w2, rfl⟩
  have hw := fun d (hd : d ∈ tables_1) => atoms_spec (ws := Jvm.Cond.code x code maxLocals ret :: tables_1) hat d (List.mem_cons_of_mem _ hd)
  obtain ⟨i0, ei0⟩ := is_v k0
  obtain rfl : w0 = (.int i0) := Option.some.inj ei0
  obtain ⟨i1, ei1⟩ := isL_v k1
  obtain rfl : w1 = (.long i1) := Option.some.inj ei1
  obtain ⟨i2, ei2⟩ := isL_v k2
  obtain rfl : w2 = (.long i2) := Option.some.inj ei2
  obtain ⟨n, o, h1, h2, h3, _, L, rfl, ⟨rfl, N⟩, hq⟩ := rm0 l s _ hw i0 i1 i2 s.heap s.heap.size (Nat.le_refl _) tables_1 p e ha hc hk s m _ below hf ((Spec.applies_iff_loose hf).mp happ).1 ⟨rfl, State.Warmed39.refl s, rfl⟩ trivial
  refine ⟨n, _, h1, h2, h3, hpost _ _ _ _ _ _ ⟨Cond.after_iff.mpr rfl, Cond.after_iff.mpr (eq_i res_at (Term.int_eval (1)) rfl), trivial⟩ ⟨hq.1, hq.2.1, (hq.2.2.sift fun y hy => Or.inr (N y hy)).mono (by decide) (by decide)⟩⟩
theorem main_1_1 : Claimed_1_1 := comes_1 fun _ _ _ _ _ _ h hF => ⟨h.1, hF⟩
theorem main_1_2 : Claimed_1_2 := comes_1 fun _ _ _ _ _ _ h hF => ⟨h.2.1, hF⟩
end Jvm.Pilot.@@N@@
namespace Jvm.Pilot.@@N@@
open Jvm Jvm.ClassFile Sem Op Lib Jvm.Free Jvm.Stand Jvm.Pilot.@@N@@.Jvm.D
/-! MADE BY PROGRAM (witnessworld.py) out of the Statement's table words and the real class files: 10 classes; the members and pool entries that the words name. The judged class is class 1, her method 1. -/
namespace start1
open Jvm.ClassFile
def u (s : String) : CpInfo := .utf8 (stringToUtf16 s)
/-- a pool by its gaps: so many unusable entries, then the entry; so many at the end -/
def gap : Nat → List CpInfo → List CpInfo
  | 0, r => r
  | n + 1, r => .unusable :: gap n r
def poolList (es : List (Nat × CpInfo)) (last : Nat) : List CpInfo := es.foldr (fun e r => gap e.1 (e.2 :: r)) (gap last [])
def pool (es : List (Nat × CpInfo)) (last : Nat) : Array CpInfo := ⟨poolList es last⟩
def fileOf (pool : Array CpInfo) (this : Nat) (attrs : Array Attribute := #[]) (ms : Array MethodInfo := #[]) (fl : Nat := 33) (sup : Nat := 0) (ifs : Array Nat := #[]) (fds : Array FieldInfo := #[]) : ClassFile where
  minorVersion := 0
  majorVersion := 65
  constantPool := pool
  accessFlags := fl
  thisClass := this
  superClass := sup
  interfaces := ifs
  fields := fds
  methods := ms
  attributes := attrs
def plain (name : String) (sup : Option ClassId) : Class where
  name := name
  kind := .ordinary
  loader := none
  accessFlags := 33
  super := sup
  interfaces := #[]
  cf := none
  fields := #[]
  methods := #[]
  instanceTypes := #[]
  staticTypes := #[]
  resolved := #[]
  callSites := []
  init := .initialized
  statics := none
  mirror := none

def pool0 : Array CpInfo := pool [(5, u "<init>"), (0, u "()V"), (1, .class_ 10), (1, u "java/lang/Object")] 113

def k0c0 : Code := { maxStack := 0, maxLocals := 1, code := object_method_1_code, exceptionTable := #[], attributes := #[] }
def k0m0 : Method := { name := "<init>", desc := "()V", sig := { parameters := [], returnType := none }, accessFlags := 1, code := some k0c0 }
/-- java/lang/Object -/
def k0 : Class := { plain "java/lang/Object" none with
  accessFlags := 33
  interfaces := #[]
  cf := some (fileOf pool0 8 #[] #[{ accessFlags := 1, nameIndex := 5, descriptorIndex := 6, attributes := #[] }] 33 0 #[] #[])
  fields := #[]
  methods := #[k0m0]
  instanceTypes := #[]
  staticTypes := #[]
  resolved := Array.replicate 124 none
  statics := none }

def pool1 : Array CpInfo := pool [(2, .class_ 4), (0, .nameAndType 5 6), (0, u "java/lang/Object"), (0, u "<init>"), (0, u "()V"), (0, .class_ 8), (0, u "com/example/arbiter/arbiter/LamportClock"), (0, .methodref 7 3), (0, .methodref 7 11), (0, .nameAndType 12 13), (0, u "stamp"), (0, u "()J"), (2, .long 9223372036854775807), (1, .long 9223372036854775806), (1, .methodref 7 21), (0, .nameAndType 22 23), (0, u "receive"), (0, u "(J)V"), (0, .methodref 7 25), (0, .nameAndType 26 13), (0, u "time"), (0, .class_ 28), (0, u "com/example/arbiter/arbiter/LamportClockReceivePinLaw"), (2, u "law"), (0, u "(IJJ)Z")] 3

def k1m0 : Method := { name := "<init>", desc := "()V", sig := { parameters := [], returnType := none }, accessFlags := 1, code := none }
def k1c1 : Code := { maxStack := 4, maxLocals := 18, code := code, exceptionTable := #[], attributes := #[] }
def k1m1 : Method := { name := "law", desc := "(IJJ)Z", sig := { parameters := [.int, .long, .long], returnType := some .boolean }, accessFlags := 9, code := some k1c1 }
/-- com/example/arbiter/arbiter/LamportClockReceivePinLaw -/
def k1 : Class := { plain "com/example/arbiter/arbiter/LamportClockReceivePinLaw" (some 0) with
  accessFlags := 49
  interfaces := #[]
  cf := some (fileOf pool1 27 #[] #[{ accessFlags := 1, nameIndex := 5, descriptorIndex := 6, attributes := #[] }, { accessFlags := 9, nameIndex := 31, descriptorIndex := 32, attributes := #[] }] 49 2 #[] #[])
  fields := #[]
  methods := #[k1m0, k1m1]
  instanceTypes := #[]
  staticTypes := #[]
  resolved := Array.replicate 36 none
  statics := none }

def pool2 : Array CpInfo := pool [(1, .methodref 2 3), (0, .class_ 4), (0, .nameAndType 5 6), (0, u "java/lang/Object"), (0, u "<init>"), (0, u "()V"), (0, .fieldref 8 9), (0, .class_ 10), (0, .nameAndType 11 12), (0, u "com/example/arbiter/arbiter/LamportClock"), (0, u "time"), (0, u "J"), (0, .methodref 14 15), (0, .class_ 16), (0, .nameAndType 17 18), (0, u "java/lang/Math"), (0, u "addExact"), (0, u "(JJ)J"), (0, .methodref 14 20), (0, .nameAndType 21 18), (0, u "max"), (2, u "()J"), (0, u "stamp"), (0, u "receive"), (0, u "(J)V")] 2

def k2c0 : Code := { maxStack := 1, maxLocals := 1, code := prog_4_method_1_code, exceptionTable := #[], attributes := #[] }
def k2m0 : Method := { name := "<init>", desc := "()V", sig := { parameters := [], returnType := none }, accessFlags := 1, code := some k2c0 }
def k2c1 : Code := { maxStack := 2, maxLocals := 1, code := prog_4_method_2_code, exceptionTable := #[], attributes := #[] }
def k2m1 : Method := { name := "time", desc := "()J", sig := { parameters := [], returnType := some .long }, accessFlags := 1, code := some k2c1 }
def k2c2 : Code := { maxStack := 5, maxLocals := 1, code := prog_4_method_3_code, exceptionTable := #[], attributes := #[] }
def k2m2 : Method := { name := "stamp", desc := "()J", sig := { parameters := [], returnType := some .long }, accessFlags := 1, code := some k2c2 }
def k2c3 : Code := { maxStack := 5, maxLocals := 3, code := prog_4_method_4_code, exceptionTable := #[], attributes := #[] }
def k2m3 : Method := { name := "receive", desc := "(J)V", sig := { parameters := [.long], returnType := none }, accessFlags := 1, code := some k2c3 }
/-- com/example/arbiter/arbiter/LamportClock -/
def k2 : Class := { plain "com/example/arbiter/arbiter/LamportClock" (some 0) with
  accessFlags := 33
  interfaces := #[]
  cf := some (fileOf pool2 8 #[] #[{ accessFlags := 1, nameIndex := 5, descriptorIndex := 6, attributes := #[] }, { accessFlags := 1, nameIndex := 11, descriptorIndex := 24, attributes := #[] }, { accessFlags := 1, nameIndex := 25, descriptorIndex := 24, attributes := #[] }, { accessFlags := 1, nameIndex := 26, descriptorIndex := 27, attributes := #[] }] 33 2 #[] #[{ accessFlags := 2, nameIndex := 11, descriptorIndex := 12, attributes := #[] }])
  fields := #[{ name := "time", type := .long, accessFlags := 2, slot := 0, constantValue := 0 }]
  methods := #[k2m0, k2m1, k2m2, k2m3]
  instanceTypes := #[.long]
  staticTypes := #[]
  resolved := Array.replicate 30 none
  statics := none }

def pool3 : Array CpInfo := pool [(1, .class_ 2), (0, u "java/lang/Math"), (1, .class_ 6), (1, u "java/lang/Object"), (0, u "<init>"), (0, u "()V"), (89, .class_ 100), (1, u "java/lang/Math$RandomNumberGeneratorHolder"), (20, u "(JJ)J"), (50, u "negativeZeroFloatBits"), (0, u "J"), (2, u "negativeZeroDoubleBits"), (21, u "max"), (46, u "$assertionsDisabled"), (0, u "Z"), (91, u "twoToTheDoubleScaleDown"), (0, u "D"), (4, u "twoToTheDoubleScaleUp"), (9, u "E"), (3, u "PI"), (2, u "TAU"), (2, u "DEGREES_TO_RADIANS"), (0, u "RADIANS_TO_DEGREES"), (27, u "addExact")] 66

def k3m0 : Method := { name := "<init>", desc := "()V", sig := { parameters := [], returnType := none }, accessFlags := 2, code := none }
def k3c1 : Code := { maxStack := 6, maxLocals := 6, code := jdk_29_method_25_code, exceptionTable := #[], attributes := #[] }
def k3m1 : Method := { name := "addExact", desc := "(JJ)J", sig := { parameters := [.long, .long], returnType := some .long }, accessFlags := 9, code := some k3c1 }
def k3c2 : Code := { maxStack := 4, maxLocals := 4, code := jdk_29_method_66_code, exceptionTable := #[], attributes := #[] }
def k3m2 : Method := { name := "max", desc := "(JJ)J", sig := { parameters := [.long, .long], returnType := some .long }, accessFlags := 9, code := some k3c2 }
/-- java/lang/Math -/
def k3 : Class := { plain "java/lang/Math" (some 0) with
  accessFlags := 49
  interfaces := #[]
  cf := some (fileOf pool3 1 #[.nestMembers #[98]] #[{ accessFlags := 2, nameIndex := 7, descriptorIndex := 8, attributes := #[] }, { accessFlags := 9, nameIndex := 393, descriptorIndex := 121, attributes := #[] }, { accessFlags := 9, nameIndex := 198, descriptorIndex := 121, attributes := #[] }] 49 4 #[] #[{ accessFlags := 25, nameIndex := 354, descriptorIndex := 339, attributes := #[] }, { accessFlags := 25, nameIndex := 358, descriptorIndex := 339, attributes := #[] }, { accessFlags := 25, nameIndex := 361, descriptorIndex := 339, attributes := #[] }, { accessFlags := 26, nameIndex := 364, descriptorIndex := 339, attributes := #[] }, { accessFlags := 26, nameIndex := 365, descriptorIndex := 339, attributes := #[] }, { accessFlags := 26, nameIndex := 172, descriptorIndex := 173, attributes := #[] }, { accessFlags := 26, nameIndex := 176, descriptorIndex := 173, attributes := #[] }, { accessFlags := 8, nameIndex := 344, descriptorIndex := 339, attributes := #[] }, { accessFlags := 8, nameIndex := 338, descriptorIndex := 339, attributes := #[] }, { accessFlags := 4120, nameIndex := 245, descriptorIndex := 246, attributes := #[] }])
  fields := #[{ name := "E", type := .double, accessFlags := 25, slot := 0, constantValue := 0 }, { name := "PI", type := .double, accessFlags := 25, slot := 1, constantValue := 0 }, { name := "TAU", type := .double, accessFlags := 25, slot := 2, constantValue := 0 }, { name := "DEGREES_TO_RADIANS", type := .double, accessFlags := 26, slot := 3, constantValue := 0 }, { name := "RADIANS_TO_DEGREES", type := .double, accessFlags := 26, slot := 4, constantValue := 0 }, { name := "negativeZeroFloatBits", type := .long, accessFlags := 26, slot := 5, constantValue := 0 }, { name := "negativeZeroDoubleBits", type := .long, accessFlags := 26, slot := 6, constantValue := 0 }, { name := "twoToTheDoubleScaleUp", type := .double, accessFlags := 8, slot := 7, constantValue := 0 }, { name := "twoToTheDoubleScaleDown", type := .double, accessFlags := 8, slot := 8, constantValue := 0 }, { name := "$assertionsDisabled", type := .boolean, accessFlags := 4120, slot := 9, constantValue := 0 }]
  methods := #[k3m0, k3m1, k3m2]
  instanceTypes := #[]
  staticTypes := #[.double, .double, .double, .double, .double, .long, .long, .double, .double, .boolean]
  resolved := Array.replicate 460 none
  statics := none }

def pool4 : Array CpInfo := pool [(1, u "java/lang/Cloneable"), (0, .class_ 1), (0, u "java/lang/Object"), (0, .class_ 3)] 3

/-- java/lang/Cloneable -/
def k4 : Class := { plain "java/lang/Cloneable" (some 0) with
  accessFlags := 1537
  interfaces := #[]
  cf := some (fileOf pool4 2 #[] #[] 1537 4 #[] #[])
  fields := #[]
  methods := #[]
  instanceTypes := #[]
  staticTypes := #[]
  resolved := Array.replicate 8 none
  statics := none }

def pool5 : Array CpInfo := pool [(1, u "java/io/Serializable"), (0, .class_ 1), (0, u "java/lang/Object"), (0, .class_ 3)] 3

/-- java/io/Serializable -/
def k5 : Class := { plain "java/io/Serializable" (some 0) with
  accessFlags := 1537
  interfaces := #[]
  cf := some (fileOf pool5 2 #[] #[] 1537 4 #[] #[])
  fields := #[]
  methods := #[]
  instanceTypes := #[]
  staticTypes := #[]
  resolved := Array.replicate 8 none
  statics := none }

/-- the primitive byte -/
def k6 : Class := { plain "byte" none with kind := .primitive 'B', accessFlags := 0x411 }
/-- [B -/
def k7 : Class := { plain "[B" (some 0) with kind := .array 6 .byte, interfaces := #[4, 5], accessFlags := 1041 }

/-- the primitive int -/
def k8 : Class := { plain "int" none with kind := .primitive 'I', accessFlags := 0x411 }
/-- [I -/
def k9 : Class := { plain "[I" (some 0) with kind := .array 8 .int, interfaces := #[4, 5], accessFlags := 1041 }

def heap : Heap := #[]
def classes : Array Class := #[k0, k1, k2, k3, k4, k5, k6, k7, k8, k9]
def interned : List (Array UInt16 × Addr) := []
def slotsUsed : Nat := 0
def theMethod : MethodId := ⟨1, 1⟩
def args0 : Array Value := #[.int 5, .long 5, .long 5]
def aboutOver (below : List Frame) : State where
  vm := { classes := classes, interned := interned.toArray }
  heap := heap
  slotsUsed := slotsUsed
  threads := #[{ frames := .invoking theMethod args0 :: below }]
def below0 : List Frame := [.native { method := ⟨0, 0⟩, args := #[] }]
def about1 : State := aboutOver below0
def p0 : Program := .bare "" "" ""
def e0 : Env := launch0.env 0 0 0
theorem w_frames : about1.frames = Frame.invoking theMethod args0 :: below0 := rfl
set_option maxRecDepth 65536 in
theorem w_args : argsFit about1.vm theMethod args0 = true := by decide +kernel
set_option maxRecDepth 65536 in
theorem w_heap : heapFits about1 = true := by decide +kernel
set_option maxRecDepth 65536 in
theorem w_runnable : about1.curStatus? = some .runnable := by decide +kernel
set_option maxRecDepth 65536 in
theorem w_alone : about1.alone = true := by decide +kernel
set_option maxRecDepth 65536 in
theorem w_named : about1.methodNamed? x = some theMethod := by decide +kernel
set_option maxRecDepth 65536 in
theorem w_hears : about1.hears theMethod below0 = true := by decide +kernel
set_option maxRecDepth 65536 in
theorem w_ripe : about1.ripe theMethod args0 below0 = true := by decide +kernel
theorem w_running : about1.status = .running := rfl
set_option maxRecDepth 65536 in
theorem w_room : about1.hasRoom e0.platform room_1 = true :=
  launch0.hasRoom_least _ room_1 (by decide +kernel) (by decide +kernel) (by decide +kernel) (by decide +kernel) (by decide +kernel) (by decide +kernel)
theorem allAtoms_all (ts : List Jvm.Cond) (a : Array Jvm.Value) (st : Jvm.State) : (allAtoms ts).before a st = ts.all (fun c => c.before a st) := by
  induction ts with
  | nil => rfl
  | cons c t ih =>
    show (Jvm.Cond.and c (allAtoms t)).before a st = _
    rw [Jvm.Cond.before_and, ih, List.all_cons]
def words1 : List Jvm.Cond := Jvm.Cond.code x code maxLocals ret :: tables_1
/-- a 'code' word, met by the world's own term for the bytes: nothing is compared byte by byte -/
theorem code_word {y : MethodName} {bytes : ByteArray} {mx : Nat} {rt : Option FieldType} {a : Array Value} {s : State} {m : MethodId} {meth : Method} {c : Code} (h1 : s.methodNamed? y = some m) (h2 : s.vm.method? m = some meth) (h3 : meth.code = some c) (h4 : c.code = bytes)
    (h5 : (c.maxLocals == mx && c.exceptionTable.isEmpty && decide (c.maxStack ≤ mostOperands) && decide (meth.sig.returnType = rt) && !meth.locks && decide (parseMethodDescriptor y.desc = some meth.sig)) = true) : (Jvm.Cond.code y bytes mx rt).before a s = true := by
  simp only [Bool.and_eq_true, beq_iff_eq, Bool.not_eq_true', decide_eq_true_eq] at h5
  obtain ⟨⟨⟨⟨⟨g1, g2⟩, g3⟩, g4⟩, g5⟩, g6⟩ := h5
  simp [Cond.before, Cond.holds, Cond.value, h1, h2, h3, h4, g1, g2, g3, g4, g5, g6]
def isCode : Jvm.Cond → Bool
  | .code _ _ _ _ => true
  | _ => false
theorem all_split {L : List Jvm.Cond} {P : Jvm.Cond → Bool} (h1 : L.all (fun c => isCode c || P c) = true) (h2 : ∀ c ∈ L.filter isCode, P c = true) : L.all P = true := by
  refine List.all_eq_true.mpr fun c hc => ?_
  have h := List.all_eq_true.mp h1 c hc
  rcases Bool.eq_false_or_eq_true (isCode c) with hi | hi
  · exact h2 c (List.mem_filter.mpr ⟨hc, hi⟩)
  · simpa [hi] using h
set_option maxRecDepth 65536 in
theorem w_c0 : (Jvm.Cond.code x code maxLocals ret).before args0 about1 = true := code_word (m := ⟨1, 1⟩) (meth := k1m1) (c := k1c1) (by decide +kernel) rfl rfl rfl (by decide +kernel)
set_option maxRecDepth 65536 in
theorem w_c1 : (Jvm.Cond.code ({ cls := "com/example/arbiter/arbiter/LamportClock", name := "<init>", desc := "()V" } : Jvm.MethodName) prog_4_method_1_code (1 : Nat) (Option.none : Option Jvm.ClassFile.FieldType)).before args0 about1 = true := code_word (m := ⟨2, 0⟩) (meth := k2m0) (c := k2c0) (by decide +kernel) rfl rfl rfl (by decide +kernel)
set_option maxRecDepth 65536 in
theorem w_c2 : (Jvm.Cond.code ({ cls := "java/lang/Object", name := "<init>", desc := "()V" } : Jvm.MethodName) object_method_1_code (1 : Nat) (Option.none : Option Jvm.ClassFile.FieldType)).before args0 about1 = true := code_word (m := ⟨0, 0⟩) (meth := k0m0) (c := k0c0) (by decide +kernel) rfl rfl rfl (by decide +kernel)
set_option maxRecDepth 65536 in
theorem w_c3 : (Jvm.Cond.code ({ cls := "com/example/arbiter/arbiter/LamportClock", name := "receive", desc := "(J)V" } : Jvm.MethodName) prog_4_method_4_code (3 : Nat) (Option.none : Option Jvm.ClassFile.FieldType)).before args0 about1 = true := code_word (m := ⟨2, 3⟩) (meth := k2m3) (c := k2c3) (by decide +kernel) rfl rfl rfl (by decide +kernel)
set_option maxRecDepth 65536 in
theorem w_c4 : (Jvm.Cond.code ({ cls := "java/lang/Math", name := "max", desc := "(JJ)J" } : Jvm.MethodName) jdk_29_method_66_code (4 : Nat) (Option.some Jvm.ClassFile.FieldType.long)).before args0 about1 = true := code_word (m := ⟨3, 2⟩) (meth := k3m2) (c := k3c2) (by decide +kernel) rfl rfl rfl (by decide +kernel)
set_option maxRecDepth 65536 in
theorem w_c5 : (Jvm.Cond.code ({ cls := "java/lang/Math", name := "addExact", desc := "(JJ)J" } : Jvm.MethodName) jdk_29_method_25_code (6 : Nat) (Option.some Jvm.ClassFile.FieldType.long)).before args0 about1 = true := code_word (m := ⟨3, 1⟩) (meth := k3m1) (c := k3c1) (by decide +kernel) rfl rfl rfl (by decide +kernel)
set_option maxRecDepth 65536 in
theorem w_c6 : (Jvm.Cond.code ({ cls := "com/example/arbiter/arbiter/LamportClock", name := "time", desc := "()J" } : Jvm.MethodName) prog_4_method_2_code (1 : Nat) (Option.some Jvm.ClassFile.FieldType.long)).before args0 about1 = true := code_word (m := ⟨2, 1⟩) (meth := k2m1) (c := k2c1) (by decide +kernel) rfl rfl rfl (by decide +kernel)
set_option maxRecDepth 65536 in
theorem w_c7 : (Jvm.Cond.code ({ cls := "com/example/arbiter/arbiter/LamportClock", name := "stamp", desc := "()J" } : Jvm.MethodName) prog_4_method_3_code (1 : Nat) (Option.some Jvm.ClassFile.FieldType.long)).before args0 about1 = true := code_word (m := ⟨2, 2⟩) (meth := k2m2) (c := k2c2) (by decide +kernel) rfl rfl rfl (by decide +kernel)
def codes1 : List Jvm.Cond := [Jvm.Cond.code x code maxLocals ret, Jvm.Cond.code ({ cls := "com/example/arbiter/arbiter/LamportClock", name := "<init>", desc := "()V" } : Jvm.MethodName) prog_4_method_1_code (1 : Nat) (Option.none : Option Jvm.ClassFile.FieldType), Jvm.Cond.code ({ cls := "java/lang/Object", name := "<init>", desc := "()V" } : Jvm.MethodName) object_method_1_code (1 : Nat) (Option.none : Option Jvm.ClassFile.FieldType), Jvm.Cond.code ({ cls := "com/example/arbiter/arbiter/LamportClock", name := "receive", desc := "(J)V" } : Jvm.MethodName) prog_4_method_4_code (3 : Nat) (Option.none : Option Jvm.ClassFile.FieldType), Jvm.Cond.code ({ cls := "java/lang/Math", name := "max", desc := "(JJ)J" } : Jvm.MethodName) jdk_29_method_66_code (4 : Nat) (Option.some Jvm.ClassFile.FieldType.long), Jvm.Cond.code ({ cls := "java/lang/Math", name := "addExact", desc := "(JJ)J" } : Jvm.MethodName) jdk_29_method_25_code (6 : Nat) (Option.some Jvm.ClassFile.FieldType.long), Jvm.Cond.code ({ cls := "com/example/arbiter/arbiter/LamportClock", name := "time", desc := "()J" } : Jvm.MethodName) prog_4_method_2_code (1 : Nat) (Option.some Jvm.ClassFile.FieldType.long), Jvm.Cond.code ({ cls := "com/example/arbiter/arbiter/LamportClock", name := "stamp", desc := "()J" } : Jvm.MethodName) prog_4_method_3_code (1 : Nat) (Option.some Jvm.ClassFile.FieldType.long)]
set_option maxRecDepth 65536 in
theorem codes_eq : words1.filter isCode = codes1 := rfl
theorem w_codes : ∀ c ∈ words1.filter isCode, c.before args0 about1 = true := by
  rw [codes_eq]
  intro c hc
  simp only [codes1, List.mem_cons, List.not_mem_nil, or_false] at hc
  rcases hc with rfl | rfl | rfl | rfl | rfl | rfl | rfl | rfl
  · exact w_c0
  · exact w_c1
  · exact w_c2
  · exact w_c3
  · exact w_c4
  · exact w_c5
  · exact w_c6
  · exact w_c7
set_option maxRecDepth 65536 in
theorem w_t1 : (words1.take 24).all (fun c => isCode c || c.before args0 about1) = true := by decide +kernel
set_option maxRecDepth 65536 in
theorem w_t2 : (words1.drop 24).all (fun c => isCode c || c.before args0 about1) = true := by decide +kernel
theorem w_tables : (allAtoms (Jvm.Cond.code x code maxLocals ret :: tables_1)).before args0 about1 = true := by
  rw [allAtoms_all]
  show words1.all (fun c => c.before args0 about1) = true
  refine all_split ?_ w_codes
  rw [← List.take_append_drop 24 words1, List.all_append, w_t1, w_t2]
  rfl
set_option maxRecDepth 65536 in
theorem w_case : (Jvm.Cond.and given_1 narrow_1).before args0 about1 = true := by decide +kernel
theorem w_applies : (headSpec (Jvm.Cond.code x code maxLocals ret :: tables_1) room_1).applies x e0.platform about1 = true :=
  (Spec.applies_iff w_frames).mpr ⟨w_running, w_runnable, w_alone, w_named, w_hears, w_ripe, w_room, w_tables⟩
theorem atStart : AtStart classFile x code maxLocals ret World_1 tables_1 room_1 Calls_1 rest_1 Pre_1 launch0 p0 e0 about1 theMethod args0 below0 :=
  ⟨lists_1, trivial, launch0.admits_env _ _ _, launch0.least_env, fairChoices_fair.cas, fairChoices_fair.clock, w_frames, w_args, w_heap, w_applies, trivial, trivial, w_case⟩
end start1
theorem witness_1 : WitnessClaimed_1 := ⟨start1.p0, start1.e0, start1.about1, start1.theMethod, start1.args0, start1.below0, start1.atStart⟩
end Jvm.Pilot.@@N@@
