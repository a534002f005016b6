import JvmDerived
import JvmDerived.Pilot.@@N@@Statement
import JvmDerived.Pilot.@@N@@Code
set_option linter.unusedVariables false
set_option linter.unusedSimpArgs false
namespace Jvm.Own
open Sem ClassFile Op Lib Jvm.Stand Jvm.Free Jvm.LawKit Jvm.RoadKit
section Own
variable {p : Program} {l : Launch} {e : Env} {R : Room} {s : State} {m : MethodId} {args : Array Value} {below : List Frame} {meth : Method} {c : Code} {T : State} {locs : List Loc} {cells slots : Nat} {Q : Option Value → Heap → List Loc → Prop} {k n : Nat} {Z : State} {a0 : Array Value} {h h' h0 : Heap} {pc pc' : Nat} {Ls : Array Slot} {rest : List Value}
/-- from U the invocation comes to its end, returns, and Q holds there -/
def Till (p : Program) (e : Env) (below : List Frame) (s : State) (Q : Option Value → Heap → List Loc → Prop) (k n : Nat) (U : State) : Prop :=
  ∃ s₂ o, Steps p.tables e below U s₂ ∧ s₂.status = .running ∧ Ended s₂ below o ∧ ∃ v L, o = .returned v ∧ Q v s₂.heap L ∧ FrameEnd s o s₂ L k n
/-- a body's contract -/
def Ctr (l : Launch) (Z : State) (y : MethodName) (bytes : ByteArray) (maxL : Nat) (ret : Option FieldType) (rm : Room) (as : Array Value) (h : Heap) (Q : Option Value → Heap → List Loc → Prop) : Prop :=
  ∀ ws, MetFree l y (head1 (Jvm.Cond.code y bytes maxL ret :: ws) rm) (fun a U => a = as ∧ Z.Warmed39 U.vm ∧ U.heap = h) (fun _ _ _ _ _ => True) (fun _ U o U' => ∃ v L, o = .returned v ∧ Q v U'.heap L ∧ FrameEnd U o U' L rm.cells rm.slots)
theorem Till.pre {U V : State} (hs : ∀ t, Steps p.tables e below V t → Steps p.tables e below U t) (r : Till p e below s Q k n V) : Till p e below s Q k n U := by
  obtain ⟨s₂, o, h1, r⟩ := r; exact ⟨s₂, o, hs _ h1, r⟩
theorem Till.via {U V : State} (hs : Steps p.tables e below U V) (r : Till p e below s Q k n V) : Till p e below s Q k n U := by
  obtain ⟨s₂, o, h1, r⟩ := r; exact ⟨s₂, o, hs.trans h1, r⟩
theorem Till.cast {g g' : JFrame} (q : g = g') (r : Till p e below s Q k n (T.setTop g')) : Till p e below s Q k n (T.setTop g) := q ▸ r
theorem Ctr.of {y : MethodName} {bytes : ByteArray} {maxL : Nat} {ret : Option FieldType} {rm : Room} {as : Array Value} (hp : plainFor y = true)
    (body : ∀ p e s m below meth c s₁, p.tables.exec = Jvm.exec → c.code = bytes → c.maxLocals = maxL → s.vm.findClass y.cls = some m.cls → meth.name = y.name → meth.sig.returnType = ret → meth.locks = false → Z.Warmed39 s.vm → s₁.heap = h →
      Stand p l e rm s m as below meth c s₁ [] 0 0 → Till p e below s Q rm.cells rm.slots (s₁.setTop (entryFrame m as maxL))) : Ctr l Z y bytes maxL ret rm as h Q := by
  intro ws
  refine MetFree.of_bodySF hp hisR ?_
  intro p e s m args below meth c s₁ Bd hml hP hK
  obtain ⟨rfl, hZ, hh⟩ := hP
  exact body p e s m below meth c s₁ Bd.exec Bd.bytes hml (findClass_of_methodNamed Bd.named) (name_of_methodNamed Bd.named Bd.method).1 Bd.returns Bd.notSynchronized hZ (by rw [← hh, Bd.state]; rfl) (Stand.of_body Bd)
/-! branches -/
theorem Till.icmp {cd : ClassFile.Cond} {x y : Int32} {o : Int} (h : At T m c below) (hx : p.tables.exec = Jvm.exec) (hd : decode c.code pc = .ok (.if_icmp cd o, 3)) (ho : 0 ≤ (pc : Int) + o) (hp : ((pc : Int) + o).toNat = pc')
    (r1 : if_icmp.holds cd x y = true → Till p e below s Q k n (T.setTop (mkF m pc' Ls rest))) (r2 : if_icmp.holds cd x y = false → Till p e below s Q k n (T.setTop (mkF m (pc + 3) Ls rest))) : Till p e below s Q k n (T.setTop (mkF m pc Ls (.int y :: .int x :: rest))) := by
  cases hb : if_icmp.holds cd x y with
  | true => exact Till.pre (fun _ hr => XS.icmpYes h hx rfl (pc0 := pc) (pc' := pc') rfl hd rfl hb ho hp hr) (r1 hb)
  | false => exact Till.pre (fun _ hr => XS.icmpNo h hx rfl hd rfl hb hr) (r2 hb)
theorem Till.ifc {cd : ClassFile.Cond} {x : Int32} {o : Int} (h : At T m c below) (hx : p.tables.exec = Jvm.exec) (hd : decode c.code pc = .ok (.ifCond cd o, 3)) (ho : 0 ≤ (pc : Int) + o) (hp : ((pc : Int) + o).toNat = pc')
    (r1 : if_icmp.holds cd x 0 = true → Till p e below s Q k n (T.setTop (mkF m pc' Ls rest))) (r2 : if_icmp.holds cd x 0 = false → Till p e below s Q k n (T.setTop (mkF m (pc + 3) Ls rest))) : Till p e below s Q k n (T.setTop (mkF m pc Ls (.int x :: rest))) := by
  cases hb : if_icmp.holds cd x 0 with
  | true => exact Till.pre (fun _ hr => XS.ifYes h hx rfl (pc0 := pc) (pc' := pc') rfl hd rfl ((if0 _ _).trans hb) ho hp hr) (r1 hb)
  | false => exact Till.pre (fun _ hr => XS.ifNo h hx rfl hd rfl ((if0 _ _).trans hb) hr) (r2 hb)
theorem hEq {x y : Int32} : (if_icmp.holds .eq x y = true → x = y) ∧ (if_icmp.holds .eq x y = false → ¬ x = y) ∧ (if_icmp.holds .ne x y = true → ¬ x = y) ∧ (if_icmp.holds .ne x y = false → x = y) := by
  by_cases q : x = y
  · obtain ⟨h1, h2⟩ := teq q; rw [h1, h2]; simp [q]
  · obtain ⟨h1, h2⟩ := feq q; rw [h1, h2]; simp [q]
theorem hLt {x y : Int32} : (if_icmp.holds .lt x y = true → x < y) ∧ (if_icmp.holds .lt x y = false → ¬ x < y) ∧ (if_icmp.holds .ge x y = true → ¬ x < y) ∧ (if_icmp.holds .ge x y = false → x < y) ∧ (if_icmp.holds .gt y x = true → x < y) ∧ (if_icmp.holds .gt y x = false → ¬ x < y) ∧ (if_icmp.holds .le y x = true → ¬ x < y) ∧ (if_icmp.holds .le y x = false → x < y) := by
  by_cases q : x < y
  · obtain ⟨h1, h2, h3, h4⟩ := tlt q; rw [h1, h2, h3, h4]; simp [q]
  · obtain ⟨h1, h2, h3, h4⟩ := flt q; rw [h1, h2, h3, h4]; simp [q]
theorem lEq {x y : Int64} : lcmpW x y = 0 ↔ x = y := by rw [lcW x y]; exact lc_eq x y
theorem lLt {x y : Int64} : lcmpW x y < 0 ↔ x < y := by rw [lcW x y]; exact lc_lt x y
theorem lGt {x y : Int64} : 0 < lcmpW x y ↔ y < x := by rw [lcW x y]; exact lc_gt x y
/-- Java's >>> on longs -/
def lsr (x : Int64) (y : Int32) : Int64 := (x.toUInt64 >>> (y &&& 0x3f).toInt64.toUInt64).toInt64
/-! returns -/
theorem Till.retI (X : Stand p l e R s m args below meth c T locs cells slots) (hx : p.tables.exec = Jvm.exec) (hret : meth.sig.returnType = some .int) (hlk : meth.locks = false) {z : Int32} (hd : decode c.code pc = .ok (.ireturn, 1)) (hk : cells ≤ k) (hn : slots ≤ n) (hq : Q (some (.int z)) T.heap locs) : Till p e below s Q k n (T.setTop (mkF m pc Ls (.int z :: rest))) := by
  obtain ⟨fs, hr, hrun, hended, hW, hsame⟩ := X.leave (v := some (.int z)) (fun q => by rw [hret] at q; cases q) hlk
  exact ⟨_, _, retOut X hx hret rfl (Or.inl ⟨rfl, Or.inl rfl, z, rfl⟩) hd hr, hrun, hended, _, _, rfl, hq, ⟨_, rfl⟩, hW, hsame.mono hk hn⟩
theorem Till.retZ (X : Stand p l e R s m args below meth c T locs cells slots) (hx : p.tables.exec = Jvm.exec) (hret : meth.sig.returnType = some .boolean) (hlk : meth.locks = false) {z w : Int32} (hd : decode c.code pc = .ok (.ireturn, 1)) (hk : cells ≤ k) (hn : slots ≤ n) (hz : z &&& 1 = w) (hq : Q (some (.int w)) T.heap locs) : Till p e below s Q k n (T.setTop (mkF m pc Ls (.int z :: rest))) := by
  subst hz
  obtain ⟨fs, hr, hrun, hended, hW, hsame⟩ := X.leave (v := some (.int (z &&& 1))) (fun q => by rw [hret] at q; cases q) hlk
  exact ⟨_, _, retN X hx (t := .boolean) hret (Or.inl rfl) hd hr, hrun, hended, _, _, rfl, hq, ⟨_, rfl⟩, hW, hsame.mono hk hn⟩
theorem Till.retJ (X : Stand p l e R s m args below meth c T locs cells slots) (hx : p.tables.exec = Jvm.exec) (hret : meth.sig.returnType = some .long) (hlk : meth.locks = false) {z : Int64} (hd : decode c.code pc = .ok (.lreturn, 1)) (hk : cells ≤ k) (hn : slots ≤ n) (hq : Q (some (.long z)) T.heap locs) : Till p e below s Q k n (T.setTop (mkF m pc Ls (.long z :: rest))) := by
  obtain ⟨fs, hr, hrun, hended, hW, hsame⟩ := X.leave (v := some (.long z)) (fun q => by rw [hret] at q; cases q) hlk
  exact ⟨_, _, retOut X hx hret rfl (Or.inr (Or.inl ⟨rfl, rfl, z, rfl⟩)) hd hr, hrun, hended, _, _, rfl, hq, ⟨_, rfl⟩, hW, hsame.mono hk hn⟩
theorem Till.retA (X : Stand p l e R s m args below meth c T locs cells slots) (hx : p.tables.exec = Jvm.exec) {t : FieldType} (hret : meth.sig.returnType = some t) (ht : t.isReference = true) (hlk : meth.locks = false) {w : Value} (hw : w.isRef = true) (hnw : narrow t w = w) (hd : decode c.code pc = .ok (.areturn, 1)) (hk : cells ≤ k) (hn : slots ≤ n) (hq : Q (some w) T.heap locs) : Till p e below s Q k n (T.setTop (mkF m pc Ls (w :: rest))) := by
  obtain ⟨fs, hr, hrun, hended, hW, hsame⟩ := X.leave (v := some w) (fun q => by rw [hret] at q; cases q) hlk
  exact ⟨_, _, retOut X hx hret hnw (Or.inr (Or.inr (Or.inr (Or.inr ⟨rfl, ht, hw⟩)))) hd hr, hrun, hended, _, _, rfl, hq, ⟨_, rfl⟩, hW, hsame.mono hk hn⟩
theorem Till.retV (X : Stand p l e R s m args below meth c T locs cells slots) (hx : p.tables.exec = Jvm.exec) (hret : meth.sig.returnType = none) (hlk : meth.locks = false) (hd : decode c.code pc = .ok (.return_, 1)) (hk : cells ≤ k) (hn : slots ≤ n) (hq : Q none T.heap locs) : Till p e below s Q k n (T.setTop (mkF m pc Ls [])) := by
  obtain ⟨fs, hr, hrun, hended, hW, hsame⟩ := X.leave (v := none) (fun _ => rfl) hlk
  exact ⟨_, _, X.returnOut hx hret hd hr, hrun, hended, _, _, rfl, hq, ⟨_, rfl⟩, hW, hsame.mono hk hn⟩
/-! the heap -/
theorem Till.getF (X : Stand p l e R s m args below meth c T locs cells slots) (hx : p.tables.exec = Jvm.exec) (hZ : Z.Warmed39 s.vm) {own O nm d : String} {index : Nat} (hown : s.vm.findClass own = some m.cls) (w : (Jvm.Cond.fieldLink own index O nm d).before a0 Z = true) (eT : T.heap = h) {a : Addr} {v : Value} (F : Fld Z h a O nm d v) (hd : decode c.code pc = .ok (.getfield index, 3))
    (r : ∀ T', Stand p l e R s m args below meth c T' locs cells slots → T'.heap = h → Till p e below s Q k n (T'.setTop (mkF m (pc + 3) Ls (v :: rest)))) : Till p e below s Q k n (T.setTop (mkF m pc Ls (.ref a :: rest))) := by
  obtain ⟨T', X', e', st⟩ := Jvm.RoadKit.getF X hx hZ hown (host := "") (Or.inl w) Via.refl eT F (g := mkF m pc Ls (.ref a :: rest)) rfl rfl hd
  exact Till.pre st (r T' X' e')
theorem Till.putF (X : Stand p l e R s m args below meth c T locs cells slots) (hx : p.tables.exec = Jvm.exec) (hZ : Z.Warmed39 s.vm) {own O nm d C : String} {index kk : Nat} {ty : FieldType} (hown : s.vm.findClass own = some m.cls) (w : (Jvm.Cond.fieldLink own index O nm d).before a0 Z = true) (eT : T.heap = h) {a : Addr} {v old : Value} (F : Fld Z h a O nm d old) (E : Exa Z h a C)
    (L : (Jvm.Cond.lays C O nm d).before a0 Z = true ∨ ((Jvm.Cond.laysFinal C O nm d).before a0 Z = true ∧ own = O ∧ meth.name = "<init>")) (wi : (Jvm.Cond.instantiable C kk).before a0 Z = true) (hty : parseFieldDescriptor d = some ty) (hn : narrow ty v = v) (hf : fits ty v = true) (hd : decode c.code pc = .ok (.putfield index, 3))
    (r : ∀ T' h', Stand p l e R s m args below meth c T' (locs ++ [⟨a, Jvm.RoadKit.slotOf Z O nm d⟩]) cells slots → T'.heap = h' → Wr h h' a (Jvm.RoadKit.slotOf Z O nm d) v → Till p e below s Q k n (T'.setTop (mkF m (pc + 3) Ls rest))) : Till p e below s Q k n (T.setTop (mkF m pc Ls (v :: .ref a :: rest))) := by
  obtain ⟨T', h', X', e', W, st⟩ := Jvm.RoadKit.putF X hx hZ hown (host := "") (Or.inl w) Via.refl eT F E L wi hty hn hf (g := mkF m pc Ls (v :: .ref a :: rest)) rfl rfl hd
  exact Till.pre st (r T' h' X' e' W)
theorem Till.newO (X : Stand p l e R s m args below meth c T locs cells slots) (hx : p.tables.exec = Jvm.exec) (hZ : Z.Warmed39 s.vm) {own C : String} {index sl : Nat} (hown : s.vm.findClass own = some m.cls) (w : (Jvm.Cond.classLink own index C).before a0 Z = true) (wi : (Jvm.Cond.instantiable C sl).before a0 Z = true) (wz : (Jvm.Cond.initialized C).before a0 Z = true) (eT : T.heap = h) (hd : decode c.code pc = .ok (.new index, 3)) (hc : cells + 1 ≤ R.cells) (hl : slots + sl ≤ R.slots)
    (r : ∀ T' h' b, b = h.size → Stand p l e R s m args below meth c T' locs (cells + 1) (slots + sl) → T'.heap = h' → Ext h h' → Exa Z h' b C → (∀ {O nm d : String} {ty : FieldType}, Laid Z a0 C O nm d → parseFieldDescriptor d = some ty → Fld Z h' b O nm d (defaultValue ty)) → Till p e below s Q k n (T'.setTop (mkF m (pc + 3) Ls (.ref b :: rest)))) : Till p e below s Q k n (T.setTop (mkF m pc Ls rest)) := by
  obtain ⟨T', h', X', e', E, A, D, -, st⟩ := Jvm.RoadKit.newO X hx hZ hown w wi wz eT (g := mkF m pc Ls rest) rfl hd hc hl
  exact Till.pre st (r T' h' _ rfl X' e' E A D)
theorem Till.initO (X : Stand p l e R s m args below meth c T locs cells slots) (hx : p.tables.exec = Jvm.exec) (hZ : Z.Warmed39 s.vm) {own : String} {idx : Nat} (hown : s.vm.findClass own = some m.cls) (w1 : (Jvm.Cond.methodLink own idx Lib.objectInit).before a0 Z = true) (w2 : (Jvm.Cond.instanceMethod Lib.objectInit).before a0 Z = true) (w3 : (Jvm.Cond.code Lib.objectInit ⟨#[0xb1]⟩ 1 none).before a0 Z = true) (eT : T.heap = h) (hsize : Ls.size = c.maxLocals) {a : Addr} (hd : decode c.code pc = .ok (.invokespecial idx, 3))
    (hf : 1 ≤ R.frames) {W : Nat} (hW : (rest.map fun v => v.category).sum ≤ W) (hl : W + 12 ≤ R.locals)
    (r : ∀ T', Stand p l e R s m args below meth c T' locs cells slots → T'.heap = h → Till p e below s Q k n (T'.setTop (mkF m (pc + 3) Ls rest))) : Till p e below s Q k n (T.setTop (mkF m pc Ls (.ref a :: rest))) := by
  obtain ⟨T', X', e', st⟩ := Jvm.RoadKit.initO X hx hZ hown w1 w2 w3 eT (g := mkF m pc Ls (.ref a :: rest)) rfl hsize rfl hd hf (W := W) (by show 2 * 0 + _ ≤ _; omega) hl
  exact Till.pre st (r T' X' e')
/-! arrays: what they hold, as a function of the place -/
def AR {α : Type} (ty : FieldType) (w : α → Value) (Z : State) (h : Heap) (a : Addr) (z : Int32) (f : Nat → α) : Prop := ∃ c : Cell, Arr Z h a c ty ∧ c.slots.size = z.toNatClampNeg ∧ ¬ z < 0 ∧ ∀ i, i < c.slots.size → c.slots[i]? = some (w (f i))
abbrev LA := @AR Int64 .long Value.long
abbrev IA := @AR Int32 .int Value.int
abbrev BA := @AR Int32 .byte Value.int
def oupd {α : Type} (f : Nat → α) (i : Nat) (v : α) : Nat → α := fun x => if x = i then v else f x
theorem upd_hit {α : Type} {f : Nat → α} {i j : Nat} {v : α} (q : j = i) : oupd f i v j = v := if_pos q
theorem upd_miss {α : Type} {f : Nat → α} {i j : Nat} {v : α} (q : ¬ j = i) : oupd f i v j = f j := if_neg q
section Ary
variable {α : Type} {ty : FieldType} {w : α → Value} {a b : Addr} {z j : Int32} {f : Nat → α} {ws : List Addr} {sl : Nat} {v : Value}
theorem AR.lt (A : AR ty w Z h a z f) : a < h.size := by obtain ⟨c, A, -⟩ := A; exact A.lt
theorem AR.pos (A : AR ty w Z h a z f) : ¬ z < 0 := by obtain ⟨c, -, -, q, -⟩ := A; exact q
theorem AR.ext (A : AR ty w Z h a z f) (E : Ext h h') : AR ty w Z h' a z f := by obtain ⟨c, A, r⟩ := A; exact ⟨c, A.ext E, r⟩
theorem AR.keep (A : AR ty w Z h a z f) (K : Keep h h' ws) (q : a ∉ ws) : AR ty w Z h' a z f := by obtain ⟨c, A, r⟩ := A; exact ⟨c, ⟨K.2.1 a c A.1 q, A.2⟩, r⟩
theorem AR.wr (A : AR ty w Z h a z f) (W : Wr h h' b sl v) (q : a ≠ b) : AR ty w Z h' a z f := by obtain ⟨c, A, r⟩ := A; exact ⟨c, A.other W q, r⟩
theorem AR.congr {g : Nat → α} (A : AR ty w Z h a z f) (q : ∀ i, i < z.toNatClampNeg → f i = g i) : AR ty w Z h a z g := by obtain ⟨c, A, S, N, H⟩ := A; exact ⟨c, A, S, N, fun i hi => by rw [H i hi, q i (S ▸ hi)]⟩
theorem AR.set {x : α} (A : AR ty w Z h a z f) (W : Wr h h' a j.toNatClampNeg (w x)) : AR ty w Z h' a z (oupd f j.toNatClampNeg x) := by
  obtain ⟨c, A, S, N, H⟩ := A
  refine ⟨_, A.same W, by rw [sz_set]; exact S, N, fun i hi => ?_⟩
  rw [sz_set] at hi
  by_cases u : i = j.toNatClampNeg
  · rw [upd_hit u]; subst u; simp [Cell.setSlot, hi]
  · rw [upd_miss u]; simp only [Cell.setSlot]; rw [Array.getElem?_setIfInBounds_ne (Ne.symm u)]; exact H i hi
theorem Till.newA {aty : ArrayType} {d0 : α} (X : Stand p l e R s m args below meth c T locs cells slots) (hx : p.tables.exec = Jvm.exec) (hZ : Z.Warmed39 s.vm) (wa : (Jvm.Cond.arrayClass (newarray.typeOf aty)).before a0 Z = true) (eT : T.heap = h) (hd : decode c.code pc = .ok (.newarray aty, 2)) (hdv : defaultValue (newarray.typeOf aty) = w d0) (hz : ¬ z < 0) (cap : Nat) (hcap : z.toNatClampNeg ≤ cap) (hb : cap * 8 ≤ 536870912) (hc : cells + 1 ≤ R.cells) (hl : slots + cap ≤ R.slots)
    (r : ∀ T' h' b, b = h.size → Stand p l e R s m args below meth c T' locs (cells + 1) (slots + cap) → T'.heap = h' → Ext h h' → AR (newarray.typeOf aty) w Z h' b z (fun _ => d0) → Till p e below s Q k n (T'.setTop (mkF m (pc + 2) Ls (.ref b :: rest)))) : Till p e below s Q k n (T.setTop (mkF m pc Ls (.int z :: rest))) := by
  obtain ⟨T', h', cA, X', e', E, A, st⟩ := newP X hx hZ wa eT (g := mkF m pc Ls (.int z :: rest)) rfl hd rfl hz (cap := cap) hcap hb hc hl
  exact Till.pre st (r T' h' _ rfl X' e' E ⟨_, A, sz_new _ _ _, hz, fun i hi => by rw [sz_new] at hi; simp [Jvm.RoadKit.newA, hi, hdv]⟩)
theorem Till.alen (A : AR ty w Z h a z f) (X : Stand p l e R s m args below meth c T locs cells slots) (hx : p.tables.exec = Jvm.exec) (hZ : Z.Warmed39 s.vm) (eT : T.heap = h) (hd : decode c.code pc = .ok (.arraylength, 1))
    (r : Till p e below s Q k n (T.setTop (mkF m (pc + 1) Ls (.int z :: rest)))) : Till p e below s Q k n (T.setTop (mkF m pc Ls (.ref a :: rest))) := by
  obtain ⟨c', A, S, N, H⟩ := A
  refine Till.pre (X.arraylength hx (by rw [eT]; exact A.1) (State.isArrayOf_alike hZ.alike A.2.1) (g := mkF m pc Ls (.ref a :: rest)) rfl rfl hd) ?_
  rw [len_of S N]; exact r
theorem AR.at (A : AR ty w Z h a z f) (h1 : ¬ j < 0) (h2 : j < z) : ∃ c : Cell, Arr Z h a c ty ∧ ¬ (j < 0 ∨ c.slots.size ≤ j.toNatClampNeg) ∧ c.slots[j.toNatClampNeg]? = some (w (f j.toNatClampNeg)) := by
  obtain ⟨c', A, S, N, H⟩ := A
  have hin := inb_of S ⟨h1, h2⟩
  exact ⟨c', A, hin, H _ (Nat.lt_of_not_le fun y => hin (Or.inr y))⟩
end Ary
section Acc
variable {a : Addr} {z j : Int32}
theorem Till.laload {f : Nat → Int64} (A : LA Z h a z f) (h1 : ¬ j < 0) (h2 : j < z) (X : Stand p l e R s m args below meth c T locs cells slots) (hx : p.tables.exec = Jvm.exec) (hZ : Z.Warmed39 s.vm) (eT : T.heap = h) (hd : decode c.code pc = .ok (.laload, 1))
    (r : Till p e below s Q k n (T.setTop (mkF m (pc + 1) Ls (.long (f j.toNatClampNeg) :: rest)))) : Till p e below s Q k n (T.setTop (mkF m pc Ls (.int j :: .ref a :: rest))) := by
  obtain ⟨c', A, hin, hv⟩ := A.at h1 h2
  exact Till.pre (X.laload hx (by rw [eT]; exact A.1) (State.isArrayOf_alike hZ.alike A.2.1) A.2.2 hin hv (g := mkF m pc Ls (.int j :: .ref a :: rest)) rfl rfl hd) r
theorem Till.iaload {f : Nat → Int32} (A : IA Z h a z f) (h1 : ¬ j < 0) (h2 : j < z) (X : Stand p l e R s m args below meth c T locs cells slots) (hx : p.tables.exec = Jvm.exec) (hZ : Z.Warmed39 s.vm) (eT : T.heap = h) (hd : decode c.code pc = .ok (.iaload, 1))
    (r : Till p e below s Q k n (T.setTop (mkF m (pc + 1) Ls (.int (f j.toNatClampNeg) :: rest)))) : Till p e below s Q k n (T.setTop (mkF m pc Ls (.int j :: .ref a :: rest))) := by
  obtain ⟨c', A, hin, hv⟩ := A.at h1 h2
  exact Till.pre (X.iaload hx (by rw [eT]; exact A.1) (State.isArrayOf_alike hZ.alike A.2.1) A.2.2 hin hv (g := mkF m pc Ls (.int j :: .ref a :: rest)) rfl rfl hd) r
theorem Till.baload {f : Nat → Int32} (A : BA Z h a z f) (h1 : ¬ j < 0) (h2 : j < z) (X : Stand p l e R s m args below meth c T locs cells slots) (hx : p.tables.exec = Jvm.exec) (hZ : Z.Warmed39 s.vm) (eT : T.heap = h) (hd : decode c.code pc = .ok (.baload, 1))
    (r : Till p e below s Q k n (T.setTop (mkF m (pc + 1) Ls (.int (f j.toNatClampNeg) :: rest)))) : Till p e below s Q k n (T.setTop (mkF m pc Ls (.int j :: .ref a :: rest))) := by
  obtain ⟨c', A, hin, hv⟩ := A.at h1 h2
  exact Till.pre (X.baloadBytes hx (by rw [eT]; exact A.1) (State.isArrayOf_alike hZ.alike A.2.1) A.2.2 hin hv (g := mkF m pc Ls (.int j :: .ref a :: rest)) rfl rfl hd) r
theorem Till.lastore {f : Nat → Int64} {x : Int64} (A : LA Z h a z f) (h1 : ¬ j < 0) (h2 : j < z) (X : Stand p l e R s m args below meth c T locs cells slots) (hx : p.tables.exec = Jvm.exec) (hZ : Z.Warmed39 s.vm) (eT : T.heap = h) (hd : decode c.code pc = .ok (.lastore, 1))
    (r : ∀ T' h', Stand p l e R s m args below meth c T' (locs ++ [⟨a, j.toNatClampNeg⟩]) cells slots → T'.heap = h' → Wr h h' a j.toNatClampNeg (.long x) → LA Z h' a z (oupd f j.toNatClampNeg x) → Till p e below s Q k n (T'.setTop (mkF m (pc + 1) Ls rest))) : Till p e below s Q k n (T.setTop (mkF m pc Ls (.long x :: .int j :: .ref a :: rest))) := by
  obtain ⟨c', A', hin, hv⟩ := A.at h1 h2
  obtain ⟨T', h', X', e', W, st⟩ := stJ X hx hZ eT A' hin (x := x) (g := mkF m pc Ls (.long x :: .int j :: .ref a :: rest)) rfl rfl hd
  exact Till.pre st (r T' h' X' e' W (AR.set A W))
theorem Till.iastore {f : Nat → Int32} {x : Int32} (A : IA Z h a z f) (h1 : ¬ j < 0) (h2 : j < z) (X : Stand p l e R s m args below meth c T locs cells slots) (hx : p.tables.exec = Jvm.exec) (hZ : Z.Warmed39 s.vm) (eT : T.heap = h) (hd : decode c.code pc = .ok (.iastore, 1))
    (r : ∀ T' h', Stand p l e R s m args below meth c T' (locs ++ [⟨a, j.toNatClampNeg⟩]) cells slots → T'.heap = h' → Wr h h' a j.toNatClampNeg (.int x) → IA Z h' a z (oupd f j.toNatClampNeg x) → Till p e below s Q k n (T'.setTop (mkF m (pc + 1) Ls rest))) : Till p e below s Q k n (T.setTop (mkF m pc Ls (.int x :: .int j :: .ref a :: rest))) := by
  obtain ⟨c', A', hin, hv⟩ := A.at h1 h2
  obtain ⟨T', h', X', e', W, st⟩ := stI X hx hZ eT A' hin (x := x) (g := mkF m pc Ls (.int x :: .int j :: .ref a :: rest)) rfl rfl hd
  exact Till.pre st (r T' h' X' e' W (AR.set A W))
theorem Till.bastore {f : Nat → Int32} {x : Int32} (A : BA Z h a z f) (h1 : ¬ j < 0) (h2 : j < z) (X : Stand p l e R s m args below meth c T locs cells slots) (hx : p.tables.exec = Jvm.exec) (hZ : Z.Warmed39 s.vm) (eT : T.heap = h) (hd : decode c.code pc = .ok (.bastore, 1))
    (r : ∀ T' h', Stand p l e R s m args below meth c T' (locs ++ [⟨a, j.toNatClampNeg⟩]) cells slots → T'.heap = h' → Wr h h' a j.toNatClampNeg (.int x.toInt8.toInt32) → BA Z h' a z (oupd f j.toNatClampNeg x.toInt8.toInt32) → Till p e below s Q k n (T'.setTop (mkF m (pc + 1) Ls rest))) : Till p e below s Q k n (T.setTop (mkF m pc Ls (.int x :: .int j :: .ref a :: rest))) := by
  obtain ⟨c', A', hin, hv⟩ := A.at h1 h2
  obtain ⟨T', h', X', e', W, st⟩ := stB X hx hZ eT A' hin (x := x) (g := mkF m pc Ls (.int x :: .int j :: .ref a :: rest)) rfl rfl hd
  exact Till.pre st (r T' h' X' e' W (AR.set A W))
end Acc
/-! calls -/
section Calls
variable {own : String} {index maxL : Nat} {y : MethodName} {bytes : ByteArray} {ret : Option FieldType} {rm : Room} {as : Array Value} {Qc : Option Value → Heap → List Loc → Prop} {W : Nat} {argsL st : List Value}
theorem Till.callS (C : Ctr l Z y bytes maxL ret rm as h Qc) (X : Stand p l e R s m args below meth c T locs cells slots) (hx : p.tables.exec = Jvm.exec) (hZ : Z.Warmed39 s.vm) (hown : s.vm.findClass own = some m.cls) (w1 : (Jvm.Cond.methodLink own index y).before a0 Z = true) (w2 : (Jvm.Cond.static y).before a0 Z = true) (w3 : (Jvm.Cond.initialized y.cls).before a0 Z = true) (w4 : (Jvm.Cond.code y bytes maxL ret).before a0 Z = true)
    (hy : y.cls ≠ "java/lang/invoke/MethodHandle" ∧ y.cls ≠ "java/lang/invoke/VarHandle") (hf : rm.frames + 1 ≤ R.frames) (hl : W + (maxL + 11) + rm.locals ≤ R.locals) (hsize : Ls.size = c.maxLocals) (hlen : ∀ sig, parseMethodDescriptor y.desc = some sig → argsL.length = sig.parameters.length) (has : argsL.toArray = as) (hst : st = argsL.reverse ++ rest) (hW : (rest.map fun v => v.category).sum ≤ W) (hd : decode c.code pc = .ok (.invokestatic index, 3)) (eT : T.heap = h) (hc : cells + rm.cells ≤ R.cells) (hs : slots + rm.slots ≤ R.slots)
    (r : ∀ v T' L, Stand p l e R s m args below meth c T' (locs ++ L) (cells + rm.cells) (slots + rm.slots) → Qc v T'.heap L → Till p e below s Q k n (T'.setTop (mkF m (pc + 3) Ls (v.toList ++ rest)))) : Till p e below s Q k n (T.setTop (mkF m pc Ls st)) := by
  obtain ⟨v, vm1, ⟨T', L', c', s'⟩, -, X', ⟨Lc, hQ, l1, y1, z1⟩, stp⟩ := Jvm.LawKit.callS X hx hown (mvT hZ w1) (mvT hZ w2) (mvT hZ w3) (mvT hZ w4) hy (backOf (W := W) (C []) hZ w4 w3 hf hl) (g := mkF m pc Ls st) rfl hsize (argsL := argsL) (rest := rest) hlen hst (by show 2 * 0 + _ ≤ _; omega) hd (fun _ _ => ⟨has, eT, hc, hs⟩)
  dsimp only [Pt.U, Pt.locs, Pt.cells, Pt.slots] at X' l1 y1 z1 stp hQ
  subst l1 y1 z1
  exact Till.pre stp (r v T' Lc X' hQ)
theorem Till.callC {a : Addr} (C : Ctr l Z y bytes maxL none rm as h Qc) (X : Stand p l e R s m args below meth c T locs cells slots) (hx : p.tables.exec = Jvm.exec) (hZ : Z.Warmed39 s.vm) (hown : s.vm.findClass own = some m.cls) (hy1 : y.name = "<init>") (w1 : (Jvm.Cond.methodLink own index y).before a0 Z = true) (w2 : (Jvm.Cond.instanceMethod y).before a0 Z = true) (w3 : (Jvm.Cond.initialized y.cls).before a0 Z = true) (w4 : (Jvm.Cond.code y bytes maxL none).before a0 Z = true)
    (hy : y.cls ≠ "java/lang/invoke/MethodHandle" ∧ y.cls ≠ "java/lang/invoke/VarHandle") (hf : rm.frames + 1 ≤ R.frames) (hl : W + (maxL + 11) + rm.locals ≤ R.locals) (hsize : Ls.size = c.maxLocals) (hlen : ∀ sig, parseMethodDescriptor y.desc = some sig → argsL.length = sig.parameters.length) (has : (.ref a :: argsL).toArray = as) (hst : st = argsL.reverse ++ .ref a :: rest) (hW : (rest.map fun v => v.category).sum ≤ W) (hd : decode c.code pc = .ok (.invokespecial index, 3)) (eT : T.heap = h) (hc : cells + rm.cells ≤ R.cells) (hs : slots + rm.slots ≤ R.slots)
    (r : ∀ v T' L, Stand p l e R s m args below meth c T' (locs ++ L) (cells + rm.cells) (slots + rm.slots) → Qc v T'.heap L → Till p e below s Q k n (T'.setTop (mkF m (pc + 3) Ls (v.toList ++ rest)))) : Till p e below s Q k n (T.setTop (mkF m pc Ls st)) := by
  obtain ⟨v, vm1, ⟨T', L', c', s'⟩, -, X', ⟨Lc, hQ, l1, y1, z1⟩, stp⟩ := X.specialBack hx hy1 hown (mvT hZ w1) (mvT hZ w2) (mvT hZ w4) hy (backOf (W := W) (C []) hZ w4 w3 hf hl) (g := mkF m pc Ls st) rfl hsize (Steps.refl _) (a := a) (argsL := argsL) (rest := rest) hlen hst (by show 2 * 0 + _ ≤ _; omega) hd (fun _ _ => ⟨has, eT, hc, hs⟩)
  dsimp only [Pt.U, Pt.locs, Pt.cells, Pt.slots] at X' l1 y1 z1 stp hQ
  subst l1 y1 z1
  exact Till.via stp (r v T' Lc X' hQ)
theorem Till.callV {a : Addr} (C : Ctr l Z y bytes maxL ret rm as h Qc) (E : Exa Z h a y.cls) (X : Stand p l e R s m args below meth c T locs cells slots) (hx : p.tables.exec = Jvm.exec) (hZ : Z.Warmed39 s.vm) (hown : s.vm.findClass own = some m.cls) (w1 : (Jvm.Cond.methodLink own index y).before a0 Z = true) (w5 : (Jvm.Cond.declares y).before a0 Z = true) (w6 : (Jvm.Cond.selects y.cls y y).before a0 Z = true) (w2 : (Jvm.Cond.instanceMethod y).before a0 Z = true) (w3 : (Jvm.Cond.initialized y.cls).before a0 Z = true) (w4 : (Jvm.Cond.code y bytes maxL ret).before a0 Z = true)
    (hy : y.cls ≠ "java/lang/invoke/MethodHandle" ∧ y.cls ≠ "java/lang/invoke/VarHandle") (hf : rm.frames + 1 ≤ R.frames) (hl : W + (maxL + 11) + rm.locals ≤ R.locals) (hsize : Ls.size = c.maxLocals) (hlen : ∀ sig, parseMethodDescriptor y.desc = some sig → argsL.length = sig.parameters.length) (has : (.ref a :: argsL).toArray = as) (hst : st = argsL.reverse ++ .ref a :: rest) (hW : (rest.map fun v => v.category).sum ≤ W) (hd : decode c.code pc = .ok (.invokevirtual index, 3)) (eT : T.heap = h) (hc : cells + rm.cells ≤ R.cells) (hs : slots + rm.slots ≤ R.slots)
    (r : ∀ v T' L, Stand p l e R s m args below meth c T' (locs ++ L) (cells + rm.cells) (slots + rm.slots) → Qc v T'.heap L → Till p e below s Q k n (T'.setTop (mkF m (pc + 3) Ls (v.toList ++ rest)))) : Till p e below s Q k n (T.setTop (mkF m pc Ls st)) := by
  obtain ⟨cq, kq, qa, qb, qc⟩ := isOf hZ eT E
  obtain ⟨v, vm1, ⟨T', L', c', s'⟩, -, X', ⟨Lc, hQ, l1, y1, z1⟩, stp⟩ := X.virtualBack hx (y := y) (z := y) hown (mvT hZ w1) (mvT hZ w5) (notFace_of_selects (args := #[]) (mvT hZ w6)) (mvT hZ w6) (mvT hZ w2) hy (backOf (W := W) (C []) hZ w4 w3 hf hl) qa qc (g := mkF m pc Ls st) rfl hsize (Steps.refl _) (argsL := argsL) (rest := rest) hlen hst (by show 2 * 0 + _ ≤ _; omega) hd (fun _ _ => ⟨has, eT, hc, hs⟩)
  dsimp only [Pt.U, Pt.locs, Pt.cells, Pt.slots] at X' l1 y1 z1 stp hQ
  subst l1 y1 z1
  exact Till.via stp (r v T' Lc X' hQ)
theorem Till.callP {a : Addr} {kk : Nat} (C : Ctr l Z y bytes maxL ret rm as h Qc) (E : Exa Z h a y.cls) (X : Stand p l e R s m args below meth c T locs cells slots) (hx : p.tables.exec = Jvm.exec) (hZ : Z.Warmed39 s.vm) (hown : s.vm.findClass own = some m.cls) (w1 : (Jvm.Cond.methodLink own index y).before a0 Z = true) (w2 : (Jvm.Cond.instanceMethod y).before a0 Z = true) (wp : (Jvm.Cond.privateMethod y).before a0 Z = true) (wi : (Jvm.Cond.instantiable y.cls kk).before a0 Z = true) (w3 : (Jvm.Cond.initialized y.cls).before a0 Z = true) (w4 : (Jvm.Cond.code y bytes maxL ret).before a0 Z = true)
    (hy : y.cls ≠ "java/lang/invoke/MethodHandle" ∧ y.cls ≠ "java/lang/invoke/VarHandle") (hf : rm.frames + 1 ≤ R.frames) (hl : W + (maxL + 11) + rm.locals ≤ R.locals) (hsize : Ls.size = c.maxLocals) (hlen : ∀ sig, parseMethodDescriptor y.desc = some sig → argsL.length = sig.parameters.length) (has : (.ref a :: argsL).toArray = as) (hst : st = argsL.reverse ++ .ref a :: rest) (hW : (rest.map fun v => v.category).sum ≤ W) (hd : decode c.code pc = .ok (.invokevirtual index, 3)) (eT : T.heap = h) (hc : cells + rm.cells ≤ R.cells) (hs : slots + rm.slots ≤ R.slots)
    (r : ∀ v T' L, Stand p l e R s m args below meth c T' (locs ++ L) (cells + rm.cells) (slots + rm.slots) → Qc v T'.heap L → Till p e below s Q k n (T'.setTop (mkF m (pc + 3) Ls (v.toList ++ rest)))) : Till p e below s Q k n (T.setTop (mkF m pc Ls st)) := by
  have wi' : (Jvm.Cond.instantiable y.cls kk).before args s = true := mvT hZ wi
  have w2' : (Jvm.Cond.instanceMethod y).before args s = true := mvT hZ w2
  obtain ⟨c2, k2, i1, i2, -, hniab, -, -⟩ := Cond.instantiable_spec wi'
  have hpr := Cond.privateMethod_at (mvP hZ wp (args := args))
  have hsel : (Jvm.Cond.selects y.cls y y).before args s = true := selects_self_of_private i1 i2 (Bool.or_eq_false_iff.mp hniab).1 hpr w2' hy
  obtain ⟨cell, hcell, hobj⟩ := E.cell
  obtain ⟨v, vm1, ⟨T', L', c', s'⟩, -, X', ⟨Lc, hQ, l1, y1, z1⟩, stp⟩ := X.privateBack hx hown (mvT hZ w1) w2' hsel hpr (mvT hZ w4) hy (backOf (W := W) (C []) hZ w4 w3 hf hl) (g := mkF m pc Ls st) rfl hsize (Steps.refl _) (a := a) (by rw [eT]; exact hcell) hobj (argsL := argsL) (rest := rest) hlen hst (by show 2 * 0 + _ ≤ _; omega) hd (fun _ _ => ⟨has, eT, hc, hs⟩)
  dsimp only [Pt.U, Pt.locs, Pt.cells, Pt.slots] at X' l1 y1 z1 stp hQ
  subst l1 y1 z1
  exact Till.via stp (r v T' Lc X' hQ)
end Calls
theorem Till.pop2L {x : Int64} (X : Stand p l e R s m args below meth c T locs cells slots) (hx : p.tables.exec = Jvm.exec) (hd : decode c.code pc = .ok (.pop2, 1)) (r : Till p e below s Q k n (T.setTop (mkF m (pc + 1) Ls rest))) : Till p e below s Q k n (T.setTop (mkF m pc Ls (.long x :: rest))) := by
  refine Till.pre (fun t hr => ?_) r
  show Steps p.tables e below (T.setTop { method := m, pc := pc, locals := Ls, stack := _ :: rest, locked := none }) _
  jvm_step X.here [X.here.top, hx, hd, Value.category]
  exact hr
end Own
end Jvm.Own
namespace Jvm.Pilot.@@N@@
open Jvm Jvm.ClassFile Sem Op Lib Jvm.Free Jvm.Stand Jvm.LawKit Jvm.RoadKit Bundle Jvm.Own Jvm.Pilot.@@N@@.Jvm.D
theorem own_inc {i z : Int32} (h : i < z) : (i + (1 : Int32)).toInt = i.toInt + 1 := by
  have := c_iadd i 1
  have := rng32 (i + 1)
  have := rng32 i
  have := rng32 z
  have : (1 : Int32).toInt = 1 := rfl
  rw [Int32.lt_iff_toInt_lt] at h
  omega
theorem own_nat {i : Int32} (h : 0 ≤ i.toInt) : (i.toNatClampNeg : Int) = i.toInt := by simp only [Int32.toNatClampNeg]; omega
theorem own_neg {i : Int32} (h : 0 ≤ i.toInt) : ¬ i < (0 : Int32) := by rw [Int32.lt_iff_toInt_lt, show (0 : Int32).toInt = 0 from rfl]; omega
theorem own_pos' {i : Int32} (h : ¬ i < (0 : Int32)) : 0 ≤ i.toInt := by rw [Int32.lt_iff_toInt_lt, show (0 : Int32).toInt = 0 from rfl] at h; omega
theorem own_fillb {i z : Int32} {g : Nat → Int64} {v : Int64} (h : i < z) (h0 : 0 ≤ i.toInt) (hg : ∀ j, j < i.toNatClampNeg → g j = v) : ∀ j, j < (i + (1 : Int32)).toNatClampNeg → oupd g i.toNatClampNeg v j = v := by
  intro j hj
  have a := own_inc h
  have b := own_nat h0
  have c := own_nat (i := i + 1) (by omega)
  by_cases q : j = i.toNatClampNeg
  · exact upd_hit q
  · rw [upd_miss q]; exact hg j (by omega)
theorem own_home (q : Int64) : 0 ≤ (lsr q (54 : Int32)).toInt32.toInt ∧ (lsr q (54 : Int32)).toInt32.toInt < 1024 := by
  have a := c_lushr q 54 54 (by decide) (by decide)
  have b := c_l2i (lsr q 54)
  have c := rng32 (lsr q 54).toInt32
  have d := rng64 q
  have e : (lsr q 54).toInt = (q.toInt % 18446744073709551616) / (2 ^ 54 : Nat) := a
  omega
theorem own_nxt (s : Int32) : 0 ≤ ((s + (1 : Int32)) &&& (1023 : Int32)).toInt ∧ ((s + (1 : Int32)) &&& (1023 : Int32)).toInt < 1024 := by
  have := c_mask (s + 1) 1023 10 (by decide) (by decide)
  omega
theorem own_b1 {s : Int32} (h : 0 ≤ s.toInt ∧ s.toInt < 1024) : ¬ s < (0 : Int32) := own_neg h.1
theorem own_b2 {s : Int32} (h : 0 ≤ s.toInt ∧ s.toInt < 1024) : s < (1024 : Int32) := by rw [Int32.lt_iff_toInt_lt, show (1024 : Int32).toInt = 1024 from rfl]; exact h.2
/-- the slots that an id's search looks at -/
def own_h (q : Int64) : Int32 := (lsr (q * (-7046029254386353131 : Int64)) (54 : Int32)).toInt32
def own_n (s : Int32) : Int32 := (s + (1 : Int32)) &&& (1023 : Int32)
def Idt (Z : State) (h : Heap) (a : Addr) (x0 : Value) (x1 : Value) (x2 : Int32) (x3 : Int32) : Prop := Exa Z h a "com/example/tour/tour/io/IdTable" ∧ Fld Z h a "com/example/tour/tour/io/IdTable" "ids" "[J" x0 ∧ Fld Z h a "com/example/tour/tour/io/IdTable" "values" "[J" x1 ∧ Fld Z h a "com/example/tour/tour/io/IdTable" "shift" "I" (.int x2) ∧ Fld Z h a "com/example/tour/tour/io/IdTable" "size" "I" (.int x3)
theorem Idt.lt {Z : State} {h : Heap} {a : Addr} {x0 : Value} {x1 : Value} {x2 : Int32} {x3 : Int32} (F : Idt Z h a x0 x1 x2 x3) : a < h.size := F.1.lt
theorem Idt.ext {Z : State} {h h' : Heap} {a : Addr} {x0 : Value} {x1 : Value} {x2 : Int32} {x3 : Int32} (F : Idt Z h a x0 x1 x2 x3) (E : Ext h h') : Idt Z h' a x0 x1 x2 x3 := ⟨F.1.ext E, F.2.1.ext E, F.2.2.1.ext E, F.2.2.2.1.ext E, F.2.2.2.2.ext E⟩
theorem Idt.keep {Z : State} {h h' : Heap} {a : Addr} {x0 : Value} {x1 : Value} {x2 : Int32} {x3 : Int32} {ws : List Addr} (F : Idt Z h a x0 x1 x2 x3) (K : Keep h h' ws) (q : a ∉ ws) : Idt Z h' a x0 x1 x2 x3 := ⟨F.1.keep K, F.2.1.keep K q, F.2.2.1.keep K q, F.2.2.2.1.keep K q, F.2.2.2.2.keep K q⟩
theorem Idt.wr {Z : State} {h h' : Heap} {a : Addr} {x0 : Value} {x1 : Value} {x2 : Int32} {x3 : Int32} {b : Addr} {sl : Nat} {v : Value} (F : Idt Z h a x0 x1 x2 x3) (W : Wr h h' b sl v) (q : a ≠ b) : Idt Z h' a x0 x1 x2 x3 := ⟨F.1.wr W, F.2.1.other W (Or.inl q), F.2.2.1.other W (Or.inl q), F.2.2.2.1.other W (Or.inl q), F.2.2.2.2.other W (Or.inl q)⟩
theorem Idt.set_ids {Z : State} {h h' : Heap} {a : Addr} {x0 : Value} {x1 : Value} {x2 : Int32} {x3 : Int32} {y : Value} {a0 : Array Value} (hw : ∀ d ∈ tables_1, d.before a0 Z = true) (F : Idt Z h a x0 x1 x2 x3) (W : Wr h h' a (Jvm.RoadKit.slotOf Z "com/example/tour/tour/io/IdTable" "ids" "[J") y) : Idt Z h' a y x1 x2 x3 := ⟨F.1.wr W, F.2.1.same W, F.2.2.1.other W (Or.inr (Jvm.RoadKit.slot_ne (Or.inl (hw _ (List.mem_of_getElem? (i := 30) rfl))) (Or.inl (hw _ (List.mem_of_getElem? (i := 28) rfl))) (by decide) (t := (.array .long)) (t' := (.array .long)) (by decide) (by decide))), F.2.2.2.1.other W (Or.inr (Jvm.RoadKit.slot_ne (Or.inl (hw _ (List.mem_of_getElem? (i := 37) rfl))) (Or.inl (hw _ (List.mem_of_getElem? (i := 28) rfl))) (by decide) (t := .int) (t' := (.array .long)) (by decide) (by decide))), F.2.2.2.2.other W (Or.inr (Jvm.RoadKit.slot_ne (Or.inl (hw _ (List.mem_of_getElem? (i := 44) rfl))) (Or.inl (hw _ (List.mem_of_getElem? (i := 28) rfl))) (by decide) (t := .int) (t' := (.array .long)) (by decide) (by decide)))⟩
theorem Idt.set_values {Z : State} {h h' : Heap} {a : Addr} {x0 : Value} {x1 : Value} {x2 : Int32} {x3 : Int32} {y : Value} {a0 : Array Value} (hw : ∀ d ∈ tables_1, d.before a0 Z = true) (F : Idt Z h a x0 x1 x2 x3) (W : Wr h h' a (Jvm.RoadKit.slotOf Z "com/example/tour/tour/io/IdTable" "values" "[J") y) : Idt Z h' a x0 y x2 x3 := ⟨F.1.wr W, F.2.1.other W (Or.inr (Jvm.RoadKit.slot_ne (Or.inl (hw _ (List.mem_of_getElem? (i := 28) rfl))) (Or.inl (hw _ (List.mem_of_getElem? (i := 30) rfl))) (by decide) (t := (.array .long)) (t' := (.array .long)) (by decide) (by decide))), F.2.2.1.same W, F.2.2.2.1.other W (Or.inr (Jvm.RoadKit.slot_ne (Or.inl (hw _ (List.mem_of_getElem? (i := 37) rfl))) (Or.inl (hw _ (List.mem_of_getElem? (i := 30) rfl))) (by decide) (t := .int) (t' := (.array .long)) (by decide) (by decide))), F.2.2.2.2.other W (Or.inr (Jvm.RoadKit.slot_ne (Or.inl (hw _ (List.mem_of_getElem? (i := 44) rfl))) (Or.inl (hw _ (List.mem_of_getElem? (i := 30) rfl))) (by decide) (t := .int) (t' := (.array .long)) (by decide) (by decide)))⟩
theorem Idt.set_shift {Z : State} {h h' : Heap} {a : Addr} {x0 : Value} {x1 : Value} {x2 : Int32} {x3 : Int32} {y : Int32} {a0 : Array Value} (hw : ∀ d ∈ tables_1, d.before a0 Z = true) (F : Idt Z h a x0 x1 x2 x3) (W : Wr h h' a (Jvm.RoadKit.slotOf Z "com/example/tour/tour/io/IdTable" "shift" "I") (.int y)) : Idt Z h' a x0 x1 y x3 := ⟨F.1.wr W, F.2.1.other W (Or.inr (Jvm.RoadKit.slot_ne (Or.inl (hw _ (List.mem_of_getElem? (i := 28) rfl))) (Or.inl (hw _ (List.mem_of_getElem? (i := 37) rfl))) (by decide) (t := (.array .long)) (t' := .int) (by decide) (by decide))), F.2.2.1.other W (Or.inr (Jvm.RoadKit.slot_ne (Or.inl (hw _ (List.mem_of_getElem? (i := 30) rfl))) (Or.inl (hw _ (List.mem_of_getElem? (i := 37) rfl))) (by decide) (t := (.array .long)) (t' := .int) (by decide) (by decide))), F.2.2.2.1.same W, F.2.2.2.2.other W (Or.inr (Jvm.RoadKit.slot_ne (Or.inl (hw _ (List.mem_of_getElem? (i := 44) rfl))) (Or.inl (hw _ (List.mem_of_getElem? (i := 37) rfl))) (by decide) (t := .int) (t' := .int) (by decide) (by decide)))⟩
theorem Idt.set_size {Z : State} {h h' : Heap} {a : Addr} {x0 : Value} {x1 : Value} {x2 : Int32} {x3 : Int32} {y : Int32} {a0 : Array Value} (hw : ∀ d ∈ tables_1, d.before a0 Z = true) (F : Idt Z h a x0 x1 x2 x3) (W : Wr h h' a (Jvm.RoadKit.slotOf Z "com/example/tour/tour/io/IdTable" "size" "I") (.int y)) : Idt Z h' a x0 x1 x2 y := ⟨F.1.wr W, F.2.1.other W (Or.inr (Jvm.RoadKit.slot_ne (Or.inl (hw _ (List.mem_of_getElem? (i := 28) rfl))) (Or.inl (hw _ (List.mem_of_getElem? (i := 44) rfl))) (by decide) (t := (.array .long)) (t' := .int) (by decide) (by decide))), F.2.2.1.other W (Or.inr (Jvm.RoadKit.slot_ne (Or.inl (hw _ (List.mem_of_getElem? (i := 30) rfl))) (Or.inl (hw _ (List.mem_of_getElem? (i := 44) rfl))) (by decide) (t := (.array .long)) (t' := .int) (by decide) (by decide))), F.2.2.2.1.other W (Or.inr (Jvm.RoadKit.slot_ne (Or.inl (hw _ (List.mem_of_getElem? (i := 37) rfl))) (Or.inl (hw _ (List.mem_of_getElem? (i := 44) rfl))) (by decide) (t := .int) (t' := .int) (by decide) (by decide))), F.2.2.2.2.same W⟩
theorem d6_0 : decode jdk_65_method_101_code 0 = .ok (.iconst 0, 1) := by decide +kernel
theorem d6_1 : decode jdk_65_method_101_code 1 = .ok (.istore_n 3, 1) := by decide +kernel
theorem d6_2 : decode jdk_65_method_101_code 2 = .ok (.aload_n 0, 1) := by decide +kernel
theorem d6_3 : decode jdk_65_method_101_code 3 = .ok (.arraylength, 1) := by decide +kernel
theorem d6_4 : decode jdk_65_method_101_code 4 = .ok (.istore 4, 2) := by decide +kernel
theorem d6_6 : decode jdk_65_method_101_code 6 = .ok (.iload_n 3, 1) := by decide +kernel
theorem d6_7 : decode jdk_65_method_101_code 7 = .ok (.iload 4, 2) := by decide +kernel
theorem d6_9 : decode jdk_65_method_101_code 9 = .ok (.if_icmp .ge 13, 3) := by decide +kernel
theorem d6_12 : decode jdk_65_method_101_code 12 = .ok (.aload_n 0, 1) := by decide +kernel
theorem d6_13 : decode jdk_65_method_101_code 13 = .ok (.iload_n 3, 1) := by decide +kernel
theorem d6_14 : decode jdk_65_method_101_code 14 = .ok (.lload_n 1, 1) := by decide +kernel
theorem d6_15 : decode jdk_65_method_101_code 15 = .ok (.lastore, 1) := by decide +kernel
theorem d6_16 : decode jdk_65_method_101_code 16 = .ok (.iinc 3 1, 3) := by decide +kernel
theorem d6_19 : decode jdk_65_method_101_code 19 = .ok (.goto (-13), 3) := by decide +kernel
theorem d6_22 : decode jdk_65_method_101_code 22 = .ok (.return_, 1) := by decide +kernel
theorem pn_6 : plainName "java/util/Arrays" = true := by first | (simp [plainName, overriddenIn]; done) | decide +kernel
theorem ef_6 (m : MethodId) (a1 : Addr) (q2 : Int64) : entryFrame m #[(.ref a1), (.long q2)] 5 = mkF m 0 #[.val (.ref a1), .val (.long q2), .second, .unset, .unset] [] := by first | (simp [entryFrame, mkF, argsToLocals, Value.category]; done) | rfl
def Q6 (Z : State) (a1 : Addr) (q2 : Int64) (z : Int32) (f : Nat → Int64) (h0 : Heap) (n0 : Nat) : Option Value → Heap → List Loc → Prop := fun v h L => v = none ∧ Fr n0 L ∧ Keep h0 h [a1] ∧ LA Z h a1 z (fun _ => q2)
def room6 : Room := { frames := 0, cells := 0, slots := 0, locals := 0 }
set_option maxRecDepth 65536 in
set_option maxHeartbeats 40000000 in
theorem rm6 (l : Launch) (Z : State) (a0 : Array Value) (hw : ∀ d ∈ tables_1, d.before a0 Z = true) (a1 : Addr) (q2 : Int64) (z : Int32) (f : Nat → Int64) (h0 : Heap) (n0 : Nat) (Zs : n0 ≤ h0.size) (R_a1 : LA Z h0 a1 z f) (g_a1 : n0 ≤ a1) : Ctr l Z (⟨"java/util/Arrays", "fill", "([JJ)V"⟩ : MethodName) jdk_65_method_101_code 5 none room6 #[(.ref a1), (.long q2)] h0 (Q6 Z a1 q2 z f h0 n0) := by
  refine Ctr.of (plainFor_of_name pn_6) ?_
  intro p e s m below meth c s₁ hx hby hml hown hnm hret hlk hZ e0 X0
  have hown : s.vm.findClass "java/util/Arrays" = some m.cls := hown
  have hml : c.maxLocals = 5 := hml
  have hnm : meth.name = "fill" := hnm
  have hret : meth.sig.returnType = none := hret
  have N0 := Fr.nil n0
  refine Till.cast (ef_6 m a1 q2) ?_
  have Kp := Keep.refl h0 [a1]
  show Till p e below s (Q6 Z a1 q2 z f h0 n0) room6.cells room6.slots (s₁.setTop (mkF m 0 #[.val (.ref a1), .val (.long q2), .second, .unset, .unset] []))
  refine Till.pre (fun _ hr => XS.iconst X0.here hx rfl (hb hby d6_0) hr) ?_
  show Till p e below s (Q6 Z a1 q2 z f h0 n0) room6.cells room6.slots (s₁.setTop (mkF m 1 #[.val (.ref a1), .val (.long q2), .second, .unset, .unset] [(.int (0 : Int32))]))
  refine Till.pre (fun _ hr => XS.istoreN X0.here hx rfl (hb hby d6_1) rfl (l' := #[.val (.ref a1), .val (.long q2), .second, .val (.int (0 : Int32)), .unset]) rfl hr) ?_
  show Till p e below s (Q6 Z a1 q2 z f h0 n0) room6.cells room6.slots (s₁.setTop (mkF m 2 #[.val (.ref a1), .val (.long q2), .second, .val (.int (0 : Int32)), .unset] []))
  refine Till.pre (fun _ hr => XS.aloadN X0.here hx rfl (hb hby d6_2) rfl rfl hr) ?_
  show Till p e below s (Q6 Z a1 q2 z f h0 n0) room6.cells room6.slots (s₁.setTop (mkF m 3 #[.val (.ref a1), .val (.long q2), .second, .val (.int (0 : Int32)), .unset] [(.ref a1)]))
  refine Till.alen R_a1 X0 hx hZ e0 (hb hby d6_3) ?_
  show Till p e below s (Q6 Z a1 q2 z f h0 n0) room6.cells room6.slots (s₁.setTop (mkF m 4 #[.val (.ref a1), .val (.long q2), .second, .val (.int (0 : Int32)), .unset] [(.int z)]))
  refine Till.pre (fun _ hr => XS.istore X0.here hx rfl (hb hby d6_4) rfl (l' := #[.val (.ref a1), .val (.long q2), .second, .val (.int (0 : Int32)), .val (.int z)]) rfl hr) ?_
  have loop6_5 : ∀ (fuel : Nat) (T1 : State) (L2 : List Loc) (X3 : Stand p l e room6 s m #[(.ref a1), (.long q2)] below meth c T1 L2 0 0) (N4 : Fr n0 L2) (i : Int32) (g : Nat → Int64) (Zs : n0 ≤ T1.heap.size) (Kp : Keep h0 T1.heap [a1]) (R_a1 : LA Z T1.heap a1 z g) (hi0 : 0 ≤ i.toInt) (hi1 : i.toInt ≤ z.toInt) (hg : ∀ j, j < i.toNatClampNeg → g j = q2) (hm : (z.toInt - i.toInt).toNat < fuel), Till p e below s (Q6 Z a1 q2 z f h0 n0) room6.cells room6.slots (T1.setTop (mkF m 6 #[.val (.ref a1), .val (.long q2), .second, .val (.int i), .val (.int z)] [])) := by
    intro fuel
    induction fuel with
    | zero => intro T1 L2 X3 N4 i g Zs Kp R_a1 hi0 hi1 hg hm; exact absurd hm (Nat.not_lt_zero _)
    | succ fuel ih =>
      intro T1 L2 X3 N4 i g Zs Kp R_a1 hi0 hi1 hg hm
      show Till p e below s (Q6 Z a1 q2 z f h0 n0) room6.cells room6.slots (T1.setTop (mkF m 6 #[.val (.ref a1), .val (.long q2), .second, .val (.int i), .val (.int z)] []))
      refine Till.pre (fun _ hr => XS.iloadN X3.here hx rfl (hb hby d6_6) rfl hr) ?_
      show Till p e below s (Q6 Z a1 q2 z f h0 n0) room6.cells room6.slots (T1.setTop (mkF m 7 #[.val (.ref a1), .val (.long q2), .second, .val (.int i), .val (.int z)] [(.int i)]))
      refine Till.pre (fun _ hr => XS.iload X3.here hx rfl (hb hby d6_7) rfl hr) ?_
      show Till p e below s (Q6 Z a1 q2 z f h0 n0) room6.cells room6.slots (T1.setTop (mkF m 9 #[.val (.ref a1), .val (.long q2), .second, .val (.int i), .val (.int z)] [(.int z), (.int i)]))
      refine Till.icmp (pc' := 22) X3.here hx (hb hby d6_9) (by decide) (by decide) (fun q => ?_) (fun q => ?_)
      · have hc7 := (hLt.2.2.1 q)
        show Till p e below s (Q6 Z a1 q2 z f h0 n0) room6.cells room6.slots (T1.setTop (mkF m 22 #[.val (.ref a1), .val (.long q2), .second, .val (.int i), .val (.int z)] []))
        refine Till.retV X3 hx hret hlk (hb hby d6_22) (by decide) (by decide) ?_
        show (Q6 Z a1 q2 z f h0 n0) _ T1.heap _
        exact ⟨rfl, N4, Kp, AR.congr R_a1 (fun k hk => hg k (by have q := hc7; rw [Int32.lt_iff_toInt_lt] at q; have := own_nat hi0; have := own_nat (own_pos' R_a1.pos); omega))⟩
      · have hc7 := (hLt.2.2.2.1 q)
        show Till p e below s (Q6 Z a1 q2 z f h0 n0) room6.cells room6.slots (T1.setTop (mkF m 12 #[.val (.ref a1), .val (.long q2), .second, .val (.int i), .val (.int z)] []))
        refine Till.pre (fun _ hr => XS.aloadN X3.here hx rfl (hb hby d6_12) rfl rfl hr) ?_
        show Till p e below s (Q6 Z a1 q2 z f h0 n0) room6.cells room6.slots (T1.setTop (mkF m 13 #[.val (.ref a1), .val (.long q2), .second, .val (.int i), .val (.int z)] [(.ref a1)]))
        refine Till.pre (fun _ hr => XS.iloadN X3.here hx rfl (hb hby d6_13) rfl hr) ?_
        show Till p e below s (Q6 Z a1 q2 z f h0 n0) room6.cells room6.slots (T1.setTop (mkF m 14 #[.val (.ref a1), .val (.long q2), .second, .val (.int i), .val (.int z)] [(.int i), (.ref a1)]))
        refine Till.pre (fun _ hr => XS.lloadN X3.here hx rfl (hb hby d6_14) rfl hr) ?_
        show Till p e below s (Q6 Z a1 q2 z f h0 n0) room6.cells room6.slots (T1.setTop (mkF m 15 #[.val (.ref a1), .val (.long q2), .second, .val (.int i), .val (.int z)] [(.long q2), (.int i), (.ref a1)]))
        refine Till.lastore R_a1 (own_neg hi0) (hc7) X3 hx hZ rfl (hb hby d6_15) (fun T8 h9 X10 e11 W12 A13 => ?_)
        have N14 := Fr.snoc X10 N4 g_a1
        have Zs := Nat.le_trans Zs (Keep.of_wr W12).1
        have Kp := Kp.wr W12 (Or.inl (List.mem_of_getElem? (i := 0) rfl))
        have R_a1 : LA Z h9 a1 z (oupd g (i).toNatClampNeg q2) := A13
        show Till p e below s (Q6 Z a1 q2 z f h0 n0) room6.cells room6.slots (T8.setTop (mkF m 16 #[.val (.ref a1), .val (.long q2), .second, .val (.int i), .val (.int z)] []))
        refine Till.pre (fun _ hr => XS.iinc X10.here hx rfl (hb hby d6_16) rfl (l' := #[.val (.ref a1), .val (.long q2), .second, .val (.int (i + (1 : Int32))), .val (.int z)]) rfl hr) ?_
        show Till p e below s (Q6 Z a1 q2 z f h0 n0) room6.cells room6.slots (T8.setTop (mkF m 19 #[.val (.ref a1), .val (.long q2), .second, .val (.int (i + (1 : Int32))), .val (.int z)] []))
        refine Till.pre (fun _ hr => XS.goto X10.here hx rfl (pc0 := 19) (pc' := 6) rfl (hb hby d6_19) (by decide) (by decide) hr) ?_
        show Till p e below s (Q6 Z a1 q2 z f h0 n0) room6.cells room6.slots (T8.setTop (mkF m 6 #[.val (.ref a1), .val (.long q2), .second, .val (.int (i + (1 : Int32))), .val (.int z)] []))
        exact ih _ _ X10 N14 _ _ (by rw [e11]; exact Zs) (by rw [e11]; exact Kp) (by rw [e11]; exact R_a1) (by have := own_inc hc7; omega) (by have := own_inc hc7; have q := hc7; rw [Int32.lt_iff_toInt_lt] at q; omega) (own_fillb hc7 hi0 hg) (by have := own_inc hc7; have q := hc7; rw [Int32.lt_iff_toInt_lt] at q; omega)
  show Till p e below s (Q6 Z a1 q2 z f h0 n0) room6.cells room6.slots (s₁.setTop (mkF m 6 #[.val (.ref a1), .val (.long q2), .second, .val (.int (0 : Int32)), .val (.int z)] []))
  exact loop6_5 _ _ _ X0 N0 _ _ (by rw [e0]; exact Zs) (by rw [e0]; exact Kp) (by rw [e0]; exact R_a1) (by decide) (own_pos' R_a1.pos) (fun j hj => absurd hj (Nat.not_lt_zero _)) (Nat.lt_succ_self _)
theorem d5_0 : decode prog_7_method_6_code 0 = .ok (.aload_n 0, 1) := by decide +kernel
theorem d5_1 : decode prog_7_method_6_code 1 = .ok (.iconst 1, 1) := by decide +kernel
theorem d5_2 : decode prog_7_method_6_code 2 = .ok (.iload_n 1, 1) := by decide +kernel
theorem d5_3 : decode prog_7_method_6_code 3 = .ok (.ishl, 1) := by decide +kernel
theorem d5_4 : decode prog_7_method_6_code 4 = .ok (.newarray .long, 2) := by decide +kernel
theorem d5_6 : decode prog_7_method_6_code 6 = .ok (.putfield 19, 3) := by decide +kernel
theorem d5_9 : decode prog_7_method_6_code 9 = .ok (.aload_n 0, 1) := by decide +kernel
theorem d5_10 : decode prog_7_method_6_code 10 = .ok (.iconst 1, 1) := by decide +kernel
theorem d5_11 : decode prog_7_method_6_code 11 = .ok (.iload_n 1, 1) := by decide +kernel
theorem d5_12 : decode prog_7_method_6_code 12 = .ok (.ishl, 1) := by decide +kernel
theorem d5_13 : decode prog_7_method_6_code 13 = .ok (.newarray .long, 2) := by decide +kernel
theorem d5_15 : decode prog_7_method_6_code 15 = .ok (.putfield 30, 3) := by decide +kernel
theorem d5_18 : decode prog_7_method_6_code 18 = .ok (.aload_n 0, 1) := by decide +kernel
theorem d5_19 : decode prog_7_method_6_code 19 = .ok (.getfield 30, 3) := by decide +kernel
theorem d5_22 : decode prog_7_method_6_code 22 = .ok (.ldc2_w 33, 3) := by decide +kernel
theorem d5_25 : decode prog_7_method_6_code 25 = .ok (.invokestatic 40, 3) := by decide +kernel
theorem d5_28 : decode prog_7_method_6_code 28 = .ok (.aload_n 0, 1) := by decide +kernel
theorem d5_29 : decode prog_7_method_6_code 29 = .ok (.bipush 64, 2) := by decide +kernel
theorem d5_31 : decode prog_7_method_6_code 31 = .ok (.iload_n 1, 1) := by decide +kernel
theorem d5_32 : decode prog_7_method_6_code 32 = .ok (.isub, 1) := by decide +kernel
theorem d5_33 : decode prog_7_method_6_code 33 = .ok (.putfield 37, 3) := by decide +kernel
theorem d5_36 : decode prog_7_method_6_code 36 = .ok (.return_, 1) := by decide +kernel
theorem pn_5 : plainName "com/example/tour/tour/io/IdTable" = true := by first | (simp [plainName, overriddenIn]; done) | decide +kernel
theorem pd5_8 : parseMethodDescriptor "([JJ)V" = some ⟨[(.array .long), .long], none⟩ := by decide +kernel
theorem ef_5_10 (m : MethodId) (a1 : Addr) : entryFrame m #[(.ref a1), (.int (10 : Int32))] 2 = mkF m 0 #[.val (.ref a1), .val (.int (10 : Int32))] [] := by first | (simp [entryFrame, mkF, argsToLocals, Value.category]; done) | rfl
def Q5_10 (Z : State) (a1 : Addr) (h0 : Heap) (n0 : Nat) : Option Value → Heap → List Loc → Prop := fun v h L => ∃ (b3 : Addr), ∃ (b17 : Addr), v = none ∧ Fr n0 L ∧ Keep h0 h [a1] ∧ h0.size ≤ b3 ∧ h0.size ≤ b17 ∧ b3 ≠ b17 ∧ Idt Z h a1 (.ref b3) (.ref b17) (54 : Int32) (0 : Int32) ∧ LA Z h b3 (1024 : Int32) (fun _ => (0 : Int64)) ∧ LA Z h b17 (1024 : Int32) (fun _ => (-9223372036854775808 : Int64))
def room5_10 : Room := { frames := 1, cells := 2, slots := 2048, locals := 16 }
set_option maxRecDepth 65536 in
set_option maxHeartbeats 40000000 in
theorem rm5_10 (l : Launch) (Z : State) (a0 : Array Value) (hw : ∀ d ∈ tables_1, d.before a0 Z = true) (a1 : Addr) (h0 : Heap) (n0 : Nat) (Zs : n0 ≤ h0.size) (R_a1 : Idt Z h0 a1 .null .null (0 : Int32) (0 : Int32)) (g_a1 : n0 ≤ a1) : Ctr l Z (⟨"com/example/tour/tour/io/IdTable", "allocate", "(I)V"⟩ : MethodName) prog_7_method_6_code 2 none room5_10 #[(.ref a1), (.int (10 : Int32))] h0 (Q5_10 Z a1 h0 n0) := by
  refine Ctr.of (plainFor_of_name pn_5) ?_
  intro p e s m below meth c s₁ hx hby hml hown hnm hret hlk hZ e0 X0
  have hown : s.vm.findClass "com/example/tour/tour/io/IdTable" = some m.cls := hown
  have hml : c.maxLocals = 2 := hml
  have hnm : meth.name = "allocate" := hnm
  have hret : meth.sig.returnType = none := hret
  have N0 := Fr.nil n0
  refine Till.cast (ef_5_10 m a1) ?_
  have Kp := Keep.refl h0 [a1]
  show Till p e below s (Q5_10 Z a1 h0 n0) room5_10.cells room5_10.slots (s₁.setTop (mkF m 0 #[.val (.ref a1), .val (.int (10 : Int32))] []))
  refine Till.pre (fun _ hr => XS.aloadN X0.here hx rfl (hb hby d5_0) rfl rfl hr) ?_
  show Till p e below s (Q5_10 Z a1 h0 n0) room5_10.cells room5_10.slots (s₁.setTop (mkF m 1 #[.val (.ref a1), .val (.int (10 : Int32))] [(.ref a1)]))
  refine Till.pre (fun _ hr => XS.iconst X0.here hx rfl (hb hby d5_1) hr) ?_
  show Till p e below s (Q5_10 Z a1 h0 n0) room5_10.cells room5_10.slots (s₁.setTop (mkF m 2 #[.val (.ref a1), .val (.int (10 : Int32))] [(.int (1 : Int32)), (.ref a1)]))
  refine Till.pre (fun _ hr => XS.iloadN X0.here hx rfl (hb hby d5_2) rfl hr) ?_
  show Till p e below s (Q5_10 Z a1 h0 n0) room5_10.cells room5_10.slots (s₁.setTop (mkF m 3 #[.val (.ref a1), .val (.int (10 : Int32))] [(.int (10 : Int32)), (.int (1 : Int32)), (.ref a1)]))
  refine Till.pre (fun _ hr => XS.ishl X0.here hx rfl (hb hby d5_3) rfl hr) ?_
  show Till p e below s (Q5_10 Z a1 h0 n0) room5_10.cells room5_10.slots (s₁.setTop (mkF m 4 #[.val (.ref a1), .val (.int (10 : Int32))] [(.int (1024 : Int32)), (.ref a1)]))
  refine Till.newA (aty := .long) (w := Value.long) (d0 := (0 : Int64)) X0 hx hZ (hw _ (List.mem_of_getElem? (i := 26) rfl)) e0 (hb hby d5_4) rfl (by decide) 1024 (by decide) (by decide) (by decide) (by decide) (fun T1 h2 b3 g4 X5 e6 E7 A8 => ?_)
  have ne_a1_b3 : a1 ≠ b3 := Nat.ne_of_lt (Nat.lt_of_lt_of_le R_a1.lt (Nat.le_of_eq g4.symm))
  have g_b3 : n0 ≤ b3 := Nat.le_trans Zs (Nat.le_of_eq g4.symm)
  have sz_b3 : h0.size ≤ b3 := Nat.le_trans Kp.1 (Nat.le_of_eq g4.symm)
  have R_a1 := R_a1.ext E7
  have Zs := Nat.le_trans Zs E7.1
  have Kp := Kp.ext E7
  have R_b3 : LA Z h2 b3 (1024 : Int32) (fun _ => (0 : Int64)) := A8
  show Till p e below s (Q5_10 Z a1 h0 n0) room5_10.cells room5_10.slots (T1.setTop (mkF m 6 #[.val (.ref a1), .val (.int (10 : Int32))] [(.ref b3), (.ref a1)]))
  refine Till.putF X5 hx hZ hown (hw _ (List.mem_of_getElem? (i := 27) rfl)) e6 R_a1.2.1 R_a1.1 (Or.inl (hw _ (List.mem_of_getElem? (i := 28) rfl))) (hw _ (List.mem_of_getElem? (i := 14) rfl)) (ty := (.array .long)) (by decide) rfl rfl (hb hby d5_6) (fun T9 h10 X11 e12 W13 => ?_)
  have N14 := Fr.snoc X11 N0 g_a1
  have R_b3 := R_b3.wr W13 (Ne.symm ne_a1_b3)
  have Zs := Nat.le_trans Zs (Keep.of_wr W13).1
  have Kp := Kp.wr W13 (Or.inl (List.mem_of_getElem? (i := 0) rfl))
  have R_a1 := Idt.set_ids hw R_a1 W13
  show Till p e below s (Q5_10 Z a1 h0 n0) room5_10.cells room5_10.slots (T9.setTop (mkF m 9 #[.val (.ref a1), .val (.int (10 : Int32))] []))
  refine Till.pre (fun _ hr => XS.aloadN X11.here hx rfl (hb hby d5_9) rfl rfl hr) ?_
  show Till p e below s (Q5_10 Z a1 h0 n0) room5_10.cells room5_10.slots (T9.setTop (mkF m 10 #[.val (.ref a1), .val (.int (10 : Int32))] [(.ref a1)]))
  refine Till.pre (fun _ hr => XS.iconst X11.here hx rfl (hb hby d5_10) hr) ?_
  show Till p e below s (Q5_10 Z a1 h0 n0) room5_10.cells room5_10.slots (T9.setTop (mkF m 11 #[.val (.ref a1), .val (.int (10 : Int32))] [(.int (1 : Int32)), (.ref a1)]))
  refine Till.pre (fun _ hr => XS.iloadN X11.here hx rfl (hb hby d5_11) rfl hr) ?_
  show Till p e below s (Q5_10 Z a1 h0 n0) room5_10.cells room5_10.slots (T9.setTop (mkF m 12 #[.val (.ref a1), .val (.int (10 : Int32))] [(.int (10 : Int32)), (.int (1 : Int32)), (.ref a1)]))
  refine Till.pre (fun _ hr => XS.ishl X11.here hx rfl (hb hby d5_12) rfl hr) ?_
  show Till p e below s (Q5_10 Z a1 h0 n0) room5_10.cells room5_10.slots (T9.setTop (mkF m 13 #[.val (.ref a1), .val (.int (10 : Int32))] [(.int (1024 : Int32)), (.ref a1)]))
  refine Till.newA (aty := .long) (w := Value.long) (d0 := (0 : Int64)) X11 hx hZ (hw _ (List.mem_of_getElem? (i := 26) rfl)) e12 (hb hby d5_13) rfl (by decide) 1024 (by decide) (by decide) (by decide) (by decide) (fun T15 h16 b17 g18 X19 e20 E21 A22 => ?_)
  have ne_a1_b17 : a1 ≠ b17 := Nat.ne_of_lt (Nat.lt_of_lt_of_le R_a1.lt (Nat.le_of_eq g18.symm))
  have ne_b3_b17 : b3 ≠ b17 := Nat.ne_of_lt (Nat.lt_of_lt_of_le R_b3.lt (Nat.le_of_eq g18.symm))
  have g_b17 : n0 ≤ b17 := Nat.le_trans Zs (Nat.le_of_eq g18.symm)
  have sz_b17 : h0.size ≤ b17 := Nat.le_trans Kp.1 (Nat.le_of_eq g18.symm)
  have R_a1 := R_a1.ext E21
  have R_b3 := R_b3.ext E21
  have Zs := Nat.le_trans Zs E21.1
  have Kp := Kp.ext E21
  have R_b17 : LA Z h16 b17 (1024 : Int32) (fun _ => (0 : Int64)) := A22
  show Till p e below s (Q5_10 Z a1 h0 n0) room5_10.cells room5_10.slots (T15.setTop (mkF m 15 #[.val (.ref a1), .val (.int (10 : Int32))] [(.ref b17), (.ref a1)]))
  refine Till.putF X19 hx hZ hown (hw _ (List.mem_of_getElem? (i := 29) rfl)) e20 R_a1.2.2.1 R_a1.1 (Or.inl (hw _ (List.mem_of_getElem? (i := 30) rfl))) (hw _ (List.mem_of_getElem? (i := 14) rfl)) (ty := (.array .long)) (by decide) rfl rfl (hb hby d5_15) (fun T23 h24 X25 e26 W27 => ?_)
  have N28 := Fr.snoc X25 N14 g_a1
  have R_b3 := R_b3.wr W27 (Ne.symm ne_a1_b3)
  have R_b17 := R_b17.wr W27 (Ne.symm ne_a1_b17)
  have Zs := Nat.le_trans Zs (Keep.of_wr W27).1
  have Kp := Kp.wr W27 (Or.inl (List.mem_of_getElem? (i := 0) rfl))
  have R_a1 := Idt.set_values hw R_a1 W27
  show Till p e below s (Q5_10 Z a1 h0 n0) room5_10.cells room5_10.slots (T23.setTop (mkF m 18 #[.val (.ref a1), .val (.int (10 : Int32))] []))
  refine Till.pre (fun _ hr => XS.aloadN X25.here hx rfl (hb hby d5_18) rfl rfl hr) ?_
  show Till p e below s (Q5_10 Z a1 h0 n0) room5_10.cells room5_10.slots (T23.setTop (mkF m 19 #[.val (.ref a1), .val (.int (10 : Int32))] [(.ref a1)]))
  refine Till.getF X25 hx hZ hown (hw _ (List.mem_of_getElem? (i := 29) rfl)) e26 R_a1.2.2.1 (hb hby d5_19) (fun T29 X30 e31 => ?_)
  show Till p e below s (Q5_10 Z a1 h0 n0) room5_10.cells room5_10.slots (T29.setTop (mkF m 22 #[.val (.ref a1), .val (.int (10 : Int32))] [(.ref b17)]))
  refine Till.pre (X30.ldc2Long hx hown (mvT hZ (hw _ (List.mem_of_getElem? (i := 31) rfl))) (g := (mkF m 22 #[.val (.ref a1), .val (.int (10 : Int32))] [(.ref b17)])) rfl (hb hby d5_22)) ?_
  show Till p e below s (Q5_10 Z a1 h0 n0) room5_10.cells room5_10.slots (T29.setTop (mkF m 25 #[.val (.ref a1), .val (.int (10 : Int32))] [(.long (-9223372036854775808 : Int64)), (.ref b17)]))
  refine Till.callS (rm6 l Z a0 hw b17 (-9223372036854775808 : Int64) (1024 : Int32) (fun _ => (0 : Int64)) h24 n0 Zs R_b17 g_b17) X30 hx hZ hown (hw _ (List.mem_of_getElem? (i := 32) rfl)) (hw _ (List.mem_of_getElem? (i := 33) rfl)) (hw _ (List.mem_of_getElem? (i := 34) rfl)) (hw _ (List.mem_of_getElem? (i := 35) rfl)) (by decide) (by decide) (W := 0) (by decide) (by rw [hml]; rfl) (argsL := [(.ref b17), (.long (-9223372036854775808 : Int64))]) (rest := []) (lenOf pd5_8 rfl) rfl rfl (Nat.le_of_eq rfl) (hb hby d5_25) e31 (by decide) (by decide) ?_
  rintro _ T32 L33 X34 ⟨rfl, N35, K36, q37⟩
  have N35 := Fr.app N28 N35
  have R_a1 := R_a1.keep K36 (ninS ne_a1_b17 nin0)
  have R_b3 := R_b3.keep K36 (ninS ne_b3_b17 nin0)
  have Zs := Nat.le_trans Zs K36.1
  have Kp := Kp.trans K36 (allS (Or.inr sz_b17) all0)
  have R_b17 : LA Z T32.heap b17 (1024 : Int32) (fun _ => (-9223372036854775808 : Int64)) := q37
  show Till p e below s (Q5_10 Z a1 h0 n0) room5_10.cells room5_10.slots (T32.setTop (mkF m 28 #[.val (.ref a1), .val (.int (10 : Int32))] []))
  refine Till.pre (fun _ hr => XS.aloadN X34.here hx rfl (hb hby d5_28) rfl rfl hr) ?_
  show Till p e below s (Q5_10 Z a1 h0 n0) room5_10.cells room5_10.slots (T32.setTop (mkF m 29 #[.val (.ref a1), .val (.int (10 : Int32))] [(.ref a1)]))
  refine Till.pre (fun _ hr => XS.bipush X34.here hx rfl (hb hby d5_29) hr) ?_
  show Till p e below s (Q5_10 Z a1 h0 n0) room5_10.cells room5_10.slots (T32.setTop (mkF m 31 #[.val (.ref a1), .val (.int (10 : Int32))] [(.int (64 : Int32)), (.ref a1)]))
  refine Till.pre (fun _ hr => XS.iloadN X34.here hx rfl (hb hby d5_31) rfl hr) ?_
  show Till p e below s (Q5_10 Z a1 h0 n0) room5_10.cells room5_10.slots (T32.setTop (mkF m 32 #[.val (.ref a1), .val (.int (10 : Int32))] [(.int (10 : Int32)), (.int (64 : Int32)), (.ref a1)]))
  refine Till.pre (fun _ hr => XS.isub X34.here hx rfl (hb hby d5_32) rfl hr) ?_
  show Till p e below s (Q5_10 Z a1 h0 n0) room5_10.cells room5_10.slots (T32.setTop (mkF m 33 #[.val (.ref a1), .val (.int (10 : Int32))] [(.int (54 : Int32)), (.ref a1)]))
  refine Till.putF X34 hx hZ hown (hw _ (List.mem_of_getElem? (i := 36) rfl)) rfl R_a1.2.2.2.1 R_a1.1 (Or.inl (hw _ (List.mem_of_getElem? (i := 37) rfl))) (hw _ (List.mem_of_getElem? (i := 14) rfl)) (ty := .int) (by decide) rfl rfl (hb hby d5_33) (fun T38 h39 X40 e41 W42 => ?_)
  have N43 := Fr.snoc X40 N35 g_a1
  have R_b3 := R_b3.wr W42 (Ne.symm ne_a1_b3)
  have R_b17 := R_b17.wr W42 (Ne.symm ne_a1_b17)
  have Zs := Nat.le_trans Zs (Keep.of_wr W42).1
  have Kp := Kp.wr W42 (Or.inl (List.mem_of_getElem? (i := 0) rfl))
  have R_a1 := Idt.set_shift hw R_a1 W42
  show Till p e below s (Q5_10 Z a1 h0 n0) room5_10.cells room5_10.slots (T38.setTop (mkF m 36 #[.val (.ref a1), .val (.int (10 : Int32))] []))
  refine Till.retV X40 hx hret hlk (hb hby d5_36) (by decide) (by decide) ?_
  show (Q5_10 Z a1 h0 n0) _ T38.heap _
  rw [e41]
  exact ⟨b3, b17, rfl, N43, Kp, sz_b3, sz_b17, ne_b3_b17, R_a1, R_b3, R_b17⟩
theorem d4_0 : decode prog_7_method_1_code 0 = .ok (.aload_n 0, 1) := by decide +kernel
theorem d4_1 : decode prog_7_method_1_code 1 = .ok (.invokespecial 3, 3) := by decide +kernel
theorem d4_4 : decode prog_7_method_1_code 4 = .ok (.aload_n 0, 1) := by decide +kernel
theorem d4_5 : decode prog_7_method_1_code 5 = .ok (.bipush 10, 2) := by decide +kernel
theorem d4_7 : decode prog_7_method_1_code 7 = .ok (.invokevirtual 9, 3) := by decide +kernel
theorem d4_10 : decode prog_7_method_1_code 10 = .ok (.return_, 1) := by decide +kernel
theorem pd4_3 : parseMethodDescriptor "(I)V" = some ⟨[.int], none⟩ := by decide +kernel
theorem ef_4 (m : MethodId) (a1 : Addr) : entryFrame m #[(.ref a1)] 1 = mkF m 0 #[.val (.ref a1)] [] := by first | (simp [entryFrame, mkF, argsToLocals, Value.category]; done) | rfl
def Q4 (Z : State) (a1 : Addr) (h0 : Heap) (n0 : Nat) : Option Value → Heap → List Loc → Prop := fun v h L => ∃ (b12 : Addr), ∃ (b13 : Addr), v = none ∧ Fr n0 L ∧ Keep h0 h [a1] ∧ h0.size ≤ b12 ∧ h0.size ≤ b13 ∧ b12 ≠ b13 ∧ Idt Z h a1 (.ref b12) (.ref b13) (54 : Int32) (0 : Int32) ∧ LA Z h b12 (1024 : Int32) (fun _ => (0 : Int64)) ∧ LA Z h b13 (1024 : Int32) (fun _ => (-9223372036854775808 : Int64))
def room4 : Room := { frames := 2, cells := 2, slots := 2048, locals := 29 }
set_option maxRecDepth 65536 in
set_option maxHeartbeats 40000000 in
theorem rm4 (l : Launch) (Z : State) (a0 : Array Value) (hw : ∀ d ∈ tables_1, d.before a0 Z = true) (a1 : Addr) (h0 : Heap) (n0 : Nat) (Zs : n0 ≤ h0.size) (R_a1 : Idt Z h0 a1 .null .null (0 : Int32) (0 : Int32)) (g_a1 : n0 ≤ a1) : Ctr l Z (⟨"com/example/tour/tour/io/IdTable", "<init>", "()V"⟩ : MethodName) prog_7_method_1_code 1 none room4 #[(.ref a1)] h0 (Q4 Z a1 h0 n0) := by
  refine Ctr.of (plainFor_of_name pn_5) ?_
  intro p e s m below meth c s₁ hx hby hml hown hnm hret hlk hZ e0 X0
  have hown : s.vm.findClass "com/example/tour/tour/io/IdTable" = some m.cls := hown
  have hml : c.maxLocals = 1 := hml
  have hnm : meth.name = "<init>" := hnm
  have hret : meth.sig.returnType = none := hret
  have N0 := Fr.nil n0
  refine Till.cast (ef_4 m a1) ?_
  have Kp := Keep.refl h0 [a1]
  show Till p e below s (Q4 Z a1 h0 n0) room4.cells room4.slots (s₁.setTop (mkF m 0 #[.val (.ref a1)] []))
  refine Till.pre (fun _ hr => XS.aloadN X0.here hx rfl (hb hby d4_0) rfl rfl hr) ?_
  show Till p e below s (Q4 Z a1 h0 n0) room4.cells room4.slots (s₁.setTop (mkF m 1 #[.val (.ref a1)] [(.ref a1)]))
  refine Till.initO X0 hx hZ hown (hw _ (List.mem_of_getElem? (i := 19) rfl)) (hw _ (List.mem_of_getElem? (i := 20) rfl)) (hw _ (List.mem_of_getElem? (i := 21) rfl)) e0 (by rw [hml]; rfl) (hb hby d4_1) (by decide) (W := 0) (Nat.le_of_eq rfl) (by decide) (fun T1 X2 e3 => ?_)
  show Till p e below s (Q4 Z a1 h0 n0) room4.cells room4.slots (T1.setTop (mkF m 4 #[.val (.ref a1)] []))
  refine Till.pre (fun _ hr => XS.aloadN X2.here hx rfl (hb hby d4_4) rfl rfl hr) ?_
  show Till p e below s (Q4 Z a1 h0 n0) room4.cells room4.slots (T1.setTop (mkF m 5 #[.val (.ref a1)] [(.ref a1)]))
  refine Till.pre (fun _ hr => XS.bipush X2.here hx rfl (hb hby d4_5) hr) ?_
  show Till p e below s (Q4 Z a1 h0 n0) room4.cells room4.slots (T1.setTop (mkF m 7 #[.val (.ref a1)] [(.int (10 : Int32)), (.ref a1)]))
  refine Till.callP (rm5_10 l Z a0 hw a1 h0 n0 Zs R_a1 g_a1) R_a1.1 X2 hx hZ hown (hw _ (List.mem_of_getElem? (i := 22) rfl)) (hw _ (List.mem_of_getElem? (i := 23) rfl)) (hw _ (List.mem_of_getElem? (i := 24) rfl)) (hw _ (List.mem_of_getElem? (i := 14) rfl)) (hw _ (List.mem_of_getElem? (i := 15) rfl)) (hw _ (List.mem_of_getElem? (i := 25) rfl)) (by decide) (by decide) (W := 0) (by decide) (by rw [hml]; rfl) (a := a1) (argsL := [(.int (10 : Int32))]) (rest := []) (lenOf pd4_3 rfl) rfl rfl (Nat.le_of_eq rfl) (hb hby d4_7) e3 (by decide) (by decide) ?_
  rintro _ T4 L5 X6 ⟨b12, b13, rfl, N7, K8, szq_b12, szq_b13, ne_b12_b13, q9, q10, q11⟩
  have N7 := Fr.app N0 N7
  have ne_a1_b12 : a1 ≠ b12 := Nat.ne_of_lt (Nat.lt_of_lt_of_le R_a1.lt szq_b12)
  have g_b12 : n0 ≤ b12 := Nat.le_trans Zs szq_b12
  have sz_b12 : h0.size ≤ b12 := Nat.le_trans Kp.1 szq_b12
  have ne_a1_b13 : a1 ≠ b13 := Nat.ne_of_lt (Nat.lt_of_lt_of_le R_a1.lt szq_b13)
  have g_b13 : n0 ≤ b13 := Nat.le_trans Zs szq_b13
  have sz_b13 : h0.size ≤ b13 := Nat.le_trans Kp.1 szq_b13
  have Zs := Nat.le_trans Zs K8.1
  have Kp := Kp.trans K8 (allS (Or.inl (List.mem_of_getElem? (i := 0) rfl)) all0)
  have R_a1 : Idt Z T4.heap a1 (.ref b12) (.ref b13) (54 : Int32) (0 : Int32) := q9
  have R_b12 : LA Z T4.heap b12 (1024 : Int32) (fun _ => (0 : Int64)) := q10
  have R_b13 : LA Z T4.heap b13 (1024 : Int32) (fun _ => (-9223372036854775808 : Int64)) := q11
  show Till p e below s (Q4 Z a1 h0 n0) room4.cells room4.slots (T4.setTop (mkF m 10 #[.val (.ref a1)] []))
  refine Till.retV X6 hx hret hlk (hb hby d4_10) (by decide) (by decide) ?_
  show (Q4 Z a1 h0 n0) _ T4.heap _
  exact ⟨b12, b13, rfl, N7, Kp, sz_b12, sz_b13, ne_b12_b13, R_a1, R_b12, R_b13⟩
theorem own_4 {A B C D : Prop} (h : A ∨ B ∨ C ∨ D) (a : ¬ A) (b : ¬ B) (c : ¬ C) : D := by
  rcases h with h | h | h | h
  · exact absurd h a
  · exact absurd h b
  · exact absurd h c
  · exact h
theorem d8_0 : decode prog_7_method_4_code 0 = .ok (.aload_n 0, 1) := by decide +kernel
theorem d8_1 : decode prog_7_method_4_code 1 = .ok (.getfield 19, 3) := by decide +kernel
theorem d8_4 : decode prog_7_method_4_code 4 = .ok (.arraylength, 1) := by decide +kernel
theorem d8_5 : decode prog_7_method_4_code 5 = .ok (.iconst 1, 1) := by decide +kernel
theorem d8_6 : decode prog_7_method_4_code 6 = .ok (.isub, 1) := by decide +kernel
theorem d8_7 : decode prog_7_method_4_code 7 = .ok (.istore_n 3, 1) := by decide +kernel
theorem d8_8 : decode prog_7_method_4_code 8 = .ok (.lload_n 1, 1) := by decide +kernel
theorem d8_9 : decode prog_7_method_4_code 9 = .ok (.ldc2_w 35, 3) := by decide +kernel
theorem d8_12 : decode prog_7_method_4_code 12 = .ok (.lmul, 1) := by decide +kernel
theorem d8_13 : decode prog_7_method_4_code 13 = .ok (.aload_n 0, 1) := by decide +kernel
theorem d8_14 : decode prog_7_method_4_code 14 = .ok (.getfield 37, 3) := by decide +kernel
theorem d8_17 : decode prog_7_method_4_code 17 = .ok (.lushr, 1) := by decide +kernel
theorem d8_18 : decode prog_7_method_4_code 18 = .ok (.l2i, 1) := by decide +kernel
theorem d8_19 : decode prog_7_method_4_code 19 = .ok (.istore 4, 2) := by decide +kernel
theorem d8_21 : decode prog_7_method_4_code 21 = .ok (.aload_n 0, 1) := by decide +kernel
theorem d8_22 : decode prog_7_method_4_code 22 = .ok (.getfield 30, 3) := by decide +kernel
theorem d8_25 : decode prog_7_method_4_code 25 = .ok (.iload 4, 2) := by decide +kernel
theorem d8_27 : decode prog_7_method_4_code 27 = .ok (.laload, 1) := by decide +kernel
theorem d8_28 : decode prog_7_method_4_code 28 = .ok (.ldc2_w 33, 3) := by decide +kernel
theorem d8_31 : decode prog_7_method_4_code 31 = .ok (.lcmp, 1) := by decide +kernel
theorem d8_32 : decode prog_7_method_4_code 32 = .ok (.ifCond .eq 26, 3) := by decide +kernel
theorem d8_35 : decode prog_7_method_4_code 35 = .ok (.aload_n 0, 1) := by decide +kernel
theorem d8_36 : decode prog_7_method_4_code 36 = .ok (.getfield 19, 3) := by decide +kernel
theorem d8_39 : decode prog_7_method_4_code 39 = .ok (.iload 4, 2) := by decide +kernel
theorem d8_41 : decode prog_7_method_4_code 41 = .ok (.laload, 1) := by decide +kernel
theorem d8_42 : decode prog_7_method_4_code 42 = .ok (.lload_n 1, 1) := by decide +kernel
theorem d8_43 : decode prog_7_method_4_code 43 = .ok (.lcmp, 1) := by decide +kernel
theorem d8_44 : decode prog_7_method_4_code 44 = .ok (.ifCond .eq 14, 3) := by decide +kernel
theorem d8_47 : decode prog_7_method_4_code 47 = .ok (.iload 4, 2) := by decide +kernel
theorem d8_49 : decode prog_7_method_4_code 49 = .ok (.iconst 1, 1) := by decide +kernel
theorem d8_50 : decode prog_7_method_4_code 50 = .ok (.iadd, 1) := by decide +kernel
theorem d8_51 : decode prog_7_method_4_code 51 = .ok (.iload_n 3, 1) := by decide +kernel
theorem d8_52 : decode prog_7_method_4_code 52 = .ok (.iand, 1) := by decide +kernel
theorem d8_53 : decode prog_7_method_4_code 53 = .ok (.istore 4, 2) := by decide +kernel
theorem d8_55 : decode prog_7_method_4_code 55 = .ok (.goto (-34), 3) := by decide +kernel
theorem d8_58 : decode prog_7_method_4_code 58 = .ok (.iload 4, 2) := by decide +kernel
theorem d8_60 : decode prog_7_method_4_code 60 = .ok (.ireturn, 1) := by decide +kernel
theorem ef_8 (m : MethodId) (a1 : Addr) (q2 : Int64) : entryFrame m #[(.ref a1), (.long q2)] 5 = mkF m 0 #[.val (.ref a1), .val (.long q2), .second, .unset, .unset] [] := by first | (simp [entryFrame, mkF, argsToLocals, Value.category]; done) | rfl
def fn8 (q2 : Int64) (w_size : Int32) (f : Nat → Int64) (g : Nat → Int64) : Int32 := (if ((g ((lsr (q2 * (-7046029254386353131 : Int64)) (54 : Int32)).toInt32).toNatClampNeg) = (-9223372036854775808 : Int64)) then (lsr (q2 * (-7046029254386353131 : Int64)) (54 : Int32)).toInt32 else (if ((f ((lsr (q2 * (-7046029254386353131 : Int64)) (54 : Int32)).toInt32).toNatClampNeg) = q2) then (lsr (q2 * (-7046029254386353131 : Int64)) (54 : Int32)).toInt32 else (if ((g ((((lsr (q2 * (-7046029254386353131 : Int64)) (54 : Int32)).toInt32 + (1 : Int32)) &&& (1023 : Int32))).toNatClampNeg) = (-9223372036854775808 : Int64)) then (((lsr (q2 * (-7046029254386353131 : Int64)) (54 : Int32)).toInt32 + (1 : Int32)) &&& (1023 : Int32)) else (if ((f ((((lsr (q2 * (-7046029254386353131 : Int64)) (54 : Int32)).toInt32 + (1 : Int32)) &&& (1023 : Int32))).toNatClampNeg) = q2) then (((lsr (q2 * (-7046029254386353131 : Int64)) (54 : Int32)).toInt32 + (1 : Int32)) &&& (1023 : Int32)) else (if ((g ((((((lsr (q2 * (-7046029254386353131 : Int64)) (54 : Int32)).toInt32 + (1 : Int32)) &&& (1023 : Int32)) + (1 : Int32)) &&& (1023 : Int32))).toNatClampNeg) = (-9223372036854775808 : Int64)) then (((((lsr (q2 * (-7046029254386353131 : Int64)) (54 : Int32)).toInt32 + (1 : Int32)) &&& (1023 : Int32)) + (1 : Int32)) &&& (1023 : Int32)) else (if ((f ((((((lsr (q2 * (-7046029254386353131 : Int64)) (54 : Int32)).toInt32 + (1 : Int32)) &&& (1023 : Int32)) + (1 : Int32)) &&& (1023 : Int32))).toNatClampNeg) = q2) then (((((lsr (q2 * (-7046029254386353131 : Int64)) (54 : Int32)).toInt32 + (1 : Int32)) &&& (1023 : Int32)) + (1 : Int32)) &&& (1023 : Int32)) else (((((((lsr (q2 * (-7046029254386353131 : Int64)) (54 : Int32)).toInt32 + (1 : Int32)) &&& (1023 : Int32)) + (1 : Int32)) &&& (1023 : Int32)) + (1 : Int32)) &&& (1023 : Int32))))))))
def Q8 (Z : State) (a1 : Addr) (q2 : Int64) (b1 : Addr) (b2 : Addr) (w_size : Int32) (f : Nat → Int64) (g : Nat → Int64) (h0 : Heap) (n0 : Nat) : Option Value → Heap → List Loc → Prop := fun v h L => v = some (Value.int (fn8 q2 w_size f g)) ∧ Fr n0 L ∧ h = h0
def room8 : Room := { frames := 0, cells := 0, slots := 0, locals := 0 }
set_option maxRecDepth 65536 in
set_option maxHeartbeats 40000000 in
theorem rm8 (l : Launch) (Z : State) (a0 : Array Value) (hw : ∀ d ∈ tables_1, d.before a0 Z = true) (a1 : Addr) (q2 : Int64) (b1 : Addr) (b2 : Addr) (w_size : Int32) (f : Nat → Int64) (g : Nat → Int64) (h0 : Heap) (n0 : Nat) (R_a1 : Idt Z h0 a1 (.ref b1) (.ref b2) (54 : Int32) w_size) (R_b1 : LA Z h0 b1 (1024 : Int32) f) (R_b2 : LA Z h0 b2 (1024 : Int32) g) (hstop : g (own_h q2).toNatClampNeg = (-9223372036854775808 : Int64) ∨ g (own_n (own_h q2)).toNatClampNeg = (-9223372036854775808 : Int64) ∨ g (own_n (own_n (own_h q2))).toNatClampNeg = (-9223372036854775808 : Int64) ∨ g (own_n (own_n (own_n (own_h q2)))).toNatClampNeg = (-9223372036854775808 : Int64)) : Ctr l Z (⟨"com/example/tour/tour/io/IdTable", "slotOf", "(J)I"⟩ : MethodName) prog_7_method_4_code 5 (some .int) room8 #[(.ref a1), (.long q2)] h0 (Q8 Z a1 q2 b1 b2 w_size f g h0 n0) := by
  refine Ctr.of (plainFor_of_name pn_5) ?_
  intro p e s m below meth c s₁ hx hby hml hown hnm hret hlk hZ e0 X0
  have hown : s.vm.findClass "com/example/tour/tour/io/IdTable" = some m.cls := hown
  have hml : c.maxLocals = 5 := hml
  have hnm : meth.name = "slotOf" := hnm
  have hret : meth.sig.returnType = (some .int) := hret
  have N0 := Fr.nil n0
  refine Till.cast (ef_8 m a1 q2) ?_
  show Till p e below s (Q8 Z a1 q2 b1 b2 w_size f g h0 n0) room8.cells room8.slots (s₁.setTop (mkF m 0 #[.val (.ref a1), .val (.long q2), .second, .unset, .unset] []))
  refine Till.pre (fun _ hr => XS.aloadN X0.here hx rfl (hb hby d8_0) rfl rfl hr) ?_
  show Till p e below s (Q8 Z a1 q2 b1 b2 w_size f g h0 n0) room8.cells room8.slots (s₁.setTop (mkF m 1 #[.val (.ref a1), .val (.long q2), .second, .unset, .unset] [(.ref a1)]))
  refine Till.getF X0 hx hZ hown (hw _ (List.mem_of_getElem? (i := 27) rfl)) e0 R_a1.2.1 (hb hby d8_1) (fun T1 X2 e3 => ?_)
  show Till p e below s (Q8 Z a1 q2 b1 b2 w_size f g h0 n0) room8.cells room8.slots (T1.setTop (mkF m 4 #[.val (.ref a1), .val (.long q2), .second, .unset, .unset] [(.ref b1)]))
  refine Till.alen R_b1 X2 hx hZ e3 (hb hby d8_4) ?_
  show Till p e below s (Q8 Z a1 q2 b1 b2 w_size f g h0 n0) room8.cells room8.slots (T1.setTop (mkF m 5 #[.val (.ref a1), .val (.long q2), .second, .unset, .unset] [(.int (1024 : Int32))]))
  refine Till.pre (fun _ hr => XS.iconst X2.here hx rfl (hb hby d8_5) hr) ?_
  show Till p e below s (Q8 Z a1 q2 b1 b2 w_size f g h0 n0) room8.cells room8.slots (T1.setTop (mkF m 6 #[.val (.ref a1), .val (.long q2), .second, .unset, .unset] [(.int (1 : Int32)), (.int (1024 : Int32))]))
  refine Till.pre (fun _ hr => XS.isub X2.here hx rfl (hb hby d8_6) rfl hr) ?_
  show Till p e below s (Q8 Z a1 q2 b1 b2 w_size f g h0 n0) room8.cells room8.slots (T1.setTop (mkF m 7 #[.val (.ref a1), .val (.long q2), .second, .unset, .unset] [(.int (1023 : Int32))]))
  refine Till.pre (fun _ hr => XS.istoreN X2.here hx rfl (hb hby d8_7) rfl (l' := #[.val (.ref a1), .val (.long q2), .second, .val (.int (1023 : Int32)), .unset]) rfl hr) ?_
  show Till p e below s (Q8 Z a1 q2 b1 b2 w_size f g h0 n0) room8.cells room8.slots (T1.setTop (mkF m 8 #[.val (.ref a1), .val (.long q2), .second, .val (.int (1023 : Int32)), .unset] []))
  refine Till.pre (fun _ hr => XS.lloadN X2.here hx rfl (hb hby d8_8) rfl hr) ?_
  show Till p e below s (Q8 Z a1 q2 b1 b2 w_size f g h0 n0) room8.cells room8.slots (T1.setTop (mkF m 9 #[.val (.ref a1), .val (.long q2), .second, .val (.int (1023 : Int32)), .unset] [(.long q2)]))
  refine Till.pre (X2.ldc2Long hx hown (mvT hZ (hw _ (List.mem_of_getElem? (i := 49) rfl))) (g := (mkF m 9 #[.val (.ref a1), .val (.long q2), .second, .val (.int (1023 : Int32)), .unset] [(.long q2)])) rfl (hb hby d8_9)) ?_
  show Till p e below s (Q8 Z a1 q2 b1 b2 w_size f g h0 n0) room8.cells room8.slots (T1.setTop (mkF m 12 #[.val (.ref a1), .val (.long q2), .second, .val (.int (1023 : Int32)), .unset] [(.long (-7046029254386353131 : Int64)), (.long q2)]))
  refine Till.pre (fun _ hr => XS.lmul X2.here hx rfl (hb hby d8_12) rfl hr) ?_
  show Till p e below s (Q8 Z a1 q2 b1 b2 w_size f g h0 n0) room8.cells room8.slots (T1.setTop (mkF m 13 #[.val (.ref a1), .val (.long q2), .second, .val (.int (1023 : Int32)), .unset] [(.long (q2 * (-7046029254386353131 : Int64)))]))
  refine Till.pre (fun _ hr => XS.aloadN X2.here hx rfl (hb hby d8_13) rfl rfl hr) ?_
  show Till p e below s (Q8 Z a1 q2 b1 b2 w_size f g h0 n0) room8.cells room8.slots (T1.setTop (mkF m 14 #[.val (.ref a1), .val (.long q2), .second, .val (.int (1023 : Int32)), .unset] [(.ref a1), (.long (q2 * (-7046029254386353131 : Int64)))]))
  refine Till.getF X2 hx hZ hown (hw _ (List.mem_of_getElem? (i := 36) rfl)) e3 R_a1.2.2.2.1 (hb hby d8_14) (fun T4 X5 e6 => ?_)
  show Till p e below s (Q8 Z a1 q2 b1 b2 w_size f g h0 n0) room8.cells room8.slots (T4.setTop (mkF m 17 #[.val (.ref a1), .val (.long q2), .second, .val (.int (1023 : Int32)), .unset] [(.int (54 : Int32)), (.long (q2 * (-7046029254386353131 : Int64)))]))
  refine Till.pre (fun _ hr => XS.lushr X5.here hx rfl (hb hby d8_17) rfl hr) ?_
  show Till p e below s (Q8 Z a1 q2 b1 b2 w_size f g h0 n0) room8.cells room8.slots (T4.setTop (mkF m 18 #[.val (.ref a1), .val (.long q2), .second, .val (.int (1023 : Int32)), .unset] [(.long (lsr (q2 * (-7046029254386353131 : Int64)) (54 : Int32)))]))
  refine Till.pre (fun _ hr => XS.l2i X5.here hx rfl (hb hby d8_18) rfl hr) ?_
  show Till p e below s (Q8 Z a1 q2 b1 b2 w_size f g h0 n0) room8.cells room8.slots (T4.setTop (mkF m 19 #[.val (.ref a1), .val (.long q2), .second, .val (.int (1023 : Int32)), .unset] [(.int (lsr (q2 * (-7046029254386353131 : Int64)) (54 : Int32)).toInt32)]))
  refine Till.pre (fun _ hr => XS.istore X5.here hx rfl (hb hby d8_19) rfl (l' := #[.val (.ref a1), .val (.long q2), .second, .val (.int (1023 : Int32)), .val (.int (lsr (q2 * (-7046029254386353131 : Int64)) (54 : Int32)).toInt32)]) rfl hr) ?_
  show Till p e below s (Q8 Z a1 q2 b1 b2 w_size f g h0 n0) room8.cells room8.slots (T4.setTop (mkF m 21 #[.val (.ref a1), .val (.long q2), .second, .val (.int (1023 : Int32)), .val (.int (lsr (q2 * (-7046029254386353131 : Int64)) (54 : Int32)).toInt32)] []))
  refine Till.pre (fun _ hr => XS.aloadN X5.here hx rfl (hb hby d8_21) rfl rfl hr) ?_
  show Till p e below s (Q8 Z a1 q2 b1 b2 w_size f g h0 n0) room8.cells room8.slots (T4.setTop (mkF m 22 #[.val (.ref a1), .val (.long q2), .second, .val (.int (1023 : Int32)), .val (.int (lsr (q2 * (-7046029254386353131 : Int64)) (54 : Int32)).toInt32)] [(.ref a1)]))
  refine Till.getF X5 hx hZ hown (hw _ (List.mem_of_getElem? (i := 29) rfl)) e6 R_a1.2.2.1 (hb hby d8_22) (fun T7 X8 e9 => ?_)
  show Till p e below s (Q8 Z a1 q2 b1 b2 w_size f g h0 n0) room8.cells room8.slots (T7.setTop (mkF m 25 #[.val (.ref a1), .val (.long q2), .second, .val (.int (1023 : Int32)), .val (.int (lsr (q2 * (-7046029254386353131 : Int64)) (54 : Int32)).toInt32)] [(.ref b2)]))
  refine Till.pre (fun _ hr => XS.iload X8.here hx rfl (hb hby d8_25) rfl hr) ?_
  show Till p e below s (Q8 Z a1 q2 b1 b2 w_size f g h0 n0) room8.cells room8.slots (T7.setTop (mkF m 27 #[.val (.ref a1), .val (.long q2), .second, .val (.int (1023 : Int32)), .val (.int (lsr (q2 * (-7046029254386353131 : Int64)) (54 : Int32)).toInt32)] [(.int (lsr (q2 * (-7046029254386353131 : Int64)) (54 : Int32)).toInt32), (.ref b2)]))
  refine Till.laload R_b2 (own_b1 (own_home _)) (own_b2 (own_home _)) X8 hx hZ e9 (hb hby d8_27) ?_
  show Till p e below s (Q8 Z a1 q2 b1 b2 w_size f g h0 n0) room8.cells room8.slots (T7.setTop (mkF m 28 #[.val (.ref a1), .val (.long q2), .second, .val (.int (1023 : Int32)), .val (.int (lsr (q2 * (-7046029254386353131 : Int64)) (54 : Int32)).toInt32)] [(.long (g ((lsr (q2 * (-7046029254386353131 : Int64)) (54 : Int32)).toInt32).toNatClampNeg))]))
  refine Till.pre (X8.ldc2Long hx hown (mvT hZ (hw _ (List.mem_of_getElem? (i := 31) rfl))) (g := (mkF m 28 #[.val (.ref a1), .val (.long q2), .second, .val (.int (1023 : Int32)), .val (.int (lsr (q2 * (-7046029254386353131 : Int64)) (54 : Int32)).toInt32)] [(.long (g ((lsr (q2 * (-7046029254386353131 : Int64)) (54 : Int32)).toInt32).toNatClampNeg))])) rfl (hb hby d8_28)) ?_
  show Till p e below s (Q8 Z a1 q2 b1 b2 w_size f g h0 n0) room8.cells room8.slots (T7.setTop (mkF m 31 #[.val (.ref a1), .val (.long q2), .second, .val (.int (1023 : Int32)), .val (.int (lsr (q2 * (-7046029254386353131 : Int64)) (54 : Int32)).toInt32)] [(.long (-9223372036854775808 : Int64)), (.long (g ((lsr (q2 * (-7046029254386353131 : Int64)) (54 : Int32)).toInt32).toNatClampNeg))]))
  refine Till.pre (fun _ hr => XS.lcmp X8.here hx rfl (hb hby d8_31) rfl hr) ?_
  show Till p e below s (Q8 Z a1 q2 b1 b2 w_size f g h0 n0) room8.cells room8.slots (T7.setTop (mkF m 32 #[.val (.ref a1), .val (.long q2), .second, .val (.int (1023 : Int32)), .val (.int (lsr (q2 * (-7046029254386353131 : Int64)) (54 : Int32)).toInt32)] [(.int (lcmpW (g ((lsr (q2 * (-7046029254386353131 : Int64)) (54 : Int32)).toInt32).toNatClampNeg) (-9223372036854775808 : Int64)))]))
  have J58_38 : ∀ (T34 : State) (L35 : List Loc) (X36 : Stand p l e room8 s m #[(.ref a1), (.long q2)] below meth c T34 L35 0 0) (N37 : Fr n0 L35) (e38 : T34.heap = h0) (v58l4 : Int32) (hv58l4 : v58l4 = (if ((g ((lsr (q2 * (-7046029254386353131 : Int64)) (54 : Int32)).toInt32).toNatClampNeg) = (-9223372036854775808 : Int64)) then (lsr (q2 * (-7046029254386353131 : Int64)) (54 : Int32)).toInt32 else (if ((f ((lsr (q2 * (-7046029254386353131 : Int64)) (54 : Int32)).toInt32).toNatClampNeg) = q2) then (lsr (q2 * (-7046029254386353131 : Int64)) (54 : Int32)).toInt32 else (if ((g ((((lsr (q2 * (-7046029254386353131 : Int64)) (54 : Int32)).toInt32 + (1 : Int32)) &&& (1023 : Int32))).toNatClampNeg) = (-9223372036854775808 : Int64)) then (((lsr (q2 * (-7046029254386353131 : Int64)) (54 : Int32)).toInt32 + (1 : Int32)) &&& (1023 : Int32)) else (if ((f ((((lsr (q2 * (-7046029254386353131 : Int64)) (54 : Int32)).toInt32 + (1 : Int32)) &&& (1023 : Int32))).toNatClampNeg) = q2) then (((lsr (q2 * (-7046029254386353131 : Int64)) (54 : Int32)).toInt32 + (1 : Int32)) &&& (1023 : Int32)) else (if ((g ((((((lsr (q2 * (-7046029254386353131 : Int64)) (54 : Int32)).toInt32 + (1 : Int32)) &&& (1023 : Int32)) + (1 : Int32)) &&& (1023 : Int32))).toNatClampNeg) = (-9223372036854775808 : Int64)) then (((((lsr (q2 * (-7046029254386353131 : Int64)) (54 : Int32)).toInt32 + (1 : Int32)) &&& (1023 : Int32)) + (1 : Int32)) &&& (1023 : Int32)) else (if ((f ((((((lsr (q2 * (-7046029254386353131 : Int64)) (54 : Int32)).toInt32 + (1 : Int32)) &&& (1023 : Int32)) + (1 : Int32)) &&& (1023 : Int32))).toNatClampNeg) = q2) then (((((lsr (q2 * (-7046029254386353131 : Int64)) (54 : Int32)).toInt32 + (1 : Int32)) &&& (1023 : Int32)) + (1 : Int32)) &&& (1023 : Int32)) else (((((((lsr (q2 * (-7046029254386353131 : Int64)) (54 : Int32)).toInt32 + (1 : Int32)) &&& (1023 : Int32)) + (1 : Int32)) &&& (1023 : Int32)) + (1 : Int32)) &&& (1023 : Int32))))))))), Till p e below s (Q8 Z a1 q2 b1 b2 w_size f g h0 n0) room8.cells room8.slots (T34.setTop (mkF m 58 #[.val (.ref a1), .val (.long q2), .second, .val (.int (1023 : Int32)), .val (.int v58l4)] [])) := by
    intro T34 L35 X36 N37 e38 v58l4 hv58l4
    show Till p e below s (Q8 Z a1 q2 b1 b2 w_size f g h0 n0) room8.cells room8.slots (T34.setTop (mkF m 58 #[.val (.ref a1), .val (.long q2), .second, .val (.int (1023 : Int32)), .val (.int v58l4)] []))
    refine Till.pre (fun _ hr => XS.iload X36.here hx rfl (hb hby d8_58) rfl hr) ?_
    show Till p e below s (Q8 Z a1 q2 b1 b2 w_size f g h0 n0) room8.cells room8.slots (T34.setTop (mkF m 60 #[.val (.ref a1), .val (.long q2), .second, .val (.int (1023 : Int32)), .val (.int v58l4)] [(.int v58l4)]))
    refine Till.retI X36 hx hret hlk (hb hby d8_60) (by decide) (by decide) ?_
    subst hv58l4
    exact ⟨rfl, N37, e38⟩
  refine Till.ifc (pc' := 58) X8.here hx (hb hby d8_32) (by decide) (by decide) (fun q => ?_) (fun q => ?_)
  · have hc10 := (lEq.mp (hEq.1 q))
    show Till p e below s (Q8 Z a1 q2 b1 b2 w_size f g h0 n0) room8.cells room8.slots (T7.setTop (mkF m 58 #[.val (.ref a1), .val (.long q2), .second, .val (.int (1023 : Int32)), .val (.int (lsr (q2 * (-7046029254386353131 : Int64)) (54 : Int32)).toInt32)] []))
    exact J58_38 _ _ X8 N0 e9 _ (Eq.symm (if_pos hc10))
  · have hc10 := (mt lEq.mpr (hEq.2.1 q))
    show Till p e below s (Q8 Z a1 q2 b1 b2 w_size f g h0 n0) room8.cells room8.slots (T7.setTop (mkF m 35 #[.val (.ref a1), .val (.long q2), .second, .val (.int (1023 : Int32)), .val (.int (lsr (q2 * (-7046029254386353131 : Int64)) (54 : Int32)).toInt32)] []))
    refine Till.pre (fun _ hr => XS.aloadN X8.here hx rfl (hb hby d8_35) rfl rfl hr) ?_
    show Till p e below s (Q8 Z a1 q2 b1 b2 w_size f g h0 n0) room8.cells room8.slots (T7.setTop (mkF m 36 #[.val (.ref a1), .val (.long q2), .second, .val (.int (1023 : Int32)), .val (.int (lsr (q2 * (-7046029254386353131 : Int64)) (54 : Int32)).toInt32)] [(.ref a1)]))
    refine Till.getF X8 hx hZ hown (hw _ (List.mem_of_getElem? (i := 27) rfl)) e9 R_a1.2.1 (hb hby d8_36) (fun T11 X12 e13 => ?_)
    show Till p e below s (Q8 Z a1 q2 b1 b2 w_size f g h0 n0) room8.cells room8.slots (T11.setTop (mkF m 39 #[.val (.ref a1), .val (.long q2), .second, .val (.int (1023 : Int32)), .val (.int (lsr (q2 * (-7046029254386353131 : Int64)) (54 : Int32)).toInt32)] [(.ref b1)]))
    refine Till.pre (fun _ hr => XS.iload X12.here hx rfl (hb hby d8_39) rfl hr) ?_
    show Till p e below s (Q8 Z a1 q2 b1 b2 w_size f g h0 n0) room8.cells room8.slots (T11.setTop (mkF m 41 #[.val (.ref a1), .val (.long q2), .second, .val (.int (1023 : Int32)), .val (.int (lsr (q2 * (-7046029254386353131 : Int64)) (54 : Int32)).toInt32)] [(.int (lsr (q2 * (-7046029254386353131 : Int64)) (54 : Int32)).toInt32), (.ref b1)]))
    refine Till.laload R_b1 (own_b1 (own_home _)) (own_b2 (own_home _)) X12 hx hZ e13 (hb hby d8_41) ?_
    show Till p e below s (Q8 Z a1 q2 b1 b2 w_size f g h0 n0) room8.cells room8.slots (T11.setTop (mkF m 42 #[.val (.ref a1), .val (.long q2), .second, .val (.int (1023 : Int32)), .val (.int (lsr (q2 * (-7046029254386353131 : Int64)) (54 : Int32)).toInt32)] [(.long (f ((lsr (q2 * (-7046029254386353131 : Int64)) (54 : Int32)).toInt32).toNatClampNeg))]))
    refine Till.pre (fun _ hr => XS.lloadN X12.here hx rfl (hb hby d8_42) rfl hr) ?_
    show Till p e below s (Q8 Z a1 q2 b1 b2 w_size f g h0 n0) room8.cells room8.slots (T11.setTop (mkF m 43 #[.val (.ref a1), .val (.long q2), .second, .val (.int (1023 : Int32)), .val (.int (lsr (q2 * (-7046029254386353131 : Int64)) (54 : Int32)).toInt32)] [(.long q2), (.long (f ((lsr (q2 * (-7046029254386353131 : Int64)) (54 : Int32)).toInt32).toNatClampNeg))]))
    refine Till.pre (fun _ hr => XS.lcmp X12.here hx rfl (hb hby d8_43) rfl hr) ?_
    show Till p e below s (Q8 Z a1 q2 b1 b2 w_size f g h0 n0) room8.cells room8.slots (T11.setTop (mkF m 44 #[.val (.ref a1), .val (.long q2), .second, .val (.int (1023 : Int32)), .val (.int (lsr (q2 * (-7046029254386353131 : Int64)) (54 : Int32)).toInt32)] [(.int (lcmpW (f ((lsr (q2 * (-7046029254386353131 : Int64)) (54 : Int32)).toInt32).toNatClampNeg) q2))]))
    refine Till.ifc (pc' := 58) X12.here hx (hb hby d8_44) (by decide) (by decide) (fun q => ?_) (fun q => ?_)
    · have hc14 := (lEq.mp (hEq.1 q))
      show Till p e below s (Q8 Z a1 q2 b1 b2 w_size f g h0 n0) room8.cells room8.slots (T11.setTop (mkF m 58 #[.val (.ref a1), .val (.long q2), .second, .val (.int (1023 : Int32)), .val (.int (lsr (q2 * (-7046029254386353131 : Int64)) (54 : Int32)).toInt32)] []))
      exact J58_38 _ _ X12 N0 e13 _ (Eq.symm ((if_neg hc10).trans (if_pos hc14)))
    · have hc14 := (mt lEq.mpr (hEq.2.1 q))
      show Till p e below s (Q8 Z a1 q2 b1 b2 w_size f g h0 n0) room8.cells room8.slots (T11.setTop (mkF m 47 #[.val (.ref a1), .val (.long q2), .second, .val (.int (1023 : Int32)), .val (.int (lsr (q2 * (-7046029254386353131 : Int64)) (54 : Int32)).toInt32)] []))
      refine Till.pre (fun _ hr => XS.iload X12.here hx rfl (hb hby d8_47) rfl hr) ?_
      show Till p e below s (Q8 Z a1 q2 b1 b2 w_size f g h0 n0) room8.cells room8.slots (T11.setTop (mkF m 49 #[.val (.ref a1), .val (.long q2), .second, .val (.int (1023 : Int32)), .val (.int (lsr (q2 * (-7046029254386353131 : Int64)) (54 : Int32)).toInt32)] [(.int (lsr (q2 * (-7046029254386353131 : Int64)) (54 : Int32)).toInt32)]))
      refine Till.pre (fun _ hr => XS.iconst X12.here hx rfl (hb hby d8_49) hr) ?_
      show Till p e below s (Q8 Z a1 q2 b1 b2 w_size f g h0 n0) room8.cells room8.slots (T11.setTop (mkF m 50 #[.val (.ref a1), .val (.long q2), .second, .val (.int (1023 : Int32)), .val (.int (lsr (q2 * (-7046029254386353131 : Int64)) (54 : Int32)).toInt32)] [(.int (1 : Int32)), (.int (lsr (q2 * (-7046029254386353131 : Int64)) (54 : Int32)).toInt32)]))
      refine Till.pre (fun _ hr => XS.iadd X12.here hx rfl (hb hby d8_50) rfl hr) ?_
      show Till p e below s (Q8 Z a1 q2 b1 b2 w_size f g h0 n0) room8.cells room8.slots (T11.setTop (mkF m 51 #[.val (.ref a1), .val (.long q2), .second, .val (.int (1023 : Int32)), .val (.int (lsr (q2 * (-7046029254386353131 : Int64)) (54 : Int32)).toInt32)] [(.int ((lsr (q2 * (-7046029254386353131 : Int64)) (54 : Int32)).toInt32 + (1 : Int32)))]))
      refine Till.pre (fun _ hr => XS.iloadN X12.here hx rfl (hb hby d8_51) rfl hr) ?_
      show Till p e below s (Q8 Z a1 q2 b1 b2 w_size f g h0 n0) room8.cells room8.slots (T11.setTop (mkF m 52 #[.val (.ref a1), .val (.long q2), .second, .val (.int (1023 : Int32)), .val (.int (lsr (q2 * (-7046029254386353131 : Int64)) (54 : Int32)).toInt32)] [(.int (1023 : Int32)), (.int ((lsr (q2 * (-7046029254386353131 : Int64)) (54 : Int32)).toInt32 + (1 : Int32)))]))
      refine Till.pre (fun _ hr => XS.iand X12.here hx rfl (hb hby d8_52) rfl hr) ?_
      show Till p e below s (Q8 Z a1 q2 b1 b2 w_size f g h0 n0) room8.cells room8.slots (T11.setTop (mkF m 53 #[.val (.ref a1), .val (.long q2), .second, .val (.int (1023 : Int32)), .val (.int (lsr (q2 * (-7046029254386353131 : Int64)) (54 : Int32)).toInt32)] [(.int (((lsr (q2 * (-7046029254386353131 : Int64)) (54 : Int32)).toInt32 + (1 : Int32)) &&& (1023 : Int32)))]))
      refine Till.pre (fun _ hr => XS.istore X12.here hx rfl (hb hby d8_53) rfl (l' := #[.val (.ref a1), .val (.long q2), .second, .val (.int (1023 : Int32)), .val (.int (((lsr (q2 * (-7046029254386353131 : Int64)) (54 : Int32)).toInt32 + (1 : Int32)) &&& (1023 : Int32)))]) rfl hr) ?_
      show Till p e below s (Q8 Z a1 q2 b1 b2 w_size f g h0 n0) room8.cells room8.slots (T11.setTop (mkF m 55 #[.val (.ref a1), .val (.long q2), .second, .val (.int (1023 : Int32)), .val (.int (((lsr (q2 * (-7046029254386353131 : Int64)) (54 : Int32)).toInt32 + (1 : Int32)) &&& (1023 : Int32)))] []))
      refine Till.pre (fun _ hr => XS.goto X12.here hx rfl (pc0 := 55) (pc' := 21) rfl (hb hby d8_55) (by decide) (by decide) hr) ?_
      show Till p e below s (Q8 Z a1 q2 b1 b2 w_size f g h0 n0) room8.cells room8.slots (T11.setTop (mkF m 21 #[.val (.ref a1), .val (.long q2), .second, .val (.int (1023 : Int32)), .val (.int (((lsr (q2 * (-7046029254386353131 : Int64)) (54 : Int32)).toInt32 + (1 : Int32)) &&& (1023 : Int32)))] []))
      refine Till.pre (fun _ hr => XS.aloadN X12.here hx rfl (hb hby d8_21) rfl rfl hr) ?_
      show Till p e below s (Q8 Z a1 q2 b1 b2 w_size f g h0 n0) room8.cells room8.slots (T11.setTop (mkF m 22 #[.val (.ref a1), .val (.long q2), .second, .val (.int (1023 : Int32)), .val (.int (((lsr (q2 * (-7046029254386353131 : Int64)) (54 : Int32)).toInt32 + (1 : Int32)) &&& (1023 : Int32)))] [(.ref a1)]))
      refine Till.getF X12 hx hZ hown (hw _ (List.mem_of_getElem? (i := 29) rfl)) e13 R_a1.2.2.1 (hb hby d8_22) (fun T15 X16 e17 => ?_)
      show Till p e below s (Q8 Z a1 q2 b1 b2 w_size f g h0 n0) room8.cells room8.slots (T15.setTop (mkF m 25 #[.val (.ref a1), .val (.long q2), .second, .val (.int (1023 : Int32)), .val (.int (((lsr (q2 * (-7046029254386353131 : Int64)) (54 : Int32)).toInt32 + (1 : Int32)) &&& (1023 : Int32)))] [(.ref b2)]))
      refine Till.pre (fun _ hr => XS.iload X16.here hx rfl (hb hby d8_25) rfl hr) ?_
      show Till p e below s (Q8 Z a1 q2 b1 b2 w_size f g h0 n0) room8.cells room8.slots (T15.setTop (mkF m 27 #[.val (.ref a1), .val (.long q2), .second, .val (.int (1023 : Int32)), .val (.int (((lsr (q2 * (-7046029254386353131 : Int64)) (54 : Int32)).toInt32 + (1 : Int32)) &&& (1023 : Int32)))] [(.int (((lsr (q2 * (-7046029254386353131 : Int64)) (54 : Int32)).toInt32 + (1 : Int32)) &&& (1023 : Int32))), (.ref b2)]))
      refine Till.laload R_b2 (own_b1 (own_nxt _)) (own_b2 (own_nxt _)) X16 hx hZ e17 (hb hby d8_27) ?_
      show Till p e below s (Q8 Z a1 q2 b1 b2 w_size f g h0 n0) room8.cells room8.slots (T15.setTop (mkF m 28 #[.val (.ref a1), .val (.long q2), .second, .val (.int (1023 : Int32)), .val (.int (((lsr (q2 * (-7046029254386353131 : Int64)) (54 : Int32)).toInt32 + (1 : Int32)) &&& (1023 : Int32)))] [(.long (g ((((lsr (q2 * (-7046029254386353131 : Int64)) (54 : Int32)).toInt32 + (1 : Int32)) &&& (1023 : Int32))).toNatClampNeg))]))
      refine Till.pre (X16.ldc2Long hx hown (mvT hZ (hw _ (List.mem_of_getElem? (i := 31) rfl))) (g := (mkF m 28 #[.val (.ref a1), .val (.long q2), .second, .val (.int (1023 : Int32)), .val (.int (((lsr (q2 * (-7046029254386353131 : Int64)) (54 : Int32)).toInt32 + (1 : Int32)) &&& (1023 : Int32)))] [(.long (g ((((lsr (q2 * (-7046029254386353131 : Int64)) (54 : Int32)).toInt32 + (1 : Int32)) &&& (1023 : Int32))).toNatClampNeg))])) rfl (hb hby d8_28)) ?_
      show Till p e below s (Q8 Z a1 q2 b1 b2 w_size f g h0 n0) room8.cells room8.slots (T15.setTop (mkF m 31 #[.val (.ref a1), .val (.long q2), .second, .val (.int (1023 : Int32)), .val (.int (((lsr (q2 * (-7046029254386353131 : Int64)) (54 : Int32)).toInt32 + (1 : Int32)) &&& (1023 : Int32)))] [(.long (-9223372036854775808 : Int64)), (.long (g ((((lsr (q2 * (-7046029254386353131 : Int64)) (54 : Int32)).toInt32 + (1 : Int32)) &&& (1023 : Int32))).toNatClampNeg))]))
      refine Till.pre (fun _ hr => XS.lcmp X16.here hx rfl (hb hby d8_31) rfl hr) ?_
      show Till p e below s (Q8 Z a1 q2 b1 b2 w_size f g h0 n0) room8.cells room8.slots (T15.setTop (mkF m 32 #[.val (.ref a1), .val (.long q2), .second, .val (.int (1023 : Int32)), .val (.int (((lsr (q2 * (-7046029254386353131 : Int64)) (54 : Int32)).toInt32 + (1 : Int32)) &&& (1023 : Int32)))] [(.int (lcmpW (g ((((lsr (q2 * (-7046029254386353131 : Int64)) (54 : Int32)).toInt32 + (1 : Int32)) &&& (1023 : Int32))).toNatClampNeg) (-9223372036854775808 : Int64)))]))
      refine Till.ifc (pc' := 58) X16.here hx (hb hby d8_32) (by decide) (by decide) (fun q => ?_) (fun q => ?_)
      · have hc18 := (lEq.mp (hEq.1 q))
        show Till p e below s (Q8 Z a1 q2 b1 b2 w_size f g h0 n0) room8.cells room8.slots (T15.setTop (mkF m 58 #[.val (.ref a1), .val (.long q2), .second, .val (.int (1023 : Int32)), .val (.int (((lsr (q2 * (-7046029254386353131 : Int64)) (54 : Int32)).toInt32 + (1 : Int32)) &&& (1023 : Int32)))] []))
        exact J58_38 _ _ X16 N0 e17 _ (Eq.symm ((if_neg hc10).trans ((if_neg hc14).trans (if_pos hc18))))
      · have hc18 := (mt lEq.mpr (hEq.2.1 q))
        show Till p e below s (Q8 Z a1 q2 b1 b2 w_size f g h0 n0) room8.cells room8.slots (T15.setTop (mkF m 35 #[.val (.ref a1), .val (.long q2), .second, .val (.int (1023 : Int32)), .val (.int (((lsr (q2 * (-7046029254386353131 : Int64)) (54 : Int32)).toInt32 + (1 : Int32)) &&& (1023 : Int32)))] []))
        refine Till.pre (fun _ hr => XS.aloadN X16.here hx rfl (hb hby d8_35) rfl rfl hr) ?_
        show Till p e below s (Q8 Z a1 q2 b1 b2 w_size f g h0 n0) room8.cells room8.slots (T15.setTop (mkF m 36 #[.val (.ref a1), .val (.long q2), .second, .val (.int (1023 : Int32)), .val (.int (((lsr (q2 * (-7046029254386353131 : Int64)) (54 : Int32)).toInt32 + (1 : Int32)) &&& (1023 : Int32)))] [(.ref a1)]))
        refine Till.getF X16 hx hZ hown (hw _ (List.mem_of_getElem? (i := 27) rfl)) e17 R_a1.2.1 (hb hby d8_36) (fun T19 X20 e21 => ?_)
        show Till p e below s (Q8 Z a1 q2 b1 b2 w_size f g h0 n0) room8.cells room8.slots (T19.setTop (mkF m 39 #[.val (.ref a1), .val (.long q2), .second, .val (.int (1023 : Int32)), .val (.int (((lsr (q2 * (-7046029254386353131 : Int64)) (54 : Int32)).toInt32 + (1 : Int32)) &&& (1023 : Int32)))] [(.ref b1)]))
        refine Till.pre (fun _ hr => XS.iload X20.here hx rfl (hb hby d8_39) rfl hr) ?_
        show Till p e below s (Q8 Z a1 q2 b1 b2 w_size f g h0 n0) room8.cells room8.slots (T19.setTop (mkF m 41 #[.val (.ref a1), .val (.long q2), .second, .val (.int (1023 : Int32)), .val (.int (((lsr (q2 * (-7046029254386353131 : Int64)) (54 : Int32)).toInt32 + (1 : Int32)) &&& (1023 : Int32)))] [(.int (((lsr (q2 * (-7046029254386353131 : Int64)) (54 : Int32)).toInt32 + (1 : Int32)) &&& (1023 : Int32))), (.ref b1)]))
        refine Till.laload R_b1 (own_b1 (own_nxt _)) (own_b2 (own_nxt _)) X20 hx hZ e21 (hb hby d8_41) ?_
        show Till p e below s (Q8 Z a1 q2 b1 b2 w_size f g h0 n0) room8.cells room8.slots (T19.setTop (mkF m 42 #[.val (.ref a1), .val (.long q2), .second, .val (.int (1023 : Int32)), .val (.int (((lsr (q2 * (-7046029254386353131 : Int64)) (54 : Int32)).toInt32 + (1 : Int32)) &&& (1023 : Int32)))] [(.long (f ((((lsr (q2 * (-7046029254386353131 : Int64)) (54 : Int32)).toInt32 + (1 : Int32)) &&& (1023 : Int32))).toNatClampNeg))]))
        refine Till.pre (fun _ hr => XS.lloadN X20.here hx rfl (hb hby d8_42) rfl hr) ?_
        show Till p e below s (Q8 Z a1 q2 b1 b2 w_size f g h0 n0) room8.cells room8.slots (T19.setTop (mkF m 43 #[.val (.ref a1), .val (.long q2), .second, .val (.int (1023 : Int32)), .val (.int (((lsr (q2 * (-7046029254386353131 : Int64)) (54 : Int32)).toInt32 + (1 : Int32)) &&& (1023 : Int32)))] [(.long q2), (.long (f ((((lsr (q2 * (-7046029254386353131 : Int64)) (54 : Int32)).toInt32 + (1 : Int32)) &&& (1023 : Int32))).toNatClampNeg))]))
        refine Till.pre (fun _ hr => XS.lcmp X20.here hx rfl (hb hby d8_43) rfl hr) ?_
        show Till p e below s (Q8 Z a1 q2 b1 b2 w_size f g h0 n0) room8.cells room8.slots (T19.setTop (mkF m 44 #[.val (.ref a1), .val (.long q2), .second, .val (.int (1023 : Int32)), .val (.int (((lsr (q2 * (-7046029254386353131 : Int64)) (54 : Int32)).toInt32 + (1 : Int32)) &&& (1023 : Int32)))] [(.int (lcmpW (f ((((lsr (q2 * (-7046029254386353131 : Int64)) (54 : Int32)).toInt32 + (1 : Int32)) &&& (1023 : Int32))).toNatClampNeg) q2))]))
        refine Till.ifc (pc' := 58) X20.here hx (hb hby d8_44) (by decide) (by decide) (fun q => ?_) (fun q => ?_)
        · have hc22 := (lEq.mp (hEq.1 q))
          show Till p e below s (Q8 Z a1 q2 b1 b2 w_size f g h0 n0) room8.cells room8.slots (T19.setTop (mkF m 58 #[.val (.ref a1), .val (.long q2), .second, .val (.int (1023 : Int32)), .val (.int (((lsr (q2 * (-7046029254386353131 : Int64)) (54 : Int32)).toInt32 + (1 : Int32)) &&& (1023 : Int32)))] []))
          exact J58_38 _ _ X20 N0 e21 _ (Eq.symm ((if_neg hc10).trans ((if_neg hc14).trans ((if_neg hc18).trans (if_pos hc22)))))
        · have hc22 := (mt lEq.mpr (hEq.2.1 q))
          show Till p e below s (Q8 Z a1 q2 b1 b2 w_size f g h0 n0) room8.cells room8.slots (T19.setTop (mkF m 47 #[.val (.ref a1), .val (.long q2), .second, .val (.int (1023 : Int32)), .val (.int (((lsr (q2 * (-7046029254386353131 : Int64)) (54 : Int32)).toInt32 + (1 : Int32)) &&& (1023 : Int32)))] []))
          refine Till.pre (fun _ hr => XS.iload X20.here hx rfl (hb hby d8_47) rfl hr) ?_
          show Till p e below s (Q8 Z a1 q2 b1 b2 w_size f g h0 n0) room8.cells room8.slots (T19.setTop (mkF m 49 #[.val (.ref a1), .val (.long q2), .second, .val (.int (1023 : Int32)), .val (.int (((lsr (q2 * (-7046029254386353131 : Int64)) (54 : Int32)).toInt32 + (1 : Int32)) &&& (1023 : Int32)))] [(.int (((lsr (q2 * (-7046029254386353131 : Int64)) (54 : Int32)).toInt32 + (1 : Int32)) &&& (1023 : Int32)))]))
          refine Till.pre (fun _ hr => XS.iconst X20.here hx rfl (hb hby d8_49) hr) ?_
          show Till p e below s (Q8 Z a1 q2 b1 b2 w_size f g h0 n0) room8.cells room8.slots (T19.setTop (mkF m 50 #[.val (.ref a1), .val (.long q2), .second, .val (.int (1023 : Int32)), .val (.int (((lsr (q2 * (-7046029254386353131 : Int64)) (54 : Int32)).toInt32 + (1 : Int32)) &&& (1023 : Int32)))] [(.int (1 : Int32)), (.int (((lsr (q2 * (-7046029254386353131 : Int64)) (54 : Int32)).toInt32 + (1 : Int32)) &&& (1023 : Int32)))]))
          refine Till.pre (fun _ hr => XS.iadd X20.here hx rfl (hb hby d8_50) rfl hr) ?_
          show Till p e below s (Q8 Z a1 q2 b1 b2 w_size f g h0 n0) room8.cells room8.slots (T19.setTop (mkF m 51 #[.val (.ref a1), .val (.long q2), .second, .val (.int (1023 : Int32)), .val (.int (((lsr (q2 * (-7046029254386353131 : Int64)) (54 : Int32)).toInt32 + (1 : Int32)) &&& (1023 : Int32)))] [(.int ((((lsr (q2 * (-7046029254386353131 : Int64)) (54 : Int32)).toInt32 + (1 : Int32)) &&& (1023 : Int32)) + (1 : Int32)))]))
          refine Till.pre (fun _ hr => XS.iloadN X20.here hx rfl (hb hby d8_51) rfl hr) ?_
          show Till p e below s (Q8 Z a1 q2 b1 b2 w_size f g h0 n0) room8.cells room8.slots (T19.setTop (mkF m 52 #[.val (.ref a1), .val (.long q2), .second, .val (.int (1023 : Int32)), .val (.int (((lsr (q2 * (-7046029254386353131 : Int64)) (54 : Int32)).toInt32 + (1 : Int32)) &&& (1023 : Int32)))] [(.int (1023 : Int32)), (.int ((((lsr (q2 * (-7046029254386353131 : Int64)) (54 : Int32)).toInt32 + (1 : Int32)) &&& (1023 : Int32)) + (1 : Int32)))]))
          refine Till.pre (fun _ hr => XS.iand X20.here hx rfl (hb hby d8_52) rfl hr) ?_
          show Till p e below s (Q8 Z a1 q2 b1 b2 w_size f g h0 n0) room8.cells room8.slots (T19.setTop (mkF m 53 #[.val (.ref a1), .val (.long q2), .second, .val (.int (1023 : Int32)), .val (.int (((lsr (q2 * (-7046029254386353131 : Int64)) (54 : Int32)).toInt32 + (1 : Int32)) &&& (1023 : Int32)))] [(.int (((((lsr (q2 * (-7046029254386353131 : Int64)) (54 : Int32)).toInt32 + (1 : Int32)) &&& (1023 : Int32)) + (1 : Int32)) &&& (1023 : Int32)))]))
          refine Till.pre (fun _ hr => XS.istore X20.here hx rfl (hb hby d8_53) rfl (l' := #[.val (.ref a1), .val (.long q2), .second, .val (.int (1023 : Int32)), .val (.int (((((lsr (q2 * (-7046029254386353131 : Int64)) (54 : Int32)).toInt32 + (1 : Int32)) &&& (1023 : Int32)) + (1 : Int32)) &&& (1023 : Int32)))]) rfl hr) ?_
          show Till p e below s (Q8 Z a1 q2 b1 b2 w_size f g h0 n0) room8.cells room8.slots (T19.setTop (mkF m 55 #[.val (.ref a1), .val (.long q2), .second, .val (.int (1023 : Int32)), .val (.int (((((lsr (q2 * (-7046029254386353131 : Int64)) (54 : Int32)).toInt32 + (1 : Int32)) &&& (1023 : Int32)) + (1 : Int32)) &&& (1023 : Int32)))] []))
          refine Till.pre (fun _ hr => XS.goto X20.here hx rfl (pc0 := 55) (pc' := 21) rfl (hb hby d8_55) (by decide) (by decide) hr) ?_
          show Till p e below s (Q8 Z a1 q2 b1 b2 w_size f g h0 n0) room8.cells room8.slots (T19.setTop (mkF m 21 #[.val (.ref a1), .val (.long q2), .second, .val (.int (1023 : Int32)), .val (.int (((((lsr (q2 * (-7046029254386353131 : Int64)) (54 : Int32)).toInt32 + (1 : Int32)) &&& (1023 : Int32)) + (1 : Int32)) &&& (1023 : Int32)))] []))
          refine Till.pre (fun _ hr => XS.aloadN X20.here hx rfl (hb hby d8_21) rfl rfl hr) ?_
          show Till p e below s (Q8 Z a1 q2 b1 b2 w_size f g h0 n0) room8.cells room8.slots (T19.setTop (mkF m 22 #[.val (.ref a1), .val (.long q2), .second, .val (.int (1023 : Int32)), .val (.int (((((lsr (q2 * (-7046029254386353131 : Int64)) (54 : Int32)).toInt32 + (1 : Int32)) &&& (1023 : Int32)) + (1 : Int32)) &&& (1023 : Int32)))] [(.ref a1)]))
          refine Till.getF X20 hx hZ hown (hw _ (List.mem_of_getElem? (i := 29) rfl)) e21 R_a1.2.2.1 (hb hby d8_22) (fun T23 X24 e25 => ?_)
          show Till p e below s (Q8 Z a1 q2 b1 b2 w_size f g h0 n0) room8.cells room8.slots (T23.setTop (mkF m 25 #[.val (.ref a1), .val (.long q2), .second, .val (.int (1023 : Int32)), .val (.int (((((lsr (q2 * (-7046029254386353131 : Int64)) (54 : Int32)).toInt32 + (1 : Int32)) &&& (1023 : Int32)) + (1 : Int32)) &&& (1023 : Int32)))] [(.ref b2)]))
          refine Till.pre (fun _ hr => XS.iload X24.here hx rfl (hb hby d8_25) rfl hr) ?_
          show Till p e below s (Q8 Z a1 q2 b1 b2 w_size f g h0 n0) room8.cells room8.slots (T23.setTop (mkF m 27 #[.val (.ref a1), .val (.long q2), .second, .val (.int (1023 : Int32)), .val (.int (((((lsr (q2 * (-7046029254386353131 : Int64)) (54 : Int32)).toInt32 + (1 : Int32)) &&& (1023 : Int32)) + (1 : Int32)) &&& (1023 : Int32)))] [(.int (((((lsr (q2 * (-7046029254386353131 : Int64)) (54 : Int32)).toInt32 + (1 : Int32)) &&& (1023 : Int32)) + (1 : Int32)) &&& (1023 : Int32))), (.ref b2)]))
          refine Till.laload R_b2 (own_b1 (own_nxt _)) (own_b2 (own_nxt _)) X24 hx hZ e25 (hb hby d8_27) ?_
          show Till p e below s (Q8 Z a1 q2 b1 b2 w_size f g h0 n0) room8.cells room8.slots (T23.setTop (mkF m 28 #[.val (.ref a1), .val (.long q2), .second, .val (.int (1023 : Int32)), .val (.int (((((lsr (q2 * (-7046029254386353131 : Int64)) (54 : Int32)).toInt32 + (1 : Int32)) &&& (1023 : Int32)) + (1 : Int32)) &&& (1023 : Int32)))] [(.long (g ((((((lsr (q2 * (-7046029254386353131 : Int64)) (54 : Int32)).toInt32 + (1 : Int32)) &&& (1023 : Int32)) + (1 : Int32)) &&& (1023 : Int32))).toNatClampNeg))]))
          refine Till.pre (X24.ldc2Long hx hown (mvT hZ (hw _ (List.mem_of_getElem? (i := 31) rfl))) (g := (mkF m 28 #[.val (.ref a1), .val (.long q2), .second, .val (.int (1023 : Int32)), .val (.int (((((lsr (q2 * (-7046029254386353131 : Int64)) (54 : Int32)).toInt32 + (1 : Int32)) &&& (1023 : Int32)) + (1 : Int32)) &&& (1023 : Int32)))] [(.long (g ((((((lsr (q2 * (-7046029254386353131 : Int64)) (54 : Int32)).toInt32 + (1 : Int32)) &&& (1023 : Int32)) + (1 : Int32)) &&& (1023 : Int32))).toNatClampNeg))])) rfl (hb hby d8_28)) ?_
          show Till p e below s (Q8 Z a1 q2 b1 b2 w_size f g h0 n0) room8.cells room8.slots (T23.setTop (mkF m 31 #[.val (.ref a1), .val (.long q2), .second, .val (.int (1023 : Int32)), .val (.int (((((lsr (q2 * (-7046029254386353131 : Int64)) (54 : Int32)).toInt32 + (1 : Int32)) &&& (1023 : Int32)) + (1 : Int32)) &&& (1023 : Int32)))] [(.long (-9223372036854775808 : Int64)), (.long (g ((((((lsr (q2 * (-7046029254386353131 : Int64)) (54 : Int32)).toInt32 + (1 : Int32)) &&& (1023 : Int32)) + (1 : Int32)) &&& (1023 : Int32))).toNatClampNeg))]))
          refine Till.pre (fun _ hr => XS.lcmp X24.here hx rfl (hb hby d8_31) rfl hr) ?_
          show Till p e below s (Q8 Z a1 q2 b1 b2 w_size f g h0 n0) room8.cells room8.slots (T23.setTop (mkF m 32 #[.val (.ref a1), .val (.long q2), .second, .val (.int (1023 : Int32)), .val (.int (((((lsr (q2 * (-7046029254386353131 : Int64)) (54 : Int32)).toInt32 + (1 : Int32)) &&& (1023 : Int32)) + (1 : Int32)) &&& (1023 : Int32)))] [(.int (lcmpW (g ((((((lsr (q2 * (-7046029254386353131 : Int64)) (54 : Int32)).toInt32 + (1 : Int32)) &&& (1023 : Int32)) + (1 : Int32)) &&& (1023 : Int32))).toNatClampNeg) (-9223372036854775808 : Int64)))]))
          refine Till.ifc (pc' := 58) X24.here hx (hb hby d8_32) (by decide) (by decide) (fun q => ?_) (fun q => ?_)
          · have hc26 := (lEq.mp (hEq.1 q))
            show Till p e below s (Q8 Z a1 q2 b1 b2 w_size f g h0 n0) room8.cells room8.slots (T23.setTop (mkF m 58 #[.val (.ref a1), .val (.long q2), .second, .val (.int (1023 : Int32)), .val (.int (((((lsr (q2 * (-7046029254386353131 : Int64)) (54 : Int32)).toInt32 + (1 : Int32)) &&& (1023 : Int32)) + (1 : Int32)) &&& (1023 : Int32)))] []))
            exact J58_38 _ _ X24 N0 e25 _ (Eq.symm ((if_neg hc10).trans ((if_neg hc14).trans ((if_neg hc18).trans ((if_neg hc22).trans (if_pos hc26))))))
          · have hc26 := (mt lEq.mpr (hEq.2.1 q))
            show Till p e below s (Q8 Z a1 q2 b1 b2 w_size f g h0 n0) room8.cells room8.slots (T23.setTop (mkF m 35 #[.val (.ref a1), .val (.long q2), .second, .val (.int (1023 : Int32)), .val (.int (((((lsr (q2 * (-7046029254386353131 : Int64)) (54 : Int32)).toInt32 + (1 : Int32)) &&& (1023 : Int32)) + (1 : Int32)) &&& (1023 : Int32)))] []))
            refine Till.pre (fun _ hr => XS.aloadN X24.here hx rfl (hb hby d8_35) rfl rfl hr) ?_
            show Till p e below s (Q8 Z a1 q2 b1 b2 w_size f g h0 n0) room8.cells room8.slots (T23.setTop (mkF m 36 #[.val (.ref a1), .val (.long q2), .second, .val (.int (1023 : Int32)), .val (.int (((((lsr (q2 * (-7046029254386353131 : Int64)) (54 : Int32)).toInt32 + (1 : Int32)) &&& (1023 : Int32)) + (1 : Int32)) &&& (1023 : Int32)))] [(.ref a1)]))
            refine Till.getF X24 hx hZ hown (hw _ (List.mem_of_getElem? (i := 27) rfl)) e25 R_a1.2.1 (hb hby d8_36) (fun T27 X28 e29 => ?_)
            show Till p e below s (Q8 Z a1 q2 b1 b2 w_size f g h0 n0) room8.cells room8.slots (T27.setTop (mkF m 39 #[.val (.ref a1), .val (.long q2), .second, .val (.int (1023 : Int32)), .val (.int (((((lsr (q2 * (-7046029254386353131 : Int64)) (54 : Int32)).toInt32 + (1 : Int32)) &&& (1023 : Int32)) + (1 : Int32)) &&& (1023 : Int32)))] [(.ref b1)]))
            refine Till.pre (fun _ hr => XS.iload X28.here hx rfl (hb hby d8_39) rfl hr) ?_
            show Till p e below s (Q8 Z a1 q2 b1 b2 w_size f g h0 n0) room8.cells room8.slots (T27.setTop (mkF m 41 #[.val (.ref a1), .val (.long q2), .second, .val (.int (1023 : Int32)), .val (.int (((((lsr (q2 * (-7046029254386353131 : Int64)) (54 : Int32)).toInt32 + (1 : Int32)) &&& (1023 : Int32)) + (1 : Int32)) &&& (1023 : Int32)))] [(.int (((((lsr (q2 * (-7046029254386353131 : Int64)) (54 : Int32)).toInt32 + (1 : Int32)) &&& (1023 : Int32)) + (1 : Int32)) &&& (1023 : Int32))), (.ref b1)]))
            refine Till.laload R_b1 (own_b1 (own_nxt _)) (own_b2 (own_nxt _)) X28 hx hZ e29 (hb hby d8_41) ?_
            show Till p e below s (Q8 Z a1 q2 b1 b2 w_size f g h0 n0) room8.cells room8.slots (T27.setTop (mkF m 42 #[.val (.ref a1), .val (.long q2), .second, .val (.int (1023 : Int32)), .val (.int (((((lsr (q2 * (-7046029254386353131 : Int64)) (54 : Int32)).toInt32 + (1 : Int32)) &&& (1023 : Int32)) + (1 : Int32)) &&& (1023 : Int32)))] [(.long (f ((((((lsr (q2 * (-7046029254386353131 : Int64)) (54 : Int32)).toInt32 + (1 : Int32)) &&& (1023 : Int32)) + (1 : Int32)) &&& (1023 : Int32))).toNatClampNeg))]))
            refine Till.pre (fun _ hr => XS.lloadN X28.here hx rfl (hb hby d8_42) rfl hr) ?_
            show Till p e below s (Q8 Z a1 q2 b1 b2 w_size f g h0 n0) room8.cells room8.slots (T27.setTop (mkF m 43 #[.val (.ref a1), .val (.long q2), .second, .val (.int (1023 : Int32)), .val (.int (((((lsr (q2 * (-7046029254386353131 : Int64)) (54 : Int32)).toInt32 + (1 : Int32)) &&& (1023 : Int32)) + (1 : Int32)) &&& (1023 : Int32)))] [(.long q2), (.long (f ((((((lsr (q2 * (-7046029254386353131 : Int64)) (54 : Int32)).toInt32 + (1 : Int32)) &&& (1023 : Int32)) + (1 : Int32)) &&& (1023 : Int32))).toNatClampNeg))]))
            refine Till.pre (fun _ hr => XS.lcmp X28.here hx rfl (hb hby d8_43) rfl hr) ?_
            show Till p e below s (Q8 Z a1 q2 b1 b2 w_size f g h0 n0) room8.cells room8.slots (T27.setTop (mkF m 44 #[.val (.ref a1), .val (.long q2), .second, .val (.int (1023 : Int32)), .val (.int (((((lsr (q2 * (-7046029254386353131 : Int64)) (54 : Int32)).toInt32 + (1 : Int32)) &&& (1023 : Int32)) + (1 : Int32)) &&& (1023 : Int32)))] [(.int (lcmpW (f ((((((lsr (q2 * (-7046029254386353131 : Int64)) (54 : Int32)).toInt32 + (1 : Int32)) &&& (1023 : Int32)) + (1 : Int32)) &&& (1023 : Int32))).toNatClampNeg) q2))]))
            refine Till.ifc (pc' := 58) X28.here hx (hb hby d8_44) (by decide) (by decide) (fun q => ?_) (fun q => ?_)
            · have hc30 := (lEq.mp (hEq.1 q))
              show Till p e below s (Q8 Z a1 q2 b1 b2 w_size f g h0 n0) room8.cells room8.slots (T27.setTop (mkF m 58 #[.val (.ref a1), .val (.long q2), .second, .val (.int (1023 : Int32)), .val (.int (((((lsr (q2 * (-7046029254386353131 : Int64)) (54 : Int32)).toInt32 + (1 : Int32)) &&& (1023 : Int32)) + (1 : Int32)) &&& (1023 : Int32)))] []))
              exact J58_38 _ _ X28 N0 e29 _ (Eq.symm ((if_neg hc10).trans ((if_neg hc14).trans ((if_neg hc18).trans ((if_neg hc22).trans ((if_neg hc26).trans (if_pos hc30)))))))
            · have hc30 := (mt lEq.mpr (hEq.2.1 q))
              show Till p e below s (Q8 Z a1 q2 b1 b2 w_size f g h0 n0) room8.cells room8.slots (T27.setTop (mkF m 47 #[.val (.ref a1), .val (.long q2), .second, .val (.int (1023 : Int32)), .val (.int (((((lsr (q2 * (-7046029254386353131 : Int64)) (54 : Int32)).toInt32 + (1 : Int32)) &&& (1023 : Int32)) + (1 : Int32)) &&& (1023 : Int32)))] []))
              refine Till.pre (fun _ hr => XS.iload X28.here hx rfl (hb hby d8_47) rfl hr) ?_
              show Till p e below s (Q8 Z a1 q2 b1 b2 w_size f g h0 n0) room8.cells room8.slots (T27.setTop (mkF m 49 #[.val (.ref a1), .val (.long q2), .second, .val (.int (1023 : Int32)), .val (.int (((((lsr (q2 * (-7046029254386353131 : Int64)) (54 : Int32)).toInt32 + (1 : Int32)) &&& (1023 : Int32)) + (1 : Int32)) &&& (1023 : Int32)))] [(.int (((((lsr (q2 * (-7046029254386353131 : Int64)) (54 : Int32)).toInt32 + (1 : Int32)) &&& (1023 : Int32)) + (1 : Int32)) &&& (1023 : Int32)))]))
              refine Till.pre (fun _ hr => XS.iconst X28.here hx rfl (hb hby d8_49) hr) ?_
              show Till p e below s (Q8 Z a1 q2 b1 b2 w_size f g h0 n0) room8.cells room8.slots (T27.setTop (mkF m 50 #[.val (.ref a1), .val (.long q2), .second, .val (.int (1023 : Int32)), .val (.int (((((lsr (q2 * (-7046029254386353131 : Int64)) (54 : Int32)).toInt32 + (1 : Int32)) &&& (1023 : Int32)) + (1 : Int32)) &&& (1023 : Int32)))] [(.int (1 : Int32)), (.int (((((lsr (q2 * (-7046029254386353131 : Int64)) (54 : Int32)).toInt32 + (1 : Int32)) &&& (1023 : Int32)) + (1 : Int32)) &&& (1023 : Int32)))]))
              refine Till.pre (fun _ hr => XS.iadd X28.here hx rfl (hb hby d8_50) rfl hr) ?_
              show Till p e below s (Q8 Z a1 q2 b1 b2 w_size f g h0 n0) room8.cells room8.slots (T27.setTop (mkF m 51 #[.val (.ref a1), .val (.long q2), .second, .val (.int (1023 : Int32)), .val (.int (((((lsr (q2 * (-7046029254386353131 : Int64)) (54 : Int32)).toInt32 + (1 : Int32)) &&& (1023 : Int32)) + (1 : Int32)) &&& (1023 : Int32)))] [(.int ((((((lsr (q2 * (-7046029254386353131 : Int64)) (54 : Int32)).toInt32 + (1 : Int32)) &&& (1023 : Int32)) + (1 : Int32)) &&& (1023 : Int32)) + (1 : Int32)))]))
              refine Till.pre (fun _ hr => XS.iloadN X28.here hx rfl (hb hby d8_51) rfl hr) ?_
              show Till p e below s (Q8 Z a1 q2 b1 b2 w_size f g h0 n0) room8.cells room8.slots (T27.setTop (mkF m 52 #[.val (.ref a1), .val (.long q2), .second, .val (.int (1023 : Int32)), .val (.int (((((lsr (q2 * (-7046029254386353131 : Int64)) (54 : Int32)).toInt32 + (1 : Int32)) &&& (1023 : Int32)) + (1 : Int32)) &&& (1023 : Int32)))] [(.int (1023 : Int32)), (.int ((((((lsr (q2 * (-7046029254386353131 : Int64)) (54 : Int32)).toInt32 + (1 : Int32)) &&& (1023 : Int32)) + (1 : Int32)) &&& (1023 : Int32)) + (1 : Int32)))]))
              refine Till.pre (fun _ hr => XS.iand X28.here hx rfl (hb hby d8_52) rfl hr) ?_
              show Till p e below s (Q8 Z a1 q2 b1 b2 w_size f g h0 n0) room8.cells room8.slots (T27.setTop (mkF m 53 #[.val (.ref a1), .val (.long q2), .second, .val (.int (1023 : Int32)), .val (.int (((((lsr (q2 * (-7046029254386353131 : Int64)) (54 : Int32)).toInt32 + (1 : Int32)) &&& (1023 : Int32)) + (1 : Int32)) &&& (1023 : Int32)))] [(.int (((((((lsr (q2 * (-7046029254386353131 : Int64)) (54 : Int32)).toInt32 + (1 : Int32)) &&& (1023 : Int32)) + (1 : Int32)) &&& (1023 : Int32)) + (1 : Int32)) &&& (1023 : Int32)))]))
              refine Till.pre (fun _ hr => XS.istore X28.here hx rfl (hb hby d8_53) rfl (l' := #[.val (.ref a1), .val (.long q2), .second, .val (.int (1023 : Int32)), .val (.int (((((((lsr (q2 * (-7046029254386353131 : Int64)) (54 : Int32)).toInt32 + (1 : Int32)) &&& (1023 : Int32)) + (1 : Int32)) &&& (1023 : Int32)) + (1 : Int32)) &&& (1023 : Int32)))]) rfl hr) ?_
              show Till p e below s (Q8 Z a1 q2 b1 b2 w_size f g h0 n0) room8.cells room8.slots (T27.setTop (mkF m 55 #[.val (.ref a1), .val (.long q2), .second, .val (.int (1023 : Int32)), .val (.int (((((((lsr (q2 * (-7046029254386353131 : Int64)) (54 : Int32)).toInt32 + (1 : Int32)) &&& (1023 : Int32)) + (1 : Int32)) &&& (1023 : Int32)) + (1 : Int32)) &&& (1023 : Int32)))] []))
              refine Till.pre (fun _ hr => XS.goto X28.here hx rfl (pc0 := 55) (pc' := 21) rfl (hb hby d8_55) (by decide) (by decide) hr) ?_
              show Till p e below s (Q8 Z a1 q2 b1 b2 w_size f g h0 n0) room8.cells room8.slots (T27.setTop (mkF m 21 #[.val (.ref a1), .val (.long q2), .second, .val (.int (1023 : Int32)), .val (.int (((((((lsr (q2 * (-7046029254386353131 : Int64)) (54 : Int32)).toInt32 + (1 : Int32)) &&& (1023 : Int32)) + (1 : Int32)) &&& (1023 : Int32)) + (1 : Int32)) &&& (1023 : Int32)))] []))
              refine Till.pre (fun _ hr => XS.aloadN X28.here hx rfl (hb hby d8_21) rfl rfl hr) ?_
              show Till p e below s (Q8 Z a1 q2 b1 b2 w_size f g h0 n0) room8.cells room8.slots (T27.setTop (mkF m 22 #[.val (.ref a1), .val (.long q2), .second, .val (.int (1023 : Int32)), .val (.int (((((((lsr (q2 * (-7046029254386353131 : Int64)) (54 : Int32)).toInt32 + (1 : Int32)) &&& (1023 : Int32)) + (1 : Int32)) &&& (1023 : Int32)) + (1 : Int32)) &&& (1023 : Int32)))] [(.ref a1)]))
              refine Till.getF X28 hx hZ hown (hw _ (List.mem_of_getElem? (i := 29) rfl)) e29 R_a1.2.2.1 (hb hby d8_22) (fun T31 X32 e33 => ?_)
              show Till p e below s (Q8 Z a1 q2 b1 b2 w_size f g h0 n0) room8.cells room8.slots (T31.setTop (mkF m 25 #[.val (.ref a1), .val (.long q2), .second, .val (.int (1023 : Int32)), .val (.int (((((((lsr (q2 * (-7046029254386353131 : Int64)) (54 : Int32)).toInt32 + (1 : Int32)) &&& (1023 : Int32)) + (1 : Int32)) &&& (1023 : Int32)) + (1 : Int32)) &&& (1023 : Int32)))] [(.ref b2)]))
              refine Till.pre (fun _ hr => XS.iload X32.here hx rfl (hb hby d8_25) rfl hr) ?_
              show Till p e below s (Q8 Z a1 q2 b1 b2 w_size f g h0 n0) room8.cells room8.slots (T31.setTop (mkF m 27 #[.val (.ref a1), .val (.long q2), .second, .val (.int (1023 : Int32)), .val (.int (((((((lsr (q2 * (-7046029254386353131 : Int64)) (54 : Int32)).toInt32 + (1 : Int32)) &&& (1023 : Int32)) + (1 : Int32)) &&& (1023 : Int32)) + (1 : Int32)) &&& (1023 : Int32)))] [(.int (((((((lsr (q2 * (-7046029254386353131 : Int64)) (54 : Int32)).toInt32 + (1 : Int32)) &&& (1023 : Int32)) + (1 : Int32)) &&& (1023 : Int32)) + (1 : Int32)) &&& (1023 : Int32))), (.ref b2)]))
              refine Till.laload R_b2 (own_b1 (own_nxt _)) (own_b2 (own_nxt _)) X32 hx hZ e33 (hb hby d8_27) ?_
              show Till p e below s (Q8 Z a1 q2 b1 b2 w_size f g h0 n0) room8.cells room8.slots (T31.setTop (mkF m 28 #[.val (.ref a1), .val (.long q2), .second, .val (.int (1023 : Int32)), .val (.int (((((((lsr (q2 * (-7046029254386353131 : Int64)) (54 : Int32)).toInt32 + (1 : Int32)) &&& (1023 : Int32)) + (1 : Int32)) &&& (1023 : Int32)) + (1 : Int32)) &&& (1023 : Int32)))] [(.long (g ((((((((lsr (q2 * (-7046029254386353131 : Int64)) (54 : Int32)).toInt32 + (1 : Int32)) &&& (1023 : Int32)) + (1 : Int32)) &&& (1023 : Int32)) + (1 : Int32)) &&& (1023 : Int32))).toNatClampNeg))]))
              refine Till.pre (X32.ldc2Long hx hown (mvT hZ (hw _ (List.mem_of_getElem? (i := 31) rfl))) (g := (mkF m 28 #[.val (.ref a1), .val (.long q2), .second, .val (.int (1023 : Int32)), .val (.int (((((((lsr (q2 * (-7046029254386353131 : Int64)) (54 : Int32)).toInt32 + (1 : Int32)) &&& (1023 : Int32)) + (1 : Int32)) &&& (1023 : Int32)) + (1 : Int32)) &&& (1023 : Int32)))] [(.long (g ((((((((lsr (q2 * (-7046029254386353131 : Int64)) (54 : Int32)).toInt32 + (1 : Int32)) &&& (1023 : Int32)) + (1 : Int32)) &&& (1023 : Int32)) + (1 : Int32)) &&& (1023 : Int32))).toNatClampNeg))])) rfl (hb hby d8_28)) ?_
              show Till p e below s (Q8 Z a1 q2 b1 b2 w_size f g h0 n0) room8.cells room8.slots (T31.setTop (mkF m 31 #[.val (.ref a1), .val (.long q2), .second, .val (.int (1023 : Int32)), .val (.int (((((((lsr (q2 * (-7046029254386353131 : Int64)) (54 : Int32)).toInt32 + (1 : Int32)) &&& (1023 : Int32)) + (1 : Int32)) &&& (1023 : Int32)) + (1 : Int32)) &&& (1023 : Int32)))] [(.long (-9223372036854775808 : Int64)), (.long (g ((((((((lsr (q2 * (-7046029254386353131 : Int64)) (54 : Int32)).toInt32 + (1 : Int32)) &&& (1023 : Int32)) + (1 : Int32)) &&& (1023 : Int32)) + (1 : Int32)) &&& (1023 : Int32))).toNatClampNeg))]))
              refine Till.pre (fun _ hr => XS.lcmp X32.here hx rfl (hb hby d8_31) rfl hr) ?_
              show Till p e below s (Q8 Z a1 q2 b1 b2 w_size f g h0 n0) room8.cells room8.slots (T31.setTop (mkF m 32 #[.val (.ref a1), .val (.long q2), .second, .val (.int (1023 : Int32)), .val (.int (((((((lsr (q2 * (-7046029254386353131 : Int64)) (54 : Int32)).toInt32 + (1 : Int32)) &&& (1023 : Int32)) + (1 : Int32)) &&& (1023 : Int32)) + (1 : Int32)) &&& (1023 : Int32)))] [(.int (lcmpW (g ((((((((lsr (q2 * (-7046029254386353131 : Int64)) (54 : Int32)).toInt32 + (1 : Int32)) &&& (1023 : Int32)) + (1 : Int32)) &&& (1023 : Int32)) + (1 : Int32)) &&& (1023 : Int32))).toNatClampNeg) (-9223372036854775808 : Int64)))]))
              refine Till.ifc (pc' := 58) X32.here hx (hb hby d8_32) (by decide) (by decide) (fun q => ?_) (fun q => absurd (own_4 hstop hc10 hc18 hc26 : ((g ((((((((lsr (q2 * (-7046029254386353131 : Int64)) (54 : Int32)).toInt32 + (1 : Int32)) &&& (1023 : Int32)) + (1 : Int32)) &&& (1023 : Int32)) + (1 : Int32)) &&& (1023 : Int32))).toNatClampNeg) = (-9223372036854775808 : Int64))) (mt lEq.mpr (hEq.2.1 q)))
              show Till p e below s (Q8 Z a1 q2 b1 b2 w_size f g h0 n0) room8.cells room8.slots (T31.setTop (mkF m 58 #[.val (.ref a1), .val (.long q2), .second, .val (.int (1023 : Int32)), .val (.int (((((((lsr (q2 * (-7046029254386353131 : Int64)) (54 : Int32)).toInt32 + (1 : Int32)) &&& (1023 : Int32)) + (1 : Int32)) &&& (1023 : Int32)) + (1 : Int32)) &&& (1023 : Int32)))] []))
              exact J58_38 _ _ X32 N0 e33 _ (Eq.symm ((if_neg hc10).trans ((if_neg hc14).trans ((if_neg hc18).trans ((if_neg hc22).trans ((if_neg hc26).trans (if_neg hc30)))))))
/-! the table, as a map -/
abbrev own_ABS : Int64 := (-9223372036854775808 : Int64)
def own_S (x : Int64) (k : Nat) : Nat := ((own_h x).toNatClampNeg + k) % 1024
def own_Stop (f g : Nat → Int64) (x : Int64) (i : Nat) : Prop := g i = own_ABS ∨ f i = x
def own_Fst (f g : Nat → Int64) (x : Int64) (k : Nat) : Prop := k < 1024 ∧ own_Stop f g x (own_S x k) ∧ ∀ j, j < k → ¬ own_Stop f g x (own_S x j)
def own_Tb (f g : Nat → Int64) (N : Nat) (m : Int64 → Int64) : Prop :=
  (∃ o : Nat → Nat, ∀ i, i < 1024 → g i ≠ own_ABS → ∃ j, j < N ∧ i = o j) ∧ (∀ x k, own_Fst f g x k → g (own_S x k) = m x) ∧ (∀ i, i < 1024 → g i ≠ own_ABS → ∃ k, own_Fst f g (f i) k ∧ own_S (f i) k = i)
def own_um (m : Int64 → Int64) (a v : Int64) : Int64 → Int64 := fun x => if x = a then v else m x
theorem own_hlt (x : Int64) : (own_h x).toNatClampNeg < 1024 := by
  have := own_home (x * (-7046029254386353131 : Int64))
  have h : (own_h x).toInt = (lsr (x * (-7046029254386353131 : Int64)) (54 : Int32)).toInt32.toInt := rfl
  simp only [Int32.toNatClampNeg, h]; omega
theorem own_Slt (x : Int64) (k : Nat) : own_S x k < 1024 := Nat.mod_lt _ (by decide)
theorem own_Sinj {x : Int64} {j k : Nat} (hj : j < 1024) (hk : k < 1024) (h : own_S x j = own_S x k) : j = k := by
  have := own_hlt x
  unfold own_S at h; omega
theorem own_nn {s : Int32} (h : 0 ≤ s.toInt ∧ s.toInt < 1024) : (own_n s).toNatClampNeg = (s.toNatClampNeg + 1) % 1024 ∧ 0 ≤ (own_n s).toInt ∧ (own_n s).toInt < 1024 := by
  have a := c_mask (s + 1) 1023 10 (by decide) (by decide)
  have b := c_iadd s 1
  have c := rng32 (s + 1)
  have e1 : (1 : Int32).toInt = 1 := rfl
  have d : (own_n s).toInt = (s + 1).toInt % (2 ^ 10 : Nat) := a
  simp only [Int32.toNatClampNeg, d]; omega
theorem own_hb (x : Int64) : 0 ≤ (own_h x).toInt ∧ (own_h x).toInt < 1024 := own_home _
theorem own_S0 (x : Int64) : (own_h x).toNatClampNeg = own_S x 0 := by
  have := own_hlt x
  unfold own_S; omega
theorem own_S1 (x : Int64) : (own_n (own_h x)).toNatClampNeg = own_S x 1 := (own_nn (own_hb x)).1
theorem own_S2 (x : Int64) : (own_n (own_n (own_h x))).toNatClampNeg = own_S x 2 := by
  rw [(own_nn (own_nn (own_hb x)).2).1, own_S1]; unfold own_S; omega
theorem own_S3 (x : Int64) : (own_n (own_n (own_n (own_h x)))).toNatClampNeg = own_S x 3 := by
  rw [(own_nn (own_nn (own_nn (own_hb x)).2).2).1, own_S2]; unfold own_S; omega
/-- three entries leave one of four places free -/
theorem own_free {f g : Nat → Int64} {N : Nat} {m : Int64 → Int64} (t : own_Tb f g N m) (hN : N ≤ 3) (x : Int64) : g (own_S x 0) = own_ABS ∨ g (own_S x 1) = own_ABS ∨ g (own_S x 2) = own_ABS ∨ g (own_S x 3) = own_ABS := by
  obtain ⟨⟨o, ho⟩, -, -⟩ := t
  by_cases h0 : g (own_S x 0) = own_ABS
  · exact Or.inl h0
  by_cases h1 : g (own_S x 1) = own_ABS
  · exact Or.inr (Or.inl h1)
  by_cases h2 : g (own_S x 2) = own_ABS
  · exact Or.inr (Or.inr (Or.inl h2))
  by_cases h3 : g (own_S x 3) = own_ABS
  · exact Or.inr (Or.inr (Or.inr h3))
  exfalso
  obtain ⟨j0, a0, e0⟩ := ho _ (own_Slt x 0) h0
  obtain ⟨j1, a1, e1⟩ := ho _ (own_Slt x 1) h1
  obtain ⟨j2, a2, e2⟩ := ho _ (own_Slt x 2) h2
  obtain ⟨j3, a3, e3⟩ := ho _ (own_Slt x 3) h3
  have n01 : j0 ≠ j1 := fun q => absurd (own_Sinj (by decide) (by decide) (e0.trans (q ▸ e1.symm))) (by decide)
  have n02 : j0 ≠ j2 := fun q => absurd (own_Sinj (by decide) (by decide) (e0.trans (q ▸ e2.symm))) (by decide)
  have n03 : j0 ≠ j3 := fun q => absurd (own_Sinj (by decide) (by decide) (e0.trans (q ▸ e3.symm))) (by decide)
  have n12 : j1 ≠ j2 := fun q => absurd (own_Sinj (by decide) (by decide) (e1.trans (q ▸ e2.symm))) (by decide)
  have n13 : j1 ≠ j3 := fun q => absurd (own_Sinj (by decide) (by decide) (e1.trans (q ▸ e3.symm))) (by decide)
  have n23 : j2 ≠ j3 := fun q => absurd (own_Sinj (by decide) (by decide) (e2.trans (q ▸ e3.symm))) (by decide)
  omega
theorem own_uniq {f g : Nat → Int64} {x : Int64} {j k : Nat} (a : own_Fst f g x j) (b : own_Fst f g x k) : j = k := by
  rcases Nat.lt_trichotomy j k with h | h | h
  · exact absurd a.2.1 (b.2.2 j h)
  · exact h
  · exact absurd b.2.1 (a.2.2 k h)
theorem own_empty (f : Nat → Int64) : own_Tb f (fun _ => own_ABS) 0 (fun _ => own_ABS) :=
  ⟨⟨fun i => i, fun i _ h => absurd rfl h⟩, fun _ _ _ => rfl, fun i _ h => absurd rfl h⟩
/-- a put -/
theorem own_put {f g : Nat → Int64} {N : Nat} {m : Int64 → Int64} {a v : Int64} {k : Nat} (t : own_Tb f g N m) (hF : own_Fst f g a k) (hv : v ≠ own_ABS) : own_Tb (oupd f (own_S a k) a) (oupd g (own_S a k) v) (N + 1) (own_um m a v) := by
  obtain ⟨⟨o, ho⟩, hl, hs⟩ := t
  -- how a place answers now
  have off : ∀ x i, i ≠ own_S a k → (own_Stop (oupd f (own_S a k) a) (oupd g (own_S a k) v) x i ↔ own_Stop f g x i) := fun x i hi => by
    unfold own_Stop; rw [upd_miss hi, upd_miss hi]
  have on : ∀ x, own_Stop (oupd f (own_S a k) a) (oupd g (own_S a k) v) x (own_S a k) ↔ x = a := fun x => by
    unfold own_Stop; rw [upd_hit rfl, upd_hit rfl]
    exact ⟨fun h => h.elim (fun q => absurd q hv) Eq.symm, fun h => Or.inr h.symm⟩
  -- the id itself
  have self : own_Fst (oupd f (own_S a k) a) (oupd g (own_S a k) v) a k :=
    ⟨hF.1, (on a).mpr rfl, fun j hj q => hF.2.2 j hj ((off a _ (fun e => absurd (own_Sinj (Nat.lt_trans hj hF.1) hF.1 e) (Nat.ne_of_lt hj))).mp q)⟩
  -- another id that was found elsewhere
  have other : ∀ x j, x ≠ a → own_Fst f g x j → own_S x j ≠ own_S a k → own_Fst (oupd f (own_S a k) a) (oupd g (own_S a k) v) x j := fun x j hx h hne =>
    ⟨h.1, (off x _ hne).mpr h.2.1, fun i hi q => by
      by_cases e : own_S x i = own_S a k
      · rw [e] at q; exact hx ((on x).mp q)
      · exact h.2.2 i hi ((off x _ e).mp q)⟩
  refine ⟨⟨fun j => if j < N then o j else own_S a k, fun i hi hg => ?_⟩, fun x j hx => ?_, fun i hi hg => ?_⟩
  · by_cases e : i = own_S a k
    · exact ⟨N, Nat.lt_succ_self N, e.trans (if_neg (Nat.lt_irrefl N)).symm⟩
    · rw [upd_miss e] at hg
      obtain ⟨j, hj, ej⟩ := ho i hi hg
      exact ⟨j, Nat.lt_succ_of_lt hj, ej.trans (if_pos hj).symm⟩
  · by_cases e : x = a
    · subst e
      have := own_uniq hx self; subst this
      rw [upd_hit rfl]; exact (if_pos rfl).symm
    · rw [show own_um m a v x = m x from if_neg e]
      have hne : own_S x j ≠ own_S a k := fun q => by
        have := hx.2.1; rw [q] at this; exact e ((on x).mp this)
      rw [upd_miss hne]
      -- the old search of x: it stops at j, or at the place that is taken now
      by_cases hold : own_Fst f g x j
      · exact hl x j hold
      · -- some earlier place stopped it
        have : ∃ i, i < j ∧ own_Stop f g x (own_S x i) := by
          by_cases w : ∃ i, i < j ∧ own_Stop f g x (own_S x i)
          · exact w
          · exact absurd ⟨hx.1, (off x _ hne).mp hx.2.1, fun i hi q => w ⟨i, hi, q⟩⟩ hold
        obtain ⟨i, hi, hsi⟩ := this
        have ei : own_S x i = own_S a k := by
          by_cases w : own_S x i = own_S a k
          · exact w
          · exact absurd ((off x _ w).mpr hsi) (hx.2.2 i hi)
        have fi : own_Fst f g x i := ⟨Nat.lt_trans hi hx.1, hsi, fun i' hi' q => by
          have : own_S x i' ≠ own_S a k := fun w => absurd (own_Sinj (Nat.lt_trans hi' (Nat.lt_trans hi hx.1)) (Nat.lt_trans hi hx.1) (w.trans ei.symm)) (Nat.ne_of_lt hi')
          exact hx.2.2 i' (Nat.lt_trans hi' hi) ((off x _ this).mpr q)⟩
        have gA : g (own_S a k) = own_ABS := by
          rcases hsi with q | q
          · rw [ei] at q; exact q
          · rcases hF.2.1 with r | r
            · exact r
            · rw [ei] at q; exact absurd (q.symm.trans r) e
        have mA : m x = own_ABS := by rw [← hl x i fi, ei]; exact gA
        rw [mA]
        by_cases gj : g (own_S x j) = own_ABS
        · exact gj
        · exfalso
          have fx : f (own_S x j) = x := ((off x _ hne).mp hx.2.1).elim (fun q => absurd q gj) id
          obtain ⟨k', h1, h2⟩ := hs _ (own_Slt x j) gj
          rw [fx] at h1 h2
          have := own_uniq h1 fi; subst this
          exact hne (h2.symm.trans ei)
  · by_cases e : i = own_S a k
    · rw [e, upd_hit rfl]; exact ⟨k, self, rfl⟩
    · rw [upd_miss e] at hg ⊢
      obtain ⟨k', h1, h2⟩ := hs i hi hg
      by_cases q : f i = a
      · rw [q] at h1 h2
        have := own_uniq h1 hF; subst this
        exact absurd h2.symm e
      · exact ⟨k', other _ _ q h1 (by rw [h2]; exact e), h2⟩
theorem own_stop {f g : Nat → Int64} {N : Nat} {m : Int64 → Int64} (t : own_Tb f g N m) (hN : N ≤ 3) (x : Int64) : g (own_h x).toNatClampNeg = own_ABS ∨ g (own_n (own_h x)).toNatClampNeg = own_ABS ∨ g (own_n (own_n (own_h x))).toNatClampNeg = own_ABS ∨ g (own_n (own_n (own_n (own_h x)))).toNatClampNeg = own_ABS := by
  rw [own_S0, own_S1, own_S2, own_S3]; exact own_free t hN x
theorem own_slot {f g : Nat → Int64} {q : Int64} {w : Int32} (h : g (own_h q).toNatClampNeg = own_ABS ∨ g (own_n (own_h q)).toNatClampNeg = own_ABS ∨ g (own_n (own_n (own_h q))).toNatClampNeg = own_ABS ∨ g (own_n (own_n (own_n (own_h q)))).toNatClampNeg = own_ABS) :
    ∃ k, own_Fst f g q k ∧ (fn8 q w f g).toNatClampNeg = own_S q k ∧ 0 ≤ (fn8 q w f g).toInt ∧ (fn8 q w f g).toInt < 1024 := by
  have e : fn8 q w f g = (if g (own_h q).toNatClampNeg = own_ABS then own_h q else if f (own_h q).toNatClampNeg = q then own_h q else if g (own_n (own_h q)).toNatClampNeg = own_ABS then own_n (own_h q) else if f (own_n (own_h q)).toNatClampNeg = q then own_n (own_h q) else if g (own_n (own_n (own_h q))).toNatClampNeg = own_ABS then own_n (own_n (own_h q)) else if f (own_n (own_n (own_h q))).toNatClampNeg = q then own_n (own_n (own_h q)) else own_n (own_n (own_n (own_h q)))) := rfl
  rw [own_S0, own_S1, own_S2] at e
  rw [own_S0, own_S1, own_S2, own_S3] at h
  rw [e]
  have hb1 := (own_nn (own_hb q)).2
  have hb2 := (own_nn hb1).2
  have hb3 := (own_nn hb2).2
  by_cases a0 : g (own_S q 0) = own_ABS
  · rw [if_pos a0]; exact ⟨0, ⟨by decide, Or.inl a0, fun j hj => absurd hj (Nat.not_lt_zero _)⟩, own_S0 q, own_hb q⟩
  rw [if_neg a0]
  by_cases b0 : f (own_S q 0) = q
  · rw [if_pos b0]; exact ⟨0, ⟨by decide, Or.inr b0, fun j hj => absurd hj (Nat.not_lt_zero _)⟩, own_S0 q, own_hb q⟩
  rw [if_neg b0]
  have n0 : ¬ own_Stop f g q (own_S q 0) := fun z => z.elim a0 b0
  have l1 : ∀ j, j < 1 → ¬ own_Stop f g q (own_S q j) := fun j hj => by obtain rfl : j = 0 := by omega
                                                                        exact n0
  by_cases a1 : g (own_S q 1) = own_ABS
  · rw [if_pos a1]; exact ⟨1, ⟨by decide, Or.inl a1, l1⟩, own_S1 q, hb1⟩
  rw [if_neg a1]
  by_cases b1 : f (own_S q 1) = q
  · rw [if_pos b1]; exact ⟨1, ⟨by decide, Or.inr b1, l1⟩, own_S1 q, hb1⟩
  rw [if_neg b1]
  have n1 : ¬ own_Stop f g q (own_S q 1) := fun z => z.elim a1 b1
  have l2 : ∀ j, j < 2 → ¬ own_Stop f g q (own_S q j) := fun j hj => by
    rcases (show j = 0 ∨ j = 1 by omega) with rfl | rfl
    · exact n0
    · exact n1
  by_cases a2 : g (own_S q 2) = own_ABS
  · rw [if_pos a2]; exact ⟨2, ⟨by decide, Or.inl a2, l2⟩, own_S2 q, hb2⟩
  rw [if_neg a2]
  by_cases b2 : f (own_S q 2) = q
  · rw [if_pos b2]; exact ⟨2, ⟨by decide, Or.inr b2, l2⟩, own_S2 q, hb2⟩
  rw [if_neg b2]
  have n2 : ¬ own_Stop f g q (own_S q 2) := fun z => z.elim a2 b2
  have l3 : ∀ j, j < 3 → ¬ own_Stop f g q (own_S q j) := fun j hj => by
    rcases (show j = 0 ∨ j = 1 ∨ j = 2 by omega) with rfl | rfl | rfl
    · exact n0
    · exact n1
    · exact n2
  exact ⟨3, ⟨by decide, Or.inl (own_4 h a0 a1 a2), l3⟩, own_S3 q, hb3⟩
theorem own_sb {f g : Nat → Int64} {q : Int64} {w : Int32} (h : g (own_h q).toNatClampNeg = own_ABS ∨ g (own_n (own_h q)).toNatClampNeg = own_ABS ∨ g (own_n (own_n (own_h q))).toNatClampNeg = own_ABS ∨ g (own_n (own_n (own_n (own_h q)))).toNatClampNeg = own_ABS) : 0 ≤ (fn8 q w f g).toInt ∧ (fn8 q w f g).toInt < 1024 := by
  obtain ⟨k, -, -, h1, h2⟩ := own_slot (f := f) (w := w) h
  exact ⟨h1, h2⟩
theorem own_get {f g : Nat → Int64} {N : Nat} {m : Int64 → Int64} (t : own_Tb f g N m) (hN : N ≤ 3) (q : Int64) (w : Int32) : g (fn8 q w f g).toNatClampNeg = m q := by
  obtain ⟨k, hF, hS, -, -⟩ := own_slot (f := f) (w := w) (own_stop t hN q)
  rw [hS]; exact t.2.1 q k hF
theorem own_cap {w : Int32} {N : Nat} (hN : N ≤ 2) (h : 0 ≤ w.toInt ∧ w.toInt ≤ N) : ¬ ((1024 : Int32) < ((2 : Int32) * (w + (1 : Int32)))) := by
  have a := c_iadd w 1
  have b := rng32 (w + 1)
  have c := c_imul 2 (w + 1)
  have d := rng32 (2 * (w + 1))
  have e1 : (1 : Int32).toInt = 1 := rfl
  have e2 : (2 : Int32).toInt = 2 := rfl
  have e3 : (1024 : Int32).toInt = 1024 := rfl
  rw [Int32.lt_iff_toInt_lt, e3]
  rw [e2] at c
  omega
theorem own_sz {w v : Int32} {N : Nat} {c : Prop} [Decidable c] (hN : N ≤ 2) (h : 0 ≤ w.toInt ∧ w.toInt ≤ N) (hv : v = if c then w + (1 : Int32) else w) : 0 ≤ v.toInt ∧ v.toInt ≤ ((N + 1 : Nat) : Int) := by
  have a := c_iadd w 1
  have b := rng32 (w + 1)
  have e1 : (1 : Int32).toInt = 1 := rfl
  rw [hv]; split <;> omega
theorem d9_0 : decode prog_7_method_3_code 0 = .ok (.aload_n 0, 1) := by decide +kernel
theorem d9_1 : decode prog_7_method_3_code 1 = .ok (.getfield 30, 3) := by decide +kernel
theorem d9_4 : decode prog_7_method_3_code 4 = .ok (.aload_n 0, 1) := by decide +kernel
theorem d9_5 : decode prog_7_method_3_code 5 = .ok (.lload_n 1, 1) := by decide +kernel
theorem d9_6 : decode prog_7_method_3_code 6 = .ok (.invokevirtual 26, 3) := by decide +kernel
theorem d9_9 : decode prog_7_method_3_code 9 = .ok (.laload, 1) := by decide +kernel
theorem d9_10 : decode prog_7_method_3_code 10 = .ok (.lreturn, 1) := by decide +kernel
theorem pd9_4 : parseMethodDescriptor "(J)I" = some ⟨[.long], some .int⟩ := by decide +kernel
theorem ef_9 (m : MethodId) (a1 : Addr) (q2 : Int64) : entryFrame m #[(.ref a1), (.long q2)] 3 = mkF m 0 #[.val (.ref a1), .val (.long q2), .second] [] := by first | (simp [entryFrame, mkF, argsToLocals, Value.category]; done) | rfl
def Q9 (Z : State) (a1 : Addr) (q2 : Int64) (b1 : Addr) (b2 : Addr) (w_size : Int32) (f : Nat → Int64) (g : Nat → Int64) (N : Nat) (mm : Int64 → Int64) (h0 : Heap) (n0 : Nat) : Option Value → Heap → List Loc → Prop := fun v h L => v = some (Value.long (mm q2)) ∧ Fr n0 L ∧ h = h0
def room9 : Room := { frames := 1, cells := 0, slots := 0, locals := 17 }
set_option maxRecDepth 65536 in
set_option maxHeartbeats 40000000 in
theorem rm9 (l : Launch) (Z : State) (a0 : Array Value) (hw : ∀ d ∈ tables_1, d.before a0 Z = true) (a1 : Addr) (q2 : Int64) (b1 : Addr) (b2 : Addr) (w_size : Int32) (f : Nat → Int64) (g : Nat → Int64) (N : Nat) (mm : Int64 → Int64) (h0 : Heap) (n0 : Nat) (R_a1 : Idt Z h0 a1 (.ref b1) (.ref b2) (54 : Int32) w_size) (R_b1 : LA Z h0 b1 (1024 : Int32) f) (R_b2 : LA Z h0 b2 (1024 : Int32) g) (ht : own_Tb f g N mm) (hN : N ≤ 3) : Ctr l Z (⟨"com/example/tour/tour/io/IdTable", "get", "(J)J"⟩ : MethodName) prog_7_method_3_code 3 (some .long) room9 #[(.ref a1), (.long q2)] h0 (Q9 Z a1 q2 b1 b2 w_size f g N mm h0 n0) := by
  refine Ctr.of (plainFor_of_name pn_5) ?_
  intro p e s m below meth c s₁ hx hby hml hown hnm hret hlk hZ e0 X0
  have hown : s.vm.findClass "com/example/tour/tour/io/IdTable" = some m.cls := hown
  have hml : c.maxLocals = 3 := hml
  have hnm : meth.name = "get" := hnm
  have hret : meth.sig.returnType = (some .long) := hret
  have N0 := Fr.nil n0
  refine Till.cast (ef_9 m a1 q2) ?_
  show Till p e below s (Q9 Z a1 q2 b1 b2 w_size f g N mm h0 n0) room9.cells room9.slots (s₁.setTop (mkF m 0 #[.val (.ref a1), .val (.long q2), .second] []))
  refine Till.pre (fun _ hr => XS.aloadN X0.here hx rfl (hb hby d9_0) rfl rfl hr) ?_
  show Till p e below s (Q9 Z a1 q2 b1 b2 w_size f g N mm h0 n0) room9.cells room9.slots (s₁.setTop (mkF m 1 #[.val (.ref a1), .val (.long q2), .second] [(.ref a1)]))
  refine Till.getF X0 hx hZ hown (hw _ (List.mem_of_getElem? (i := 29) rfl)) e0 R_a1.2.2.1 (hb hby d9_1) (fun T1 X2 e3 => ?_)
  show Till p e below s (Q9 Z a1 q2 b1 b2 w_size f g N mm h0 n0) room9.cells room9.slots (T1.setTop (mkF m 4 #[.val (.ref a1), .val (.long q2), .second] [(.ref b2)]))
  refine Till.pre (fun _ hr => XS.aloadN X2.here hx rfl (hb hby d9_4) rfl rfl hr) ?_
  show Till p e below s (Q9 Z a1 q2 b1 b2 w_size f g N mm h0 n0) room9.cells room9.slots (T1.setTop (mkF m 5 #[.val (.ref a1), .val (.long q2), .second] [(.ref a1), (.ref b2)]))
  refine Till.pre (fun _ hr => XS.lloadN X2.here hx rfl (hb hby d9_5) rfl hr) ?_
  show Till p e below s (Q9 Z a1 q2 b1 b2 w_size f g N mm h0 n0) room9.cells room9.slots (T1.setTop (mkF m 6 #[.val (.ref a1), .val (.long q2), .second] [(.long q2), (.ref a1), (.ref b2)]))
  refine Till.callP (rm8 l Z a0 hw a1 q2 b1 b2 w_size f g h0 n0 R_a1 R_b1 R_b2 (own_stop ht hN q2)) R_a1.1 X2 hx hZ hown (hw _ (List.mem_of_getElem? (i := 45) rfl)) (hw _ (List.mem_of_getElem? (i := 46) rfl)) (hw _ (List.mem_of_getElem? (i := 47) rfl)) (hw _ (List.mem_of_getElem? (i := 14) rfl)) (hw _ (List.mem_of_getElem? (i := 15) rfl)) (hw _ (List.mem_of_getElem? (i := 48) rfl)) (by decide) (by decide) (W := 1) (by decide) (by rw [hml]; rfl) (a := a1) (argsL := [(.long q2)]) (rest := [(.ref b2)]) (lenOf pd9_4 rfl) rfl rfl (Nat.le_of_eq rfl) (hb hby d9_6) e3 (by decide) (by decide) ?_
  rintro _ T4 L5 X6 ⟨rfl, N7, e8⟩
  have N7 := Fr.app N0 N7
  show Till p e below s (Q9 Z a1 q2 b1 b2 w_size f g N mm h0 n0) room9.cells room9.slots (T4.setTop (mkF m 9 #[.val (.ref a1), .val (.long q2), .second] [(.int (fn8 q2 w_size f g)), (.ref b2)]))
  refine Till.laload R_b2 (own_b1 (own_sb (own_stop ht hN q2))) (own_b2 (own_sb (own_stop ht hN q2))) X6 hx hZ e8 (hb hby d9_9) ?_
  show Till p e below s (Q9 Z a1 q2 b1 b2 w_size f g N mm h0 n0) room9.cells room9.slots (T4.setTop (mkF m 10 #[.val (.ref a1), .val (.long q2), .second] [(.long (g ((fn8 q2 w_size f g)).toNatClampNeg))]))
  refine Till.retJ X6 hx hret hlk (hb hby d9_10) (by decide) (by decide) ?_
  exact ⟨congrArg (fun z => some (Value.long z)) (own_get ht hN q2 w_size), N7, e8⟩
theorem d7_0 : decode prog_7_method_2_code 0 = .ok (.iconst 2, 1) := by decide +kernel
theorem d7_1 : decode prog_7_method_2_code 1 = .ok (.aload_n 0, 1) := by decide +kernel
theorem d7_2 : decode prog_7_method_2_code 2 = .ok (.getfield 15, 3) := by decide +kernel
theorem d7_5 : decode prog_7_method_2_code 5 = .ok (.iconst 1, 1) := by decide +kernel
theorem d7_6 : decode prog_7_method_2_code 6 = .ok (.iadd, 1) := by decide +kernel
theorem d7_7 : decode prog_7_method_2_code 7 = .ok (.imul, 1) := by decide +kernel
theorem d7_8 : decode prog_7_method_2_code 8 = .ok (.aload_n 0, 1) := by decide +kernel
theorem d7_9 : decode prog_7_method_2_code 9 = .ok (.getfield 19, 3) := by decide +kernel
theorem d7_12 : decode prog_7_method_2_code 12 = .ok (.arraylength, 1) := by decide +kernel
theorem d7_13 : decode prog_7_method_2_code 13 = .ok (.if_icmp .le 7, 3) := by decide +kernel
theorem d7_20 : decode prog_7_method_2_code 20 = .ok (.aload_n 0, 1) := by decide +kernel
theorem d7_21 : decode prog_7_method_2_code 21 = .ok (.lload_n 1, 1) := by decide +kernel
theorem d7_22 : decode prog_7_method_2_code 22 = .ok (.invokevirtual 26, 3) := by decide +kernel
theorem d7_25 : decode prog_7_method_2_code 25 = .ok (.istore 5, 2) := by decide +kernel
theorem d7_27 : decode prog_7_method_2_code 27 = .ok (.aload_n 0, 1) := by decide +kernel
theorem d7_28 : decode prog_7_method_2_code 28 = .ok (.getfield 30, 3) := by decide +kernel
theorem d7_31 : decode prog_7_method_2_code 31 = .ok (.iload 5, 2) := by decide +kernel
theorem d7_33 : decode prog_7_method_2_code 33 = .ok (.laload, 1) := by decide +kernel
theorem d7_34 : decode prog_7_method_2_code 34 = .ok (.ldc2_w 33, 3) := by decide +kernel
theorem d7_37 : decode prog_7_method_2_code 37 = .ok (.lcmp, 1) := by decide +kernel
theorem d7_38 : decode prog_7_method_2_code 38 = .ok (.ifCond .ne 13, 3) := by decide +kernel
theorem d7_41 : decode prog_7_method_2_code 41 = .ok (.aload_n 0, 1) := by decide +kernel
theorem d7_42 : decode prog_7_method_2_code 42 = .ok (.dup, 1) := by decide +kernel
theorem d7_43 : decode prog_7_method_2_code 43 = .ok (.getfield 15, 3) := by decide +kernel
theorem d7_46 : decode prog_7_method_2_code 46 = .ok (.iconst 1, 1) := by decide +kernel
theorem d7_47 : decode prog_7_method_2_code 47 = .ok (.iadd, 1) := by decide +kernel
theorem d7_48 : decode prog_7_method_2_code 48 = .ok (.putfield 15, 3) := by decide +kernel
theorem d7_51 : decode prog_7_method_2_code 51 = .ok (.aload_n 0, 1) := by decide +kernel
theorem d7_52 : decode prog_7_method_2_code 52 = .ok (.getfield 19, 3) := by decide +kernel
theorem d7_55 : decode prog_7_method_2_code 55 = .ok (.iload 5, 2) := by decide +kernel
theorem d7_57 : decode prog_7_method_2_code 57 = .ok (.lload_n 1, 1) := by decide +kernel
theorem d7_58 : decode prog_7_method_2_code 58 = .ok (.lastore, 1) := by decide +kernel
theorem d7_59 : decode prog_7_method_2_code 59 = .ok (.aload_n 0, 1) := by decide +kernel
theorem d7_60 : decode prog_7_method_2_code 60 = .ok (.getfield 30, 3) := by decide +kernel
theorem d7_63 : decode prog_7_method_2_code 63 = .ok (.iload 5, 2) := by decide +kernel
theorem d7_65 : decode prog_7_method_2_code 65 = .ok (.lload_n 3, 1) := by decide +kernel
theorem d7_66 : decode prog_7_method_2_code 66 = .ok (.lastore, 1) := by decide +kernel
theorem d7_67 : decode prog_7_method_2_code 67 = .ok (.return_, 1) := by decide +kernel
theorem pd7_4 : parseMethodDescriptor "(J)I" = some ⟨[.long], some .int⟩ := by decide +kernel
theorem ef_7 (m : MethodId) (a1 : Addr) (q2 : Int64) (q3 : Int64) : entryFrame m #[(.ref a1), (.long q2), (.long q3)] 6 = mkF m 0 #[.val (.ref a1), .val (.long q2), .second, .val (.long q3), .second, .unset] [] := by first | (simp [entryFrame, mkF, argsToLocals, Value.category]; done) | rfl
def Q7 (Z : State) (a1 : Addr) (q2 : Int64) (q3 : Int64) (b1 : Addr) (b2 : Addr) (w_size : Int32) (f : Nat → Int64) (g : Nat → Int64) (N : Nat) (mm : Int64 → Int64) (h0 : Heap) (n0 : Nat) : Option Value → Heap → List Loc → Prop := fun v h L => ∃ (f' g' : Nat → Int64) (w' : Int32), v = none ∧ Fr n0 L ∧ Keep h0 h [a1, b1, b2] ∧ Idt Z h a1 (.ref b1) (.ref b2) (54 : Int32) w' ∧ LA Z h b1 (1024 : Int32) f' ∧ LA Z h b2 (1024 : Int32) g' ∧ own_Tb f' g' (N + 1) (own_um mm q2 q3) ∧ (0 ≤ w'.toInt ∧ w'.toInt ≤ ((N + 1 : Nat) : Int))
def room7 : Room := { frames := 1, cells := 0, slots := 0, locals := 16 }
set_option maxRecDepth 65536 in
set_option maxHeartbeats 40000000 in
theorem rm7 (l : Launch) (Z : State) (a0 : Array Value) (hw : ∀ d ∈ tables_1, d.before a0 Z = true) (a1 : Addr) (q2 : Int64) (q3 : Int64) (b1 : Addr) (b2 : Addr) (w_size : Int32) (f : Nat → Int64) (g : Nat → Int64) (N : Nat) (mm : Int64 → Int64) (h0 : Heap) (n0 : Nat) (Zs : n0 ≤ h0.size) (R_a1 : Idt Z h0 a1 (.ref b1) (.ref b2) (54 : Int32) w_size) (R_b1 : LA Z h0 b1 (1024 : Int32) f) (R_b2 : LA Z h0 b2 (1024 : Int32) g) (g_a1 : n0 ≤ a1) (g_b1 : n0 ≤ b1) (g_b2 : n0 ≤ b2) (ne_a1_b1 : a1 ≠ b1) (ne_a1_b2 : a1 ≠ b2) (ne_b1_b2 : b1 ≠ b2) (ht : own_Tb f g N mm) (hN : N ≤ 2) (hsz : 0 ≤ w_size.toInt ∧ w_size.toInt ≤ (N : Int)) (hv : q3 ≠ own_ABS) : Ctr l Z (⟨"com/example/tour/tour/io/IdTable", "put", "(JJ)V"⟩ : MethodName) prog_7_method_2_code 6 none room7 #[(.ref a1), (.long q2), (.long q3)] h0 (Q7 Z a1 q2 q3 b1 b2 w_size f g N mm h0 n0) := by
  refine Ctr.of (plainFor_of_name pn_5) ?_
  intro p e s m below meth c s₁ hx hby hml hown hnm hret hlk hZ e0 X0
  have hown : s.vm.findClass "com/example/tour/tour/io/IdTable" = some m.cls := hown
  have hml : c.maxLocals = 6 := hml
  have hnm : meth.name = "put" := hnm
  have hret : meth.sig.returnType = none := hret
  have N0 := Fr.nil n0
  refine Till.cast (ef_7 m a1 q2 q3) ?_
  have Kp := Keep.refl h0 [a1, b1, b2]
  show Till p e below s (Q7 Z a1 q2 q3 b1 b2 w_size f g N mm h0 n0) room7.cells room7.slots (s₁.setTop (mkF m 0 #[.val (.ref a1), .val (.long q2), .second, .val (.long q3), .second, .unset] []))
  refine Till.pre (fun _ hr => XS.iconst X0.here hx rfl (hb hby d7_0) hr) ?_
  show Till p e below s (Q7 Z a1 q2 q3 b1 b2 w_size f g N mm h0 n0) room7.cells room7.slots (s₁.setTop (mkF m 1 #[.val (.ref a1), .val (.long q2), .second, .val (.long q3), .second, .unset] [(.int (2 : Int32))]))
  refine Till.pre (fun _ hr => XS.aloadN X0.here hx rfl (hb hby d7_1) rfl rfl hr) ?_
  show Till p e below s (Q7 Z a1 q2 q3 b1 b2 w_size f g N mm h0 n0) room7.cells room7.slots (s₁.setTop (mkF m 2 #[.val (.ref a1), .val (.long q2), .second, .val (.long q3), .second, .unset] [(.ref a1), (.int (2 : Int32))]))
  refine Till.getF X0 hx hZ hown (hw _ (List.mem_of_getElem? (i := 43) rfl)) e0 R_a1.2.2.2.2 (hb hby d7_2) (fun T1 X2 e3 => ?_)
  show Till p e below s (Q7 Z a1 q2 q3 b1 b2 w_size f g N mm h0 n0) room7.cells room7.slots (T1.setTop (mkF m 5 #[.val (.ref a1), .val (.long q2), .second, .val (.long q3), .second, .unset] [(.int w_size), (.int (2 : Int32))]))
  refine Till.pre (fun _ hr => XS.iconst X2.here hx rfl (hb hby d7_5) hr) ?_
  show Till p e below s (Q7 Z a1 q2 q3 b1 b2 w_size f g N mm h0 n0) room7.cells room7.slots (T1.setTop (mkF m 6 #[.val (.ref a1), .val (.long q2), .second, .val (.long q3), .second, .unset] [(.int (1 : Int32)), (.int w_size), (.int (2 : Int32))]))
  refine Till.pre (fun _ hr => XS.iadd X2.here hx rfl (hb hby d7_6) rfl hr) ?_
  show Till p e below s (Q7 Z a1 q2 q3 b1 b2 w_size f g N mm h0 n0) room7.cells room7.slots (T1.setTop (mkF m 7 #[.val (.ref a1), .val (.long q2), .second, .val (.long q3), .second, .unset] [(.int (w_size + (1 : Int32))), (.int (2 : Int32))]))
  refine Till.pre (fun _ hr => XS.imul X2.here hx rfl (hb hby d7_7) rfl hr) ?_
  show Till p e below s (Q7 Z a1 q2 q3 b1 b2 w_size f g N mm h0 n0) room7.cells room7.slots (T1.setTop (mkF m 8 #[.val (.ref a1), .val (.long q2), .second, .val (.long q3), .second, .unset] [(.int ((2 : Int32) * (w_size + (1 : Int32))))]))
  refine Till.pre (fun _ hr => XS.aloadN X2.here hx rfl (hb hby d7_8) rfl rfl hr) ?_
  show Till p e below s (Q7 Z a1 q2 q3 b1 b2 w_size f g N mm h0 n0) room7.cells room7.slots (T1.setTop (mkF m 9 #[.val (.ref a1), .val (.long q2), .second, .val (.long q3), .second, .unset] [(.ref a1), (.int ((2 : Int32) * (w_size + (1 : Int32))))]))
  refine Till.getF X2 hx hZ hown (hw _ (List.mem_of_getElem? (i := 27) rfl)) e3 R_a1.2.1 (hb hby d7_9) (fun T4 X5 e6 => ?_)
  show Till p e below s (Q7 Z a1 q2 q3 b1 b2 w_size f g N mm h0 n0) room7.cells room7.slots (T4.setTop (mkF m 12 #[.val (.ref a1), .val (.long q2), .second, .val (.long q3), .second, .unset] [(.ref b1), (.int ((2 : Int32) * (w_size + (1 : Int32))))]))
  refine Till.alen R_b1 X5 hx hZ e6 (hb hby d7_12) ?_
  show Till p e below s (Q7 Z a1 q2 q3 b1 b2 w_size f g N mm h0 n0) room7.cells room7.slots (T4.setTop (mkF m 13 #[.val (.ref a1), .val (.long q2), .second, .val (.long q3), .second, .unset] [(.int (1024 : Int32)), (.int ((2 : Int32) * (w_size + (1 : Int32))))]))
  refine Till.icmp (pc' := 20) X5.here hx (hb hby d7_13) (by decide) (by decide) (fun q => ?_) (fun q => absurd (hLt.2.2.2.2.2.2.2 q) (own_cap hN hsz : ¬ ((1024 : Int32) < ((2 : Int32) * (w_size + (1 : Int32))))))
  show Till p e below s (Q7 Z a1 q2 q3 b1 b2 w_size f g N mm h0 n0) room7.cells room7.slots (T4.setTop (mkF m 20 #[.val (.ref a1), .val (.long q2), .second, .val (.long q3), .second, .unset] []))
  refine Till.pre (fun _ hr => XS.aloadN X5.here hx rfl (hb hby d7_20) rfl rfl hr) ?_
  show Till p e below s (Q7 Z a1 q2 q3 b1 b2 w_size f g N mm h0 n0) room7.cells room7.slots (T4.setTop (mkF m 21 #[.val (.ref a1), .val (.long q2), .second, .val (.long q3), .second, .unset] [(.ref a1)]))
  refine Till.pre (fun _ hr => XS.lloadN X5.here hx rfl (hb hby d7_21) rfl hr) ?_
  show Till p e below s (Q7 Z a1 q2 q3 b1 b2 w_size f g N mm h0 n0) room7.cells room7.slots (T4.setTop (mkF m 22 #[.val (.ref a1), .val (.long q2), .second, .val (.long q3), .second, .unset] [(.long q2), (.ref a1)]))
  refine Till.callP (rm8 l Z a0 hw a1 q2 b1 b2 w_size f g h0 n0 R_a1 R_b1 R_b2 (own_stop ht (Nat.le_trans hN (by decide)) q2)) R_a1.1 X5 hx hZ hown (hw _ (List.mem_of_getElem? (i := 45) rfl)) (hw _ (List.mem_of_getElem? (i := 46) rfl)) (hw _ (List.mem_of_getElem? (i := 47) rfl)) (hw _ (List.mem_of_getElem? (i := 14) rfl)) (hw _ (List.mem_of_getElem? (i := 15) rfl)) (hw _ (List.mem_of_getElem? (i := 48) rfl)) (by decide) (by decide) (W := 0) (by decide) (by rw [hml]; rfl) (a := a1) (argsL := [(.long q2)]) (rest := []) (lenOf pd7_4 rfl) rfl rfl (Nat.le_of_eq rfl) (hb hby d7_22) e6 (by decide) (by decide) ?_
  rintro _ T7 L8 X9 ⟨rfl, N10, e11⟩
  have N10 := Fr.app N0 N10
  show Till p e below s (Q7 Z a1 q2 q3 b1 b2 w_size f g N mm h0 n0) room7.cells room7.slots (T7.setTop (mkF m 25 #[.val (.ref a1), .val (.long q2), .second, .val (.long q3), .second, .unset] [(.int (fn8 q2 w_size f g))]))
  refine Till.pre (fun _ hr => XS.istore X9.here hx rfl (hb hby d7_25) rfl (l' := #[.val (.ref a1), .val (.long q2), .second, .val (.long q3), .second, .val (.int (fn8 q2 w_size f g))]) rfl hr) ?_
  show Till p e below s (Q7 Z a1 q2 q3 b1 b2 w_size f g N mm h0 n0) room7.cells room7.slots (T7.setTop (mkF m 27 #[.val (.ref a1), .val (.long q2), .second, .val (.long q3), .second, .val (.int (fn8 q2 w_size f g))] []))
  refine Till.pre (fun _ hr => XS.aloadN X9.here hx rfl (hb hby d7_27) rfl rfl hr) ?_
  show Till p e below s (Q7 Z a1 q2 q3 b1 b2 w_size f g N mm h0 n0) room7.cells room7.slots (T7.setTop (mkF m 28 #[.val (.ref a1), .val (.long q2), .second, .val (.long q3), .second, .val (.int (fn8 q2 w_size f g))] [(.ref a1)]))
  refine Till.getF X9 hx hZ hown (hw _ (List.mem_of_getElem? (i := 29) rfl)) e11 R_a1.2.2.1 (hb hby d7_28) (fun T12 X13 e14 => ?_)
  show Till p e below s (Q7 Z a1 q2 q3 b1 b2 w_size f g N mm h0 n0) room7.cells room7.slots (T12.setTop (mkF m 31 #[.val (.ref a1), .val (.long q2), .second, .val (.long q3), .second, .val (.int (fn8 q2 w_size f g))] [(.ref b2)]))
  refine Till.pre (fun _ hr => XS.iload X13.here hx rfl (hb hby d7_31) rfl hr) ?_
  show Till p e below s (Q7 Z a1 q2 q3 b1 b2 w_size f g N mm h0 n0) room7.cells room7.slots (T12.setTop (mkF m 33 #[.val (.ref a1), .val (.long q2), .second, .val (.long q3), .second, .val (.int (fn8 q2 w_size f g))] [(.int (fn8 q2 w_size f g)), (.ref b2)]))
  refine Till.laload R_b2 (own_b1 (own_sb (own_stop ht (Nat.le_trans hN (by decide)) q2))) (own_b2 (own_sb (own_stop ht (Nat.le_trans hN (by decide)) q2))) X13 hx hZ e14 (hb hby d7_33) ?_
  show Till p e below s (Q7 Z a1 q2 q3 b1 b2 w_size f g N mm h0 n0) room7.cells room7.slots (T12.setTop (mkF m 34 #[.val (.ref a1), .val (.long q2), .second, .val (.long q3), .second, .val (.int (fn8 q2 w_size f g))] [(.long (g ((fn8 q2 w_size f g)).toNatClampNeg))]))
  refine Till.pre (X13.ldc2Long hx hown (mvT hZ (hw _ (List.mem_of_getElem? (i := 31) rfl))) (g := (mkF m 34 #[.val (.ref a1), .val (.long q2), .second, .val (.long q3), .second, .val (.int (fn8 q2 w_size f g))] [(.long (g ((fn8 q2 w_size f g)).toNatClampNeg))])) rfl (hb hby d7_34)) ?_
  show Till p e below s (Q7 Z a1 q2 q3 b1 b2 w_size f g N mm h0 n0) room7.cells room7.slots (T12.setTop (mkF m 37 #[.val (.ref a1), .val (.long q2), .second, .val (.long q3), .second, .val (.int (fn8 q2 w_size f g))] [(.long (-9223372036854775808 : Int64)), (.long (g ((fn8 q2 w_size f g)).toNatClampNeg))]))
  refine Till.pre (fun _ hr => XS.lcmp X13.here hx rfl (hb hby d7_37) rfl hr) ?_
  show Till p e below s (Q7 Z a1 q2 q3 b1 b2 w_size f g N mm h0 n0) room7.cells room7.slots (T12.setTop (mkF m 38 #[.val (.ref a1), .val (.long q2), .second, .val (.long q3), .second, .val (.int (fn8 q2 w_size f g))] [(.int (lcmpW (g ((fn8 q2 w_size f g)).toNatClampNeg) (-9223372036854775808 : Int64)))]))
  have J51_28 : ∀ (T25 : State) (L26 : List Loc) (X27 : Stand p l e room7 s m #[(.ref a1), (.long q2), (.long q3)] below meth c T25 L26 0 0) (N28 : Fr n0 L26) (Zs : n0 ≤ T25.heap.size) (Kp : Keep h0 T25.heap [a1, b1, b2]) (v51f0_3 : Int32) (hv51f0_3 : v51f0_3 = (if ((g ((fn8 q2 w_size f g)).toNatClampNeg) = (-9223372036854775808 : Int64)) then (w_size + (1 : Int32)) else w_size)) (R_a1 : Idt Z T25.heap a1 (.ref b1) (.ref b2) (54 : Int32) v51f0_3) (R_b1 : LA Z T25.heap b1 (1024 : Int32) f) (R_b2 : LA Z T25.heap b2 (1024 : Int32) g), Till p e below s (Q7 Z a1 q2 q3 b1 b2 w_size f g N mm h0 n0) room7.cells room7.slots (T25.setTop (mkF m 51 #[.val (.ref a1), .val (.long q2), .second, .val (.long q3), .second, .val (.int (fn8 q2 w_size f g))] [])) := by
    intro T25 L26 X27 N28 Zs Kp v51f0_3 hv51f0_3 R_a1 R_b1 R_b2
    show Till p e below s (Q7 Z a1 q2 q3 b1 b2 w_size f g N mm h0 n0) room7.cells room7.slots (T25.setTop (mkF m 51 #[.val (.ref a1), .val (.long q2), .second, .val (.long q3), .second, .val (.int (fn8 q2 w_size f g))] []))
    refine Till.pre (fun _ hr => XS.aloadN X27.here hx rfl (hb hby d7_51) rfl rfl hr) ?_
    show Till p e below s (Q7 Z a1 q2 q3 b1 b2 w_size f g N mm h0 n0) room7.cells room7.slots (T25.setTop (mkF m 52 #[.val (.ref a1), .val (.long q2), .second, .val (.long q3), .second, .val (.int (fn8 q2 w_size f g))] [(.ref a1)]))
    refine Till.getF X27 hx hZ hown (hw _ (List.mem_of_getElem? (i := 27) rfl)) rfl R_a1.2.1 (hb hby d7_52) (fun T30 X31 e32 => ?_)
    show Till p e below s (Q7 Z a1 q2 q3 b1 b2 w_size f g N mm h0 n0) room7.cells room7.slots (T30.setTop (mkF m 55 #[.val (.ref a1), .val (.long q2), .second, .val (.long q3), .second, .val (.int (fn8 q2 w_size f g))] [(.ref b1)]))
    refine Till.pre (fun _ hr => XS.iload X31.here hx rfl (hb hby d7_55) rfl hr) ?_
    show Till p e below s (Q7 Z a1 q2 q3 b1 b2 w_size f g N mm h0 n0) room7.cells room7.slots (T30.setTop (mkF m 57 #[.val (.ref a1), .val (.long q2), .second, .val (.long q3), .second, .val (.int (fn8 q2 w_size f g))] [(.int (fn8 q2 w_size f g)), (.ref b1)]))
    refine Till.pre (fun _ hr => XS.lloadN X31.here hx rfl (hb hby d7_57) rfl hr) ?_
    show Till p e below s (Q7 Z a1 q2 q3 b1 b2 w_size f g N mm h0 n0) room7.cells room7.slots (T30.setTop (mkF m 58 #[.val (.ref a1), .val (.long q2), .second, .val (.long q3), .second, .val (.int (fn8 q2 w_size f g))] [(.long q2), (.int (fn8 q2 w_size f g)), (.ref b1)]))
    refine Till.lastore R_b1 (own_b1 (own_sb (own_stop ht (Nat.le_trans hN (by decide)) q2))) (own_b2 (own_sb (own_stop ht (Nat.le_trans hN (by decide)) q2))) X31 hx hZ e32 (hb hby d7_58) (fun T33 h34 X35 e36 W37 A38 => ?_)
    have N39 := Fr.snoc X35 N28 g_b1
    have R_a1 := R_a1.wr W37 ne_a1_b1
    have R_b2 := R_b2.wr W37 (Ne.symm ne_b1_b2)
    have Zs := Nat.le_trans Zs (Keep.of_wr W37).1
    have Kp := Kp.wr W37 (Or.inl (List.mem_of_getElem? (i := 1) rfl))
    have R_b1 : LA Z h34 b1 (1024 : Int32) (oupd f ((fn8 q2 w_size f g)).toNatClampNeg q2) := A38
    show Till p e below s (Q7 Z a1 q2 q3 b1 b2 w_size f g N mm h0 n0) room7.cells room7.slots (T33.setTop (mkF m 59 #[.val (.ref a1), .val (.long q2), .second, .val (.long q3), .second, .val (.int (fn8 q2 w_size f g))] []))
    refine Till.pre (fun _ hr => XS.aloadN X35.here hx rfl (hb hby d7_59) rfl rfl hr) ?_
    show Till p e below s (Q7 Z a1 q2 q3 b1 b2 w_size f g N mm h0 n0) room7.cells room7.slots (T33.setTop (mkF m 60 #[.val (.ref a1), .val (.long q2), .second, .val (.long q3), .second, .val (.int (fn8 q2 w_size f g))] [(.ref a1)]))
    refine Till.getF X35 hx hZ hown (hw _ (List.mem_of_getElem? (i := 29) rfl)) e36 R_a1.2.2.1 (hb hby d7_60) (fun T40 X41 e42 => ?_)
    show Till p e below s (Q7 Z a1 q2 q3 b1 b2 w_size f g N mm h0 n0) room7.cells room7.slots (T40.setTop (mkF m 63 #[.val (.ref a1), .val (.long q2), .second, .val (.long q3), .second, .val (.int (fn8 q2 w_size f g))] [(.ref b2)]))
    refine Till.pre (fun _ hr => XS.iload X41.here hx rfl (hb hby d7_63) rfl hr) ?_
    show Till p e below s (Q7 Z a1 q2 q3 b1 b2 w_size f g N mm h0 n0) room7.cells room7.slots (T40.setTop (mkF m 65 #[.val (.ref a1), .val (.long q2), .second, .val (.long q3), .second, .val (.int (fn8 q2 w_size f g))] [(.int (fn8 q2 w_size f g)), (.ref b2)]))
    refine Till.pre (fun _ hr => XS.lloadN X41.here hx rfl (hb hby d7_65) rfl hr) ?_
    show Till p e below s (Q7 Z a1 q2 q3 b1 b2 w_size f g N mm h0 n0) room7.cells room7.slots (T40.setTop (mkF m 66 #[.val (.ref a1), .val (.long q2), .second, .val (.long q3), .second, .val (.int (fn8 q2 w_size f g))] [(.long q3), (.int (fn8 q2 w_size f g)), (.ref b2)]))
    refine Till.lastore R_b2 (own_b1 (own_sb (own_stop ht (Nat.le_trans hN (by decide)) q2))) (own_b2 (own_sb (own_stop ht (Nat.le_trans hN (by decide)) q2))) X41 hx hZ e42 (hb hby d7_66) (fun T43 h44 X45 e46 W47 A48 => ?_)
    have N49 := Fr.snoc X45 N39 g_b2
    have R_a1 := R_a1.wr W47 ne_a1_b2
    have R_b1 := R_b1.wr W47 ne_b1_b2
    have Zs := Nat.le_trans Zs (Keep.of_wr W47).1
    have Kp := Kp.wr W47 (Or.inl (List.mem_of_getElem? (i := 2) rfl))
    have R_b2 : LA Z h44 b2 (1024 : Int32) (oupd g ((fn8 q2 w_size f g)).toNatClampNeg q3) := A48
    show Till p e below s (Q7 Z a1 q2 q3 b1 b2 w_size f g N mm h0 n0) room7.cells room7.slots (T43.setTop (mkF m 67 #[.val (.ref a1), .val (.long q2), .second, .val (.long q3), .second, .val (.int (fn8 q2 w_size f g))] []))
    refine Till.retV X45 hx hret hlk (hb hby d7_67) (by decide) (by decide) ?_
    obtain ⟨k, hF, hS, -, -⟩ := own_slot (f := f) (w := w_size) (own_stop ht (Nat.le_trans hN (by decide)) q2)
    rw [hS] at R_b1 R_b2
    show (Q7 Z a1 q2 q3 b1 b2 w_size f g N mm h0 n0) _ T43.heap _
    rw [e46]
    exact ⟨_, _, _, rfl, N49, Kp, R_a1, R_b1, R_b2, own_put ht hF hv, own_sz hN hsz hv51f0_3⟩
  refine Till.ifc (pc' := 51) X13.here hx (hb hby d7_38) (by decide) (by decide) (fun q => ?_) (fun q => ?_)
  · have hc15 := (mt lEq.mpr (hEq.2.2.1 q))
    show Till p e below s (Q7 Z a1 q2 q3 b1 b2 w_size f g N mm h0 n0) room7.cells room7.slots (T12.setTop (mkF m 51 #[.val (.ref a1), .val (.long q2), .second, .val (.long q3), .second, .val (.int (fn8 q2 w_size f g))] []))
    exact J51_28 _ _ X13 N10 (by rw [e14]; exact Zs) (by rw [e14]; exact Kp) _ (Eq.symm (if_neg hc15)) (by rw [e14]; exact R_a1) (by rw [e14]; exact R_b1) (by rw [e14]; exact R_b2)
  · have hc15 := (lEq.mp (hEq.2.2.2 q))
    show Till p e below s (Q7 Z a1 q2 q3 b1 b2 w_size f g N mm h0 n0) room7.cells room7.slots (T12.setTop (mkF m 41 #[.val (.ref a1), .val (.long q2), .second, .val (.long q3), .second, .val (.int (fn8 q2 w_size f g))] []))
    refine Till.pre (fun _ hr => XS.aloadN X13.here hx rfl (hb hby d7_41) rfl rfl hr) ?_
    show Till p e below s (Q7 Z a1 q2 q3 b1 b2 w_size f g N mm h0 n0) room7.cells room7.slots (T12.setTop (mkF m 42 #[.val (.ref a1), .val (.long q2), .second, .val (.long q3), .second, .val (.int (fn8 q2 w_size f g))] [(.ref a1)]))
    refine Till.pre (fun _ hr => XS.dup X13.here hx rfl (hb hby d7_42) rfl rfl hr) ?_
    show Till p e below s (Q7 Z a1 q2 q3 b1 b2 w_size f g N mm h0 n0) room7.cells room7.slots (T12.setTop (mkF m 43 #[.val (.ref a1), .val (.long q2), .second, .val (.long q3), .second, .val (.int (fn8 q2 w_size f g))] [(.ref a1), (.ref a1)]))
    refine Till.getF X13 hx hZ hown (hw _ (List.mem_of_getElem? (i := 43) rfl)) e14 R_a1.2.2.2.2 (hb hby d7_43) (fun T16 X17 e18 => ?_)
    show Till p e below s (Q7 Z a1 q2 q3 b1 b2 w_size f g N mm h0 n0) room7.cells room7.slots (T16.setTop (mkF m 46 #[.val (.ref a1), .val (.long q2), .second, .val (.long q3), .second, .val (.int (fn8 q2 w_size f g))] [(.int w_size), (.ref a1)]))
    refine Till.pre (fun _ hr => XS.iconst X17.here hx rfl (hb hby d7_46) hr) ?_
    show Till p e below s (Q7 Z a1 q2 q3 b1 b2 w_size f g N mm h0 n0) room7.cells room7.slots (T16.setTop (mkF m 47 #[.val (.ref a1), .val (.long q2), .second, .val (.long q3), .second, .val (.int (fn8 q2 w_size f g))] [(.int (1 : Int32)), (.int w_size), (.ref a1)]))
    refine Till.pre (fun _ hr => XS.iadd X17.here hx rfl (hb hby d7_47) rfl hr) ?_
    show Till p e below s (Q7 Z a1 q2 q3 b1 b2 w_size f g N mm h0 n0) room7.cells room7.slots (T16.setTop (mkF m 48 #[.val (.ref a1), .val (.long q2), .second, .val (.long q3), .second, .val (.int (fn8 q2 w_size f g))] [(.int (w_size + (1 : Int32))), (.ref a1)]))
    refine Till.putF X17 hx hZ hown (hw _ (List.mem_of_getElem? (i := 43) rfl)) e18 R_a1.2.2.2.2 R_a1.1 (Or.inl (hw _ (List.mem_of_getElem? (i := 44) rfl))) (hw _ (List.mem_of_getElem? (i := 14) rfl)) (ty := .int) (by decide) rfl rfl (hb hby d7_48) (fun T19 h20 X21 e22 W23 => ?_)
    have N24 := Fr.snoc X21 N10 g_a1
    have R_b1 := R_b1.wr W23 (Ne.symm ne_a1_b1)
    have R_b2 := R_b2.wr W23 (Ne.symm ne_a1_b2)
    have Zs := Nat.le_trans Zs (Keep.of_wr W23).1
    have Kp := Kp.wr W23 (Or.inl (List.mem_of_getElem? (i := 0) rfl))
    have R_a1 := Idt.set_size hw R_a1 W23
    show Till p e below s (Q7 Z a1 q2 q3 b1 b2 w_size f g N mm h0 n0) room7.cells room7.slots (T19.setTop (mkF m 51 #[.val (.ref a1), .val (.long q2), .second, .val (.long q3), .second, .val (.int (fn8 q2 w_size f g))] []))
    exact J51_28 _ _ X21 N24 (by rw [e22]; exact Zs) (by rw [e22]; exact Kp) _ (Eq.symm (if_pos hc15)) (by rw [e22]; exact R_a1) (by rw [e22]; exact R_b1) (by rw [e22]; exact R_b2)
theorem d1_0 : decode method_2_code 0 = .ok (.ldc2_w 7, 3) := by decide +kernel
theorem d1_3 : decode method_2_code 3 = .ok (.lstore_n 0, 1) := by decide +kernel
theorem d1_4 : decode method_2_code 4 = .ok (.lload_n 0, 1) := by decide +kernel
theorem d1_5 : decode method_2_code 5 = .ok (.lstore_n 2, 1) := by decide +kernel
theorem d1_6 : decode method_2_code 6 = .ok (.lload_n 2, 1) := by decide +kernel
theorem d1_7 : decode method_2_code 7 = .ok (.ldc2_w 9, 3) := by decide +kernel
theorem d1_10 : decode method_2_code 10 = .ok (.lload_n 0, 1) := by decide +kernel
theorem d1_11 : decode method_2_code 11 = .ok (.lload_n 2, 1) := by decide +kernel
theorem d1_12 : decode method_2_code 12 = .ok (.lmul, 1) := by decide +kernel
theorem d1_13 : decode method_2_code 13 = .ok (.lsub, 1) := by decide +kernel
theorem d1_14 : decode method_2_code 14 = .ok (.lmul, 1) := by decide +kernel
theorem d1_15 : decode method_2_code 15 = .ok (.lstore_n 2, 1) := by decide +kernel
theorem d1_16 : decode method_2_code 16 = .ok (.lload_n 2, 1) := by decide +kernel
theorem d1_17 : decode method_2_code 17 = .ok (.ldc2_w 9, 3) := by decide +kernel
theorem d1_20 : decode method_2_code 20 = .ok (.lload_n 0, 1) := by decide +kernel
theorem d1_21 : decode method_2_code 21 = .ok (.lload_n 2, 1) := by decide +kernel
theorem d1_22 : decode method_2_code 22 = .ok (.lmul, 1) := by decide +kernel
theorem d1_23 : decode method_2_code 23 = .ok (.lsub, 1) := by decide +kernel
theorem d1_24 : decode method_2_code 24 = .ok (.lmul, 1) := by decide +kernel
theorem d1_25 : decode method_2_code 25 = .ok (.lstore_n 2, 1) := by decide +kernel
theorem d1_26 : decode method_2_code 26 = .ok (.lload_n 2, 1) := by decide +kernel
theorem d1_27 : decode method_2_code 27 = .ok (.ldc2_w 9, 3) := by decide +kernel
theorem d1_30 : decode method_2_code 30 = .ok (.lload_n 0, 1) := by decide +kernel
theorem d1_31 : decode method_2_code 31 = .ok (.lload_n 2, 1) := by decide +kernel
theorem d1_32 : decode method_2_code 32 = .ok (.lmul, 1) := by decide +kernel
theorem d1_33 : decode method_2_code 33 = .ok (.lsub, 1) := by decide +kernel
theorem d1_34 : decode method_2_code 34 = .ok (.lmul, 1) := by decide +kernel
theorem d1_35 : decode method_2_code 35 = .ok (.lstore_n 2, 1) := by decide +kernel
theorem d1_36 : decode method_2_code 36 = .ok (.lload_n 2, 1) := by decide +kernel
theorem d1_37 : decode method_2_code 37 = .ok (.ldc2_w 9, 3) := by decide +kernel
theorem d1_40 : decode method_2_code 40 = .ok (.lload_n 0, 1) := by decide +kernel
theorem d1_41 : decode method_2_code 41 = .ok (.lload_n 2, 1) := by decide +kernel
theorem d1_42 : decode method_2_code 42 = .ok (.lmul, 1) := by decide +kernel
theorem d1_43 : decode method_2_code 43 = .ok (.lsub, 1) := by decide +kernel
theorem d1_44 : decode method_2_code 44 = .ok (.lmul, 1) := by decide +kernel
theorem d1_45 : decode method_2_code 45 = .ok (.lstore_n 2, 1) := by decide +kernel
theorem d1_46 : decode method_2_code 46 = .ok (.lload_n 2, 1) := by decide +kernel
theorem d1_47 : decode method_2_code 47 = .ok (.ldc2_w 9, 3) := by decide +kernel
theorem d1_50 : decode method_2_code 50 = .ok (.lload_n 0, 1) := by decide +kernel
theorem d1_51 : decode method_2_code 51 = .ok (.lload_n 2, 1) := by decide +kernel
theorem d1_52 : decode method_2_code 52 = .ok (.lmul, 1) := by decide +kernel
theorem d1_53 : decode method_2_code 53 = .ok (.lsub, 1) := by decide +kernel
theorem d1_54 : decode method_2_code 54 = .ok (.lmul, 1) := by decide +kernel
theorem d1_55 : decode method_2_code 55 = .ok (.lstore_n 2, 1) := by decide +kernel
theorem d1_56 : decode method_2_code 56 = .ok (.lload_n 2, 1) := by decide +kernel
theorem d1_57 : decode method_2_code 57 = .ok (.lreturn, 1) := by decide +kernel
theorem pn_1 : plainName "com/example/tour/tour/io/IdTablePutPinLaw" = true := by first | (simp [plainName, overriddenIn]; done) | decide +kernel
theorem ef_1 (m : MethodId)  : entryFrame m #[] 4 = mkF m 0 #[.unset, .unset, .unset, .unset] [] := by first | (simp [entryFrame, mkF, argsToLocals, Value.category]; done) | rfl
def fn1  : Int64 := ((((((-7046029254386353131 : Int64) * ((2 : Int64) - ((-7046029254386353131 : Int64) * (-7046029254386353131 : Int64)))) * ((2 : Int64) - ((-7046029254386353131 : Int64) * ((-7046029254386353131 : Int64) * ((2 : Int64) - ((-7046029254386353131 : Int64) * (-7046029254386353131 : Int64))))))) * ((2 : Int64) - ((-7046029254386353131 : Int64) * (((-7046029254386353131 : Int64) * ((2 : Int64) - ((-7046029254386353131 : Int64) * (-7046029254386353131 : Int64)))) * ((2 : Int64) - ((-7046029254386353131 : Int64) * ((-7046029254386353131 : Int64) * ((2 : Int64) - ((-7046029254386353131 : Int64) * (-7046029254386353131 : Int64)))))))))) * ((2 : Int64) - ((-7046029254386353131 : Int64) * ((((-7046029254386353131 : Int64) * ((2 : Int64) - ((-7046029254386353131 : Int64) * (-7046029254386353131 : Int64)))) * ((2 : Int64) - ((-7046029254386353131 : Int64) * ((-7046029254386353131 : Int64) * ((2 : Int64) - ((-7046029254386353131 : Int64) * (-7046029254386353131 : Int64))))))) * ((2 : Int64) - ((-7046029254386353131 : Int64) * (((-7046029254386353131 : Int64) * ((2 : Int64) - ((-7046029254386353131 : Int64) * (-7046029254386353131 : Int64)))) * ((2 : Int64) - ((-7046029254386353131 : Int64) * ((-7046029254386353131 : Int64) * ((2 : Int64) - ((-7046029254386353131 : Int64) * (-7046029254386353131 : Int64))))))))))))) * ((2 : Int64) - ((-7046029254386353131 : Int64) * (((((-7046029254386353131 : Int64) * ((2 : Int64) - ((-7046029254386353131 : Int64) * (-7046029254386353131 : Int64)))) * ((2 : Int64) - ((-7046029254386353131 : Int64) * ((-7046029254386353131 : Int64) * ((2 : Int64) - ((-7046029254386353131 : Int64) * (-7046029254386353131 : Int64))))))) * ((2 : Int64) - ((-7046029254386353131 : Int64) * (((-7046029254386353131 : Int64) * ((2 : Int64) - ((-7046029254386353131 : Int64) * (-7046029254386353131 : Int64)))) * ((2 : Int64) - ((-7046029254386353131 : Int64) * ((-7046029254386353131 : Int64) * ((2 : Int64) - ((-7046029254386353131 : Int64) * (-7046029254386353131 : Int64)))))))))) * ((2 : Int64) - ((-7046029254386353131 : Int64) * ((((-7046029254386353131 : Int64) * ((2 : Int64) - ((-7046029254386353131 : Int64) * (-7046029254386353131 : Int64)))) * ((2 : Int64) - ((-7046029254386353131 : Int64) * ((-7046029254386353131 : Int64) * ((2 : Int64) - ((-7046029254386353131 : Int64) * (-7046029254386353131 : Int64))))))) * ((2 : Int64) - ((-7046029254386353131 : Int64) * (((-7046029254386353131 : Int64) * ((2 : Int64) - ((-7046029254386353131 : Int64) * (-7046029254386353131 : Int64)))) * ((2 : Int64) - ((-7046029254386353131 : Int64) * ((-7046029254386353131 : Int64) * ((2 : Int64) - ((-7046029254386353131 : Int64) * (-7046029254386353131 : Int64))))))))))))))))
def Q1 (Z : State)  (h0 : Heap) (n0 : Nat) : Option Value → Heap → List Loc → Prop := fun v h L => v = some (Value.long (fn1 )) ∧ Fr n0 L ∧ h = h0
def room1 : Room := { frames := 0, cells := 0, slots := 0, locals := 0 }
set_option maxRecDepth 65536 in
set_option maxHeartbeats 40000000 in
theorem rm1 (l : Launch) (Z : State) (a0 : Array Value) (hw : ∀ d ∈ tables_1, d.before a0 Z = true)  (h0 : Heap) (n0 : Nat)  : Ctr l Z (⟨"com/example/tour/tour/io/IdTablePutPinLaw", "inverse", "()J"⟩ : MethodName) method_2_code 4 (some .long) room1 #[] h0 (Q1 Z  h0 n0) := by
  refine Ctr.of (plainFor_of_name pn_1) ?_
  intro p e s m below meth c s₁ hx hby hml hown hnm hret hlk hZ e0 X0
  have hown : s.vm.findClass "com/example/tour/tour/io/IdTablePutPinLaw" = some m.cls := hown
  have hml : c.maxLocals = 4 := hml
  have hnm : meth.name = "inverse" := hnm
  have hret : meth.sig.returnType = (some .long) := hret
  have N0 := Fr.nil n0
  refine Till.cast (ef_1 m ) ?_
  show Till p e below s (Q1 Z  h0 n0) room1.cells room1.slots (s₁.setTop (mkF m 0 #[.unset, .unset, .unset, .unset] []))
  refine Till.pre (X0.ldc2Long hx hown (mvT hZ (hw _ (List.mem_of_getElem? (i := 4) rfl))) (g := (mkF m 0 #[.unset, .unset, .unset, .unset] [])) rfl (hb hby d1_0)) ?_
  show Till p e below s (Q1 Z  h0 n0) room1.cells room1.slots (s₁.setTop (mkF m 3 #[.unset, .unset, .unset, .unset] [(.long (-7046029254386353131 : Int64))]))
  refine Till.pre (fun _ hr => XS.lstoreN X0.here hx rfl (hb hby d1_3) rfl (l' := #[.val (.long (-7046029254386353131 : Int64)), .second, .unset, .unset]) rfl hr) ?_
  show Till p e below s (Q1 Z  h0 n0) room1.cells room1.slots (s₁.setTop (mkF m 4 #[.val (.long (-7046029254386353131 : Int64)), .second, .unset, .unset] []))
  refine Till.pre (fun _ hr => XS.lloadN X0.here hx rfl (hb hby d1_4) rfl hr) ?_
  show Till p e below s (Q1 Z  h0 n0) room1.cells room1.slots (s₁.setTop (mkF m 5 #[.val (.long (-7046029254386353131 : Int64)), .second, .unset, .unset] [(.long (-7046029254386353131 : Int64))]))
  refine Till.pre (fun _ hr => XS.lstoreN X0.here hx rfl (hb hby d1_5) rfl (l' := #[.val (.long (-7046029254386353131 : Int64)), .second, .val (.long (-7046029254386353131 : Int64)), .second]) rfl hr) ?_
  show Till p e below s (Q1 Z  h0 n0) room1.cells room1.slots (s₁.setTop (mkF m 6 #[.val (.long (-7046029254386353131 : Int64)), .second, .val (.long (-7046029254386353131 : Int64)), .second] []))
  refine Till.pre (fun _ hr => XS.lloadN X0.here hx rfl (hb hby d1_6) rfl hr) ?_
  show Till p e below s (Q1 Z  h0 n0) room1.cells room1.slots (s₁.setTop (mkF m 7 #[.val (.long (-7046029254386353131 : Int64)), .second, .val (.long (-7046029254386353131 : Int64)), .second] [(.long (-7046029254386353131 : Int64))]))
  refine Till.pre (X0.ldc2Long hx hown (mvT hZ (hw _ (List.mem_of_getElem? (i := 5) rfl))) (g := (mkF m 7 #[.val (.long (-7046029254386353131 : Int64)), .second, .val (.long (-7046029254386353131 : Int64)), .second] [(.long (-7046029254386353131 : Int64))])) rfl (hb hby d1_7)) ?_
  show Till p e below s (Q1 Z  h0 n0) room1.cells room1.slots (s₁.setTop (mkF m 10 #[.val (.long (-7046029254386353131 : Int64)), .second, .val (.long (-7046029254386353131 : Int64)), .second] [(.long (2 : Int64)), (.long (-7046029254386353131 : Int64))]))
  refine Till.pre (fun _ hr => XS.lloadN X0.here hx rfl (hb hby d1_10) rfl hr) ?_
  show Till p e below s (Q1 Z  h0 n0) room1.cells room1.slots (s₁.setTop (mkF m 11 #[.val (.long (-7046029254386353131 : Int64)), .second, .val (.long (-7046029254386353131 : Int64)), .second] [(.long (-7046029254386353131 : Int64)), (.long (2 : Int64)), (.long (-7046029254386353131 : Int64))]))
  refine Till.pre (fun _ hr => XS.lloadN X0.here hx rfl (hb hby d1_11) rfl hr) ?_
  show Till p e below s (Q1 Z  h0 n0) room1.cells room1.slots (s₁.setTop (mkF m 12 #[.val (.long (-7046029254386353131 : Int64)), .second, .val (.long (-7046029254386353131 : Int64)), .second] [(.long (-7046029254386353131 : Int64)), (.long (-7046029254386353131 : Int64)), (.long (2 : Int64)), (.long (-7046029254386353131 : Int64))]))
  refine Till.pre (fun _ hr => XS.lmul X0.here hx rfl (hb hby d1_12) rfl hr) ?_
  show Till p e below s (Q1 Z  h0 n0) room1.cells room1.slots (s₁.setTop (mkF m 13 #[.val (.long (-7046029254386353131 : Int64)), .second, .val (.long (-7046029254386353131 : Int64)), .second] [(.long ((-7046029254386353131 : Int64) * (-7046029254386353131 : Int64))), (.long (2 : Int64)), (.long (-7046029254386353131 : Int64))]))
  refine Till.pre (fun _ hr => XS.lsub X0.here hx rfl (hb hby d1_13) rfl hr) ?_
  show Till p e below s (Q1 Z  h0 n0) room1.cells room1.slots (s₁.setTop (mkF m 14 #[.val (.long (-7046029254386353131 : Int64)), .second, .val (.long (-7046029254386353131 : Int64)), .second] [(.long ((2 : Int64) - ((-7046029254386353131 : Int64) * (-7046029254386353131 : Int64)))), (.long (-7046029254386353131 : Int64))]))
  refine Till.pre (fun _ hr => XS.lmul X0.here hx rfl (hb hby d1_14) rfl hr) ?_
  show Till p e below s (Q1 Z  h0 n0) room1.cells room1.slots (s₁.setTop (mkF m 15 #[.val (.long (-7046029254386353131 : Int64)), .second, .val (.long (-7046029254386353131 : Int64)), .second] [(.long ((-7046029254386353131 : Int64) * ((2 : Int64) - ((-7046029254386353131 : Int64) * (-7046029254386353131 : Int64)))))]))
  refine Till.pre (fun _ hr => XS.lstoreN X0.here hx rfl (hb hby d1_15) rfl (l' := #[.val (.long (-7046029254386353131 : Int64)), .second, .val (.long ((-7046029254386353131 : Int64) * ((2 : Int64) - ((-7046029254386353131 : Int64) * (-7046029254386353131 : Int64))))), .second]) rfl hr) ?_
  show Till p e below s (Q1 Z  h0 n0) room1.cells room1.slots (s₁.setTop (mkF m 16 #[.val (.long (-7046029254386353131 : Int64)), .second, .val (.long ((-7046029254386353131 : Int64) * ((2 : Int64) - ((-7046029254386353131 : Int64) * (-7046029254386353131 : Int64))))), .second] []))
  refine Till.pre (fun _ hr => XS.lloadN X0.here hx rfl (hb hby d1_16) rfl hr) ?_
  show Till p e below s (Q1 Z  h0 n0) room1.cells room1.slots (s₁.setTop (mkF m 17 #[.val (.long (-7046029254386353131 : Int64)), .second, .val (.long ((-7046029254386353131 : Int64) * ((2 : Int64) - ((-7046029254386353131 : Int64) * (-7046029254386353131 : Int64))))), .second] [(.long ((-7046029254386353131 : Int64) * ((2 : Int64) - ((-7046029254386353131 : Int64) * (-7046029254386353131 : Int64)))))]))
  refine Till.pre (X0.ldc2Long hx hown (mvT hZ (hw _ (List.mem_of_getElem? (i := 5) rfl))) (g := (mkF m 17 #[.val (.long (-7046029254386353131 : Int64)), .second, .val (.long ((-7046029254386353131 : Int64) * ((2 : Int64) - ((-7046029254386353131 : Int64) * (-7046029254386353131 : Int64))))), .second] [(.long ((-7046029254386353131 : Int64) * ((2 : Int64) - ((-7046029254386353131 : Int64) * (-7046029254386353131 : Int64)))))])) rfl (hb hby d1_17)) ?_
  show Till p e below s (Q1 Z  h0 n0) room1.cells room1.slots (s₁.setTop (mkF m 20 #[.val (.long (-7046029254386353131 : Int64)), .second, .val (.long ((-7046029254386353131 : Int64) * ((2 : Int64) - ((-7046029254386353131 : Int64) * (-7046029254386353131 : Int64))))), .second] [(.long (2 : Int64)), (.long ((-7046029254386353131 : Int64) * ((2 : Int64) - ((-7046029254386353131 : Int64) * (-7046029254386353131 : Int64)))))]))
  refine Till.pre (fun _ hr => XS.lloadN X0.here hx rfl (hb hby d1_20) rfl hr) ?_
  show Till p e below s (Q1 Z  h0 n0) room1.cells room1.slots (s₁.setTop (mkF m 21 #[.val (.long (-7046029254386353131 : Int64)), .second, .val (.long ((-7046029254386353131 : Int64) * ((2 : Int64) - ((-7046029254386353131 : Int64) * (-7046029254386353131 : Int64))))), .second] [(.long (-7046029254386353131 : Int64)), (.long (2 : Int64)), (.long ((-7046029254386353131 : Int64) * ((2 : Int64) - ((-7046029254386353131 : Int64) * (-7046029254386353131 : Int64)))))]))
  refine Till.pre (fun _ hr => XS.lloadN X0.here hx rfl (hb hby d1_21) rfl hr) ?_
  show Till p e below s (Q1 Z  h0 n0) room1.cells room1.slots (s₁.setTop (mkF m 22 #[.val (.long (-7046029254386353131 : Int64)), .second, .val (.long ((-7046029254386353131 : Int64) * ((2 : Int64) - ((-7046029254386353131 : Int64) * (-7046029254386353131 : Int64))))), .second] [(.long ((-7046029254386353131 : Int64) * ((2 : Int64) - ((-7046029254386353131 : Int64) * (-7046029254386353131 : Int64))))), (.long (-7046029254386353131 : Int64)), (.long (2 : Int64)), (.long ((-7046029254386353131 : Int64) * ((2 : Int64) - ((-7046029254386353131 : Int64) * (-7046029254386353131 : Int64)))))]))
  refine Till.pre (fun _ hr => XS.lmul X0.here hx rfl (hb hby d1_22) rfl hr) ?_
  show Till p e below s (Q1 Z  h0 n0) room1.cells room1.slots (s₁.setTop (mkF m 23 #[.val (.long (-7046029254386353131 : Int64)), .second, .val (.long ((-7046029254386353131 : Int64) * ((2 : Int64) - ((-7046029254386353131 : Int64) * (-7046029254386353131 : Int64))))), .second] [(.long ((-7046029254386353131 : Int64) * ((-7046029254386353131 : Int64) * ((2 : Int64) - ((-7046029254386353131 : Int64) * (-7046029254386353131 : Int64)))))), (.long (2 : Int64)), (.long ((-7046029254386353131 : Int64) * ((2 : Int64) - ((-7046029254386353131 : Int64) * (-7046029254386353131 : Int64)))))]))
  refine Till.pre (fun _ hr => XS.lsub X0.here hx rfl (hb hby d1_23) rfl hr) ?_
  show Till p e below s (Q1 Z  h0 n0) room1.cells room1.slots (s₁.setTop (mkF m 24 #[.val (.long (-7046029254386353131 : Int64)), .second, .val (.long ((-7046029254386353131 : Int64) * ((2 : Int64) - ((-7046029254386353131 : Int64) * (-7046029254386353131 : Int64))))), .second] [(.long ((2 : Int64) - ((-7046029254386353131 : Int64) * ((-7046029254386353131 : Int64) * ((2 : Int64) - ((-7046029254386353131 : Int64) * (-7046029254386353131 : Int64))))))), (.long ((-7046029254386353131 : Int64) * ((2 : Int64) - ((-7046029254386353131 : Int64) * (-7046029254386353131 : Int64)))))]))
  refine Till.pre (fun _ hr => XS.lmul X0.here hx rfl (hb hby d1_24) rfl hr) ?_
  show Till p e below s (Q1 Z  h0 n0) room1.cells room1.slots (s₁.setTop (mkF m 25 #[.val (.long (-7046029254386353131 : Int64)), .second, .val (.long ((-7046029254386353131 : Int64) * ((2 : Int64) - ((-7046029254386353131 : Int64) * (-7046029254386353131 : Int64))))), .second] [(.long (((-7046029254386353131 : Int64) * ((2 : Int64) - ((-7046029254386353131 : Int64) * (-7046029254386353131 : Int64)))) * ((2 : Int64) - ((-7046029254386353131 : Int64) * ((-7046029254386353131 : Int64) * ((2 : Int64) - ((-7046029254386353131 : Int64) * (-7046029254386353131 : Int64))))))))]))
  refine Till.pre (fun _ hr => XS.lstoreN X0.here hx rfl (hb hby d1_25) rfl (l' := #[.val (.long (-7046029254386353131 : Int64)), .second, .val (.long (((-7046029254386353131 : Int64) * ((2 : Int64) - ((-7046029254386353131 : Int64) * (-7046029254386353131 : Int64)))) * ((2 : Int64) - ((-7046029254386353131 : Int64) * ((-7046029254386353131 : Int64) * ((2 : Int64) - ((-7046029254386353131 : Int64) * (-7046029254386353131 : Int64)))))))), .second]) rfl hr) ?_
  show Till p e below s (Q1 Z  h0 n0) room1.cells room1.slots (s₁.setTop (mkF m 26 #[.val (.long (-7046029254386353131 : Int64)), .second, .val (.long (((-7046029254386353131 : Int64) * ((2 : Int64) - ((-7046029254386353131 : Int64) * (-7046029254386353131 : Int64)))) * ((2 : Int64) - ((-7046029254386353131 : Int64) * ((-7046029254386353131 : Int64) * ((2 : Int64) - ((-7046029254386353131 : Int64) * (-7046029254386353131 : Int64)))))))), .second] []))
  refine Till.pre (fun _ hr => XS.lloadN X0.here hx rfl (hb hby d1_26) rfl hr) ?_
  show Till p e below s (Q1 Z  h0 n0) room1.cells room1.slots (s₁.setTop (mkF m 27 #[.val (.long (-7046029254386353131 : Int64)), .second, .val (.long (((-7046029254386353131 : Int64) * ((2 : Int64) - ((-7046029254386353131 : Int64) * (-7046029254386353131 : Int64)))) * ((2 : Int64) - ((-7046029254386353131 : Int64) * ((-7046029254386353131 : Int64) * ((2 : Int64) - ((-7046029254386353131 : Int64) * (-7046029254386353131 : Int64)))))))), .second] [(.long (((-7046029254386353131 : Int64) * ((2 : Int64) - ((-7046029254386353131 : Int64) * (-7046029254386353131 : Int64)))) * ((2 : Int64) - ((-7046029254386353131 : Int64) * ((-7046029254386353131 : Int64) * ((2 : Int64) - ((-7046029254386353131 : Int64) * (-7046029254386353131 : Int64))))))))]))
  refine Till.pre (X0.ldc2Long hx hown (mvT hZ (hw _ (List.mem_of_getElem? (i := 5) rfl))) (g := (mkF m 27 #[.val (.long (-7046029254386353131 : Int64)), .second, .val (.long (((-7046029254386353131 : Int64) * ((2 : Int64) - ((-7046029254386353131 : Int64) * (-7046029254386353131 : Int64)))) * ((2 : Int64) - ((-7046029254386353131 : Int64) * ((-7046029254386353131 : Int64) * ((2 : Int64) - ((-7046029254386353131 : Int64) * (-7046029254386353131 : Int64)))))))), .second] [(.long (((-7046029254386353131 : Int64) * ((2 : Int64) - ((-7046029254386353131 : Int64) * (-7046029254386353131 : Int64)))) * ((2 : Int64) - ((-7046029254386353131 : Int64) * ((-7046029254386353131 : Int64) * ((2 : Int64) - ((-7046029254386353131 : Int64) * (-7046029254386353131 : Int64))))))))])) rfl (hb hby d1_27)) ?_
  show Till p e below s (Q1 Z  h0 n0) room1.cells room1.slots (s₁.setTop (mkF m 30 #[.val (.long (-7046029254386353131 : Int64)), .second, .val (.long (((-7046029254386353131 : Int64) * ((2 : Int64) - ((-7046029254386353131 : Int64) * (-7046029254386353131 : Int64)))) * ((2 : Int64) - ((-7046029254386353131 : Int64) * ((-7046029254386353131 : Int64) * ((2 : Int64) - ((-7046029254386353131 : Int64) * (-7046029254386353131 : Int64)))))))), .second] [(.long (2 : Int64)), (.long (((-7046029254386353131 : Int64) * ((2 : Int64) - ((-7046029254386353131 : Int64) * (-7046029254386353131 : Int64)))) * ((2 : Int64) - ((-7046029254386353131 : Int64) * ((-7046029254386353131 : Int64) * ((2 : Int64) - ((-7046029254386353131 : Int64) * (-7046029254386353131 : Int64))))))))]))
  refine Till.pre (fun _ hr => XS.lloadN X0.here hx rfl (hb hby d1_30) rfl hr) ?_
  show Till p e below s (Q1 Z  h0 n0) room1.cells room1.slots (s₁.setTop (mkF m 31 #[.val (.long (-7046029254386353131 : Int64)), .second, .val (.long (((-7046029254386353131 : Int64) * ((2 : Int64) - ((-7046029254386353131 : Int64) * (-7046029254386353131 : Int64)))) * ((2 : Int64) - ((-7046029254386353131 : Int64) * ((-7046029254386353131 : Int64) * ((2 : Int64) - ((-7046029254386353131 : Int64) * (-7046029254386353131 : Int64)))))))), .second] [(.long (-7046029254386353131 : Int64)), (.long (2 : Int64)), (.long (((-7046029254386353131 : Int64) * ((2 : Int64) - ((-7046029254386353131 : Int64) * (-7046029254386353131 : Int64)))) * ((2 : Int64) - ((-7046029254386353131 : Int64) * ((-7046029254386353131 : Int64) * ((2 : Int64) - ((-7046029254386353131 : Int64) * (-7046029254386353131 : Int64))))))))]))
  refine Till.pre (fun _ hr => XS.lloadN X0.here hx rfl (hb hby d1_31) rfl hr) ?_
  show Till p e below s (Q1 Z  h0 n0) room1.cells room1.slots (s₁.setTop (mkF m 32 #[.val (.long (-7046029254386353131 : Int64)), .second, .val (.long (((-7046029254386353131 : Int64) * ((2 : Int64) - ((-7046029254386353131 : Int64) * (-7046029254386353131 : Int64)))) * ((2 : Int64) - ((-7046029254386353131 : Int64) * ((-7046029254386353131 : Int64) * ((2 : Int64) - ((-7046029254386353131 : Int64) * (-7046029254386353131 : Int64)))))))), .second] [(.long (((-7046029254386353131 : Int64) * ((2 : Int64) - ((-7046029254386353131 : Int64) * (-7046029254386353131 : Int64)))) * ((2 : Int64) - ((-7046029254386353131 : Int64) * ((-7046029254386353131 : Int64) * ((2 : Int64) - ((-7046029254386353131 : Int64) * (-7046029254386353131 : Int64)))))))), (.long (-7046029254386353131 : Int64)), (.long (2 : Int64)), (.long (((-7046029254386353131 : Int64) * ((2 : Int64) - ((-7046029254386353131 : Int64) * (-7046029254386353131 : Int64)))) * ((2 : Int64) - ((-7046029254386353131 : Int64) * ((-7046029254386353131 : Int64) * ((2 : Int64) - ((-7046029254386353131 : Int64) * (-7046029254386353131 : Int64))))))))]))
  refine Till.pre (fun _ hr => XS.lmul X0.here hx rfl (hb hby d1_32) rfl hr) ?_
  show Till p e below s (Q1 Z  h0 n0) room1.cells room1.slots (s₁.setTop (mkF m 33 #[.val (.long (-7046029254386353131 : Int64)), .second, .val (.long (((-7046029254386353131 : Int64) * ((2 : Int64) - ((-7046029254386353131 : Int64) * (-7046029254386353131 : Int64)))) * ((2 : Int64) - ((-7046029254386353131 : Int64) * ((-7046029254386353131 : Int64) * ((2 : Int64) - ((-7046029254386353131 : Int64) * (-7046029254386353131 : Int64)))))))), .second] [(.long ((-7046029254386353131 : Int64) * (((-7046029254386353131 : Int64) * ((2 : Int64) - ((-7046029254386353131 : Int64) * (-7046029254386353131 : Int64)))) * ((2 : Int64) - ((-7046029254386353131 : Int64) * ((-7046029254386353131 : Int64) * ((2 : Int64) - ((-7046029254386353131 : Int64) * (-7046029254386353131 : Int64))))))))), (.long (2 : Int64)), (.long (((-7046029254386353131 : Int64) * ((2 : Int64) - ((-7046029254386353131 : Int64) * (-7046029254386353131 : Int64)))) * ((2 : Int64) - ((-7046029254386353131 : Int64) * ((-7046029254386353131 : Int64) * ((2 : Int64) - ((-7046029254386353131 : Int64) * (-7046029254386353131 : Int64))))))))]))
  refine Till.pre (fun _ hr => XS.lsub X0.here hx rfl (hb hby d1_33) rfl hr) ?_
  show Till p e below s (Q1 Z  h0 n0) room1.cells room1.slots (s₁.setTop (mkF m 34 #[.val (.long (-7046029254386353131 : Int64)), .second, .val (.long (((-7046029254386353131 : Int64) * ((2 : Int64) - ((-7046029254386353131 : Int64) * (-7046029254386353131 : Int64)))) * ((2 : Int64) - ((-7046029254386353131 : Int64) * ((-7046029254386353131 : Int64) * ((2 : Int64) - ((-7046029254386353131 : Int64) * (-7046029254386353131 : Int64)))))))), .second] [(.long ((2 : Int64) - ((-7046029254386353131 : Int64) * (((-7046029254386353131 : Int64) * ((2 : Int64) - ((-7046029254386353131 : Int64) * (-7046029254386353131 : Int64)))) * ((2 : Int64) - ((-7046029254386353131 : Int64) * ((-7046029254386353131 : Int64) * ((2 : Int64) - ((-7046029254386353131 : Int64) * (-7046029254386353131 : Int64)))))))))), (.long (((-7046029254386353131 : Int64) * ((2 : Int64) - ((-7046029254386353131 : Int64) * (-7046029254386353131 : Int64)))) * ((2 : Int64) - ((-7046029254386353131 : Int64) * ((-7046029254386353131 : Int64) * ((2 : Int64) - ((-7046029254386353131 : Int64) * (-7046029254386353131 : Int64))))))))]))
  refine Till.pre (fun _ hr => XS.lmul X0.here hx rfl (hb hby d1_34) rfl hr) ?_
  show Till p e below s (Q1 Z  h0 n0) room1.cells room1.slots (s₁.setTop (mkF m 35 #[.val (.long (-7046029254386353131 : Int64)), .second, .val (.long (((-7046029254386353131 : Int64) * ((2 : Int64) - ((-7046029254386353131 : Int64) * (-7046029254386353131 : Int64)))) * ((2 : Int64) - ((-7046029254386353131 : Int64) * ((-7046029254386353131 : Int64) * ((2 : Int64) - ((-7046029254386353131 : Int64) * (-7046029254386353131 : Int64)))))))), .second] [(.long ((((-7046029254386353131 : Int64) * ((2 : Int64) - ((-7046029254386353131 : Int64) * (-7046029254386353131 : Int64)))) * ((2 : Int64) - ((-7046029254386353131 : Int64) * ((-7046029254386353131 : Int64) * ((2 : Int64) - ((-7046029254386353131 : Int64) * (-7046029254386353131 : Int64))))))) * ((2 : Int64) - ((-7046029254386353131 : Int64) * (((-7046029254386353131 : Int64) * ((2 : Int64) - ((-7046029254386353131 : Int64) * (-7046029254386353131 : Int64)))) * ((2 : Int64) - ((-7046029254386353131 : Int64) * ((-7046029254386353131 : Int64) * ((2 : Int64) - ((-7046029254386353131 : Int64) * (-7046029254386353131 : Int64)))))))))))]))
  refine Till.pre (fun _ hr => XS.lstoreN X0.here hx rfl (hb hby d1_35) rfl (l' := #[.val (.long (-7046029254386353131 : Int64)), .second, .val (.long ((((-7046029254386353131 : Int64) * ((2 : Int64) - ((-7046029254386353131 : Int64) * (-7046029254386353131 : Int64)))) * ((2 : Int64) - ((-7046029254386353131 : Int64) * ((-7046029254386353131 : Int64) * ((2 : Int64) - ((-7046029254386353131 : Int64) * (-7046029254386353131 : Int64))))))) * ((2 : Int64) - ((-7046029254386353131 : Int64) * (((-7046029254386353131 : Int64) * ((2 : Int64) - ((-7046029254386353131 : Int64) * (-7046029254386353131 : Int64)))) * ((2 : Int64) - ((-7046029254386353131 : Int64) * ((-7046029254386353131 : Int64) * ((2 : Int64) - ((-7046029254386353131 : Int64) * (-7046029254386353131 : Int64))))))))))), .second]) rfl hr) ?_
  show Till p e below s (Q1 Z  h0 n0) room1.cells room1.slots (s₁.setTop (mkF m 36 #[.val (.long (-7046029254386353131 : Int64)), .second, .val (.long ((((-7046029254386353131 : Int64) * ((2 : Int64) - ((-7046029254386353131 : Int64) * (-7046029254386353131 : Int64)))) * ((2 : Int64) - ((-7046029254386353131 : Int64) * ((-7046029254386353131 : Int64) * ((2 : Int64) - ((-7046029254386353131 : Int64) * (-7046029254386353131 : Int64))))))) * ((2 : Int64) - ((-7046029254386353131 : Int64) * (((-7046029254386353131 : Int64) * ((2 : Int64) - ((-7046029254386353131 : Int64) * (-7046029254386353131 : Int64)))) * ((2 : Int64) - ((-7046029254386353131 : Int64) * ((-7046029254386353131 : Int64) * ((2 : Int64) - ((-7046029254386353131 : Int64) * (-7046029254386353131 : Int64))))))))))), .second] []))
  refine Till.pre (fun _ hr => XS.lloadN X0.here hx rfl (hb hby d1_36) rfl hr) ?_
  show Till p e below s (Q1 Z  h0 n0) room1.cells room1.slots (s₁.setTop (mkF m 37 #[.val (.long (-7046029254386353131 : Int64)), .second, .val (.long ((((-7046029254386353131 : Int64) * ((2 : Int64) - ((-7046029254386353131 : Int64) * (-7046029254386353131 : Int64)))) * ((2 : Int64) - ((-7046029254386353131 : Int64) * ((-7046029254386353131 : Int64) * ((2 : Int64) - ((-7046029254386353131 : Int64) * (-7046029254386353131 : Int64))))))) * ((2 : Int64) - ((-7046029254386353131 : Int64) * (((-7046029254386353131 : Int64) * ((2 : Int64) - ((-7046029254386353131 : Int64) * (-7046029254386353131 : Int64)))) * ((2 : Int64) - ((-7046029254386353131 : Int64) * ((-7046029254386353131 : Int64) * ((2 : Int64) - ((-7046029254386353131 : Int64) * (-7046029254386353131 : Int64))))))))))), .second] [(.long ((((-7046029254386353131 : Int64) * ((2 : Int64) - ((-7046029254386353131 : Int64) * (-7046029254386353131 : Int64)))) * ((2 : Int64) - ((-7046029254386353131 : Int64) * ((-7046029254386353131 : Int64) * ((2 : Int64) - ((-7046029254386353131 : Int64) * (-7046029254386353131 : Int64))))))) * ((2 : Int64) - ((-7046029254386353131 : Int64) * (((-7046029254386353131 : Int64) * ((2 : Int64) - ((-7046029254386353131 : Int64) * (-7046029254386353131 : Int64)))) * ((2 : Int64) - ((-7046029254386353131 : Int64) * ((-7046029254386353131 : Int64) * ((2 : Int64) - ((-7046029254386353131 : Int64) * (-7046029254386353131 : Int64)))))))))))]))
  refine Till.pre (X0.ldc2Long hx hown (mvT hZ (hw _ (List.mem_of_getElem? (i := 5) rfl))) (g := (mkF m 37 #[.val (.long (-7046029254386353131 : Int64)), .second, .val (.long ((((-7046029254386353131 : Int64) * ((2 : Int64) - ((-7046029254386353131 : Int64) * (-7046029254386353131 : Int64)))) * ((2 : Int64) - ((-7046029254386353131 : Int64) * ((-7046029254386353131 : Int64) * ((2 : Int64) - ((-7046029254386353131 : Int64) * (-7046029254386353131 : Int64))))))) * ((2 : Int64) - ((-7046029254386353131 : Int64) * (((-7046029254386353131 : Int64) * ((2 : Int64) - ((-7046029254386353131 : Int64) * (-7046029254386353131 : Int64)))) * ((2 : Int64) - ((-7046029254386353131 : Int64) * ((-7046029254386353131 : Int64) * ((2 : Int64) - ((-7046029254386353131 : Int64) * (-7046029254386353131 : Int64))))))))))), .second] [(.long ((((-7046029254386353131 : Int64) * ((2 : Int64) - ((-7046029254386353131 : Int64) * (-7046029254386353131 : Int64)))) * ((2 : Int64) - ((-7046029254386353131 : Int64) * ((-7046029254386353131 : Int64) * ((2 : Int64) - ((-7046029254386353131 : Int64) * (-7046029254386353131 : Int64))))))) * ((2 : Int64) - ((-7046029254386353131 : Int64) * (((-7046029254386353131 : Int64) * ((2 : Int64) - ((-7046029254386353131 : Int64) * (-7046029254386353131 : Int64)))) * ((2 : Int64) - ((-7046029254386353131 : Int64) * ((-7046029254386353131 : Int64) * ((2 : Int64) - ((-7046029254386353131 : Int64) * (-7046029254386353131 : Int64)))))))))))])) rfl (hb hby d1_37)) ?_
  show Till p e below s (Q1 Z  h0 n0) room1.cells room1.slots (s₁.setTop (mkF m 40 #[.val (.long (-7046029254386353131 : Int64)), .second, .val (.long ((((-7046029254386353131 : Int64) * ((2 : Int64) - ((-7046029254386353131 : Int64) * (-7046029254386353131 : Int64)))) * ((2 : Int64) - ((-7046029254386353131 : Int64) * ((-7046029254386353131 : Int64) * ((2 : Int64) - ((-7046029254386353131 : Int64) * (-7046029254386353131 : Int64))))))) * ((2 : Int64) - ((-7046029254386353131 : Int64) * (((-7046029254386353131 : Int64) * ((2 : Int64) - ((-7046029254386353131 : Int64) * (-7046029254386353131 : Int64)))) * ((2 : Int64) - ((-7046029254386353131 : Int64) * ((-7046029254386353131 : Int64) * ((2 : Int64) - ((-7046029254386353131 : Int64) * (-7046029254386353131 : Int64))))))))))), .second] [(.long (2 : Int64)), (.long ((((-7046029254386353131 : Int64) * ((2 : Int64) - ((-7046029254386353131 : Int64) * (-7046029254386353131 : Int64)))) * ((2 : Int64) - ((-7046029254386353131 : Int64) * ((-7046029254386353131 : Int64) * ((2 : Int64) - ((-7046029254386353131 : Int64) * (-7046029254386353131 : Int64))))))) * ((2 : Int64) - ((-7046029254386353131 : Int64) * (((-7046029254386353131 : Int64) * ((2 : Int64) - ((-7046029254386353131 : Int64) * (-7046029254386353131 : Int64)))) * ((2 : Int64) - ((-7046029254386353131 : Int64) * ((-7046029254386353131 : Int64) * ((2 : Int64) - ((-7046029254386353131 : Int64) * (-7046029254386353131 : Int64)))))))))))]))
  refine Till.pre (fun _ hr => XS.lloadN X0.here hx rfl (hb hby d1_40) rfl hr) ?_
  show Till p e below s (Q1 Z  h0 n0) room1.cells room1.slots (s₁.setTop (mkF m 41 #[.val (.long (-7046029254386353131 : Int64)), .second, .val (.long ((((-7046029254386353131 : Int64) * ((2 : Int64) - ((-7046029254386353131 : Int64) * (-7046029254386353131 : Int64)))) * ((2 : Int64) - ((-7046029254386353131 : Int64) * ((-7046029254386353131 : Int64) * ((2 : Int64) - ((-7046029254386353131 : Int64) * (-7046029254386353131 : Int64))))))) * ((2 : Int64) - ((-7046029254386353131 : Int64) * (((-7046029254386353131 : Int64) * ((2 : Int64) - ((-7046029254386353131 : Int64) * (-7046029254386353131 : Int64)))) * ((2 : Int64) - ((-7046029254386353131 : Int64) * ((-7046029254386353131 : Int64) * ((2 : Int64) - ((-7046029254386353131 : Int64) * (-7046029254386353131 : Int64))))))))))), .second] [(.long (-7046029254386353131 : Int64)), (.long (2 : Int64)), (.long ((((-7046029254386353131 : Int64) * ((2 : Int64) - ((-7046029254386353131 : Int64) * (-7046029254386353131 : Int64)))) * ((2 : Int64) - ((-7046029254386353131 : Int64) * ((-7046029254386353131 : Int64) * ((2 : Int64) - ((-7046029254386353131 : Int64) * (-7046029254386353131 : Int64))))))) * ((2 : Int64) - ((-7046029254386353131 : Int64) * (((-7046029254386353131 : Int64) * ((2 : Int64) - ((-7046029254386353131 : Int64) * (-7046029254386353131 : Int64)))) * ((2 : Int64) - ((-7046029254386353131 : Int64) * ((-7046029254386353131 : Int64) * ((2 : Int64) - ((-7046029254386353131 : Int64) * (-7046029254386353131 : Int64)))))))))))]))
  refine Till.pre (fun _ hr => XS.lloadN X0.here hx rfl (hb hby d1_41) rfl hr) ?_
  show Till p e below s (Q1 Z  h0 n0) room1.cells room1.slots (s₁.setTop (mkF m 42 #[.val (.long (-7046029254386353131 : Int64)), .second, .val (.long ((((-7046029254386353131 : Int64) * ((2 : Int64) - ((-7046029254386353131 : Int64) * (-7046029254386353131 : Int64)))) * ((2 : Int64) - ((-7046029254386353131 : Int64) * ((-7046029254386353131 : Int64) * ((2 : Int64) - ((-7046029254386353131 : Int64) * (-7046029254386353131 : Int64))))))) * ((2 : Int64) - ((-7046029254386353131 : Int64) * (((-7046029254386353131 : Int64) * ((2 : Int64) - ((-7046029254386353131 : Int64) * (-7046029254386353131 : Int64)))) * ((2 : Int64) - ((-7046029254386353131 : Int64) * ((-7046029254386353131 : Int64) * ((2 : Int64) - ((-7046029254386353131 : Int64) * (-7046029254386353131 : Int64))))))))))), .second] [(.long ((((-7046029254386353131 : Int64) * ((2 : Int64) - ((-7046029254386353131 : Int64) * (-7046029254386353131 : Int64)))) * ((2 : Int64) - ((-7046029254386353131 : Int64) * ((-7046029254386353131 : Int64) * ((2 : Int64) - ((-7046029254386353131 : Int64) * (-7046029254386353131 : Int64))))))) * ((2 : Int64) - ((-7046029254386353131 : Int64) * (((-7046029254386353131 : Int64) * ((2 : Int64) - ((-7046029254386353131 : Int64) * (-7046029254386353131 : Int64)))) * ((2 : Int64) - ((-7046029254386353131 : Int64) * ((-7046029254386353131 : Int64) * ((2 : Int64) - ((-7046029254386353131 : Int64) * (-7046029254386353131 : Int64))))))))))), (.long (-7046029254386353131 : Int64)), (.long (2 : Int64)), (.long ((((-7046029254386353131 : Int64) * ((2 : Int64) - ((-7046029254386353131 : Int64) * (-7046029254386353131 : Int64)))) * ((2 : Int64) - ((-7046029254386353131 : Int64) * ((-7046029254386353131 : Int64) * ((2 : Int64) - ((-7046029254386353131 : Int64) * (-7046029254386353131 : Int64))))))) * ((2 : Int64) - ((-7046029254386353131 : Int64) * (((-7046029254386353131 : Int64) * ((2 : Int64) - ((-7046029254386353131 : Int64) * (-7046029254386353131 : Int64)))) * ((2 : Int64) - ((-7046029254386353131 : Int64) * ((-7046029254386353131 : Int64) * ((2 : Int64) - ((-7046029254386353131 : Int64) * (-7046029254386353131 : Int64)))))))))))]))
  refine Till.pre (fun _ hr => XS.lmul X0.here hx rfl (hb hby d1_42) rfl hr) ?_
  show Till p e below s (Q1 Z  h0 n0) room1.cells room1.slots (s₁.setTop (mkF m 43 #[.val (.long (-7046029254386353131 : Int64)), .second, .val (.long ((((-7046029254386353131 : Int64) * ((2 : Int64) - ((-7046029254386353131 : Int64) * (-7046029254386353131 : Int64)))) * ((2 : Int64) - ((-7046029254386353131 : Int64) * ((-7046029254386353131 : Int64) * ((2 : Int64) - ((-7046029254386353131 : Int64) * (-7046029254386353131 : Int64))))))) * ((2 : Int64) - ((-7046029254386353131 : Int64) * (((-7046029254386353131 : Int64) * ((2 : Int64) - ((-7046029254386353131 : Int64) * (-7046029254386353131 : Int64)))) * ((2 : Int64) - ((-7046029254386353131 : Int64) * ((-7046029254386353131 : Int64) * ((2 : Int64) - ((-7046029254386353131 : Int64) * (-7046029254386353131 : Int64))))))))))), .second] [(.long ((-7046029254386353131 : Int64) * ((((-7046029254386353131 : Int64) * ((2 : Int64) - ((-7046029254386353131 : Int64) * (-7046029254386353131 : Int64)))) * ((2 : Int64) - ((-7046029254386353131 : Int64) * ((-7046029254386353131 : Int64) * ((2 : Int64) - ((-7046029254386353131 : Int64) * (-7046029254386353131 : Int64))))))) * ((2 : Int64) - ((-7046029254386353131 : Int64) * (((-7046029254386353131 : Int64) * ((2 : Int64) - ((-7046029254386353131 : Int64) * (-7046029254386353131 : Int64)))) * ((2 : Int64) - ((-7046029254386353131 : Int64) * ((-7046029254386353131 : Int64) * ((2 : Int64) - ((-7046029254386353131 : Int64) * (-7046029254386353131 : Int64)))))))))))), (.long (2 : Int64)), (.long ((((-7046029254386353131 : Int64) * ((2 : Int64) - ((-7046029254386353131 : Int64) * (-7046029254386353131 : Int64)))) * ((2 : Int64) - ((-7046029254386353131 : Int64) * ((-7046029254386353131 : Int64) * ((2 : Int64) - ((-7046029254386353131 : Int64) * (-7046029254386353131 : Int64))))))) * ((2 : Int64) - ((-7046029254386353131 : Int64) * (((-7046029254386353131 : Int64) * ((2 : Int64) - ((-7046029254386353131 : Int64) * (-7046029254386353131 : Int64)))) * ((2 : Int64) - ((-7046029254386353131 : Int64) * ((-7046029254386353131 : Int64) * ((2 : Int64) - ((-7046029254386353131 : Int64) * (-7046029254386353131 : Int64)))))))))))]))
  refine Till.pre (fun _ hr => XS.lsub X0.here hx rfl (hb hby d1_43) rfl hr) ?_
  show Till p e below s (Q1 Z  h0 n0) room1.cells room1.slots (s₁.setTop (mkF m 44 #[.val (.long (-7046029254386353131 : Int64)), .second, .val (.long ((((-7046029254386353131 : Int64) * ((2 : Int64) - ((-7046029254386353131 : Int64) * (-7046029254386353131 : Int64)))) * ((2 : Int64) - ((-7046029254386353131 : Int64) * ((-7046029254386353131 : Int64) * ((2 : Int64) - ((-7046029254386353131 : Int64) * (-7046029254386353131 : Int64))))))) * ((2 : Int64) - ((-7046029254386353131 : Int64) * (((-7046029254386353131 : Int64) * ((2 : Int64) - ((-7046029254386353131 : Int64) * (-7046029254386353131 : Int64)))) * ((2 : Int64) - ((-7046029254386353131 : Int64) * ((-7046029254386353131 : Int64) * ((2 : Int64) - ((-7046029254386353131 : Int64) * (-7046029254386353131 : Int64))))))))))), .second] [(.long ((2 : Int64) - ((-7046029254386353131 : Int64) * ((((-7046029254386353131 : Int64) * ((2 : Int64) - ((-7046029254386353131 : Int64) * (-7046029254386353131 : Int64)))) * ((2 : Int64) - ((-7046029254386353131 : Int64) * ((-7046029254386353131 : Int64) * ((2 : Int64) - ((-7046029254386353131 : Int64) * (-7046029254386353131 : Int64))))))) * ((2 : Int64) - ((-7046029254386353131 : Int64) * (((-7046029254386353131 : Int64) * ((2 : Int64) - ((-7046029254386353131 : Int64) * (-7046029254386353131 : Int64)))) * ((2 : Int64) - ((-7046029254386353131 : Int64) * ((-7046029254386353131 : Int64) * ((2 : Int64) - ((-7046029254386353131 : Int64) * (-7046029254386353131 : Int64))))))))))))), (.long ((((-7046029254386353131 : Int64) * ((2 : Int64) - ((-7046029254386353131 : Int64) * (-7046029254386353131 : Int64)))) * ((2 : Int64) - ((-7046029254386353131 : Int64) * ((-7046029254386353131 : Int64) * ((2 : Int64) - ((-7046029254386353131 : Int64) * (-7046029254386353131 : Int64))))))) * ((2 : Int64) - ((-7046029254386353131 : Int64) * (((-7046029254386353131 : Int64) * ((2 : Int64) - ((-7046029254386353131 : Int64) * (-7046029254386353131 : Int64)))) * ((2 : Int64) - ((-7046029254386353131 : Int64) * ((-7046029254386353131 : Int64) * ((2 : Int64) - ((-7046029254386353131 : Int64) * (-7046029254386353131 : Int64)))))))))))]))
  refine Till.pre (fun _ hr => XS.lmul X0.here hx rfl (hb hby d1_44) rfl hr) ?_
  show Till p e below s (Q1 Z  h0 n0) room1.cells room1.slots (s₁.setTop (mkF m 45 #[.val (.long (-7046029254386353131 : Int64)), .second, .val (.long ((((-7046029254386353131 : Int64) * ((2 : Int64) - ((-7046029254386353131 : Int64) * (-7046029254386353131 : Int64)))) * ((2 : Int64) - ((-7046029254386353131 : Int64) * ((-7046029254386353131 : Int64) * ((2 : Int64) - ((-7046029254386353131 : Int64) * (-7046029254386353131 : Int64))))))) * ((2 : Int64) - ((-7046029254386353131 : Int64) * (((-7046029254386353131 : Int64) * ((2 : Int64) - ((-7046029254386353131 : Int64) * (-7046029254386353131 : Int64)))) * ((2 : Int64) - ((-7046029254386353131 : Int64) * ((-7046029254386353131 : Int64) * ((2 : Int64) - ((-7046029254386353131 : Int64) * (-7046029254386353131 : Int64))))))))))), .second] [(.long (((((-7046029254386353131 : Int64) * ((2 : Int64) - ((-7046029254386353131 : Int64) * (-7046029254386353131 : Int64)))) * ((2 : Int64) - ((-7046029254386353131 : Int64) * ((-7046029254386353131 : Int64) * ((2 : Int64) - ((-7046029254386353131 : Int64) * (-7046029254386353131 : Int64))))))) * ((2 : Int64) - ((-7046029254386353131 : Int64) * (((-7046029254386353131 : Int64) * ((2 : Int64) - ((-7046029254386353131 : Int64) * (-7046029254386353131 : Int64)))) * ((2 : Int64) - ((-7046029254386353131 : Int64) * ((-7046029254386353131 : Int64) * ((2 : Int64) - ((-7046029254386353131 : Int64) * (-7046029254386353131 : Int64)))))))))) * ((2 : Int64) - ((-7046029254386353131 : Int64) * ((((-7046029254386353131 : Int64) * ((2 : Int64) - ((-7046029254386353131 : Int64) * (-7046029254386353131 : Int64)))) * ((2 : Int64) - ((-7046029254386353131 : Int64) * ((-7046029254386353131 : Int64) * ((2 : Int64) - ((-7046029254386353131 : Int64) * (-7046029254386353131 : Int64))))))) * ((2 : Int64) - ((-7046029254386353131 : Int64) * (((-7046029254386353131 : Int64) * ((2 : Int64) - ((-7046029254386353131 : Int64) * (-7046029254386353131 : Int64)))) * ((2 : Int64) - ((-7046029254386353131 : Int64) * ((-7046029254386353131 : Int64) * ((2 : Int64) - ((-7046029254386353131 : Int64) * (-7046029254386353131 : Int64))))))))))))))]))
  refine Till.pre (fun _ hr => XS.lstoreN X0.here hx rfl (hb hby d1_45) rfl (l' := #[.val (.long (-7046029254386353131 : Int64)), .second, .val (.long (((((-7046029254386353131 : Int64) * ((2 : Int64) - ((-7046029254386353131 : Int64) * (-7046029254386353131 : Int64)))) * ((2 : Int64) - ((-7046029254386353131 : Int64) * ((-7046029254386353131 : Int64) * ((2 : Int64) - ((-7046029254386353131 : Int64) * (-7046029254386353131 : Int64))))))) * ((2 : Int64) - ((-7046029254386353131 : Int64) * (((-7046029254386353131 : Int64) * ((2 : Int64) - ((-7046029254386353131 : Int64) * (-7046029254386353131 : Int64)))) * ((2 : Int64) - ((-7046029254386353131 : Int64) * ((-7046029254386353131 : Int64) * ((2 : Int64) - ((-7046029254386353131 : Int64) * (-7046029254386353131 : Int64)))))))))) * ((2 : Int64) - ((-7046029254386353131 : Int64) * ((((-7046029254386353131 : Int64) * ((2 : Int64) - ((-7046029254386353131 : Int64) * (-7046029254386353131 : Int64)))) * ((2 : Int64) - ((-7046029254386353131 : Int64) * ((-7046029254386353131 : Int64) * ((2 : Int64) - ((-7046029254386353131 : Int64) * (-7046029254386353131 : Int64))))))) * ((2 : Int64) - ((-7046029254386353131 : Int64) * (((-7046029254386353131 : Int64) * ((2 : Int64) - ((-7046029254386353131 : Int64) * (-7046029254386353131 : Int64)))) * ((2 : Int64) - ((-7046029254386353131 : Int64) * ((-7046029254386353131 : Int64) * ((2 : Int64) - ((-7046029254386353131 : Int64) * (-7046029254386353131 : Int64)))))))))))))), .second]) rfl hr) ?_
  show Till p e below s (Q1 Z  h0 n0) room1.cells room1.slots (s₁.setTop (mkF m 46 #[.val (.long (-7046029254386353131 : Int64)), .second, .val (.long (((((-7046029254386353131 : Int64) * ((2 : Int64) - ((-7046029254386353131 : Int64) * (-7046029254386353131 : Int64)))) * ((2 : Int64) - ((-7046029254386353131 : Int64) * ((-7046029254386353131 : Int64) * ((2 : Int64) - ((-7046029254386353131 : Int64) * (-7046029254386353131 : Int64))))))) * ((2 : Int64) - ((-7046029254386353131 : Int64) * (((-7046029254386353131 : Int64) * ((2 : Int64) - ((-7046029254386353131 : Int64) * (-7046029254386353131 : Int64)))) * ((2 : Int64) - ((-7046029254386353131 : Int64) * ((-7046029254386353131 : Int64) * ((2 : Int64) - ((-7046029254386353131 : Int64) * (-7046029254386353131 : Int64)))))))))) * ((2 : Int64) - ((-7046029254386353131 : Int64) * ((((-7046029254386353131 : Int64) * ((2 : Int64) - ((-7046029254386353131 : Int64) * (-7046029254386353131 : Int64)))) * ((2 : Int64) - ((-7046029254386353131 : Int64) * ((-7046029254386353131 : Int64) * ((2 : Int64) - ((-7046029254386353131 : Int64) * (-7046029254386353131 : Int64))))))) * ((2 : Int64) - ((-7046029254386353131 : Int64) * (((-7046029254386353131 : Int64) * ((2 : Int64) - ((-7046029254386353131 : Int64) * (-7046029254386353131 : Int64)))) * ((2 : Int64) - ((-7046029254386353131 : Int64) * ((-7046029254386353131 : Int64) * ((2 : Int64) - ((-7046029254386353131 : Int64) * (-7046029254386353131 : Int64)))))))))))))), .second] []))
  refine Till.pre (fun _ hr => XS.lloadN X0.here hx rfl (hb hby d1_46) rfl hr) ?_
  show Till p e below s (Q1 Z  h0 n0) room1.cells room1.slots (s₁.setTop (mkF m 47 #[.val (.long (-7046029254386353131 : Int64)), .second, .val (.long (((((-7046029254386353131 : Int64) * ((2 : Int64) - ((-7046029254386353131 : Int64) * (-7046029254386353131 : Int64)))) * ((2 : Int64) - ((-7046029254386353131 : Int64) * ((-7046029254386353131 : Int64) * ((2 : Int64) - ((-7046029254386353131 : Int64) * (-7046029254386353131 : Int64))))))) * ((2 : Int64) - ((-7046029254386353131 : Int64) * (((-7046029254386353131 : Int64) * ((2 : Int64) - ((-7046029254386353131 : Int64) * (-7046029254386353131 : Int64)))) * ((2 : Int64) - ((-7046029254386353131 : Int64) * ((-7046029254386353131 : Int64) * ((2 : Int64) - ((-7046029254386353131 : Int64) * (-7046029254386353131 : Int64)))))))))) * ((2 : Int64) - ((-7046029254386353131 : Int64) * ((((-7046029254386353131 : Int64) * ((2 : Int64) - ((-7046029254386353131 : Int64) * (-7046029254386353131 : Int64)))) * ((2 : Int64) - ((-7046029254386353131 : Int64) * ((-7046029254386353131 : Int64) * ((2 : Int64) - ((-7046029254386353131 : Int64) * (-7046029254386353131 : Int64))))))) * ((2 : Int64) - ((-7046029254386353131 : Int64) * (((-7046029254386353131 : Int64) * ((2 : Int64) - ((-7046029254386353131 : Int64) * (-7046029254386353131 : Int64)))) * ((2 : Int64) - ((-7046029254386353131 : Int64) * ((-7046029254386353131 : Int64) * ((2 : Int64) - ((-7046029254386353131 : Int64) * (-7046029254386353131 : Int64)))))))))))))), .second] [(.long (((((-7046029254386353131 : Int64) * ((2 : Int64) - ((-7046029254386353131 : Int64) * (-7046029254386353131 : Int64)))) * ((2 : Int64) - ((-7046029254386353131 : Int64) * ((-7046029254386353131 : Int64) * ((2 : Int64) - ((-7046029254386353131 : Int64) * (-7046029254386353131 : Int64))))))) * ((2 : Int64) - ((-7046029254386353131 : Int64) * (((-7046029254386353131 : Int64) * ((2 : Int64) - ((-7046029254386353131 : Int64) * (-7046029254386353131 : Int64)))) * ((2 : Int64) - ((-7046029254386353131 : Int64) * ((-7046029254386353131 : Int64) * ((2 : Int64) - ((-7046029254386353131 : Int64) * (-7046029254386353131 : Int64)))))))))) * ((2 : Int64) - ((-7046029254386353131 : Int64) * ((((-7046029254386353131 : Int64) * ((2 : Int64) - ((-7046029254386353131 : Int64) * (-7046029254386353131 : Int64)))) * ((2 : Int64) - ((-7046029254386353131 : Int64) * ((-7046029254386353131 : Int64) * ((2 : Int64) - ((-7046029254386353131 : Int64) * (-7046029254386353131 : Int64))))))) * ((2 : Int64) - ((-7046029254386353131 : Int64) * (((-7046029254386353131 : Int64) * ((2 : Int64) - ((-7046029254386353131 : Int64) * (-7046029254386353131 : Int64)))) * ((2 : Int64) - ((-7046029254386353131 : Int64) * ((-7046029254386353131 : Int64) * ((2 : Int64) - ((-7046029254386353131 : Int64) * (-7046029254386353131 : Int64))))))))))))))]))
  refine Till.pre (X0.ldc2Long hx hown (mvT hZ (hw _ (List.mem_of_getElem? (i := 5) rfl))) (g := (mkF m 47 #[.val (.long (-7046029254386353131 : Int64)), .second, .val (.long (((((-7046029254386353131 : Int64) * ((2 : Int64) - ((-7046029254386353131 : Int64) * (-7046029254386353131 : Int64)))) * ((2 : Int64) - ((-7046029254386353131 : Int64) * ((-7046029254386353131 : Int64) * ((2 : Int64) - ((-7046029254386353131 : Int64) * (-7046029254386353131 : Int64))))))) * ((2 : Int64) - ((-7046029254386353131 : Int64) * (((-7046029254386353131 : Int64) * ((2 : Int64) - ((-7046029254386353131 : Int64) * (-7046029254386353131 : Int64)))) * ((2 : Int64) - ((-7046029254386353131 : Int64) * ((-7046029254386353131 : Int64) * ((2 : Int64) - ((-7046029254386353131 : Int64) * (-7046029254386353131 : Int64)))))))))) * ((2 : Int64) - ((-7046029254386353131 : Int64) * ((((-7046029254386353131 : Int64) * ((2 : Int64) - ((-7046029254386353131 : Int64) * (-7046029254386353131 : Int64)))) * ((2 : Int64) - ((-7046029254386353131 : Int64) * ((-7046029254386353131 : Int64) * ((2 : Int64) - ((-7046029254386353131 : Int64) * (-7046029254386353131 : Int64))))))) * ((2 : Int64) - ((-7046029254386353131 : Int64) * (((-7046029254386353131 : Int64) * ((2 : Int64) - ((-7046029254386353131 : Int64) * (-7046029254386353131 : Int64)))) * ((2 : Int64) - ((-7046029254386353131 : Int64) * ((-7046029254386353131 : Int64) * ((2 : Int64) - ((-7046029254386353131 : Int64) * (-7046029254386353131 : Int64)))))))))))))), .second] [(.long (((((-7046029254386353131 : Int64) * ((2 : Int64) - ((-7046029254386353131 : Int64) * (-7046029254386353131 : Int64)))) * ((2 : Int64) - ((-7046029254386353131 : Int64) * ((-7046029254386353131 : Int64) * ((2 : Int64) - ((-7046029254386353131 : Int64) * (-7046029254386353131 : Int64))))))) * ((2 : Int64) - ((-7046029254386353131 : Int64) * (((-7046029254386353131 : Int64) * ((2 : Int64) - ((-7046029254386353131 : Int64) * (-7046029254386353131 : Int64)))) * ((2 : Int64) - ((-7046029254386353131 : Int64) * ((-7046029254386353131 : Int64) * ((2 : Int64) - ((-7046029254386353131 : Int64) * (-7046029254386353131 : Int64)))))))))) * ((2 : Int64) - ((-7046029254386353131 : Int64) * ((((-7046029254386353131 : Int64) * ((2 : Int64) - ((-7046029254386353131 : Int64) * (-7046029254386353131 : Int64)))) * ((2 : Int64) - ((-7046029254386353131 : Int64) * ((-7046029254386353131 : Int64) * ((2 : Int64) - ((-7046029254386353131 : Int64) * (-7046029254386353131 : Int64))))))) * ((2 : Int64) - ((-7046029254386353131 : Int64) * (((-7046029254386353131 : Int64) * ((2 : Int64) - ((-7046029254386353131 : Int64) * (-7046029254386353131 : Int64)))) * ((2 : Int64) - ((-7046029254386353131 : Int64) * ((-7046029254386353131 : Int64) * ((2 : Int64) - ((-7046029254386353131 : Int64) * (-7046029254386353131 : Int64))))))))))))))])) rfl (hb hby d1_47)) ?_
  show Till p e below s (Q1 Z  h0 n0) room1.cells room1.slots (s₁.setTop (mkF m 50 #[.val (.long (-7046029254386353131 : Int64)), .second, .val (.long (((((-7046029254386353131 : Int64) * ((2 : Int64) - ((-7046029254386353131 : Int64) * (-7046029254386353131 : Int64)))) * ((2 : Int64) - ((-7046029254386353131 : Int64) * ((-7046029254386353131 : Int64) * ((2 : Int64) - ((-7046029254386353131 : Int64) * (-7046029254386353131 : Int64))))))) * ((2 : Int64) - ((-7046029254386353131 : Int64) * (((-7046029254386353131 : Int64) * ((2 : Int64) - ((-7046029254386353131 : Int64) * (-7046029254386353131 : Int64)))) * ((2 : Int64) - ((-7046029254386353131 : Int64) * ((-7046029254386353131 : Int64) * ((2 : Int64) - ((-7046029254386353131 : Int64) * (-7046029254386353131 : Int64)))))))))) * ((2 : Int64) - ((-7046029254386353131 : Int64) * ((((-7046029254386353131 : Int64) * ((2 : Int64) - ((-7046029254386353131 : Int64) * (-7046029254386353131 : Int64)))) * ((2 : Int64) - ((-7046029254386353131 : Int64) * ((-7046029254386353131 : Int64) * ((2 : Int64) - ((-7046029254386353131 : Int64) * (-7046029254386353131 : Int64))))))) * ((2 : Int64) - ((-7046029254386353131 : Int64) * (((-7046029254386353131 : Int64) * ((2 : Int64) - ((-7046029254386353131 : Int64) * (-7046029254386353131 : Int64)))) * ((2 : Int64) - ((-7046029254386353131 : Int64) * ((-7046029254386353131 : Int64) * ((2 : Int64) - ((-7046029254386353131 : Int64) * (-7046029254386353131 : Int64)))))))))))))), .second] [(.long (2 : Int64)), (.long (((((-7046029254386353131 : Int64) * ((2 : Int64) - ((-7046029254386353131 : Int64) * (-7046029254386353131 : Int64)))) * ((2 : Int64) - ((-7046029254386353131 : Int64) * ((-7046029254386353131 : Int64) * ((2 : Int64) - ((-7046029254386353131 : Int64) * (-7046029254386353131 : Int64))))))) * ((2 : Int64) - ((-7046029254386353131 : Int64) * (((-7046029254386353131 : Int64) * ((2 : Int64) - ((-7046029254386353131 : Int64) * (-7046029254386353131 : Int64)))) * ((2 : Int64) - ((-7046029254386353131 : Int64) * ((-7046029254386353131 : Int64) * ((2 : Int64) - ((-7046029254386353131 : Int64) * (-7046029254386353131 : Int64)))))))))) * ((2 : Int64) - ((-7046029254386353131 : Int64) * ((((-7046029254386353131 : Int64) * ((2 : Int64) - ((-7046029254386353131 : Int64) * (-7046029254386353131 : Int64)))) * ((2 : Int64) - ((-7046029254386353131 : Int64) * ((-7046029254386353131 : Int64) * ((2 : Int64) - ((-7046029254386353131 : Int64) * (-7046029254386353131 : Int64))))))) * ((2 : Int64) - ((-7046029254386353131 : Int64) * (((-7046029254386353131 : Int64) * ((2 : Int64) - ((-7046029254386353131 : Int64) * (-7046029254386353131 : Int64)))) * ((2 : Int64) - ((-7046029254386353131 : Int64) * ((-7046029254386353131 : Int64) * ((2 : Int64) - ((-7046029254386353131 : Int64) * (-7046029254386353131 : Int64))))))))))))))]))
  refine Till.pre (fun _ hr => XS.lloadN X0.here hx rfl (hb hby d1_50) rfl hr) ?_
  show Till p e below s (Q1 Z  h0 n0) room1.cells room1.slots (s₁.setTop (mkF m 51 #[.val (.long (-7046029254386353131 : Int64)), .second, .val (.long (((((-7046029254386353131 : Int64) * ((2 : Int64) - ((-7046029254386353131 : Int64) * (-7046029254386353131 : Int64)))) * ((2 : Int64) - ((-7046029254386353131 : Int64) * ((-7046029254386353131 : Int64) * ((2 : Int64) - ((-7046029254386353131 : Int64) * (-7046029254386353131 : Int64))))))) * ((2 : Int64) - ((-7046029254386353131 : Int64) * (((-7046029254386353131 : Int64) * ((2 : Int64) - ((-7046029254386353131 : Int64) * (-7046029254386353131 : Int64)))) * ((2 : Int64) - ((-7046029254386353131 : Int64) * ((-7046029254386353131 : Int64) * ((2 : Int64) - ((-7046029254386353131 : Int64) * (-7046029254386353131 : Int64)))))))))) * ((2 : Int64) - ((-7046029254386353131 : Int64) * ((((-7046029254386353131 : Int64) * ((2 : Int64) - ((-7046029254386353131 : Int64) * (-7046029254386353131 : Int64)))) * ((2 : Int64) - ((-7046029254386353131 : Int64) * ((-7046029254386353131 : Int64) * ((2 : Int64) - ((-7046029254386353131 : Int64) * (-7046029254386353131 : Int64))))))) * ((2 : Int64) - ((-7046029254386353131 : Int64) * (((-7046029254386353131 : Int64) * ((2 : Int64) - ((-7046029254386353131 : Int64) * (-7046029254386353131 : Int64)))) * ((2 : Int64) - ((-7046029254386353131 : Int64) * ((-7046029254386353131 : Int64) * ((2 : Int64) - ((-7046029254386353131 : Int64) * (-7046029254386353131 : Int64)))))))))))))), .second] [(.long (-7046029254386353131 : Int64)), (.long (2 : Int64)), (.long (((((-7046029254386353131 : Int64) * ((2 : Int64) - ((-7046029254386353131 : Int64) * (-7046029254386353131 : Int64)))) * ((2 : Int64) - ((-7046029254386353131 : Int64) * ((-7046029254386353131 : Int64) * ((2 : Int64) - ((-7046029254386353131 : Int64) * (-7046029254386353131 : Int64))))))) * ((2 : Int64) - ((-7046029254386353131 : Int64) * (((-7046029254386353131 : Int64) * ((2 : Int64) - ((-7046029254386353131 : Int64) * (-7046029254386353131 : Int64)))) * ((2 : Int64) - ((-7046029254386353131 : Int64) * ((-7046029254386353131 : Int64) * ((2 : Int64) - ((-7046029254386353131 : Int64) * (-7046029254386353131 : Int64)))))))))) * ((2 : Int64) - ((-7046029254386353131 : Int64) * ((((-7046029254386353131 : Int64) * ((2 : Int64) - ((-7046029254386353131 : Int64) * (-7046029254386353131 : Int64)))) * ((2 : Int64) - ((-7046029254386353131 : Int64) * ((-7046029254386353131 : Int64) * ((2 : Int64) - ((-7046029254386353131 : Int64) * (-7046029254386353131 : Int64))))))) * ((2 : Int64) - ((-7046029254386353131 : Int64) * (((-7046029254386353131 : Int64) * ((2 : Int64) - ((-7046029254386353131 : Int64) * (-7046029254386353131 : Int64)))) * ((2 : Int64) - ((-7046029254386353131 : Int64) * ((-7046029254386353131 : Int64) * ((2 : Int64) - ((-7046029254386353131 : Int64) * (-7046029254386353131 : Int64))))))))))))))]))
  refine Till.pre (fun _ hr => XS.lloadN X0.here hx rfl (hb hby d1_51) rfl hr) ?_
  show Till p e below s (Q1 Z  h0 n0) room1.cells room1.slots (s₁.setTop (mkF m 52 #[.val (.long (-7046029254386353131 : Int64)), .second, .val (.long (((((-7046029254386353131 : Int64) * ((2 : Int64) - ((-7046029254386353131 : Int64) * (-7046029254386353131 : Int64)))) * ((2 : Int64) - ((-7046029254386353131 : Int64) * ((-7046029254386353131 : Int64) * ((2 : Int64) - ((-7046029254386353131 : Int64) * (-7046029254386353131 : Int64))))))) * ((2 : Int64) - ((-7046029254386353131 : Int64) * (((-7046029254386353131 : Int64) * ((2 : Int64) - ((-7046029254386353131 : Int64) * (-7046029254386353131 : Int64)))) * ((2 : Int64) - ((-7046029254386353131 : Int64) * ((-7046029254386353131 : Int64) * ((2 : Int64) - ((-7046029254386353131 : Int64) * (-7046029254386353131 : Int64)))))))))) * ((2 : Int64) - ((-7046029254386353131 : Int64) * ((((-7046029254386353131 : Int64) * ((2 : Int64) - ((-7046029254386353131 : Int64) * (-7046029254386353131 : Int64)))) * ((2 : Int64) - ((-7046029254386353131 : Int64) * ((-7046029254386353131 : Int64) * ((2 : Int64) - ((-7046029254386353131 : Int64) * (-7046029254386353131 : Int64))))))) * ((2 : Int64) - ((-7046029254386353131 : Int64) * (((-7046029254386353131 : Int64) * ((2 : Int64) - ((-7046029254386353131 : Int64) * (-7046029254386353131 : Int64)))) * ((2 : Int64) - ((-7046029254386353131 : Int64) * ((-7046029254386353131 : Int64) * ((2 : Int64) - ((-7046029254386353131 : Int64) * (-7046029254386353131 : Int64)))))))))))))), .second] [(.long (((((-7046029254386353131 : Int64) * ((2 : Int64) - ((-7046029254386353131 : Int64) * (-7046029254386353131 : Int64)))) * ((2 : Int64) - ((-7046029254386353131 : Int64) * ((-7046029254386353131 : Int64) * ((2 : Int64) - ((-7046029254386353131 : Int64) * (-7046029254386353131 : Int64))))))) * ((2 : Int64) - ((-7046029254386353131 : Int64) * (((-7046029254386353131 : Int64) * ((2 : Int64) - ((-7046029254386353131 : Int64) * (-7046029254386353131 : Int64)))) * ((2 : Int64) - ((-7046029254386353131 : Int64) * ((-7046029254386353131 : Int64) * ((2 : Int64) - ((-7046029254386353131 : Int64) * (-7046029254386353131 : Int64)))))))))) * ((2 : Int64) - ((-7046029254386353131 : Int64) * ((((-7046029254386353131 : Int64) * ((2 : Int64) - ((-7046029254386353131 : Int64) * (-7046029254386353131 : Int64)))) * ((2 : Int64) - ((-7046029254386353131 : Int64) * ((-7046029254386353131 : Int64) * ((2 : Int64) - ((-7046029254386353131 : Int64) * (-7046029254386353131 : Int64))))))) * ((2 : Int64) - ((-7046029254386353131 : Int64) * (((-7046029254386353131 : Int64) * ((2 : Int64) - ((-7046029254386353131 : Int64) * (-7046029254386353131 : Int64)))) * ((2 : Int64) - ((-7046029254386353131 : Int64) * ((-7046029254386353131 : Int64) * ((2 : Int64) - ((-7046029254386353131 : Int64) * (-7046029254386353131 : Int64)))))))))))))), (.long (-7046029254386353131 : Int64)), (.long (2 : Int64)), (.long (((((-7046029254386353131 : Int64) * ((2 : Int64) - ((-7046029254386353131 : Int64) * (-7046029254386353131 : Int64)))) * ((2 : Int64) - ((-7046029254386353131 : Int64) * ((-7046029254386353131 : Int64) * ((2 : Int64) - ((-7046029254386353131 : Int64) * (-7046029254386353131 : Int64))))))) * ((2 : Int64) - ((-7046029254386353131 : Int64) * (((-7046029254386353131 : Int64) * ((2 : Int64) - ((-7046029254386353131 : Int64) * (-7046029254386353131 : Int64)))) * ((2 : Int64) - ((-7046029254386353131 : Int64) * ((-7046029254386353131 : Int64) * ((2 : Int64) - ((-7046029254386353131 : Int64) * (-7046029254386353131 : Int64)))))))))) * ((2 : Int64) - ((-7046029254386353131 : Int64) * ((((-7046029254386353131 : Int64) * ((2 : Int64) - ((-7046029254386353131 : Int64) * (-7046029254386353131 : Int64)))) * ((2 : Int64) - ((-7046029254386353131 : Int64) * ((-7046029254386353131 : Int64) * ((2 : Int64) - ((-7046029254386353131 : Int64) * (-7046029254386353131 : Int64))))))) * ((2 : Int64) - ((-7046029254386353131 : Int64) * (((-7046029254386353131 : Int64) * ((2 : Int64) - ((-7046029254386353131 : Int64) * (-7046029254386353131 : Int64)))) * ((2 : Int64) - ((-7046029254386353131 : Int64) * ((-7046029254386353131 : Int64) * ((2 : Int64) - ((-7046029254386353131 : Int64) * (-7046029254386353131 : Int64))))))))))))))]))
  refine Till.pre (fun _ hr => XS.lmul X0.here hx rfl (hb hby d1_52) rfl hr) ?_
  show Till p e below s (Q1 Z  h0 n0) room1.cells room1.slots (s₁.setTop (mkF m 53 #[.val (.long (-7046029254386353131 : Int64)), .second, .val (.long (((((-7046029254386353131 : Int64) * ((2 : Int64) - ((-7046029254386353131 : Int64) * (-7046029254386353131 : Int64)))) * ((2 : Int64) - ((-7046029254386353131 : Int64) * ((-7046029254386353131 : Int64) * ((2 : Int64) - ((-7046029254386353131 : Int64) * (-7046029254386353131 : Int64))))))) * ((2 : Int64) - ((-7046029254386353131 : Int64) * (((-7046029254386353131 : Int64) * ((2 : Int64) - ((-7046029254386353131 : Int64) * (-7046029254386353131 : Int64)))) * ((2 : Int64) - ((-7046029254386353131 : Int64) * ((-7046029254386353131 : Int64) * ((2 : Int64) - ((-7046029254386353131 : Int64) * (-7046029254386353131 : Int64)))))))))) * ((2 : Int64) - ((-7046029254386353131 : Int64) * ((((-7046029254386353131 : Int64) * ((2 : Int64) - ((-7046029254386353131 : Int64) * (-7046029254386353131 : Int64)))) * ((2 : Int64) - ((-7046029254386353131 : Int64) * ((-7046029254386353131 : Int64) * ((2 : Int64) - ((-7046029254386353131 : Int64) * (-7046029254386353131 : Int64))))))) * ((2 : Int64) - ((-7046029254386353131 : Int64) * (((-7046029254386353131 : Int64) * ((2 : Int64) - ((-7046029254386353131 : Int64) * (-7046029254386353131 : Int64)))) * ((2 : Int64) - ((-7046029254386353131 : Int64) * ((-7046029254386353131 : Int64) * ((2 : Int64) - ((-7046029254386353131 : Int64) * (-7046029254386353131 : Int64)))))))))))))), .second] [(.long ((-7046029254386353131 : Int64) * (((((-7046029254386353131 : Int64) * ((2 : Int64) - ((-7046029254386353131 : Int64) * (-7046029254386353131 : Int64)))) * ((2 : Int64) - ((-7046029254386353131 : Int64) * ((-7046029254386353131 : Int64) * ((2 : Int64) - ((-7046029254386353131 : Int64) * (-7046029254386353131 : Int64))))))) * ((2 : Int64) - ((-7046029254386353131 : Int64) * (((-7046029254386353131 : Int64) * ((2 : Int64) - ((-7046029254386353131 : Int64) * (-7046029254386353131 : Int64)))) * ((2 : Int64) - ((-7046029254386353131 : Int64) * ((-7046029254386353131 : Int64) * ((2 : Int64) - ((-7046029254386353131 : Int64) * (-7046029254386353131 : Int64)))))))))) * ((2 : Int64) - ((-7046029254386353131 : Int64) * ((((-7046029254386353131 : Int64) * ((2 : Int64) - ((-7046029254386353131 : Int64) * (-7046029254386353131 : Int64)))) * ((2 : Int64) - ((-7046029254386353131 : Int64) * ((-7046029254386353131 : Int64) * ((2 : Int64) - ((-7046029254386353131 : Int64) * (-7046029254386353131 : Int64))))))) * ((2 : Int64) - ((-7046029254386353131 : Int64) * (((-7046029254386353131 : Int64) * ((2 : Int64) - ((-7046029254386353131 : Int64) * (-7046029254386353131 : Int64)))) * ((2 : Int64) - ((-7046029254386353131 : Int64) * ((-7046029254386353131 : Int64) * ((2 : Int64) - ((-7046029254386353131 : Int64) * (-7046029254386353131 : Int64))))))))))))))), (.long (2 : Int64)), (.long (((((-7046029254386353131 : Int64) * ((2 : Int64) - ((-7046029254386353131 : Int64) * (-7046029254386353131 : Int64)))) * ((2 : Int64) - ((-7046029254386353131 : Int64) * ((-7046029254386353131 : Int64) * ((2 : Int64) - ((-7046029254386353131 : Int64) * (-7046029254386353131 : Int64))))))) * ((2 : Int64) - ((-7046029254386353131 : Int64) * (((-7046029254386353131 : Int64) * ((2 : Int64) - ((-7046029254386353131 : Int64) * (-7046029254386353131 : Int64)))) * ((2 : Int64) - ((-7046029254386353131 : Int64) * ((-7046029254386353131 : Int64) * ((2 : Int64) - ((-7046029254386353131 : Int64) * (-7046029254386353131 : Int64)))))))))) * ((2 : Int64) - ((-7046029254386353131 : Int64) * ((((-7046029254386353131 : Int64) * ((2 : Int64) - ((-7046029254386353131 : Int64) * (-7046029254386353131 : Int64)))) * ((2 : Int64) - ((-7046029254386353131 : Int64) * ((-7046029254386353131 : Int64) * ((2 : Int64) - ((-7046029254386353131 : Int64) * (-7046029254386353131 : Int64))))))) * ((2 : Int64) - ((-7046029254386353131 : Int64) * (((-7046029254386353131 : Int64) * ((2 : Int64) - ((-7046029254386353131 : Int64) * (-7046029254386353131 : Int64)))) * ((2 : Int64) - ((-7046029254386353131 : Int64) * ((-7046029254386353131 : Int64) * ((2 : Int64) - ((-7046029254386353131 : Int64) * (-7046029254386353131 : Int64))))))))))))))]))
  refine Till.pre (fun _ hr => XS.lsub X0.here hx rfl (hb hby d1_53) rfl hr) ?_
  show Till p e below s (Q1 Z  h0 n0) room1.cells room1.slots (s₁.setTop (mkF m 54 #[.val (.long (-7046029254386353131 : Int64)), .second, .val (.long (((((-7046029254386353131 : Int64) * ((2 : Int64) - ((-7046029254386353131 : Int64) * (-7046029254386353131 : Int64)))) * ((2 : Int64) - ((-7046029254386353131 : Int64) * ((-7046029254386353131 : Int64) * ((2 : Int64) - ((-7046029254386353131 : Int64) * (-7046029254386353131 : Int64))))))) * ((2 : Int64) - ((-7046029254386353131 : Int64) * (((-7046029254386353131 : Int64) * ((2 : Int64) - ((-7046029254386353131 : Int64) * (-7046029254386353131 : Int64)))) * ((2 : Int64) - ((-7046029254386353131 : Int64) * ((-7046029254386353131 : Int64) * ((2 : Int64) - ((-7046029254386353131 : Int64) * (-7046029254386353131 : Int64)))))))))) * ((2 : Int64) - ((-7046029254386353131 : Int64) * ((((-7046029254386353131 : Int64) * ((2 : Int64) - ((-7046029254386353131 : Int64) * (-7046029254386353131 : Int64)))) * ((2 : Int64) - ((-7046029254386353131 : Int64) * ((-7046029254386353131 : Int64) * ((2 : Int64) - ((-7046029254386353131 : Int64) * (-7046029254386353131 : Int64))))))) * ((2 : Int64) - ((-7046029254386353131 : Int64) * (((-7046029254386353131 : Int64) * ((2 : Int64) - ((-7046029254386353131 : Int64) * (-7046029254386353131 : Int64)))) * ((2 : Int64) - ((-7046029254386353131 : Int64) * ((-7046029254386353131 : Int64) * ((2 : Int64) - ((-7046029254386353131 : Int64) * (-7046029254386353131 : Int64)))))))))))))), .second] [(.long ((2 : Int64) - ((-7046029254386353131 : Int64) * (((((-7046029254386353131 : Int64) * ((2 : Int64) - ((-7046029254386353131 : Int64) * (-7046029254386353131 : Int64)))) * ((2 : Int64) - ((-7046029254386353131 : Int64) * ((-7046029254386353131 : Int64) * ((2 : Int64) - ((-7046029254386353131 : Int64) * (-7046029254386353131 : Int64))))))) * ((2 : Int64) - ((-7046029254386353131 : Int64) * (((-7046029254386353131 : Int64) * ((2 : Int64) - ((-7046029254386353131 : Int64) * (-7046029254386353131 : Int64)))) * ((2 : Int64) - ((-7046029254386353131 : Int64) * ((-7046029254386353131 : Int64) * ((2 : Int64) - ((-7046029254386353131 : Int64) * (-7046029254386353131 : Int64)))))))))) * ((2 : Int64) - ((-7046029254386353131 : Int64) * ((((-7046029254386353131 : Int64) * ((2 : Int64) - ((-7046029254386353131 : Int64) * (-7046029254386353131 : Int64)))) * ((2 : Int64) - ((-7046029254386353131 : Int64) * ((-7046029254386353131 : Int64) * ((2 : Int64) - ((-7046029254386353131 : Int64) * (-7046029254386353131 : Int64))))))) * ((2 : Int64) - ((-7046029254386353131 : Int64) * (((-7046029254386353131 : Int64) * ((2 : Int64) - ((-7046029254386353131 : Int64) * (-7046029254386353131 : Int64)))) * ((2 : Int64) - ((-7046029254386353131 : Int64) * ((-7046029254386353131 : Int64) * ((2 : Int64) - ((-7046029254386353131 : Int64) * (-7046029254386353131 : Int64)))))))))))))))), (.long (((((-7046029254386353131 : Int64) * ((2 : Int64) - ((-7046029254386353131 : Int64) * (-7046029254386353131 : Int64)))) * ((2 : Int64) - ((-7046029254386353131 : Int64) * ((-7046029254386353131 : Int64) * ((2 : Int64) - ((-7046029254386353131 : Int64) * (-7046029254386353131 : Int64))))))) * ((2 : Int64) - ((-7046029254386353131 : Int64) * (((-7046029254386353131 : Int64) * ((2 : Int64) - ((-7046029254386353131 : Int64) * (-7046029254386353131 : Int64)))) * ((2 : Int64) - ((-7046029254386353131 : Int64) * ((-7046029254386353131 : Int64) * ((2 : Int64) - ((-7046029254386353131 : Int64) * (-7046029254386353131 : Int64)))))))))) * ((2 : Int64) - ((-7046029254386353131 : Int64) * ((((-7046029254386353131 : Int64) * ((2 : Int64) - ((-7046029254386353131 : Int64) * (-7046029254386353131 : Int64)))) * ((2 : Int64) - ((-7046029254386353131 : Int64) * ((-7046029254386353131 : Int64) * ((2 : Int64) - ((-7046029254386353131 : Int64) * (-7046029254386353131 : Int64))))))) * ((2 : Int64) - ((-7046029254386353131 : Int64) * (((-7046029254386353131 : Int64) * ((2 : Int64) - ((-7046029254386353131 : Int64) * (-7046029254386353131 : Int64)))) * ((2 : Int64) - ((-7046029254386353131 : Int64) * ((-7046029254386353131 : Int64) * ((2 : Int64) - ((-7046029254386353131 : Int64) * (-7046029254386353131 : Int64))))))))))))))]))
  refine Till.pre (fun _ hr => XS.lmul X0.here hx rfl (hb hby d1_54) rfl hr) ?_
  show Till p e below s (Q1 Z  h0 n0) room1.cells room1.slots (s₁.setTop (mkF m 55 #[.val (.long (-7046029254386353131 : Int64)), .second, .val (.long (((((-7046029254386353131 : Int64) * ((2 : Int64) - ((-7046029254386353131 : Int64) * (-7046029254386353131 : Int64)))) * ((2 : Int64) - ((-7046029254386353131 : Int64) * ((-7046029254386353131 : Int64) * ((2 : Int64) - ((-7046029254386353131 : Int64) * (-7046029254386353131 : Int64))))))) * ((2 : Int64) - ((-7046029254386353131 : Int64) * (((-7046029254386353131 : Int64) * ((2 : Int64) - ((-7046029254386353131 : Int64) * (-7046029254386353131 : Int64)))) * ((2 : Int64) - ((-7046029254386353131 : Int64) * ((-7046029254386353131 : Int64) * ((2 : Int64) - ((-7046029254386353131 : Int64) * (-7046029254386353131 : Int64)))))))))) * ((2 : Int64) - ((-7046029254386353131 : Int64) * ((((-7046029254386353131 : Int64) * ((2 : Int64) - ((-7046029254386353131 : Int64) * (-7046029254386353131 : Int64)))) * ((2 : Int64) - ((-7046029254386353131 : Int64) * ((-7046029254386353131 : Int64) * ((2 : Int64) - ((-7046029254386353131 : Int64) * (-7046029254386353131 : Int64))))))) * ((2 : Int64) - ((-7046029254386353131 : Int64) * (((-7046029254386353131 : Int64) * ((2 : Int64) - ((-7046029254386353131 : Int64) * (-7046029254386353131 : Int64)))) * ((2 : Int64) - ((-7046029254386353131 : Int64) * ((-7046029254386353131 : Int64) * ((2 : Int64) - ((-7046029254386353131 : Int64) * (-7046029254386353131 : Int64)))))))))))))), .second] [(.long ((((((-7046029254386353131 : Int64) * ((2 : Int64) - ((-7046029254386353131 : Int64) * (-7046029254386353131 : Int64)))) * ((2 : Int64) - ((-7046029254386353131 : Int64) * ((-7046029254386353131 : Int64) * ((2 : Int64) - ((-7046029254386353131 : Int64) * (-7046029254386353131 : Int64))))))) * ((2 : Int64) - ((-7046029254386353131 : Int64) * (((-7046029254386353131 : Int64) * ((2 : Int64) - ((-7046029254386353131 : Int64) * (-7046029254386353131 : Int64)))) * ((2 : Int64) - ((-7046029254386353131 : Int64) * ((-7046029254386353131 : Int64) * ((2 : Int64) - ((-7046029254386353131 : Int64) * (-7046029254386353131 : Int64)))))))))) * ((2 : Int64) - ((-7046029254386353131 : Int64) * ((((-7046029254386353131 : Int64) * ((2 : Int64) - ((-7046029254386353131 : Int64) * (-7046029254386353131 : Int64)))) * ((2 : Int64) - ((-7046029254386353131 : Int64) * ((-7046029254386353131 : Int64) * ((2 : Int64) - ((-7046029254386353131 : Int64) * (-7046029254386353131 : Int64))))))) * ((2 : Int64) - ((-7046029254386353131 : Int64) * (((-7046029254386353131 : Int64) * ((2 : Int64) - ((-7046029254386353131 : Int64) * (-7046029254386353131 : Int64)))) * ((2 : Int64) - ((-7046029254386353131 : Int64) * ((-7046029254386353131 : Int64) * ((2 : Int64) - ((-7046029254386353131 : Int64) * (-7046029254386353131 : Int64))))))))))))) * ((2 : Int64) - ((-7046029254386353131 : Int64) * (((((-7046029254386353131 : Int64) * ((2 : Int64) - ((-7046029254386353131 : Int64) * (-7046029254386353131 : Int64)))) * ((2 : Int64) - ((-7046029254386353131 : Int64) * ((-7046029254386353131 : Int64) * ((2 : Int64) - ((-7046029254386353131 : Int64) * (-7046029254386353131 : Int64))))))) * ((2 : Int64) - ((-7046029254386353131 : Int64) * (((-7046029254386353131 : Int64) * ((2 : Int64) - ((-7046029254386353131 : Int64) * (-7046029254386353131 : Int64)))) * ((2 : Int64) - ((-7046029254386353131 : Int64) * ((-7046029254386353131 : Int64) * ((2 : Int64) - ((-7046029254386353131 : Int64) * (-7046029254386353131 : Int64)))))))))) * ((2 : Int64) - ((-7046029254386353131 : Int64) * ((((-7046029254386353131 : Int64) * ((2 : Int64) - ((-7046029254386353131 : Int64) * (-7046029254386353131 : Int64)))) * ((2 : Int64) - ((-7046029254386353131 : Int64) * ((-7046029254386353131 : Int64) * ((2 : Int64) - ((-7046029254386353131 : Int64) * (-7046029254386353131 : Int64))))))) * ((2 : Int64) - ((-7046029254386353131 : Int64) * (((-7046029254386353131 : Int64) * ((2 : Int64) - ((-7046029254386353131 : Int64) * (-7046029254386353131 : Int64)))) * ((2 : Int64) - ((-7046029254386353131 : Int64) * ((-7046029254386353131 : Int64) * ((2 : Int64) - ((-7046029254386353131 : Int64) * (-7046029254386353131 : Int64)))))))))))))))))]))
  refine Till.pre (fun _ hr => XS.lstoreN X0.here hx rfl (hb hby d1_55) rfl (l' := #[.val (.long (-7046029254386353131 : Int64)), .second, .val (.long ((((((-7046029254386353131 : Int64) * ((2 : Int64) - ((-7046029254386353131 : Int64) * (-7046029254386353131 : Int64)))) * ((2 : Int64) - ((-7046029254386353131 : Int64) * ((-7046029254386353131 : Int64) * ((2 : Int64) - ((-7046029254386353131 : Int64) * (-7046029254386353131 : Int64))))))) * ((2 : Int64) - ((-7046029254386353131 : Int64) * (((-7046029254386353131 : Int64) * ((2 : Int64) - ((-7046029254386353131 : Int64) * (-7046029254386353131 : Int64)))) * ((2 : Int64) - ((-7046029254386353131 : Int64) * ((-7046029254386353131 : Int64) * ((2 : Int64) - ((-7046029254386353131 : Int64) * (-7046029254386353131 : Int64)))))))))) * ((2 : Int64) - ((-7046029254386353131 : Int64) * ((((-7046029254386353131 : Int64) * ((2 : Int64) - ((-7046029254386353131 : Int64) * (-7046029254386353131 : Int64)))) * ((2 : Int64) - ((-7046029254386353131 : Int64) * ((-7046029254386353131 : Int64) * ((2 : Int64) - ((-7046029254386353131 : Int64) * (-7046029254386353131 : Int64))))))) * ((2 : Int64) - ((-7046029254386353131 : Int64) * (((-7046029254386353131 : Int64) * ((2 : Int64) - ((-7046029254386353131 : Int64) * (-7046029254386353131 : Int64)))) * ((2 : Int64) - ((-7046029254386353131 : Int64) * ((-7046029254386353131 : Int64) * ((2 : Int64) - ((-7046029254386353131 : Int64) * (-7046029254386353131 : Int64))))))))))))) * ((2 : Int64) - ((-7046029254386353131 : Int64) * (((((-7046029254386353131 : Int64) * ((2 : Int64) - ((-7046029254386353131 : Int64) * (-7046029254386353131 : Int64)))) * ((2 : Int64) - ((-7046029254386353131 : Int64) * ((-7046029254386353131 : Int64) * ((2 : Int64) - ((-7046029254386353131 : Int64) * (-7046029254386353131 : Int64))))))) * ((2 : Int64) - ((-7046029254386353131 : Int64) * (((-7046029254386353131 : Int64) * ((2 : Int64) - ((-7046029254386353131 : Int64) * (-7046029254386353131 : Int64)))) * ((2 : Int64) - ((-7046029254386353131 : Int64) * ((-7046029254386353131 : Int64) * ((2 : Int64) - ((-7046029254386353131 : Int64) * (-7046029254386353131 : Int64)))))))))) * ((2 : Int64) - ((-7046029254386353131 : Int64) * ((((-7046029254386353131 : Int64) * ((2 : Int64) - ((-7046029254386353131 : Int64) * (-7046029254386353131 : Int64)))) * ((2 : Int64) - ((-7046029254386353131 : Int64) * ((-7046029254386353131 : Int64) * ((2 : Int64) - ((-7046029254386353131 : Int64) * (-7046029254386353131 : Int64))))))) * ((2 : Int64) - ((-7046029254386353131 : Int64) * (((-7046029254386353131 : Int64) * ((2 : Int64) - ((-7046029254386353131 : Int64) * (-7046029254386353131 : Int64)))) * ((2 : Int64) - ((-7046029254386353131 : Int64) * ((-7046029254386353131 : Int64) * ((2 : Int64) - ((-7046029254386353131 : Int64) * (-7046029254386353131 : Int64))))))))))))))))), .second]) rfl hr) ?_
  show Till p e below s (Q1 Z  h0 n0) room1.cells room1.slots (s₁.setTop (mkF m 56 #[.val (.long (-7046029254386353131 : Int64)), .second, .val (.long ((((((-7046029254386353131 : Int64) * ((2 : Int64) - ((-7046029254386353131 : Int64) * (-7046029254386353131 : Int64)))) * ((2 : Int64) - ((-7046029254386353131 : Int64) * ((-7046029254386353131 : Int64) * ((2 : Int64) - ((-7046029254386353131 : Int64) * (-7046029254386353131 : Int64))))))) * ((2 : Int64) - ((-7046029254386353131 : Int64) * (((-7046029254386353131 : Int64) * ((2 : Int64) - ((-7046029254386353131 : Int64) * (-7046029254386353131 : Int64)))) * ((2 : Int64) - ((-7046029254386353131 : Int64) * ((-7046029254386353131 : Int64) * ((2 : Int64) - ((-7046029254386353131 : Int64) * (-7046029254386353131 : Int64)))))))))) * ((2 : Int64) - ((-7046029254386353131 : Int64) * ((((-7046029254386353131 : Int64) * ((2 : Int64) - ((-7046029254386353131 : Int64) * (-7046029254386353131 : Int64)))) * ((2 : Int64) - ((-7046029254386353131 : Int64) * ((-7046029254386353131 : Int64) * ((2 : Int64) - ((-7046029254386353131 : Int64) * (-7046029254386353131 : Int64))))))) * ((2 : Int64) - ((-7046029254386353131 : Int64) * (((-7046029254386353131 : Int64) * ((2 : Int64) - ((-7046029254386353131 : Int64) * (-7046029254386353131 : Int64)))) * ((2 : Int64) - ((-7046029254386353131 : Int64) * ((-7046029254386353131 : Int64) * ((2 : Int64) - ((-7046029254386353131 : Int64) * (-7046029254386353131 : Int64))))))))))))) * ((2 : Int64) - ((-7046029254386353131 : Int64) * (((((-7046029254386353131 : Int64) * ((2 : Int64) - ((-7046029254386353131 : Int64) * (-7046029254386353131 : Int64)))) * ((2 : Int64) - ((-7046029254386353131 : Int64) * ((-7046029254386353131 : Int64) * ((2 : Int64) - ((-7046029254386353131 : Int64) * (-7046029254386353131 : Int64))))))) * ((2 : Int64) - ((-7046029254386353131 : Int64) * (((-7046029254386353131 : Int64) * ((2 : Int64) - ((-7046029254386353131 : Int64) * (-7046029254386353131 : Int64)))) * ((2 : Int64) - ((-7046029254386353131 : Int64) * ((-7046029254386353131 : Int64) * ((2 : Int64) - ((-7046029254386353131 : Int64) * (-7046029254386353131 : Int64)))))))))) * ((2 : Int64) - ((-7046029254386353131 : Int64) * ((((-7046029254386353131 : Int64) * ((2 : Int64) - ((-7046029254386353131 : Int64) * (-7046029254386353131 : Int64)))) * ((2 : Int64) - ((-7046029254386353131 : Int64) * ((-7046029254386353131 : Int64) * ((2 : Int64) - ((-7046029254386353131 : Int64) * (-7046029254386353131 : Int64))))))) * ((2 : Int64) - ((-7046029254386353131 : Int64) * (((-7046029254386353131 : Int64) * ((2 : Int64) - ((-7046029254386353131 : Int64) * (-7046029254386353131 : Int64)))) * ((2 : Int64) - ((-7046029254386353131 : Int64) * ((-7046029254386353131 : Int64) * ((2 : Int64) - ((-7046029254386353131 : Int64) * (-7046029254386353131 : Int64))))))))))))))))), .second] []))
  refine Till.pre (fun _ hr => XS.lloadN X0.here hx rfl (hb hby d1_56) rfl hr) ?_
  show Till p e below s (Q1 Z  h0 n0) room1.cells room1.slots (s₁.setTop (mkF m 57 #[.val (.long (-7046029254386353131 : Int64)), .second, .val (.long ((((((-7046029254386353131 : Int64) * ((2 : Int64) - ((-7046029254386353131 : Int64) * (-7046029254386353131 : Int64)))) * ((2 : Int64) - ((-7046029254386353131 : Int64) * ((-7046029254386353131 : Int64) * ((2 : Int64) - ((-7046029254386353131 : Int64) * (-7046029254386353131 : Int64))))))) * ((2 : Int64) - ((-7046029254386353131 : Int64) * (((-7046029254386353131 : Int64) * ((2 : Int64) - ((-7046029254386353131 : Int64) * (-7046029254386353131 : Int64)))) * ((2 : Int64) - ((-7046029254386353131 : Int64) * ((-7046029254386353131 : Int64) * ((2 : Int64) - ((-7046029254386353131 : Int64) * (-7046029254386353131 : Int64)))))))))) * ((2 : Int64) - ((-7046029254386353131 : Int64) * ((((-7046029254386353131 : Int64) * ((2 : Int64) - ((-7046029254386353131 : Int64) * (-7046029254386353131 : Int64)))) * ((2 : Int64) - ((-7046029254386353131 : Int64) * ((-7046029254386353131 : Int64) * ((2 : Int64) - ((-7046029254386353131 : Int64) * (-7046029254386353131 : Int64))))))) * ((2 : Int64) - ((-7046029254386353131 : Int64) * (((-7046029254386353131 : Int64) * ((2 : Int64) - ((-7046029254386353131 : Int64) * (-7046029254386353131 : Int64)))) * ((2 : Int64) - ((-7046029254386353131 : Int64) * ((-7046029254386353131 : Int64) * ((2 : Int64) - ((-7046029254386353131 : Int64) * (-7046029254386353131 : Int64))))))))))))) * ((2 : Int64) - ((-7046029254386353131 : Int64) * (((((-7046029254386353131 : Int64) * ((2 : Int64) - ((-7046029254386353131 : Int64) * (-7046029254386353131 : Int64)))) * ((2 : Int64) - ((-7046029254386353131 : Int64) * ((-7046029254386353131 : Int64) * ((2 : Int64) - ((-7046029254386353131 : Int64) * (-7046029254386353131 : Int64))))))) * ((2 : Int64) - ((-7046029254386353131 : Int64) * (((-7046029254386353131 : Int64) * ((2 : Int64) - ((-7046029254386353131 : Int64) * (-7046029254386353131 : Int64)))) * ((2 : Int64) - ((-7046029254386353131 : Int64) * ((-7046029254386353131 : Int64) * ((2 : Int64) - ((-7046029254386353131 : Int64) * (-7046029254386353131 : Int64)))))))))) * ((2 : Int64) - ((-7046029254386353131 : Int64) * ((((-7046029254386353131 : Int64) * ((2 : Int64) - ((-7046029254386353131 : Int64) * (-7046029254386353131 : Int64)))) * ((2 : Int64) - ((-7046029254386353131 : Int64) * ((-7046029254386353131 : Int64) * ((2 : Int64) - ((-7046029254386353131 : Int64) * (-7046029254386353131 : Int64))))))) * ((2 : Int64) - ((-7046029254386353131 : Int64) * (((-7046029254386353131 : Int64) * ((2 : Int64) - ((-7046029254386353131 : Int64) * (-7046029254386353131 : Int64)))) * ((2 : Int64) - ((-7046029254386353131 : Int64) * ((-7046029254386353131 : Int64) * ((2 : Int64) - ((-7046029254386353131 : Int64) * (-7046029254386353131 : Int64))))))))))))))))), .second] [(.long ((((((-7046029254386353131 : Int64) * ((2 : Int64) - ((-7046029254386353131 : Int64) * (-7046029254386353131 : Int64)))) * ((2 : Int64) - ((-7046029254386353131 : Int64) * ((-7046029254386353131 : Int64) * ((2 : Int64) - ((-7046029254386353131 : Int64) * (-7046029254386353131 : Int64))))))) * ((2 : Int64) - ((-7046029254386353131 : Int64) * (((-7046029254386353131 : Int64) * ((2 : Int64) - ((-7046029254386353131 : Int64) * (-7046029254386353131 : Int64)))) * ((2 : Int64) - ((-7046029254386353131 : Int64) * ((-7046029254386353131 : Int64) * ((2 : Int64) - ((-7046029254386353131 : Int64) * (-7046029254386353131 : Int64)))))))))) * ((2 : Int64) - ((-7046029254386353131 : Int64) * ((((-7046029254386353131 : Int64) * ((2 : Int64) - ((-7046029254386353131 : Int64) * (-7046029254386353131 : Int64)))) * ((2 : Int64) - ((-7046029254386353131 : Int64) * ((-7046029254386353131 : Int64) * ((2 : Int64) - ((-7046029254386353131 : Int64) * (-7046029254386353131 : Int64))))))) * ((2 : Int64) - ((-7046029254386353131 : Int64) * (((-7046029254386353131 : Int64) * ((2 : Int64) - ((-7046029254386353131 : Int64) * (-7046029254386353131 : Int64)))) * ((2 : Int64) - ((-7046029254386353131 : Int64) * ((-7046029254386353131 : Int64) * ((2 : Int64) - ((-7046029254386353131 : Int64) * (-7046029254386353131 : Int64))))))))))))) * ((2 : Int64) - ((-7046029254386353131 : Int64) * (((((-7046029254386353131 : Int64) * ((2 : Int64) - ((-7046029254386353131 : Int64) * (-7046029254386353131 : Int64)))) * ((2 : Int64) - ((-7046029254386353131 : Int64) * ((-7046029254386353131 : Int64) * ((2 : Int64) - ((-7046029254386353131 : Int64) * (-7046029254386353131 : Int64))))))) * ((2 : Int64) - ((-7046029254386353131 : Int64) * (((-7046029254386353131 : Int64) * ((2 : Int64) - ((-7046029254386353131 : Int64) * (-7046029254386353131 : Int64)))) * ((2 : Int64) - ((-7046029254386353131 : Int64) * ((-7046029254386353131 : Int64) * ((2 : Int64) - ((-7046029254386353131 : Int64) * (-7046029254386353131 : Int64)))))))))) * ((2 : Int64) - ((-7046029254386353131 : Int64) * ((((-7046029254386353131 : Int64) * ((2 : Int64) - ((-7046029254386353131 : Int64) * (-7046029254386353131 : Int64)))) * ((2 : Int64) - ((-7046029254386353131 : Int64) * ((-7046029254386353131 : Int64) * ((2 : Int64) - ((-7046029254386353131 : Int64) * (-7046029254386353131 : Int64))))))) * ((2 : Int64) - ((-7046029254386353131 : Int64) * (((-7046029254386353131 : Int64) * ((2 : Int64) - ((-7046029254386353131 : Int64) * (-7046029254386353131 : Int64)))) * ((2 : Int64) - ((-7046029254386353131 : Int64) * ((-7046029254386353131 : Int64) * ((2 : Int64) - ((-7046029254386353131 : Int64) * (-7046029254386353131 : Int64)))))))))))))))))]))
  refine Till.retJ X0 hx hret hlk (hb hby d1_57) (by decide) (by decide) ?_
  exact ⟨rfl, N0, e0⟩
theorem d2_0 : decode method_3_code 0 = .ok (.iload_n 0, 1) := by decide +kernel
theorem d2_1 : decode method_3_code 1 = .ok (.iconst 3, 1) := by decide +kernel
theorem d2_2 : decode method_3_code 2 = .ok (.iand, 1) := by decide +kernel
theorem d2_3 : decode method_3_code 3 = .ok (.i2l, 1) := by decide +kernel
theorem d2_4 : decode method_3_code 4 = .ok (.lstore_n 1, 1) := by decide +kernel
theorem d2_5 : decode method_3_code 5 = .ok (.iload_n 0, 1) := by decide +kernel
theorem d2_6 : decode method_3_code 6 = .ok (.iconst 2, 1) := by decide +kernel
theorem d2_7 : decode method_3_code 7 = .ok (.ishr, 1) := by decide +kernel
theorem d2_8 : decode method_3_code 8 = .ok (.iconst 1, 1) := by decide +kernel
theorem d2_9 : decode method_3_code 9 = .ok (.iand, 1) := by decide +kernel
theorem d2_10 : decode method_3_code 10 = .ok (.bipush 54, 2) := by decide +kernel
theorem d2_12 : decode method_3_code 12 = .ok (.imul, 1) := by decide +kernel
theorem d2_13 : decode method_3_code 13 = .ok (.istore_n 3, 1) := by decide +kernel
theorem d2_14 : decode method_3_code 14 = .ok (.lload_n 1, 1) := by decide +kernel
theorem d2_15 : decode method_3_code 15 = .ok (.iload_n 3, 1) := by decide +kernel
theorem d2_16 : decode method_3_code 16 = .ok (.lshl, 1) := by decide +kernel
theorem d2_17 : decode method_3_code 17 = .ok (.lreturn, 1) := by decide +kernel
theorem ef_2 (m : MethodId) (p1 : Int32) : entryFrame m #[(.int p1)] 4 = mkF m 0 #[.val (.int p1), .unset, .unset, .unset] [] := by first | (simp [entryFrame, mkF, argsToLocals, Value.category]; done) | rfl
def fn2 (p1 : Int32) : Int64 := ((p1 &&& (3 : Int32)).toInt64 <<< ((((p1 >>> ((2 : Int32) &&& 31)) &&& (1 : Int32)) * (54 : Int32)) &&& 0x3f).toInt64)
def Q2 (Z : State) (p1 : Int32) (h0 : Heap) (n0 : Nat) : Option Value → Heap → List Loc → Prop := fun v h L => v = some (Value.long (fn2 p1)) ∧ Fr n0 L ∧ h = h0
def room2 : Room := { frames := 0, cells := 0, slots := 0, locals := 0 }
set_option maxRecDepth 65536 in
set_option maxHeartbeats 40000000 in
theorem rm2 (l : Launch) (Z : State) (a0 : Array Value) (hw : ∀ d ∈ tables_1, d.before a0 Z = true) (p1 : Int32) (h0 : Heap) (n0 : Nat)  : Ctr l Z (⟨"com/example/tour/tour/io/IdTablePutPinLaw", "offset", "(I)J"⟩ : MethodName) method_3_code 4 (some .long) room2 #[(.int p1)] h0 (Q2 Z p1 h0 n0) := by
  refine Ctr.of (plainFor_of_name pn_1) ?_
  intro p e s m below meth c s₁ hx hby hml hown hnm hret hlk hZ e0 X0
  have hown : s.vm.findClass "com/example/tour/tour/io/IdTablePutPinLaw" = some m.cls := hown
  have hml : c.maxLocals = 4 := hml
  have hnm : meth.name = "offset" := hnm
  have hret : meth.sig.returnType = (some .long) := hret
  have N0 := Fr.nil n0
  refine Till.cast (ef_2 m p1) ?_
  show Till p e below s (Q2 Z p1 h0 n0) room2.cells room2.slots (s₁.setTop (mkF m 0 #[.val (.int p1), .unset, .unset, .unset] []))
  refine Till.pre (fun _ hr => XS.iloadN X0.here hx rfl (hb hby d2_0) rfl hr) ?_
  show Till p e below s (Q2 Z p1 h0 n0) room2.cells room2.slots (s₁.setTop (mkF m 1 #[.val (.int p1), .unset, .unset, .unset] [(.int p1)]))
  refine Till.pre (fun _ hr => XS.iconst X0.here hx rfl (hb hby d2_1) hr) ?_
  show Till p e below s (Q2 Z p1 h0 n0) room2.cells room2.slots (s₁.setTop (mkF m 2 #[.val (.int p1), .unset, .unset, .unset] [(.int (3 : Int32)), (.int p1)]))
  refine Till.pre (fun _ hr => XS.iand X0.here hx rfl (hb hby d2_2) rfl hr) ?_
  show Till p e below s (Q2 Z p1 h0 n0) room2.cells room2.slots (s₁.setTop (mkF m 3 #[.val (.int p1), .unset, .unset, .unset] [(.int (p1 &&& (3 : Int32)))]))
  refine Till.pre (fun _ hr => XS.i2l X0.here hx rfl (hb hby d2_3) rfl hr) ?_
  show Till p e below s (Q2 Z p1 h0 n0) room2.cells room2.slots (s₁.setTop (mkF m 4 #[.val (.int p1), .unset, .unset, .unset] [(.long (p1 &&& (3 : Int32)).toInt64)]))
  refine Till.pre (fun _ hr => XS.lstoreN X0.here hx rfl (hb hby d2_4) rfl (l' := #[.val (.int p1), .val (.long (p1 &&& (3 : Int32)).toInt64), .second, .unset]) rfl hr) ?_
  show Till p e below s (Q2 Z p1 h0 n0) room2.cells room2.slots (s₁.setTop (mkF m 5 #[.val (.int p1), .val (.long (p1 &&& (3 : Int32)).toInt64), .second, .unset] []))
  refine Till.pre (fun _ hr => XS.iloadN X0.here hx rfl (hb hby d2_5) rfl hr) ?_
  show Till p e below s (Q2 Z p1 h0 n0) room2.cells room2.slots (s₁.setTop (mkF m 6 #[.val (.int p1), .val (.long (p1 &&& (3 : Int32)).toInt64), .second, .unset] [(.int p1)]))
  refine Till.pre (fun _ hr => XS.iconst X0.here hx rfl (hb hby d2_6) hr) ?_
  show Till p e below s (Q2 Z p1 h0 n0) room2.cells room2.slots (s₁.setTop (mkF m 7 #[.val (.int p1), .val (.long (p1 &&& (3 : Int32)).toInt64), .second, .unset] [(.int (2 : Int32)), (.int p1)]))
  refine Till.pre (fun _ hr => XS.ishr X0.here hx rfl (hb hby d2_7) rfl hr) ?_
  show Till p e below s (Q2 Z p1 h0 n0) room2.cells room2.slots (s₁.setTop (mkF m 8 #[.val (.int p1), .val (.long (p1 &&& (3 : Int32)).toInt64), .second, .unset] [(.int (p1 >>> ((2 : Int32) &&& 31)))]))
  refine Till.pre (fun _ hr => XS.iconst X0.here hx rfl (hb hby d2_8) hr) ?_
  show Till p e below s (Q2 Z p1 h0 n0) room2.cells room2.slots (s₁.setTop (mkF m 9 #[.val (.int p1), .val (.long (p1 &&& (3 : Int32)).toInt64), .second, .unset] [(.int (1 : Int32)), (.int (p1 >>> ((2 : Int32) &&& 31)))]))
  refine Till.pre (fun _ hr => XS.iand X0.here hx rfl (hb hby d2_9) rfl hr) ?_
  show Till p e below s (Q2 Z p1 h0 n0) room2.cells room2.slots (s₁.setTop (mkF m 10 #[.val (.int p1), .val (.long (p1 &&& (3 : Int32)).toInt64), .second, .unset] [(.int ((p1 >>> ((2 : Int32) &&& 31)) &&& (1 : Int32)))]))
  refine Till.pre (fun _ hr => XS.bipush X0.here hx rfl (hb hby d2_10) hr) ?_
  show Till p e below s (Q2 Z p1 h0 n0) room2.cells room2.slots (s₁.setTop (mkF m 12 #[.val (.int p1), .val (.long (p1 &&& (3 : Int32)).toInt64), .second, .unset] [(.int (54 : Int32)), (.int ((p1 >>> ((2 : Int32) &&& 31)) &&& (1 : Int32)))]))
  refine Till.pre (fun _ hr => XS.imul X0.here hx rfl (hb hby d2_12) rfl hr) ?_
  show Till p e below s (Q2 Z p1 h0 n0) room2.cells room2.slots (s₁.setTop (mkF m 13 #[.val (.int p1), .val (.long (p1 &&& (3 : Int32)).toInt64), .second, .unset] [(.int (((p1 >>> ((2 : Int32) &&& 31)) &&& (1 : Int32)) * (54 : Int32)))]))
  refine Till.pre (fun _ hr => XS.istoreN X0.here hx rfl (hb hby d2_13) rfl (l' := #[.val (.int p1), .val (.long (p1 &&& (3 : Int32)).toInt64), .second, .val (.int (((p1 >>> ((2 : Int32) &&& 31)) &&& (1 : Int32)) * (54 : Int32)))]) rfl hr) ?_
  show Till p e below s (Q2 Z p1 h0 n0) room2.cells room2.slots (s₁.setTop (mkF m 14 #[.val (.int p1), .val (.long (p1 &&& (3 : Int32)).toInt64), .second, .val (.int (((p1 >>> ((2 : Int32) &&& 31)) &&& (1 : Int32)) * (54 : Int32)))] []))
  refine Till.pre (fun _ hr => XS.lloadN X0.here hx rfl (hb hby d2_14) rfl hr) ?_
  show Till p e below s (Q2 Z p1 h0 n0) room2.cells room2.slots (s₁.setTop (mkF m 15 #[.val (.int p1), .val (.long (p1 &&& (3 : Int32)).toInt64), .second, .val (.int (((p1 >>> ((2 : Int32) &&& 31)) &&& (1 : Int32)) * (54 : Int32)))] [(.long (p1 &&& (3 : Int32)).toInt64)]))
  refine Till.pre (fun _ hr => XS.iloadN X0.here hx rfl (hb hby d2_15) rfl hr) ?_
  show Till p e below s (Q2 Z p1 h0 n0) room2.cells room2.slots (s₁.setTop (mkF m 16 #[.val (.int p1), .val (.long (p1 &&& (3 : Int32)).toInt64), .second, .val (.int (((p1 >>> ((2 : Int32) &&& 31)) &&& (1 : Int32)) * (54 : Int32)))] [(.int (((p1 >>> ((2 : Int32) &&& 31)) &&& (1 : Int32)) * (54 : Int32))), (.long (p1 &&& (3 : Int32)).toInt64)]))
  refine Till.pre (fun _ hr => XS.lshl X0.here hx rfl (hb hby d2_16) rfl hr) ?_
  show Till p e below s (Q2 Z p1 h0 n0) room2.cells room2.slots (s₁.setTop (mkF m 17 #[.val (.int p1), .val (.long (p1 &&& (3 : Int32)).toInt64), .second, .val (.int (((p1 >>> ((2 : Int32) &&& 31)) &&& (1 : Int32)) * (54 : Int32)))] [(.long ((p1 &&& (3 : Int32)).toInt64 <<< ((((p1 >>> ((2 : Int32) &&& 31)) &&& (1 : Int32)) * (54 : Int32)) &&& 0x3f).toInt64))]))
  refine Till.retJ X0 hx hret hlk (hb hby d2_17) (by decide) (by decide) ?_
  exact ⟨rfl, N0, e0⟩
theorem d3_0 : decode method_4_code 0 = .ok (.lload_n 0, 1) := by decide +kernel
theorem d3_1 : decode method_4_code 1 = .ok (.ldc2_w 13, 3) := by decide +kernel
theorem d3_4 : decode method_4_code 4 = .ok (.lcmp, 1) := by decide +kernel
theorem d3_5 : decode method_4_code 5 = .ok (.ifCond .ne 7, 3) := by decide +kernel
theorem d3_8 : decode method_4_code 8 = .ok (.lconst 0, 1) := by decide +kernel
theorem d3_9 : decode method_4_code 9 = .ok (.goto 4, 3) := by decide +kernel
theorem d3_12 : decode method_4_code 12 = .ok (.lload_n 0, 1) := by decide +kernel
theorem d3_13 : decode method_4_code 13 = .ok (.lreturn, 1) := by decide +kernel
theorem ef_3 (m : MethodId) (q1 : Int64) : entryFrame m #[(.long q1)] 2 = mkF m 0 #[.val (.long q1), .second] [] := by first | (simp [entryFrame, mkF, argsToLocals, Value.category]; done) | rfl
def fn3 (q1 : Int64) : Int64 := (if (q1 = (-9223372036854775808 : Int64)) then (0 : Int64) else q1)
def Q3 (Z : State) (q1 : Int64) (h0 : Heap) (n0 : Nat) : Option Value → Heap → List Loc → Prop := fun v h L => v = some (Value.long (fn3 q1)) ∧ Fr n0 L ∧ h = h0
def room3 : Room := { frames := 0, cells := 0, slots := 0, locals := 0 }
set_option maxRecDepth 65536 in
set_option maxHeartbeats 40000000 in
theorem rm3 (l : Launch) (Z : State) (a0 : Array Value) (hw : ∀ d ∈ tables_1, d.before a0 Z = true) (q1 : Int64) (h0 : Heap) (n0 : Nat)  : Ctr l Z (⟨"com/example/tour/tour/io/IdTablePutPinLaw", "fix", "(J)J"⟩ : MethodName) method_4_code 2 (some .long) room3 #[(.long q1)] h0 (Q3 Z q1 h0 n0) := by
  refine Ctr.of (plainFor_of_name pn_1) ?_
  intro p e s m below meth c s₁ hx hby hml hown hnm hret hlk hZ e0 X0
  have hown : s.vm.findClass "com/example/tour/tour/io/IdTablePutPinLaw" = some m.cls := hown
  have hml : c.maxLocals = 2 := hml
  have hnm : meth.name = "fix" := hnm
  have hret : meth.sig.returnType = (some .long) := hret
  have N0 := Fr.nil n0
  refine Till.cast (ef_3 m q1) ?_
  show Till p e below s (Q3 Z q1 h0 n0) room3.cells room3.slots (s₁.setTop (mkF m 0 #[.val (.long q1), .second] []))
  refine Till.pre (fun _ hr => XS.lloadN X0.here hx rfl (hb hby d3_0) rfl hr) ?_
  show Till p e below s (Q3 Z q1 h0 n0) room3.cells room3.slots (s₁.setTop (mkF m 1 #[.val (.long q1), .second] [(.long q1)]))
  refine Till.pre (X0.ldc2Long hx hown (mvT hZ (hw _ (List.mem_of_getElem? (i := 12) rfl))) (g := (mkF m 1 #[.val (.long q1), .second] [(.long q1)])) rfl (hb hby d3_1)) ?_
  show Till p e below s (Q3 Z q1 h0 n0) room3.cells room3.slots (s₁.setTop (mkF m 4 #[.val (.long q1), .second] [(.long (-9223372036854775808 : Int64)), (.long q1)]))
  refine Till.pre (fun _ hr => XS.lcmp X0.here hx rfl (hb hby d3_4) rfl hr) ?_
  show Till p e below s (Q3 Z q1 h0 n0) room3.cells room3.slots (s₁.setTop (mkF m 5 #[.val (.long q1), .second] [(.int (lcmpW q1 (-9223372036854775808 : Int64)))]))
  have J13_1 : ∀ (v13s0 : Int64) (hv13s0 : v13s0 = (if (q1 = (-9223372036854775808 : Int64)) then (0 : Int64) else q1)), Till p e below s (Q3 Z q1 h0 n0) room3.cells room3.slots (s₁.setTop (mkF m 13 #[.val (.long q1), .second] [(.long v13s0)])) := by
    intro v13s0 hv13s0
    show Till p e below s (Q3 Z q1 h0 n0) room3.cells room3.slots (s₁.setTop (mkF m 13 #[.val (.long q1), .second] [(.long v13s0)]))
    refine Till.retJ X0 hx hret hlk (hb hby d3_13) (by decide) (by decide) ?_
    subst hv13s0
    exact ⟨rfl, N0, e0⟩
  refine Till.ifc (pc' := 12) X0.here hx (hb hby d3_5) (by decide) (by decide) (fun q => ?_) (fun q => ?_)
  · have hc1 := (mt lEq.mpr (hEq.2.2.1 q))
    show Till p e below s (Q3 Z q1 h0 n0) room3.cells room3.slots (s₁.setTop (mkF m 12 #[.val (.long q1), .second] []))
    refine Till.pre (fun _ hr => XS.lloadN X0.here hx rfl (hb hby d3_12) rfl hr) ?_
    show Till p e below s (Q3 Z q1 h0 n0) room3.cells room3.slots (s₁.setTop (mkF m 13 #[.val (.long q1), .second] [(.long q1)]))
    exact J13_1 _ (Eq.symm (if_neg hc1))
  · have hc1 := (lEq.mp (hEq.2.2.2 q))
    show Till p e below s (Q3 Z q1 h0 n0) room3.cells room3.slots (s₁.setTop (mkF m 8 #[.val (.long q1), .second] []))
    refine Till.pre (fun _ hr => XS.lconst X0.here hx rfl (hb hby d3_8) hr) ?_
    show Till p e below s (Q3 Z q1 h0 n0) room3.cells room3.slots (s₁.setTop (mkF m 9 #[.val (.long q1), .second] [(.long (0 : Int64))]))
    refine Till.pre (fun _ hr => XS.goto X0.here hx rfl (pc0 := 9) (pc' := 13) rfl (hb hby d3_9) (by decide) (by decide) hr) ?_
    show Till p e below s (Q3 Z q1 h0 n0) room3.cells room3.slots (s₁.setTop (mkF m 13 #[.val (.long q1), .second] [(.long (0 : Int64))]))
    exact J13_1 _ (Eq.symm (if_pos hc1))
theorem d10_0 : decode method_5_code 0 = .ok (.lload_n 0, 1) := by decide +kernel
theorem d10_1 : decode method_5_code 1 = .ok (.lload 6, 2) := by decide +kernel
theorem d10_3 : decode method_5_code 3 = .ok (.lcmp, 1) := by decide +kernel
theorem d10_4 : decode method_5_code 4 = .ok (.ifCond .ne 6, 3) := by decide +kernel
theorem d10_7 : decode method_5_code 7 = .ok (.lload 12, 2) := by decide +kernel
theorem d10_9 : decode method_5_code 9 = .ok (.lreturn, 1) := by decide +kernel
theorem d10_10 : decode method_5_code 10 = .ok (.lload_n 0, 1) := by decide +kernel
theorem d10_11 : decode method_5_code 11 = .ok (.lload 4, 2) := by decide +kernel
theorem d10_13 : decode method_5_code 13 = .ok (.lcmp, 1) := by decide +kernel
theorem d10_14 : decode method_5_code 14 = .ok (.ifCond .ne 6, 3) := by decide +kernel
theorem d10_17 : decode method_5_code 17 = .ok (.lload 10, 2) := by decide +kernel
theorem d10_19 : decode method_5_code 19 = .ok (.lreturn, 1) := by decide +kernel
theorem d10_20 : decode method_5_code 20 = .ok (.lload_n 0, 1) := by decide +kernel
theorem d10_21 : decode method_5_code 21 = .ok (.lload_n 2, 1) := by decide +kernel
theorem d10_22 : decode method_5_code 22 = .ok (.lcmp, 1) := by decide +kernel
theorem d10_23 : decode method_5_code 23 = .ok (.ifCond .ne 6, 3) := by decide +kernel
theorem d10_26 : decode method_5_code 26 = .ok (.lload 8, 2) := by decide +kernel
theorem d10_28 : decode method_5_code 28 = .ok (.lreturn, 1) := by decide +kernel
theorem d10_29 : decode method_5_code 29 = .ok (.ldc2_w 13, 3) := by decide +kernel
theorem d10_32 : decode method_5_code 32 = .ok (.lreturn, 1) := by decide +kernel
theorem ef_10 (m : MethodId) (q1 : Int64) (q2 : Int64) (q3 : Int64) (q4 : Int64) (q5 : Int64) (q6 : Int64) (q7 : Int64) : entryFrame m #[(.long q1), (.long q2), (.long q3), (.long q4), (.long q5), (.long q6), (.long q7)] 14 = mkF m 0 #[.val (.long q1), .second, .val (.long q2), .second, .val (.long q3), .second, .val (.long q4), .second, .val (.long q5), .second, .val (.long q6), .second, .val (.long q7), .second] [] := by first | (simp [entryFrame, mkF, argsToLocals, Value.category]; done) | rfl
def fn10 (q1 : Int64) (q2 : Int64) (q3 : Int64) (q4 : Int64) (q5 : Int64) (q6 : Int64) (q7 : Int64) : Int64 := (if (q1 = q4) then q7 else (if (q1 = q3) then q6 else (if (q1 = q2) then q5 else (-9223372036854775808 : Int64))))
def Q10 (Z : State) (q1 : Int64) (q2 : Int64) (q3 : Int64) (q4 : Int64) (q5 : Int64) (q6 : Int64) (q7 : Int64) (h0 : Heap) (n0 : Nat) : Option Value → Heap → List Loc → Prop := fun v h L => v = some (Value.long (fn10 q1 q2 q3 q4 q5 q6 q7)) ∧ Fr n0 L ∧ h = h0
def room10 : Room := { frames := 0, cells := 0, slots := 0, locals := 0 }
set_option maxRecDepth 65536 in
set_option maxHeartbeats 40000000 in
theorem rm10 (l : Launch) (Z : State) (a0 : Array Value) (hw : ∀ d ∈ tables_1, d.before a0 Z = true) (q1 : Int64) (q2 : Int64) (q3 : Int64) (q4 : Int64) (q5 : Int64) (q6 : Int64) (q7 : Int64) (h0 : Heap) (n0 : Nat)  : Ctr l Z (⟨"com/example/tour/tour/io/IdTablePutPinLaw", "expect", "(JJJJJJJ)J"⟩ : MethodName) method_5_code 14 (some .long) room10 #[(.long q1), (.long q2), (.long q3), (.long q4), (.long q5), (.long q6), (.long q7)] h0 (Q10 Z q1 q2 q3 q4 q5 q6 q7 h0 n0) := by
  refine Ctr.of (plainFor_of_name pn_1) ?_
  intro p e s m below meth c s₁ hx hby hml hown hnm hret hlk hZ e0 X0
  have hown : s.vm.findClass "com/example/tour/tour/io/IdTablePutPinLaw" = some m.cls := hown
  have hml : c.maxLocals = 14 := hml
  have hnm : meth.name = "expect" := hnm
  have hret : meth.sig.returnType = (some .long) := hret
  have N0 := Fr.nil n0
  refine Till.cast (ef_10 m q1 q2 q3 q4 q5 q6 q7) ?_
  show Till p e below s (Q10 Z q1 q2 q3 q4 q5 q6 q7 h0 n0) room10.cells room10.slots (s₁.setTop (mkF m 0 #[.val (.long q1), .second, .val (.long q2), .second, .val (.long q3), .second, .val (.long q4), .second, .val (.long q5), .second, .val (.long q6), .second, .val (.long q7), .second] []))
  refine Till.pre (fun _ hr => XS.lloadN X0.here hx rfl (hb hby d10_0) rfl hr) ?_
  show Till p e below s (Q10 Z q1 q2 q3 q4 q5 q6 q7 h0 n0) room10.cells room10.slots (s₁.setTop (mkF m 1 #[.val (.long q1), .second, .val (.long q2), .second, .val (.long q3), .second, .val (.long q4), .second, .val (.long q5), .second, .val (.long q6), .second, .val (.long q7), .second] [(.long q1)]))
  refine Till.pre (fun _ hr => XS.lload X0.here hx rfl (hb hby d10_1) rfl hr) ?_
  show Till p e below s (Q10 Z q1 q2 q3 q4 q5 q6 q7 h0 n0) room10.cells room10.slots (s₁.setTop (mkF m 3 #[.val (.long q1), .second, .val (.long q2), .second, .val (.long q3), .second, .val (.long q4), .second, .val (.long q5), .second, .val (.long q6), .second, .val (.long q7), .second] [(.long q4), (.long q1)]))
  refine Till.pre (fun _ hr => XS.lcmp X0.here hx rfl (hb hby d10_3) rfl hr) ?_
  show Till p e below s (Q10 Z q1 q2 q3 q4 q5 q6 q7 h0 n0) room10.cells room10.slots (s₁.setTop (mkF m 4 #[.val (.long q1), .second, .val (.long q2), .second, .val (.long q3), .second, .val (.long q4), .second, .val (.long q5), .second, .val (.long q6), .second, .val (.long q7), .second] [(.int (lcmpW q1 q4))]))
  refine Till.ifc (pc' := 10) X0.here hx (hb hby d10_4) (by decide) (by decide) (fun q => ?_) (fun q => ?_)
  · have hc1 := (mt lEq.mpr (hEq.2.2.1 q))
    show Till p e below s (Q10 Z q1 q2 q3 q4 q5 q6 q7 h0 n0) room10.cells room10.slots (s₁.setTop (mkF m 10 #[.val (.long q1), .second, .val (.long q2), .second, .val (.long q3), .second, .val (.long q4), .second, .val (.long q5), .second, .val (.long q6), .second, .val (.long q7), .second] []))
    refine Till.pre (fun _ hr => XS.lloadN X0.here hx rfl (hb hby d10_10) rfl hr) ?_
    show Till p e below s (Q10 Z q1 q2 q3 q4 q5 q6 q7 h0 n0) room10.cells room10.slots (s₁.setTop (mkF m 11 #[.val (.long q1), .second, .val (.long q2), .second, .val (.long q3), .second, .val (.long q4), .second, .val (.long q5), .second, .val (.long q6), .second, .val (.long q7), .second] [(.long q1)]))
    refine Till.pre (fun _ hr => XS.lload X0.here hx rfl (hb hby d10_11) rfl hr) ?_
    show Till p e below s (Q10 Z q1 q2 q3 q4 q5 q6 q7 h0 n0) room10.cells room10.slots (s₁.setTop (mkF m 13 #[.val (.long q1), .second, .val (.long q2), .second, .val (.long q3), .second, .val (.long q4), .second, .val (.long q5), .second, .val (.long q6), .second, .val (.long q7), .second] [(.long q3), (.long q1)]))
    refine Till.pre (fun _ hr => XS.lcmp X0.here hx rfl (hb hby d10_13) rfl hr) ?_
    show Till p e below s (Q10 Z q1 q2 q3 q4 q5 q6 q7 h0 n0) room10.cells room10.slots (s₁.setTop (mkF m 14 #[.val (.long q1), .second, .val (.long q2), .second, .val (.long q3), .second, .val (.long q4), .second, .val (.long q5), .second, .val (.long q6), .second, .val (.long q7), .second] [(.int (lcmpW q1 q3))]))
    refine Till.ifc (pc' := 20) X0.here hx (hb hby d10_14) (by decide) (by decide) (fun q => ?_) (fun q => ?_)
    · have hc2 := (mt lEq.mpr (hEq.2.2.1 q))
      show Till p e below s (Q10 Z q1 q2 q3 q4 q5 q6 q7 h0 n0) room10.cells room10.slots (s₁.setTop (mkF m 20 #[.val (.long q1), .second, .val (.long q2), .second, .val (.long q3), .second, .val (.long q4), .second, .val (.long q5), .second, .val (.long q6), .second, .val (.long q7), .second] []))
      refine Till.pre (fun _ hr => XS.lloadN X0.here hx rfl (hb hby d10_20) rfl hr) ?_
      show Till p e below s (Q10 Z q1 q2 q3 q4 q5 q6 q7 h0 n0) room10.cells room10.slots (s₁.setTop (mkF m 21 #[.val (.long q1), .second, .val (.long q2), .second, .val (.long q3), .second, .val (.long q4), .second, .val (.long q5), .second, .val (.long q6), .second, .val (.long q7), .second] [(.long q1)]))
      refine Till.pre (fun _ hr => XS.lloadN X0.here hx rfl (hb hby d10_21) rfl hr) ?_
      show Till p e below s (Q10 Z q1 q2 q3 q4 q5 q6 q7 h0 n0) room10.cells room10.slots (s₁.setTop (mkF m 22 #[.val (.long q1), .second, .val (.long q2), .second, .val (.long q3), .second, .val (.long q4), .second, .val (.long q5), .second, .val (.long q6), .second, .val (.long q7), .second] [(.long q2), (.long q1)]))
      refine Till.pre (fun _ hr => XS.lcmp X0.here hx rfl (hb hby d10_22) rfl hr) ?_
      show Till p e below s (Q10 Z q1 q2 q3 q4 q5 q6 q7 h0 n0) room10.cells room10.slots (s₁.setTop (mkF m 23 #[.val (.long q1), .second, .val (.long q2), .second, .val (.long q3), .second, .val (.long q4), .second, .val (.long q5), .second, .val (.long q6), .second, .val (.long q7), .second] [(.int (lcmpW q1 q2))]))
      refine Till.ifc (pc' := 29) X0.here hx (hb hby d10_23) (by decide) (by decide) (fun q => ?_) (fun q => ?_)
      · have hc3 := (mt lEq.mpr (hEq.2.2.1 q))
        show Till p e below s (Q10 Z q1 q2 q3 q4 q5 q6 q7 h0 n0) room10.cells room10.slots (s₁.setTop (mkF m 29 #[.val (.long q1), .second, .val (.long q2), .second, .val (.long q3), .second, .val (.long q4), .second, .val (.long q5), .second, .val (.long q6), .second, .val (.long q7), .second] []))
        refine Till.pre (X0.ldc2Long hx hown (mvT hZ (hw _ (List.mem_of_getElem? (i := 12) rfl))) (g := (mkF m 29 #[.val (.long q1), .second, .val (.long q2), .second, .val (.long q3), .second, .val (.long q4), .second, .val (.long q5), .second, .val (.long q6), .second, .val (.long q7), .second] [])) rfl (hb hby d10_29)) ?_
        show Till p e below s (Q10 Z q1 q2 q3 q4 q5 q6 q7 h0 n0) room10.cells room10.slots (s₁.setTop (mkF m 32 #[.val (.long q1), .second, .val (.long q2), .second, .val (.long q3), .second, .val (.long q4), .second, .val (.long q5), .second, .val (.long q6), .second, .val (.long q7), .second] [(.long (-9223372036854775808 : Int64))]))
        refine Till.retJ X0 hx hret hlk (hb hby d10_32) (by decide) (by decide) ?_
        exact ⟨(congrArg (fun z => some (Value.long z)) (Eq.symm ((if_neg hc1).trans ((if_neg hc2).trans (if_neg hc3))))), N0, e0⟩
      · have hc3 := (lEq.mp (hEq.2.2.2 q))
        show Till p e below s (Q10 Z q1 q2 q3 q4 q5 q6 q7 h0 n0) room10.cells room10.slots (s₁.setTop (mkF m 26 #[.val (.long q1), .second, .val (.long q2), .second, .val (.long q3), .second, .val (.long q4), .second, .val (.long q5), .second, .val (.long q6), .second, .val (.long q7), .second] []))
        refine Till.pre (fun _ hr => XS.lload X0.here hx rfl (hb hby d10_26) rfl hr) ?_
        show Till p e below s (Q10 Z q1 q2 q3 q4 q5 q6 q7 h0 n0) room10.cells room10.slots (s₁.setTop (mkF m 28 #[.val (.long q1), .second, .val (.long q2), .second, .val (.long q3), .second, .val (.long q4), .second, .val (.long q5), .second, .val (.long q6), .second, .val (.long q7), .second] [(.long q5)]))
        refine Till.retJ X0 hx hret hlk (hb hby d10_28) (by decide) (by decide) ?_
        exact ⟨(congrArg (fun z => some (Value.long z)) (Eq.symm ((if_neg hc1).trans ((if_neg hc2).trans (if_pos hc3))))), N0, e0⟩
    · have hc2 := (lEq.mp (hEq.2.2.2 q))
      show Till p e below s (Q10 Z q1 q2 q3 q4 q5 q6 q7 h0 n0) room10.cells room10.slots (s₁.setTop (mkF m 17 #[.val (.long q1), .second, .val (.long q2), .second, .val (.long q3), .second, .val (.long q4), .second, .val (.long q5), .second, .val (.long q6), .second, .val (.long q7), .second] []))
      refine Till.pre (fun _ hr => XS.lload X0.here hx rfl (hb hby d10_17) rfl hr) ?_
      show Till p e below s (Q10 Z q1 q2 q3 q4 q5 q6 q7 h0 n0) room10.cells room10.slots (s₁.setTop (mkF m 19 #[.val (.long q1), .second, .val (.long q2), .second, .val (.long q3), .second, .val (.long q4), .second, .val (.long q5), .second, .val (.long q6), .second, .val (.long q7), .second] [(.long q6)]))
      refine Till.retJ X0 hx hret hlk (hb hby d10_19) (by decide) (by decide) ?_
      exact ⟨(congrArg (fun z => some (Value.long z)) (Eq.symm ((if_neg hc1).trans (if_pos hc2)))), N0, e0⟩
  · have hc1 := (lEq.mp (hEq.2.2.2 q))
    show Till p e below s (Q10 Z q1 q2 q3 q4 q5 q6 q7 h0 n0) room10.cells room10.slots (s₁.setTop (mkF m 7 #[.val (.long q1), .second, .val (.long q2), .second, .val (.long q3), .second, .val (.long q4), .second, .val (.long q5), .second, .val (.long q6), .second, .val (.long q7), .second] []))
    refine Till.pre (fun _ hr => XS.lload X0.here hx rfl (hb hby d10_7) rfl hr) ?_
    show Till p e below s (Q10 Z q1 q2 q3 q4 q5 q6 q7 h0 n0) room10.cells room10.slots (s₁.setTop (mkF m 9 #[.val (.long q1), .second, .val (.long q2), .second, .val (.long q3), .second, .val (.long q4), .second, .val (.long q5), .second, .val (.long q6), .second, .val (.long q7), .second] [(.long q7)]))
    refine Till.retJ X0 hx hret hlk (hb hby d10_9) (by decide) (by decide) ?_
    exact ⟨(congrArg (fun z => some (Value.long z)) (Eq.symm (if_pos hc1))), N0, e0⟩
theorem own_fix (v : Int64) : fn3 v ≠ own_ABS := by
  unfold fn3
  split
  · decide
  · assumption
theorem pd0_0 : parseMethodDescriptor "()J" = some ⟨[], some .long⟩ := by decide +kernel
theorem pd0_1 : parseMethodDescriptor "()V" = some ⟨[], none⟩ := by decide +kernel
theorem pd0_2 : parseMethodDescriptor "(I)J" = some ⟨[.int], some .long⟩ := by decide +kernel
theorem pd0_5 : parseMethodDescriptor "(J)J" = some ⟨[.long], some .long⟩ := by decide +kernel
theorem pd0_6 : parseMethodDescriptor "(JJ)V" = some ⟨[.long, .long], none⟩ := by decide +kernel
theorem pd0_7 : parseMethodDescriptor "(JJJJJJJ)J" = some ⟨[.long, .long, .long, .long, .long, .long, .long], some .long⟩ := by decide +kernel
theorem ef_0 (m : MethodId) (q1 : Int64) (q2 : Int64) (q3 : Int64) (q4 : Int64) (p5 : Int32) : entryFrame m #[(.long q1), (.long q2), (.long q3), (.long q4), (.int p5)] maxLocals = mkF m 0 #[.val (.long q1), .second, .val (.long q2), .second, .val (.long q3), .second, .val (.long q4), .second, .val (.int p5), .unset, .unset, .unset, .unset, .unset, .unset, .unset, .unset, .unset, .unset, .unset, .unset, .unset, .unset, .unset, .unset, .unset] [] := by first | (simp [entryFrame, mkF, argsToLocals, Value.category, maxLocals]; done) | rfl
def Q0 (Z : State) (q1 : Int64) (q2 : Int64) (q3 : Int64) (q4 : Int64) (p5 : Int32) (h0 : Heap) (n0 : Nat) : Option Value → Heap → List Loc → Prop := fun v h L => v = some (.int 1) ∧ Fr n0 L
set_option maxRecDepth 65536 in
set_option maxHeartbeats 40000000 in
theorem rm0 (l : Launch) (Z : State) (a0 : Array Value) (hw : ∀ d ∈ tables_1, d.before a0 Z = true) (q1 : Int64) (q2 : Int64) (q3 : Int64) (q4 : Int64) (p5 : Int32) (h0 : Heap) (n0 : Nat) (Zs : n0 ≤ h0.size) : Ctr l Z x code maxLocals ret room_1 #[(.long q1), (.long q2), (.long q3), (.long q4), (.int p5)] h0 (Q0 Z q1 q2 q3 q4 p5 h0 n0) := by
  refine Ctr.of (plainFor_of_name pn_1) ?_
  intro p e s m below meth c s₁ hx hby hml hown hnm hret hlk hZ e0 X0
  have hown : s.vm.findClass "com/example/tour/tour/io/IdTablePutPinLaw" = some m.cls := hown
  have hml : c.maxLocals = 26 := hml
  have hnm : meth.name = "law" := hnm
  have hret : meth.sig.returnType = (some .boolean) := hret
  have N0 := Fr.nil n0
  refine Till.cast (ef_0 m q1 q2 q3 q4 p5) ?_
  show Till p e below s (Q0 Z q1 q2 q3 q4 p5 h0 n0) room_1.cells room_1.slots (s₁.setTop (mkF m 0 #[.val (.long q1), .second, .val (.long q2), .second, .val (.long q3), .second, .val (.long q4), .second, .val (.int p5), .unset, .unset, .unset, .unset, .unset, .unset, .unset, .unset, .unset, .unset, .unset, .unset, .unset, .unset, .unset, .unset, .unset] []))
  refine Till.callS (rm1 l Z a0 hw  h0 n0) X0 hx hZ hown (hw _ (List.mem_of_getElem? (i := 0) rfl)) (hw _ (List.mem_of_getElem? (i := 1) rfl)) (hw _ (List.mem_of_getElem? (i := 2) rfl)) (hw _ (List.mem_of_getElem? (i := 3) rfl)) (by decide) (by decide) (W := 0) (by decide) (by rw [hml]; rfl) (argsL := []) (rest := []) (lenOf pd0_0 rfl) rfl rfl (Nat.le_of_eq rfl) (hb hby at_0) e0 (by decide) (by decide) ?_
  rintro _ T1 L2 X3 ⟨rfl, N4, e5⟩
  have N4 := Fr.app N0 N4
  show Till p e below s (Q0 Z q1 q2 q3 q4 p5 h0 n0) room_1.cells room_1.slots (T1.setTop (mkF m 3 #[.val (.long q1), .second, .val (.long q2), .second, .val (.long q3), .second, .val (.long q4), .second, .val (.int p5), .unset, .unset, .unset, .unset, .unset, .unset, .unset, .unset, .unset, .unset, .unset, .unset, .unset, .unset, .unset, .unset, .unset] [(.long fn1)]))
  generalize hu_iv : fn1 = iv
  show Till p e below s (Q0 Z q1 q2 q3 q4 p5 h0 n0) room_1.cells room_1.slots (T1.setTop (mkF m 3 #[.val (.long q1), .second, .val (.long q2), .second, .val (.long q3), .second, .val (.long q4), .second, .val (.int p5), .unset, .unset, .unset, .unset, .unset, .unset, .unset, .unset, .unset, .unset, .unset, .unset, .unset, .unset, .unset, .unset, .unset] [(.long iv)]))
  refine Till.pre (fun _ hr => XS.lstore X3.here hx rfl (hb hby at_3) rfl (l' := #[.val (.long q1), .second, .val (.long q2), .second, .val (.long q3), .second, .val (.long q4), .second, .val (.int p5), .val (.long iv), .second, .unset, .unset, .unset, .unset, .unset, .unset, .unset, .unset, .unset, .unset, .unset, .unset, .unset, .unset, .unset]) rfl hr) ?_
  show Till p e below s (Q0 Z q1 q2 q3 q4 p5 h0 n0) room_1.cells room_1.slots (T1.setTop (mkF m 5 #[.val (.long q1), .second, .val (.long q2), .second, .val (.long q3), .second, .val (.long q4), .second, .val (.int p5), .val (.long iv), .second, .unset, .unset, .unset, .unset, .unset, .unset, .unset, .unset, .unset, .unset, .unset, .unset, .unset, .unset, .unset] []))
  refine Till.pre (fun _ hr => XS.lloadN X3.here hx rfl (hb hby at_5) rfl hr) ?_
  show Till p e below s (Q0 Z q1 q2 q3 q4 p5 h0 n0) room_1.cells room_1.slots (T1.setTop (mkF m 6 #[.val (.long q1), .second, .val (.long q2), .second, .val (.long q3), .second, .val (.long q4), .second, .val (.int p5), .val (.long iv), .second, .unset, .unset, .unset, .unset, .unset, .unset, .unset, .unset, .unset, .unset, .unset, .unset, .unset, .unset, .unset] [(.long q1)]))
  refine Till.pre (fun _ hr => XS.lload X3.here hx rfl (hb hby at_6) rfl hr) ?_
  show Till p e below s (Q0 Z q1 q2 q3 q4 p5 h0 n0) room_1.cells room_1.slots (T1.setTop (mkF m 8 #[.val (.long q1), .second, .val (.long q2), .second, .val (.long q3), .second, .val (.long q4), .second, .val (.int p5), .val (.long iv), .second, .unset, .unset, .unset, .unset, .unset, .unset, .unset, .unset, .unset, .unset, .unset, .unset, .unset, .unset, .unset] [(.long iv), (.long q1)]))
  refine Till.pre (fun _ hr => XS.lmul X3.here hx rfl (hb hby at_8) rfl hr) ?_
  show Till p e below s (Q0 Z q1 q2 q3 q4 p5 h0 n0) room_1.cells room_1.slots (T1.setTop (mkF m 9 #[.val (.long q1), .second, .val (.long q2), .second, .val (.long q3), .second, .val (.long q4), .second, .val (.int p5), .val (.long iv), .second, .unset, .unset, .unset, .unset, .unset, .unset, .unset, .unset, .unset, .unset, .unset, .unset, .unset, .unset, .unset] [(.long (q1 * iv))]))
  generalize hu_ka : (q1 * iv) = ka
  show Till p e below s (Q0 Z q1 q2 q3 q4 p5 h0 n0) room_1.cells room_1.slots (T1.setTop (mkF m 9 #[.val (.long q1), .second, .val (.long q2), .second, .val (.long q3), .second, .val (.long q4), .second, .val (.int p5), .val (.long iv), .second, .unset, .unset, .unset, .unset, .unset, .unset, .unset, .unset, .unset, .unset, .unset, .unset, .unset, .unset, .unset] [(.long ka)]))
  refine Till.pre (fun _ hr => XS.lstore X3.here hx rfl (hb hby at_9) rfl (l' := #[.val (.long q1), .second, .val (.long q2), .second, .val (.long q3), .second, .val (.long q4), .second, .val (.int p5), .val (.long iv), .second, .val (.long ka), .second, .unset, .unset, .unset, .unset, .unset, .unset, .unset, .unset, .unset, .unset, .unset, .unset, .unset]) rfl hr) ?_
  show Till p e below s (Q0 Z q1 q2 q3 q4 p5 h0 n0) room_1.cells room_1.slots (T1.setTop (mkF m 11 #[.val (.long q1), .second, .val (.long q2), .second, .val (.long q3), .second, .val (.long q4), .second, .val (.int p5), .val (.long iv), .second, .val (.long ka), .second, .unset, .unset, .unset, .unset, .unset, .unset, .unset, .unset, .unset, .unset, .unset, .unset, .unset] []))
  refine Till.pre (fun _ hr => XS.lloadN X3.here hx rfl (hb hby at_11) rfl hr) ?_
  show Till p e below s (Q0 Z q1 q2 q3 q4 p5 h0 n0) room_1.cells room_1.slots (T1.setTop (mkF m 12 #[.val (.long q1), .second, .val (.long q2), .second, .val (.long q3), .second, .val (.long q4), .second, .val (.int p5), .val (.long iv), .second, .val (.long ka), .second, .unset, .unset, .unset, .unset, .unset, .unset, .unset, .unset, .unset, .unset, .unset, .unset, .unset] [(.long q1)]))
  refine Till.pre (fun _ hr => XS.iload X3.here hx rfl (hb hby at_12) rfl hr) ?_
  show Till p e below s (Q0 Z q1 q2 q3 q4 p5 h0 n0) room_1.cells room_1.slots (T1.setTop (mkF m 14 #[.val (.long q1), .second, .val (.long q2), .second, .val (.long q3), .second, .val (.long q4), .second, .val (.int p5), .val (.long iv), .second, .val (.long ka), .second, .unset, .unset, .unset, .unset, .unset, .unset, .unset, .unset, .unset, .unset, .unset, .unset, .unset] [(.int p5), (.long q1)]))
  refine Till.callS (rm2 l Z a0 hw p5 h0 n0) X3 hx hZ hown (hw _ (List.mem_of_getElem? (i := 6) rfl)) (hw _ (List.mem_of_getElem? (i := 7) rfl)) (hw _ (List.mem_of_getElem? (i := 2) rfl)) (hw _ (List.mem_of_getElem? (i := 8) rfl)) (by decide) (by decide) (W := 2) (by decide) (by rw [hml]; rfl) (argsL := [(.int p5)]) (rest := [(.long q1)]) (lenOf pd0_2 rfl) rfl rfl (Nat.le_of_eq rfl) (hb hby at_14) e5 (by decide) (by decide) ?_
  rintro _ T6 L7 X8 ⟨rfl, N9, e10⟩
  have N9 := Fr.app N4 N9
  show Till p e below s (Q0 Z q1 q2 q3 q4 p5 h0 n0) room_1.cells room_1.slots (T6.setTop (mkF m 17 #[.val (.long q1), .second, .val (.long q2), .second, .val (.long q3), .second, .val (.long q4), .second, .val (.int p5), .val (.long iv), .second, .val (.long ka), .second, .unset, .unset, .unset, .unset, .unset, .unset, .unset, .unset, .unset, .unset, .unset, .unset, .unset] [(.long (fn2 p5)), (.long q1)]))
  refine Till.pre (fun _ hr => XS.ladd X8.here hx rfl (hb hby at_17) rfl hr) ?_
  show Till p e below s (Q0 Z q1 q2 q3 q4 p5 h0 n0) room_1.cells room_1.slots (T6.setTop (mkF m 18 #[.val (.long q1), .second, .val (.long q2), .second, .val (.long q3), .second, .val (.long q4), .second, .val (.int p5), .val (.long iv), .second, .val (.long ka), .second, .unset, .unset, .unset, .unset, .unset, .unset, .unset, .unset, .unset, .unset, .unset, .unset, .unset] [(.long (q1 + (fn2 p5)))]))
  refine Till.pre (fun _ hr => XS.lload X8.here hx rfl (hb hby at_18) rfl hr) ?_
  show Till p e below s (Q0 Z q1 q2 q3 q4 p5 h0 n0) room_1.cells room_1.slots (T6.setTop (mkF m 20 #[.val (.long q1), .second, .val (.long q2), .second, .val (.long q3), .second, .val (.long q4), .second, .val (.int p5), .val (.long iv), .second, .val (.long ka), .second, .unset, .unset, .unset, .unset, .unset, .unset, .unset, .unset, .unset, .unset, .unset, .unset, .unset] [(.long iv), (.long (q1 + (fn2 p5)))]))
  refine Till.pre (fun _ hr => XS.lmul X8.here hx rfl (hb hby at_20) rfl hr) ?_
  show Till p e below s (Q0 Z q1 q2 q3 q4 p5 h0 n0) room_1.cells room_1.slots (T6.setTop (mkF m 21 #[.val (.long q1), .second, .val (.long q2), .second, .val (.long q3), .second, .val (.long q4), .second, .val (.int p5), .val (.long iv), .second, .val (.long ka), .second, .unset, .unset, .unset, .unset, .unset, .unset, .unset, .unset, .unset, .unset, .unset, .unset, .unset] [(.long ((q1 + (fn2 p5)) * iv))]))
  generalize hu_kb : ((q1 + (fn2 p5)) * iv) = kb
  show Till p e below s (Q0 Z q1 q2 q3 q4 p5 h0 n0) room_1.cells room_1.slots (T6.setTop (mkF m 21 #[.val (.long q1), .second, .val (.long q2), .second, .val (.long q3), .second, .val (.long q4), .second, .val (.int p5), .val (.long iv), .second, .val (.long ka), .second, .unset, .unset, .unset, .unset, .unset, .unset, .unset, .unset, .unset, .unset, .unset, .unset, .unset] [(.long kb)]))
  refine Till.pre (fun _ hr => XS.lstore X8.here hx rfl (hb hby at_21) rfl (l' := #[.val (.long q1), .second, .val (.long q2), .second, .val (.long q3), .second, .val (.long q4), .second, .val (.int p5), .val (.long iv), .second, .val (.long ka), .second, .val (.long kb), .second, .unset, .unset, .unset, .unset, .unset, .unset, .unset, .unset, .unset, .unset, .unset]) rfl hr) ?_
  show Till p e below s (Q0 Z q1 q2 q3 q4 p5 h0 n0) room_1.cells room_1.slots (T6.setTop (mkF m 23 #[.val (.long q1), .second, .val (.long q2), .second, .val (.long q3), .second, .val (.long q4), .second, .val (.int p5), .val (.long iv), .second, .val (.long ka), .second, .val (.long kb), .second, .unset, .unset, .unset, .unset, .unset, .unset, .unset, .unset, .unset, .unset, .unset] []))
  refine Till.pre (fun _ hr => XS.lloadN X8.here hx rfl (hb hby at_23) rfl hr) ?_
  show Till p e below s (Q0 Z q1 q2 q3 q4 p5 h0 n0) room_1.cells room_1.slots (T6.setTop (mkF m 24 #[.val (.long q1), .second, .val (.long q2), .second, .val (.long q3), .second, .val (.long q4), .second, .val (.int p5), .val (.long iv), .second, .val (.long ka), .second, .val (.long kb), .second, .unset, .unset, .unset, .unset, .unset, .unset, .unset, .unset, .unset, .unset, .unset] [(.long q1)]))
  refine Till.pre (fun _ hr => XS.iload X8.here hx rfl (hb hby at_24) rfl hr) ?_
  show Till p e below s (Q0 Z q1 q2 q3 q4 p5 h0 n0) room_1.cells room_1.slots (T6.setTop (mkF m 26 #[.val (.long q1), .second, .val (.long q2), .second, .val (.long q3), .second, .val (.long q4), .second, .val (.int p5), .val (.long iv), .second, .val (.long ka), .second, .val (.long kb), .second, .unset, .unset, .unset, .unset, .unset, .unset, .unset, .unset, .unset, .unset, .unset] [(.int p5), (.long q1)]))
  refine Till.pre (fun _ hr => XS.iconst X8.here hx rfl (hb hby at_26) hr) ?_
  show Till p e below s (Q0 Z q1 q2 q3 q4 p5 h0 n0) room_1.cells room_1.slots (T6.setTop (mkF m 27 #[.val (.long q1), .second, .val (.long q2), .second, .val (.long q3), .second, .val (.long q4), .second, .val (.int p5), .val (.long iv), .second, .val (.long ka), .second, .val (.long kb), .second, .unset, .unset, .unset, .unset, .unset, .unset, .unset, .unset, .unset, .unset, .unset] [(.int (3 : Int32)), (.int p5), (.long q1)]))
  refine Till.pre (fun _ hr => XS.ishr X8.here hx rfl (hb hby at_27) rfl hr) ?_
  show Till p e below s (Q0 Z q1 q2 q3 q4 p5 h0 n0) room_1.cells room_1.slots (T6.setTop (mkF m 28 #[.val (.long q1), .second, .val (.long q2), .second, .val (.long q3), .second, .val (.long q4), .second, .val (.int p5), .val (.long iv), .second, .val (.long ka), .second, .val (.long kb), .second, .unset, .unset, .unset, .unset, .unset, .unset, .unset, .unset, .unset, .unset, .unset] [(.int (p5 >>> ((3 : Int32) &&& 31))), (.long q1)]))
  refine Till.callS (rm2 l Z a0 hw (p5 >>> ((3 : Int32) &&& 31)) h0 n0) X8 hx hZ hown (hw _ (List.mem_of_getElem? (i := 6) rfl)) (hw _ (List.mem_of_getElem? (i := 7) rfl)) (hw _ (List.mem_of_getElem? (i := 2) rfl)) (hw _ (List.mem_of_getElem? (i := 8) rfl)) (by decide) (by decide) (W := 2) (by decide) (by rw [hml]; rfl) (argsL := [(.int (p5 >>> ((3 : Int32) &&& 31)))]) (rest := [(.long q1)]) (lenOf pd0_2 rfl) rfl rfl (Nat.le_of_eq rfl) (hb hby at_28) e10 (by decide) (by decide) ?_
  rintro _ T11 L12 X13 ⟨rfl, N14, e15⟩
  have N14 := Fr.app N9 N14
  show Till p e below s (Q0 Z q1 q2 q3 q4 p5 h0 n0) room_1.cells room_1.slots (T11.setTop (mkF m 31 #[.val (.long q1), .second, .val (.long q2), .second, .val (.long q3), .second, .val (.long q4), .second, .val (.int p5), .val (.long iv), .second, .val (.long ka), .second, .val (.long kb), .second, .unset, .unset, .unset, .unset, .unset, .unset, .unset, .unset, .unset, .unset, .unset] [(.long (fn2 (p5 >>> ((3 : Int32) &&& 31)))), (.long q1)]))
  refine Till.pre (fun _ hr => XS.ladd X13.here hx rfl (hb hby at_31) rfl hr) ?_
  show Till p e below s (Q0 Z q1 q2 q3 q4 p5 h0 n0) room_1.cells room_1.slots (T11.setTop (mkF m 32 #[.val (.long q1), .second, .val (.long q2), .second, .val (.long q3), .second, .val (.long q4), .second, .val (.int p5), .val (.long iv), .second, .val (.long ka), .second, .val (.long kb), .second, .unset, .unset, .unset, .unset, .unset, .unset, .unset, .unset, .unset, .unset, .unset] [(.long (q1 + (fn2 (p5 >>> ((3 : Int32) &&& 31)))))]))
  refine Till.pre (fun _ hr => XS.lload X13.here hx rfl (hb hby at_32) rfl hr) ?_
  show Till p e below s (Q0 Z q1 q2 q3 q4 p5 h0 n0) room_1.cells room_1.slots (T11.setTop (mkF m 34 #[.val (.long q1), .second, .val (.long q2), .second, .val (.long q3), .second, .val (.long q4), .second, .val (.int p5), .val (.long iv), .second, .val (.long ka), .second, .val (.long kb), .second, .unset, .unset, .unset, .unset, .unset, .unset, .unset, .unset, .unset, .unset, .unset] [(.long iv), (.long (q1 + (fn2 (p5 >>> ((3 : Int32) &&& 31)))))]))
  refine Till.pre (fun _ hr => XS.lmul X13.here hx rfl (hb hby at_34) rfl hr) ?_
  show Till p e below s (Q0 Z q1 q2 q3 q4 p5 h0 n0) room_1.cells room_1.slots (T11.setTop (mkF m 35 #[.val (.long q1), .second, .val (.long q2), .second, .val (.long q3), .second, .val (.long q4), .second, .val (.int p5), .val (.long iv), .second, .val (.long ka), .second, .val (.long kb), .second, .unset, .unset, .unset, .unset, .unset, .unset, .unset, .unset, .unset, .unset, .unset] [(.long ((q1 + (fn2 (p5 >>> ((3 : Int32) &&& 31)))) * iv))]))
  generalize hu_kc : ((q1 + (fn2 (p5 >>> ((3 : Int32) &&& 31)))) * iv) = kc
  show Till p e below s (Q0 Z q1 q2 q3 q4 p5 h0 n0) room_1.cells room_1.slots (T11.setTop (mkF m 35 #[.val (.long q1), .second, .val (.long q2), .second, .val (.long q3), .second, .val (.long q4), .second, .val (.int p5), .val (.long iv), .second, .val (.long ka), .second, .val (.long kb), .second, .unset, .unset, .unset, .unset, .unset, .unset, .unset, .unset, .unset, .unset, .unset] [(.long kc)]))
  refine Till.pre (fun _ hr => XS.lstore X13.here hx rfl (hb hby at_35) rfl (l' := #[.val (.long q1), .second, .val (.long q2), .second, .val (.long q3), .second, .val (.long q4), .second, .val (.int p5), .val (.long iv), .second, .val (.long ka), .second, .val (.long kb), .second, .val (.long kc), .second, .unset, .unset, .unset, .unset, .unset, .unset, .unset, .unset, .unset]) rfl hr) ?_
  show Till p e below s (Q0 Z q1 q2 q3 q4 p5 h0 n0) room_1.cells room_1.slots (T11.setTop (mkF m 37 #[.val (.long q1), .second, .val (.long q2), .second, .val (.long q3), .second, .val (.long q4), .second, .val (.int p5), .val (.long iv), .second, .val (.long ka), .second, .val (.long kb), .second, .val (.long kc), .second, .unset, .unset, .unset, .unset, .unset, .unset, .unset, .unset, .unset] []))
  refine Till.pre (fun _ hr => XS.lloadN X13.here hx rfl (hb hby at_37) rfl hr) ?_
  show Till p e below s (Q0 Z q1 q2 q3 q4 p5 h0 n0) room_1.cells room_1.slots (T11.setTop (mkF m 38 #[.val (.long q1), .second, .val (.long q2), .second, .val (.long q3), .second, .val (.long q4), .second, .val (.int p5), .val (.long iv), .second, .val (.long ka), .second, .val (.long kb), .second, .val (.long kc), .second, .unset, .unset, .unset, .unset, .unset, .unset, .unset, .unset, .unset] [(.long q1)]))
  refine Till.pre (fun _ hr => XS.iload X13.here hx rfl (hb hby at_38) rfl hr) ?_
  show Till p e below s (Q0 Z q1 q2 q3 q4 p5 h0 n0) room_1.cells room_1.slots (T11.setTop (mkF m 40 #[.val (.long q1), .second, .val (.long q2), .second, .val (.long q3), .second, .val (.long q4), .second, .val (.int p5), .val (.long iv), .second, .val (.long ka), .second, .val (.long kb), .second, .val (.long kc), .second, .unset, .unset, .unset, .unset, .unset, .unset, .unset, .unset, .unset] [(.int p5), (.long q1)]))
  refine Till.pre (fun _ hr => XS.bipush X13.here hx rfl (hb hby at_40) hr) ?_
  show Till p e below s (Q0 Z q1 q2 q3 q4 p5 h0 n0) room_1.cells room_1.slots (T11.setTop (mkF m 42 #[.val (.long q1), .second, .val (.long q2), .second, .val (.long q3), .second, .val (.long q4), .second, .val (.int p5), .val (.long iv), .second, .val (.long ka), .second, .val (.long kb), .second, .val (.long kc), .second, .unset, .unset, .unset, .unset, .unset, .unset, .unset, .unset, .unset] [(.int (6 : Int32)), (.int p5), (.long q1)]))
  refine Till.pre (fun _ hr => XS.ishr X13.here hx rfl (hb hby at_42) rfl hr) ?_
  show Till p e below s (Q0 Z q1 q2 q3 q4 p5 h0 n0) room_1.cells room_1.slots (T11.setTop (mkF m 43 #[.val (.long q1), .second, .val (.long q2), .second, .val (.long q3), .second, .val (.long q4), .second, .val (.int p5), .val (.long iv), .second, .val (.long ka), .second, .val (.long kb), .second, .val (.long kc), .second, .unset, .unset, .unset, .unset, .unset, .unset, .unset, .unset, .unset] [(.int (p5 >>> ((6 : Int32) &&& 31))), (.long q1)]))
  refine Till.callS (rm2 l Z a0 hw (p5 >>> ((6 : Int32) &&& 31)) h0 n0) X13 hx hZ hown (hw _ (List.mem_of_getElem? (i := 6) rfl)) (hw _ (List.mem_of_getElem? (i := 7) rfl)) (hw _ (List.mem_of_getElem? (i := 2) rfl)) (hw _ (List.mem_of_getElem? (i := 8) rfl)) (by decide) (by decide) (W := 2) (by decide) (by rw [hml]; rfl) (argsL := [(.int (p5 >>> ((6 : Int32) &&& 31)))]) (rest := [(.long q1)]) (lenOf pd0_2 rfl) rfl rfl (Nat.le_of_eq rfl) (hb hby at_43) e15 (by decide) (by decide) ?_
  rintro _ T16 L17 X18 ⟨rfl, N19, e20⟩
  have N19 := Fr.app N14 N19
  show Till p e below s (Q0 Z q1 q2 q3 q4 p5 h0 n0) room_1.cells room_1.slots (T16.setTop (mkF m 46 #[.val (.long q1), .second, .val (.long q2), .second, .val (.long q3), .second, .val (.long q4), .second, .val (.int p5), .val (.long iv), .second, .val (.long ka), .second, .val (.long kb), .second, .val (.long kc), .second, .unset, .unset, .unset, .unset, .unset, .unset, .unset, .unset, .unset] [(.long (fn2 (p5 >>> ((6 : Int32) &&& 31)))), (.long q1)]))
  refine Till.pre (fun _ hr => XS.ladd X18.here hx rfl (hb hby at_46) rfl hr) ?_
  show Till p e below s (Q0 Z q1 q2 q3 q4 p5 h0 n0) room_1.cells room_1.slots (T16.setTop (mkF m 47 #[.val (.long q1), .second, .val (.long q2), .second, .val (.long q3), .second, .val (.long q4), .second, .val (.int p5), .val (.long iv), .second, .val (.long ka), .second, .val (.long kb), .second, .val (.long kc), .second, .unset, .unset, .unset, .unset, .unset, .unset, .unset, .unset, .unset] [(.long (q1 + (fn2 (p5 >>> ((6 : Int32) &&& 31)))))]))
  refine Till.pre (fun _ hr => XS.lload X18.here hx rfl (hb hby at_47) rfl hr) ?_
  show Till p e below s (Q0 Z q1 q2 q3 q4 p5 h0 n0) room_1.cells room_1.slots (T16.setTop (mkF m 49 #[.val (.long q1), .second, .val (.long q2), .second, .val (.long q3), .second, .val (.long q4), .second, .val (.int p5), .val (.long iv), .second, .val (.long ka), .second, .val (.long kb), .second, .val (.long kc), .second, .unset, .unset, .unset, .unset, .unset, .unset, .unset, .unset, .unset] [(.long iv), (.long (q1 + (fn2 (p5 >>> ((6 : Int32) &&& 31)))))]))
  refine Till.pre (fun _ hr => XS.lmul X18.here hx rfl (hb hby at_49) rfl hr) ?_
  show Till p e below s (Q0 Z q1 q2 q3 q4 p5 h0 n0) room_1.cells room_1.slots (T16.setTop (mkF m 50 #[.val (.long q1), .second, .val (.long q2), .second, .val (.long q3), .second, .val (.long q4), .second, .val (.int p5), .val (.long iv), .second, .val (.long ka), .second, .val (.long kb), .second, .val (.long kc), .second, .unset, .unset, .unset, .unset, .unset, .unset, .unset, .unset, .unset] [(.long ((q1 + (fn2 (p5 >>> ((6 : Int32) &&& 31)))) * iv))]))
  generalize hu_kd : ((q1 + (fn2 (p5 >>> ((6 : Int32) &&& 31)))) * iv) = kd
  show Till p e below s (Q0 Z q1 q2 q3 q4 p5 h0 n0) room_1.cells room_1.slots (T16.setTop (mkF m 50 #[.val (.long q1), .second, .val (.long q2), .second, .val (.long q3), .second, .val (.long q4), .second, .val (.int p5), .val (.long iv), .second, .val (.long ka), .second, .val (.long kb), .second, .val (.long kc), .second, .unset, .unset, .unset, .unset, .unset, .unset, .unset, .unset, .unset] [(.long kd)]))
  refine Till.pre (fun _ hr => XS.lstore X18.here hx rfl (hb hby at_50) rfl (l' := #[.val (.long q1), .second, .val (.long q2), .second, .val (.long q3), .second, .val (.long q4), .second, .val (.int p5), .val (.long iv), .second, .val (.long ka), .second, .val (.long kb), .second, .val (.long kc), .second, .val (.long kd), .second, .unset, .unset, .unset, .unset, .unset, .unset, .unset]) rfl hr) ?_
  show Till p e below s (Q0 Z q1 q2 q3 q4 p5 h0 n0) room_1.cells room_1.slots (T16.setTop (mkF m 52 #[.val (.long q1), .second, .val (.long q2), .second, .val (.long q3), .second, .val (.long q4), .second, .val (.int p5), .val (.long iv), .second, .val (.long ka), .second, .val (.long kb), .second, .val (.long kc), .second, .val (.long kd), .second, .unset, .unset, .unset, .unset, .unset, .unset, .unset] []))
  refine Till.pre (fun _ hr => XS.lloadN X18.here hx rfl (hb hby at_52) rfl hr) ?_
  show Till p e below s (Q0 Z q1 q2 q3 q4 p5 h0 n0) room_1.cells room_1.slots (T16.setTop (mkF m 53 #[.val (.long q1), .second, .val (.long q2), .second, .val (.long q3), .second, .val (.long q4), .second, .val (.int p5), .val (.long iv), .second, .val (.long ka), .second, .val (.long kb), .second, .val (.long kc), .second, .val (.long kd), .second, .unset, .unset, .unset, .unset, .unset, .unset, .unset] [(.long q2)]))
  refine Till.callS (rm3 l Z a0 hw q2 h0 n0) X18 hx hZ hown (hw _ (List.mem_of_getElem? (i := 9) rfl)) (hw _ (List.mem_of_getElem? (i := 10) rfl)) (hw _ (List.mem_of_getElem? (i := 2) rfl)) (hw _ (List.mem_of_getElem? (i := 11) rfl)) (by decide) (by decide) (W := 0) (by decide) (by rw [hml]; rfl) (argsL := [(.long q2)]) (rest := []) (lenOf pd0_5 rfl) rfl rfl (Nat.le_of_eq rfl) (hb hby at_53) e20 (by decide) (by decide) ?_
  rintro _ T21 L22 X23 ⟨rfl, N24, e25⟩
  have N24 := Fr.app N19 N24
  show Till p e below s (Q0 Z q1 q2 q3 q4 p5 h0 n0) room_1.cells room_1.slots (T21.setTop (mkF m 56 #[.val (.long q1), .second, .val (.long q2), .second, .val (.long q3), .second, .val (.long q4), .second, .val (.int p5), .val (.long iv), .second, .val (.long ka), .second, .val (.long kb), .second, .val (.long kc), .second, .val (.long kd), .second, .unset, .unset, .unset, .unset, .unset, .unset, .unset] [(.long (fn3 q2))]))
  generalize hu_w1 : (fn3 q2) = w1
  show Till p e below s (Q0 Z q1 q2 q3 q4 p5 h0 n0) room_1.cells room_1.slots (T21.setTop (mkF m 56 #[.val (.long q1), .second, .val (.long q2), .second, .val (.long q3), .second, .val (.long q4), .second, .val (.int p5), .val (.long iv), .second, .val (.long ka), .second, .val (.long kb), .second, .val (.long kc), .second, .val (.long kd), .second, .unset, .unset, .unset, .unset, .unset, .unset, .unset] [(.long w1)]))
  refine Till.pre (fun _ hr => XS.lstore X23.here hx rfl (hb hby at_56) rfl (l' := #[.val (.long q1), .second, .val (.long q2), .second, .val (.long q3), .second, .val (.long q4), .second, .val (.int p5), .val (.long iv), .second, .val (.long ka), .second, .val (.long kb), .second, .val (.long kc), .second, .val (.long kd), .second, .val (.long w1), .second, .unset, .unset, .unset, .unset, .unset]) rfl hr) ?_
  show Till p e below s (Q0 Z q1 q2 q3 q4 p5 h0 n0) room_1.cells room_1.slots (T21.setTop (mkF m 58 #[.val (.long q1), .second, .val (.long q2), .second, .val (.long q3), .second, .val (.long q4), .second, .val (.int p5), .val (.long iv), .second, .val (.long ka), .second, .val (.long kb), .second, .val (.long kc), .second, .val (.long kd), .second, .val (.long w1), .second, .unset, .unset, .unset, .unset, .unset] []))
  refine Till.pre (fun _ hr => XS.lload X23.here hx rfl (hb hby at_58) rfl hr) ?_
  show Till p e below s (Q0 Z q1 q2 q3 q4 p5 h0 n0) room_1.cells room_1.slots (T21.setTop (mkF m 60 #[.val (.long q1), .second, .val (.long q2), .second, .val (.long q3), .second, .val (.long q4), .second, .val (.int p5), .val (.long iv), .second, .val (.long ka), .second, .val (.long kb), .second, .val (.long kc), .second, .val (.long kd), .second, .val (.long w1), .second, .unset, .unset, .unset, .unset, .unset] [(.long q3)]))
  refine Till.callS (rm3 l Z a0 hw q3 h0 n0) X23 hx hZ hown (hw _ (List.mem_of_getElem? (i := 9) rfl)) (hw _ (List.mem_of_getElem? (i := 10) rfl)) (hw _ (List.mem_of_getElem? (i := 2) rfl)) (hw _ (List.mem_of_getElem? (i := 11) rfl)) (by decide) (by decide) (W := 0) (by decide) (by rw [hml]; rfl) (argsL := [(.long q3)]) (rest := []) (lenOf pd0_5 rfl) rfl rfl (Nat.le_of_eq rfl) (hb hby at_60) e25 (by decide) (by decide) ?_
  rintro _ T26 L27 X28 ⟨rfl, N29, e30⟩
  have N29 := Fr.app N24 N29
  show Till p e below s (Q0 Z q1 q2 q3 q4 p5 h0 n0) room_1.cells room_1.slots (T26.setTop (mkF m 63 #[.val (.long q1), .second, .val (.long q2), .second, .val (.long q3), .second, .val (.long q4), .second, .val (.int p5), .val (.long iv), .second, .val (.long ka), .second, .val (.long kb), .second, .val (.long kc), .second, .val (.long kd), .second, .val (.long w1), .second, .unset, .unset, .unset, .unset, .unset] [(.long (fn3 q3))]))
  generalize hu_w2 : (fn3 q3) = w2
  show Till p e below s (Q0 Z q1 q2 q3 q4 p5 h0 n0) room_1.cells room_1.slots (T26.setTop (mkF m 63 #[.val (.long q1), .second, .val (.long q2), .second, .val (.long q3), .second, .val (.long q4), .second, .val (.int p5), .val (.long iv), .second, .val (.long ka), .second, .val (.long kb), .second, .val (.long kc), .second, .val (.long kd), .second, .val (.long w1), .second, .unset, .unset, .unset, .unset, .unset] [(.long w2)]))
  refine Till.pre (fun _ hr => XS.lstore X28.here hx rfl (hb hby at_63) rfl (l' := #[.val (.long q1), .second, .val (.long q2), .second, .val (.long q3), .second, .val (.long q4), .second, .val (.int p5), .val (.long iv), .second, .val (.long ka), .second, .val (.long kb), .second, .val (.long kc), .second, .val (.long kd), .second, .val (.long w1), .second, .val (.long w2), .second, .unset, .unset, .unset]) rfl hr) ?_
  show Till p e below s (Q0 Z q1 q2 q3 q4 p5 h0 n0) room_1.cells room_1.slots (T26.setTop (mkF m 65 #[.val (.long q1), .second, .val (.long q2), .second, .val (.long q3), .second, .val (.long q4), .second, .val (.int p5), .val (.long iv), .second, .val (.long ka), .second, .val (.long kb), .second, .val (.long kc), .second, .val (.long kd), .second, .val (.long w1), .second, .val (.long w2), .second, .unset, .unset, .unset] []))
  refine Till.pre (fun _ hr => XS.lload X28.here hx rfl (hb hby at_65) rfl hr) ?_
  show Till p e below s (Q0 Z q1 q2 q3 q4 p5 h0 n0) room_1.cells room_1.slots (T26.setTop (mkF m 67 #[.val (.long q1), .second, .val (.long q2), .second, .val (.long q3), .second, .val (.long q4), .second, .val (.int p5), .val (.long iv), .second, .val (.long ka), .second, .val (.long kb), .second, .val (.long kc), .second, .val (.long kd), .second, .val (.long w1), .second, .val (.long w2), .second, .unset, .unset, .unset] [(.long q4)]))
  refine Till.callS (rm3 l Z a0 hw q4 h0 n0) X28 hx hZ hown (hw _ (List.mem_of_getElem? (i := 9) rfl)) (hw _ (List.mem_of_getElem? (i := 10) rfl)) (hw _ (List.mem_of_getElem? (i := 2) rfl)) (hw _ (List.mem_of_getElem? (i := 11) rfl)) (by decide) (by decide) (W := 0) (by decide) (by rw [hml]; rfl) (argsL := [(.long q4)]) (rest := []) (lenOf pd0_5 rfl) rfl rfl (Nat.le_of_eq rfl) (hb hby at_67) e30 (by decide) (by decide) ?_
  rintro _ T31 L32 X33 ⟨rfl, N34, e35⟩
  have N34 := Fr.app N29 N34
  show Till p e below s (Q0 Z q1 q2 q3 q4 p5 h0 n0) room_1.cells room_1.slots (T31.setTop (mkF m 70 #[.val (.long q1), .second, .val (.long q2), .second, .val (.long q3), .second, .val (.long q4), .second, .val (.int p5), .val (.long iv), .second, .val (.long ka), .second, .val (.long kb), .second, .val (.long kc), .second, .val (.long kd), .second, .val (.long w1), .second, .val (.long w2), .second, .unset, .unset, .unset] [(.long (fn3 q4))]))
  generalize hu_w3 : (fn3 q4) = w3
  show Till p e below s (Q0 Z q1 q2 q3 q4 p5 h0 n0) room_1.cells room_1.slots (T31.setTop (mkF m 70 #[.val (.long q1), .second, .val (.long q2), .second, .val (.long q3), .second, .val (.long q4), .second, .val (.int p5), .val (.long iv), .second, .val (.long ka), .second, .val (.long kb), .second, .val (.long kc), .second, .val (.long kd), .second, .val (.long w1), .second, .val (.long w2), .second, .unset, .unset, .unset] [(.long w3)]))
  refine Till.pre (fun _ hr => XS.lstore X33.here hx rfl (hb hby at_70) rfl (l' := #[.val (.long q1), .second, .val (.long q2), .second, .val (.long q3), .second, .val (.long q4), .second, .val (.int p5), .val (.long iv), .second, .val (.long ka), .second, .val (.long kb), .second, .val (.long kc), .second, .val (.long kd), .second, .val (.long w1), .second, .val (.long w2), .second, .val (.long w3), .second, .unset]) rfl hr) ?_
  show Till p e below s (Q0 Z q1 q2 q3 q4 p5 h0 n0) room_1.cells room_1.slots (T31.setTop (mkF m 72 #[.val (.long q1), .second, .val (.long q2), .second, .val (.long q3), .second, .val (.long q4), .second, .val (.int p5), .val (.long iv), .second, .val (.long ka), .second, .val (.long kb), .second, .val (.long kc), .second, .val (.long kd), .second, .val (.long w1), .second, .val (.long w2), .second, .val (.long w3), .second, .unset] []))
  refine Till.newO X33 hx hZ hown (hw _ (List.mem_of_getElem? (i := 13) rfl)) (hw _ (List.mem_of_getElem? (i := 14) rfl)) (hw _ (List.mem_of_getElem? (i := 15) rfl)) e35 (hb hby at_72) (by decide) (by decide) (fun T36 h37 b38 g39 X40 e41 E42 A43 D44 => ?_)
  have g_b38 : n0 ≤ b38 := Nat.le_trans Zs (Nat.le_of_eq g39.symm)
  have Zs := Nat.le_trans Zs E42.1
  have R_b38 : Idt Z h37 b38 .null .null (0 : Int32) (0 : Int32) := ⟨A43, D44 (Or.inl (hw _ (List.mem_of_getElem? (i := 28) rfl))) (ty := (.array .long)) (by decide), D44 (Or.inl (hw _ (List.mem_of_getElem? (i := 30) rfl))) (ty := (.array .long)) (by decide), D44 (Or.inl (hw _ (List.mem_of_getElem? (i := 37) rfl))) (ty := .int) (by decide), D44 (Or.inl (hw _ (List.mem_of_getElem? (i := 44) rfl))) (ty := .int) (by decide)⟩
  show Till p e below s (Q0 Z q1 q2 q3 q4 p5 h0 n0) room_1.cells room_1.slots (T36.setTop (mkF m 75 #[.val (.long q1), .second, .val (.long q2), .second, .val (.long q3), .second, .val (.long q4), .second, .val (.int p5), .val (.long iv), .second, .val (.long ka), .second, .val (.long kb), .second, .val (.long kc), .second, .val (.long kd), .second, .val (.long w1), .second, .val (.long w2), .second, .val (.long w3), .second, .unset] [(.ref b38)]))
  refine Till.pre (fun _ hr => XS.dup X40.here hx rfl (hb hby at_75) rfl rfl hr) ?_
  show Till p e below s (Q0 Z q1 q2 q3 q4 p5 h0 n0) room_1.cells room_1.slots (T36.setTop (mkF m 76 #[.val (.long q1), .second, .val (.long q2), .second, .val (.long q3), .second, .val (.long q4), .second, .val (.int p5), .val (.long iv), .second, .val (.long ka), .second, .val (.long kb), .second, .val (.long kc), .second, .val (.long kd), .second, .val (.long w1), .second, .val (.long w2), .second, .val (.long w3), .second, .unset] [(.ref b38), (.ref b38)]))
  refine Till.callC (rm4 l Z a0 hw b38 h37 n0 Zs R_b38 g_b38) X40 hx hZ hown rfl (hw _ (List.mem_of_getElem? (i := 16) rfl)) (hw _ (List.mem_of_getElem? (i := 17) rfl)) (hw _ (List.mem_of_getElem? (i := 15) rfl)) (hw _ (List.mem_of_getElem? (i := 18) rfl)) (by decide) (by decide) (W := 1) (by decide) (by rw [hml]; rfl) (a := b38) (argsL := []) (rest := [(.ref b38)]) (lenOf pd0_1 rfl) rfl rfl (Nat.le_of_eq rfl) (hb hby at_76) e41 (by decide) (by decide) ?_
  rintro _ T45 L46 X47 ⟨b53, b54, rfl, N48, K49, szq_b53, szq_b54, ne_b53_b54, q50, q51, q52⟩
  have N48 := Fr.app N34 N48
  have ne_b38_b53 : b38 ≠ b53 := Nat.ne_of_lt (Nat.lt_of_lt_of_le R_b38.lt szq_b53)
  have g_b53 : n0 ≤ b53 := Nat.le_trans Zs szq_b53
  have ne_b38_b54 : b38 ≠ b54 := Nat.ne_of_lt (Nat.lt_of_lt_of_le R_b38.lt szq_b54)
  have g_b54 : n0 ≤ b54 := Nat.le_trans Zs szq_b54
  have Zs := Nat.le_trans Zs K49.1
  have R_b38 : Idt Z T45.heap b38 (.ref b53) (.ref b54) (54 : Int32) (0 : Int32) := q50
  have R_b53 : LA Z T45.heap b53 (1024 : Int32) (fun _ => (0 : Int64)) := q51
  have R_b54 : LA Z T45.heap b54 (1024 : Int32) (fun _ => (-9223372036854775808 : Int64)) := q52
  show Till p e below s (Q0 Z q1 q2 q3 q4 p5 h0 n0) room_1.cells room_1.slots (T45.setTop (mkF m 79 #[.val (.long q1), .second, .val (.long q2), .second, .val (.long q3), .second, .val (.long q4), .second, .val (.int p5), .val (.long iv), .second, .val (.long ka), .second, .val (.long kb), .second, .val (.long kc), .second, .val (.long kd), .second, .val (.long w1), .second, .val (.long w2), .second, .val (.long w3), .second, .unset] [(.ref b38)]))
  refine Till.pre (fun _ hr => XS.astore X47.here hx rfl (hb hby at_79) rfl rfl (l' := #[.val (.long q1), .second, .val (.long q2), .second, .val (.long q3), .second, .val (.long q4), .second, .val (.int p5), .val (.long iv), .second, .val (.long ka), .second, .val (.long kb), .second, .val (.long kc), .second, .val (.long kd), .second, .val (.long w1), .second, .val (.long w2), .second, .val (.long w3), .second, .val (.ref b38)]) rfl hr) ?_
  show Till p e below s (Q0 Z q1 q2 q3 q4 p5 h0 n0) room_1.cells room_1.slots (T45.setTop (mkF m 81 #[.val (.long q1), .second, .val (.long q2), .second, .val (.long q3), .second, .val (.long q4), .second, .val (.int p5), .val (.long iv), .second, .val (.long ka), .second, .val (.long kb), .second, .val (.long kc), .second, .val (.long kd), .second, .val (.long w1), .second, .val (.long w2), .second, .val (.long w3), .second, .val (.ref b38)] []))
  refine Till.pre (fun _ hr => XS.aload X47.here hx rfl (hb hby at_81) rfl rfl hr) ?_
  show Till p e below s (Q0 Z q1 q2 q3 q4 p5 h0 n0) room_1.cells room_1.slots (T45.setTop (mkF m 83 #[.val (.long q1), .second, .val (.long q2), .second, .val (.long q3), .second, .val (.long q4), .second, .val (.int p5), .val (.long iv), .second, .val (.long ka), .second, .val (.long kb), .second, .val (.long kc), .second, .val (.long kd), .second, .val (.long w1), .second, .val (.long w2), .second, .val (.long w3), .second, .val (.ref b38)] [(.ref b38)]))
  refine Till.pre (fun _ hr => XS.lload X47.here hx rfl (hb hby at_83) rfl hr) ?_
  show Till p e below s (Q0 Z q1 q2 q3 q4 p5 h0 n0) room_1.cells room_1.slots (T45.setTop (mkF m 85 #[.val (.long q1), .second, .val (.long q2), .second, .val (.long q3), .second, .val (.long q4), .second, .val (.int p5), .val (.long iv), .second, .val (.long ka), .second, .val (.long kb), .second, .val (.long kc), .second, .val (.long kd), .second, .val (.long w1), .second, .val (.long w2), .second, .val (.long w3), .second, .val (.ref b38)] [(.long ka), (.ref b38)]))
  refine Till.pre (fun _ hr => XS.lload X47.here hx rfl (hb hby at_85) rfl hr) ?_
  show Till p e below s (Q0 Z q1 q2 q3 q4 p5 h0 n0) room_1.cells room_1.slots (T45.setTop (mkF m 87 #[.val (.long q1), .second, .val (.long q2), .second, .val (.long q3), .second, .val (.long q4), .second, .val (.int p5), .val (.long iv), .second, .val (.long ka), .second, .val (.long kb), .second, .val (.long kc), .second, .val (.long kd), .second, .val (.long w1), .second, .val (.long w2), .second, .val (.long w3), .second, .val (.ref b38)] [(.long w1), (.long ka), (.ref b38)]))
  refine Till.callV (rm7 l Z a0 hw b38 ka w1 b53 b54 (0 : Int32) (fun _ => (0 : Int64)) (fun _ => (-9223372036854775808 : Int64)) 0 (fun _ => own_ABS) T45.heap n0 Zs R_b38 R_b53 R_b54 g_b38 g_b53 g_b54 ne_b38_b53 ne_b38_b54 ne_b53_b54 ((own_empty _)) (by decide) (⟨by decide, by decide⟩) (hu_w1 ▸ own_fix q2)) R_b38.1 X47 hx hZ hown (hw _ (List.mem_of_getElem? (i := 38) rfl)) (hw _ (List.mem_of_getElem? (i := 39) rfl)) (hw _ (List.mem_of_getElem? (i := 41) rfl)) (hw _ (List.mem_of_getElem? (i := 40) rfl)) (hw _ (List.mem_of_getElem? (i := 15) rfl)) (hw _ (List.mem_of_getElem? (i := 42) rfl)) (by decide) (by decide) (W := 0) (by decide) (by rw [hml]; rfl) (a := b38) (argsL := [(.long ka), (.long w1)]) (rest := []) (lenOf pd0_6 rfl) rfl rfl (Nat.le_of_eq rfl) (hb hby at_87) rfl (by decide) (by decide) ?_
  rintro _ T55 L56 X57 ⟨f59, g60, w61, rfl, N58, K64, q65, q66, q67, tb62, sz63⟩
  have N58 := Fr.app N48 N58
  have Zs := Nat.le_trans Zs K64.1
  have R_b38 : Idt Z T55.heap b38 (.ref b53) (.ref b54) (54 : Int32) w61 := q65
  have R_b53 : LA Z T55.heap b53 (1024 : Int32) f59 := q66
  have R_b54 : LA Z T55.heap b54 (1024 : Int32) g60 := q67
  have tb62 : own_Tb f59 g60 1 (own_um (fun _ => own_ABS) ka w1) := tb62
  show Till p e below s (Q0 Z q1 q2 q3 q4 p5 h0 n0) room_1.cells room_1.slots (T55.setTop (mkF m 90 #[.val (.long q1), .second, .val (.long q2), .second, .val (.long q3), .second, .val (.long q4), .second, .val (.int p5), .val (.long iv), .second, .val (.long ka), .second, .val (.long kb), .second, .val (.long kc), .second, .val (.long kd), .second, .val (.long w1), .second, .val (.long w2), .second, .val (.long w3), .second, .val (.ref b38)] []))
  refine Till.pre (fun _ hr => XS.aload X57.here hx rfl (hb hby at_90) rfl rfl hr) ?_
  show Till p e below s (Q0 Z q1 q2 q3 q4 p5 h0 n0) room_1.cells room_1.slots (T55.setTop (mkF m 92 #[.val (.long q1), .second, .val (.long q2), .second, .val (.long q3), .second, .val (.long q4), .second, .val (.int p5), .val (.long iv), .second, .val (.long ka), .second, .val (.long kb), .second, .val (.long kc), .second, .val (.long kd), .second, .val (.long w1), .second, .val (.long w2), .second, .val (.long w3), .second, .val (.ref b38)] [(.ref b38)]))
  refine Till.pre (fun _ hr => XS.lload X57.here hx rfl (hb hby at_92) rfl hr) ?_
  show Till p e below s (Q0 Z q1 q2 q3 q4 p5 h0 n0) room_1.cells room_1.slots (T55.setTop (mkF m 94 #[.val (.long q1), .second, .val (.long q2), .second, .val (.long q3), .second, .val (.long q4), .second, .val (.int p5), .val (.long iv), .second, .val (.long ka), .second, .val (.long kb), .second, .val (.long kc), .second, .val (.long kd), .second, .val (.long w1), .second, .val (.long w2), .second, .val (.long w3), .second, .val (.ref b38)] [(.long kb), (.ref b38)]))
  refine Till.pre (fun _ hr => XS.lload X57.here hx rfl (hb hby at_94) rfl hr) ?_
  show Till p e below s (Q0 Z q1 q2 q3 q4 p5 h0 n0) room_1.cells room_1.slots (T55.setTop (mkF m 96 #[.val (.long q1), .second, .val (.long q2), .second, .val (.long q3), .second, .val (.long q4), .second, .val (.int p5), .val (.long iv), .second, .val (.long ka), .second, .val (.long kb), .second, .val (.long kc), .second, .val (.long kd), .second, .val (.long w1), .second, .val (.long w2), .second, .val (.long w3), .second, .val (.ref b38)] [(.long w2), (.long kb), (.ref b38)]))
  refine Till.callV (rm7 l Z a0 hw b38 kb w2 b53 b54 w61 f59 g60 1 (own_um (fun _ => own_ABS) ka w1) T55.heap n0 Zs R_b38 R_b53 R_b54 g_b38 g_b53 g_b54 ne_b38_b53 ne_b38_b54 ne_b53_b54 (tb62) (by decide) (sz63) (hu_w2 ▸ own_fix q3)) R_b38.1 X57 hx hZ hown (hw _ (List.mem_of_getElem? (i := 38) rfl)) (hw _ (List.mem_of_getElem? (i := 39) rfl)) (hw _ (List.mem_of_getElem? (i := 41) rfl)) (hw _ (List.mem_of_getElem? (i := 40) rfl)) (hw _ (List.mem_of_getElem? (i := 15) rfl)) (hw _ (List.mem_of_getElem? (i := 42) rfl)) (by decide) (by decide) (W := 0) (by decide) (by rw [hml]; rfl) (a := b38) (argsL := [(.long kb), (.long w2)]) (rest := []) (lenOf pd0_6 rfl) rfl rfl (Nat.le_of_eq rfl) (hb hby at_96) rfl (by decide) (by decide) ?_
  rintro _ T68 L69 X70 ⟨f72, g73, w74, rfl, N71, K77, q78, q79, q80, tb75, sz76⟩
  have N71 := Fr.app N58 N71
  have Zs := Nat.le_trans Zs K77.1
  have R_b38 : Idt Z T68.heap b38 (.ref b53) (.ref b54) (54 : Int32) w74 := q78
  have R_b53 : LA Z T68.heap b53 (1024 : Int32) f72 := q79
  have R_b54 : LA Z T68.heap b54 (1024 : Int32) g73 := q80
  have tb75 : own_Tb f72 g73 2 (own_um (own_um (fun _ => own_ABS) ka w1) kb w2) := tb75
  show Till p e below s (Q0 Z q1 q2 q3 q4 p5 h0 n0) room_1.cells room_1.slots (T68.setTop (mkF m 99 #[.val (.long q1), .second, .val (.long q2), .second, .val (.long q3), .second, .val (.long q4), .second, .val (.int p5), .val (.long iv), .second, .val (.long ka), .second, .val (.long kb), .second, .val (.long kc), .second, .val (.long kd), .second, .val (.long w1), .second, .val (.long w2), .second, .val (.long w3), .second, .val (.ref b38)] []))
  refine Till.pre (fun _ hr => XS.aload X70.here hx rfl (hb hby at_99) rfl rfl hr) ?_
  show Till p e below s (Q0 Z q1 q2 q3 q4 p5 h0 n0) room_1.cells room_1.slots (T68.setTop (mkF m 101 #[.val (.long q1), .second, .val (.long q2), .second, .val (.long q3), .second, .val (.long q4), .second, .val (.int p5), .val (.long iv), .second, .val (.long ka), .second, .val (.long kb), .second, .val (.long kc), .second, .val (.long kd), .second, .val (.long w1), .second, .val (.long w2), .second, .val (.long w3), .second, .val (.ref b38)] [(.ref b38)]))
  refine Till.pre (fun _ hr => XS.lload X70.here hx rfl (hb hby at_101) rfl hr) ?_
  show Till p e below s (Q0 Z q1 q2 q3 q4 p5 h0 n0) room_1.cells room_1.slots (T68.setTop (mkF m 103 #[.val (.long q1), .second, .val (.long q2), .second, .val (.long q3), .second, .val (.long q4), .second, .val (.int p5), .val (.long iv), .second, .val (.long ka), .second, .val (.long kb), .second, .val (.long kc), .second, .val (.long kd), .second, .val (.long w1), .second, .val (.long w2), .second, .val (.long w3), .second, .val (.ref b38)] [(.long kc), (.ref b38)]))
  refine Till.pre (fun _ hr => XS.lload X70.here hx rfl (hb hby at_103) rfl hr) ?_
  show Till p e below s (Q0 Z q1 q2 q3 q4 p5 h0 n0) room_1.cells room_1.slots (T68.setTop (mkF m 105 #[.val (.long q1), .second, .val (.long q2), .second, .val (.long q3), .second, .val (.long q4), .second, .val (.int p5), .val (.long iv), .second, .val (.long ka), .second, .val (.long kb), .second, .val (.long kc), .second, .val (.long kd), .second, .val (.long w1), .second, .val (.long w2), .second, .val (.long w3), .second, .val (.ref b38)] [(.long w3), (.long kc), (.ref b38)]))
  refine Till.callV (rm7 l Z a0 hw b38 kc w3 b53 b54 w74 f72 g73 2 (own_um (own_um (fun _ => own_ABS) ka w1) kb w2) T68.heap n0 Zs R_b38 R_b53 R_b54 g_b38 g_b53 g_b54 ne_b38_b53 ne_b38_b54 ne_b53_b54 (tb75) (by decide) (sz76) (hu_w3 ▸ own_fix q4)) R_b38.1 X70 hx hZ hown (hw _ (List.mem_of_getElem? (i := 38) rfl)) (hw _ (List.mem_of_getElem? (i := 39) rfl)) (hw _ (List.mem_of_getElem? (i := 41) rfl)) (hw _ (List.mem_of_getElem? (i := 40) rfl)) (hw _ (List.mem_of_getElem? (i := 15) rfl)) (hw _ (List.mem_of_getElem? (i := 42) rfl)) (by decide) (by decide) (W := 0) (by decide) (by rw [hml]; rfl) (a := b38) (argsL := [(.long kc), (.long w3)]) (rest := []) (lenOf pd0_6 rfl) rfl rfl (Nat.le_of_eq rfl) (hb hby at_105) rfl (by decide) (by decide) ?_
  rintro _ T81 L82 X83 ⟨f85, g86, w87, rfl, N84, K90, q91, q92, q93, tb88, sz89⟩
  have N84 := Fr.app N71 N84
  have Zs := Nat.le_trans Zs K90.1
  have R_b38 : Idt Z T81.heap b38 (.ref b53) (.ref b54) (54 : Int32) w87 := q91
  have R_b53 : LA Z T81.heap b53 (1024 : Int32) f85 := q92
  have R_b54 : LA Z T81.heap b54 (1024 : Int32) g86 := q93
  have tb88 : own_Tb f85 g86 3 (own_um (own_um (own_um (fun _ => own_ABS) ka w1) kb w2) kc w3) := tb88
  show Till p e below s (Q0 Z q1 q2 q3 q4 p5 h0 n0) room_1.cells room_1.slots (T81.setTop (mkF m 108 #[.val (.long q1), .second, .val (.long q2), .second, .val (.long q3), .second, .val (.long q4), .second, .val (.int p5), .val (.long iv), .second, .val (.long ka), .second, .val (.long kb), .second, .val (.long kc), .second, .val (.long kd), .second, .val (.long w1), .second, .val (.long w2), .second, .val (.long w3), .second, .val (.ref b38)] []))
  refine Till.pre (fun _ hr => XS.aload X83.here hx rfl (hb hby at_108) rfl rfl hr) ?_
  show Till p e below s (Q0 Z q1 q2 q3 q4 p5 h0 n0) room_1.cells room_1.slots (T81.setTop (mkF m 110 #[.val (.long q1), .second, .val (.long q2), .second, .val (.long q3), .second, .val (.long q4), .second, .val (.int p5), .val (.long iv), .second, .val (.long ka), .second, .val (.long kb), .second, .val (.long kc), .second, .val (.long kd), .second, .val (.long w1), .second, .val (.long w2), .second, .val (.long w3), .second, .val (.ref b38)] [(.ref b38)]))
  refine Till.pre (fun _ hr => XS.lload X83.here hx rfl (hb hby at_110) rfl hr) ?_
  show Till p e below s (Q0 Z q1 q2 q3 q4 p5 h0 n0) room_1.cells room_1.slots (T81.setTop (mkF m 112 #[.val (.long q1), .second, .val (.long q2), .second, .val (.long q3), .second, .val (.long q4), .second, .val (.int p5), .val (.long iv), .second, .val (.long ka), .second, .val (.long kb), .second, .val (.long kc), .second, .val (.long kd), .second, .val (.long w1), .second, .val (.long w2), .second, .val (.long w3), .second, .val (.ref b38)] [(.long ka), (.ref b38)]))
  refine Till.callV (rm9 l Z a0 hw b38 ka b53 b54 w87 f85 g86 3 (own_um (own_um (own_um (fun _ => own_ABS) ka w1) kb w2) kc w3) T81.heap n0 R_b38 R_b53 R_b54 (tb88) (by decide)) R_b38.1 X83 hx hZ hown (hw _ (List.mem_of_getElem? (i := 50) rfl)) (hw _ (List.mem_of_getElem? (i := 51) rfl)) (hw _ (List.mem_of_getElem? (i := 53) rfl)) (hw _ (List.mem_of_getElem? (i := 52) rfl)) (hw _ (List.mem_of_getElem? (i := 15) rfl)) (hw _ (List.mem_of_getElem? (i := 54) rfl)) (by decide) (by decide) (W := 0) (by decide) (by rw [hml]; rfl) (a := b38) (argsL := [(.long ka)]) (rest := []) (lenOf pd0_5 rfl) rfl rfl (Nat.le_of_eq rfl) (hb hby at_112) rfl (by decide) (by decide) ?_
  rintro _ T94 L95 X96 ⟨rfl, N97, e98⟩
  have N97 := Fr.app N84 N97
  show Till p e below s (Q0 Z q1 q2 q3 q4 p5 h0 n0) room_1.cells room_1.slots (T94.setTop (mkF m 115 #[.val (.long q1), .second, .val (.long q2), .second, .val (.long q3), .second, .val (.long q4), .second, .val (.int p5), .val (.long iv), .second, .val (.long ka), .second, .val (.long kb), .second, .val (.long kc), .second, .val (.long kd), .second, .val (.long w1), .second, .val (.long w2), .second, .val (.long w3), .second, .val (.ref b38)] [(.long ((own_um (own_um (own_um (fun _ => own_ABS) ka w1) kb w2) kc w3) ka))]))
  refine Till.pre (fun _ hr => XS.lload X96.here hx rfl (hb hby at_115) rfl hr) ?_
  show Till p e below s (Q0 Z q1 q2 q3 q4 p5 h0 n0) room_1.cells room_1.slots (T94.setTop (mkF m 117 #[.val (.long q1), .second, .val (.long q2), .second, .val (.long q3), .second, .val (.long q4), .second, .val (.int p5), .val (.long iv), .second, .val (.long ka), .second, .val (.long kb), .second, .val (.long kc), .second, .val (.long kd), .second, .val (.long w1), .second, .val (.long w2), .second, .val (.long w3), .second, .val (.ref b38)] [(.long ka), (.long ((own_um (own_um (own_um (fun _ => own_ABS) ka w1) kb w2) kc w3) ka))]))
  refine Till.pre (fun _ hr => XS.lload X96.here hx rfl (hb hby at_117) rfl hr) ?_
  show Till p e below s (Q0 Z q1 q2 q3 q4 p5 h0 n0) room_1.cells room_1.slots (T94.setTop (mkF m 119 #[.val (.long q1), .second, .val (.long q2), .second, .val (.long q3), .second, .val (.long q4), .second, .val (.int p5), .val (.long iv), .second, .val (.long ka), .second, .val (.long kb), .second, .val (.long kc), .second, .val (.long kd), .second, .val (.long w1), .second, .val (.long w2), .second, .val (.long w3), .second, .val (.ref b38)] [(.long ka), (.long ka), (.long ((own_um (own_um (own_um (fun _ => own_ABS) ka w1) kb w2) kc w3) ka))]))
  refine Till.pre (fun _ hr => XS.lload X96.here hx rfl (hb hby at_119) rfl hr) ?_
  show Till p e below s (Q0 Z q1 q2 q3 q4 p5 h0 n0) room_1.cells room_1.slots (T94.setTop (mkF m 121 #[.val (.long q1), .second, .val (.long q2), .second, .val (.long q3), .second, .val (.long q4), .second, .val (.int p5), .val (.long iv), .second, .val (.long ka), .second, .val (.long kb), .second, .val (.long kc), .second, .val (.long kd), .second, .val (.long w1), .second, .val (.long w2), .second, .val (.long w3), .second, .val (.ref b38)] [(.long kb), (.long ka), (.long ka), (.long ((own_um (own_um (own_um (fun _ => own_ABS) ka w1) kb w2) kc w3) ka))]))
  refine Till.pre (fun _ hr => XS.lload X96.here hx rfl (hb hby at_121) rfl hr) ?_
  show Till p e below s (Q0 Z q1 q2 q3 q4 p5 h0 n0) room_1.cells room_1.slots (T94.setTop (mkF m 123 #[.val (.long q1), .second, .val (.long q2), .second, .val (.long q3), .second, .val (.long q4), .second, .val (.int p5), .val (.long iv), .second, .val (.long ka), .second, .val (.long kb), .second, .val (.long kc), .second, .val (.long kd), .second, .val (.long w1), .second, .val (.long w2), .second, .val (.long w3), .second, .val (.ref b38)] [(.long kc), (.long kb), (.long ka), (.long ka), (.long ((own_um (own_um (own_um (fun _ => own_ABS) ka w1) kb w2) kc w3) ka))]))
  refine Till.pre (fun _ hr => XS.lload X96.here hx rfl (hb hby at_123) rfl hr) ?_
  show Till p e below s (Q0 Z q1 q2 q3 q4 p5 h0 n0) room_1.cells room_1.slots (T94.setTop (mkF m 125 #[.val (.long q1), .second, .val (.long q2), .second, .val (.long q3), .second, .val (.long q4), .second, .val (.int p5), .val (.long iv), .second, .val (.long ka), .second, .val (.long kb), .second, .val (.long kc), .second, .val (.long kd), .second, .val (.long w1), .second, .val (.long w2), .second, .val (.long w3), .second, .val (.ref b38)] [(.long w1), (.long kc), (.long kb), (.long ka), (.long ka), (.long ((own_um (own_um (own_um (fun _ => own_ABS) ka w1) kb w2) kc w3) ka))]))
  refine Till.pre (fun _ hr => XS.lload X96.here hx rfl (hb hby at_125) rfl hr) ?_
  show Till p e below s (Q0 Z q1 q2 q3 q4 p5 h0 n0) room_1.cells room_1.slots (T94.setTop (mkF m 127 #[.val (.long q1), .second, .val (.long q2), .second, .val (.long q3), .second, .val (.long q4), .second, .val (.int p5), .val (.long iv), .second, .val (.long ka), .second, .val (.long kb), .second, .val (.long kc), .second, .val (.long kd), .second, .val (.long w1), .second, .val (.long w2), .second, .val (.long w3), .second, .val (.ref b38)] [(.long w2), (.long w1), (.long kc), (.long kb), (.long ka), (.long ka), (.long ((own_um (own_um (own_um (fun _ => own_ABS) ka w1) kb w2) kc w3) ka))]))
  refine Till.pre (fun _ hr => XS.lload X96.here hx rfl (hb hby at_127) rfl hr) ?_
  show Till p e below s (Q0 Z q1 q2 q3 q4 p5 h0 n0) room_1.cells room_1.slots (T94.setTop (mkF m 129 #[.val (.long q1), .second, .val (.long q2), .second, .val (.long q3), .second, .val (.long q4), .second, .val (.int p5), .val (.long iv), .second, .val (.long ka), .second, .val (.long kb), .second, .val (.long kc), .second, .val (.long kd), .second, .val (.long w1), .second, .val (.long w2), .second, .val (.long w3), .second, .val (.ref b38)] [(.long w3), (.long w2), (.long w1), (.long kc), (.long kb), (.long ka), (.long ka), (.long ((own_um (own_um (own_um (fun _ => own_ABS) ka w1) kb w2) kc w3) ka))]))
  refine Till.callS (rm10 l Z a0 hw ka ka kb kc w1 w2 w3 T81.heap n0) X96 hx hZ hown (hw _ (List.mem_of_getElem? (i := 55) rfl)) (hw _ (List.mem_of_getElem? (i := 56) rfl)) (hw _ (List.mem_of_getElem? (i := 2) rfl)) (hw _ (List.mem_of_getElem? (i := 57) rfl)) (by decide) (by decide) (W := 2) (by decide) (by rw [hml]; rfl) (argsL := [(.long ka), (.long ka), (.long kb), (.long kc), (.long w1), (.long w2), (.long w3)]) (rest := [(.long ((own_um (own_um (own_um (fun _ => own_ABS) ka w1) kb w2) kc w3) ka))]) (lenOf pd0_7 rfl) rfl rfl (Nat.le_of_eq rfl) (hb hby at_129) e98 (by decide) (by decide) ?_
  rintro _ T99 L100 X101 ⟨rfl, N102, e103⟩
  have N102 := Fr.app N97 N102
  show Till p e below s (Q0 Z q1 q2 q3 q4 p5 h0 n0) room_1.cells room_1.slots (T99.setTop (mkF m 132 #[.val (.long q1), .second, .val (.long q2), .second, .val (.long q3), .second, .val (.long q4), .second, .val (.int p5), .val (.long iv), .second, .val (.long ka), .second, .val (.long kb), .second, .val (.long kc), .second, .val (.long kd), .second, .val (.long w1), .second, .val (.long w2), .second, .val (.long w3), .second, .val (.ref b38)] [(.long (fn10 ka ka kb kc w1 w2 w3)), (.long ((own_um (own_um (own_um (fun _ => own_ABS) ka w1) kb w2) kc w3) ka))]))
  refine Till.pre (fun _ hr => XS.lcmp X101.here hx rfl (hb hby at_132) rfl hr) ?_
  show Till p e below s (Q0 Z q1 q2 q3 q4 p5 h0 n0) room_1.cells room_1.slots (T99.setTop (mkF m 133 #[.val (.long q1), .second, .val (.long q2), .second, .val (.long q3), .second, .val (.long q4), .second, .val (.int p5), .val (.long iv), .second, .val (.long ka), .second, .val (.long kb), .second, .val (.long kc), .second, .val (.long kd), .second, .val (.long w1), .second, .val (.long w2), .second, .val (.long w3), .second, .val (.ref b38)] [(.int (lcmpW ((own_um (own_um (own_um (fun _ => own_ABS) ka w1) kb w2) kc w3) ka) (fn10 ka ka kb kc w1 w2 w3)))]))
  refine Till.ifc (pc' := 224) X101.here hx (hb hby at_133) (by decide) (by decide) (fun q => absurd (rfl : (((own_um (own_um (own_um (fun _ => own_ABS) ka w1) kb w2) kc w3) ka) = (fn10 ka ka kb kc w1 w2 w3))) (mt lEq.mpr (hEq.2.2.1 q))) (fun q => ?_)
  show Till p e below s (Q0 Z q1 q2 q3 q4 p5 h0 n0) room_1.cells room_1.slots (T99.setTop (mkF m 136 #[.val (.long q1), .second, .val (.long q2), .second, .val (.long q3), .second, .val (.long q4), .second, .val (.int p5), .val (.long iv), .second, .val (.long ka), .second, .val (.long kb), .second, .val (.long kc), .second, .val (.long kd), .second, .val (.long w1), .second, .val (.long w2), .second, .val (.long w3), .second, .val (.ref b38)] []))
  refine Till.pre (fun _ hr => XS.aload X101.here hx rfl (hb hby at_136) rfl rfl hr) ?_
  show Till p e below s (Q0 Z q1 q2 q3 q4 p5 h0 n0) room_1.cells room_1.slots (T99.setTop (mkF m 138 #[.val (.long q1), .second, .val (.long q2), .second, .val (.long q3), .second, .val (.long q4), .second, .val (.int p5), .val (.long iv), .second, .val (.long ka), .second, .val (.long kb), .second, .val (.long kc), .second, .val (.long kd), .second, .val (.long w1), .second, .val (.long w2), .second, .val (.long w3), .second, .val (.ref b38)] [(.ref b38)]))
  refine Till.pre (fun _ hr => XS.lload X101.here hx rfl (hb hby at_138) rfl hr) ?_
  show Till p e below s (Q0 Z q1 q2 q3 q4 p5 h0 n0) room_1.cells room_1.slots (T99.setTop (mkF m 140 #[.val (.long q1), .second, .val (.long q2), .second, .val (.long q3), .second, .val (.long q4), .second, .val (.int p5), .val (.long iv), .second, .val (.long ka), .second, .val (.long kb), .second, .val (.long kc), .second, .val (.long kd), .second, .val (.long w1), .second, .val (.long w2), .second, .val (.long w3), .second, .val (.ref b38)] [(.long kb), (.ref b38)]))
  refine Till.callV (rm9 l Z a0 hw b38 kb b53 b54 w87 f85 g86 3 (own_um (own_um (own_um (fun _ => own_ABS) ka w1) kb w2) kc w3) T81.heap n0 R_b38 R_b53 R_b54 (tb88) (by decide)) R_b38.1 X101 hx hZ hown (hw _ (List.mem_of_getElem? (i := 50) rfl)) (hw _ (List.mem_of_getElem? (i := 51) rfl)) (hw _ (List.mem_of_getElem? (i := 53) rfl)) (hw _ (List.mem_of_getElem? (i := 52) rfl)) (hw _ (List.mem_of_getElem? (i := 15) rfl)) (hw _ (List.mem_of_getElem? (i := 54) rfl)) (by decide) (by decide) (W := 0) (by decide) (by rw [hml]; rfl) (a := b38) (argsL := [(.long kb)]) (rest := []) (lenOf pd0_5 rfl) rfl rfl (Nat.le_of_eq rfl) (hb hby at_140) e103 (by decide) (by decide) ?_
  rintro _ T104 L105 X106 ⟨rfl, N107, e108⟩
  have N107 := Fr.app N102 N107
  show Till p e below s (Q0 Z q1 q2 q3 q4 p5 h0 n0) room_1.cells room_1.slots (T104.setTop (mkF m 143 #[.val (.long q1), .second, .val (.long q2), .second, .val (.long q3), .second, .val (.long q4), .second, .val (.int p5), .val (.long iv), .second, .val (.long ka), .second, .val (.long kb), .second, .val (.long kc), .second, .val (.long kd), .second, .val (.long w1), .second, .val (.long w2), .second, .val (.long w3), .second, .val (.ref b38)] [(.long ((own_um (own_um (own_um (fun _ => own_ABS) ka w1) kb w2) kc w3) kb))]))
  refine Till.pre (fun _ hr => XS.lload X106.here hx rfl (hb hby at_143) rfl hr) ?_
  show Till p e below s (Q0 Z q1 q2 q3 q4 p5 h0 n0) room_1.cells room_1.slots (T104.setTop (mkF m 145 #[.val (.long q1), .second, .val (.long q2), .second, .val (.long q3), .second, .val (.long q4), .second, .val (.int p5), .val (.long iv), .second, .val (.long ka), .second, .val (.long kb), .second, .val (.long kc), .second, .val (.long kd), .second, .val (.long w1), .second, .val (.long w2), .second, .val (.long w3), .second, .val (.ref b38)] [(.long kb), (.long ((own_um (own_um (own_um (fun _ => own_ABS) ka w1) kb w2) kc w3) kb))]))
  refine Till.pre (fun _ hr => XS.lload X106.here hx rfl (hb hby at_145) rfl hr) ?_
  show Till p e below s (Q0 Z q1 q2 q3 q4 p5 h0 n0) room_1.cells room_1.slots (T104.setTop (mkF m 147 #[.val (.long q1), .second, .val (.long q2), .second, .val (.long q3), .second, .val (.long q4), .second, .val (.int p5), .val (.long iv), .second, .val (.long ka), .second, .val (.long kb), .second, .val (.long kc), .second, .val (.long kd), .second, .val (.long w1), .second, .val (.long w2), .second, .val (.long w3), .second, .val (.ref b38)] [(.long ka), (.long kb), (.long ((own_um (own_um (own_um (fun _ => own_ABS) ka w1) kb w2) kc w3) kb))]))
  refine Till.pre (fun _ hr => XS.lload X106.here hx rfl (hb hby at_147) rfl hr) ?_
  show Till p e below s (Q0 Z q1 q2 q3 q4 p5 h0 n0) room_1.cells room_1.slots (T104.setTop (mkF m 149 #[.val (.long q1), .second, .val (.long q2), .second, .val (.long q3), .second, .val (.long q4), .second, .val (.int p5), .val (.long iv), .second, .val (.long ka), .second, .val (.long kb), .second, .val (.long kc), .second, .val (.long kd), .second, .val (.long w1), .second, .val (.long w2), .second, .val (.long w3), .second, .val (.ref b38)] [(.long kb), (.long ka), (.long kb), (.long ((own_um (own_um (own_um (fun _ => own_ABS) ka w1) kb w2) kc w3) kb))]))
  refine Till.pre (fun _ hr => XS.lload X106.here hx rfl (hb hby at_149) rfl hr) ?_
  show Till p e below s (Q0 Z q1 q2 q3 q4 p5 h0 n0) room_1.cells room_1.slots (T104.setTop (mkF m 151 #[.val (.long q1), .second, .val (.long q2), .second, .val (.long q3), .second, .val (.long q4), .second, .val (.int p5), .val (.long iv), .second, .val (.long ka), .second, .val (.long kb), .second, .val (.long kc), .second, .val (.long kd), .second, .val (.long w1), .second, .val (.long w2), .second, .val (.long w3), .second, .val (.ref b38)] [(.long kc), (.long kb), (.long ka), (.long kb), (.long ((own_um (own_um (own_um (fun _ => own_ABS) ka w1) kb w2) kc w3) kb))]))
  refine Till.pre (fun _ hr => XS.lload X106.here hx rfl (hb hby at_151) rfl hr) ?_
  show Till p e below s (Q0 Z q1 q2 q3 q4 p5 h0 n0) room_1.cells room_1.slots (T104.setTop (mkF m 153 #[.val (.long q1), .second, .val (.long q2), .second, .val (.long q3), .second, .val (.long q4), .second, .val (.int p5), .val (.long iv), .second, .val (.long ka), .second, .val (.long kb), .second, .val (.long kc), .second, .val (.long kd), .second, .val (.long w1), .second, .val (.long w2), .second, .val (.long w3), .second, .val (.ref b38)] [(.long w1), (.long kc), (.long kb), (.long ka), (.long kb), (.long ((own_um (own_um (own_um (fun _ => own_ABS) ka w1) kb w2) kc w3) kb))]))
  refine Till.pre (fun _ hr => XS.lload X106.here hx rfl (hb hby at_153) rfl hr) ?_
  show Till p e below s (Q0 Z q1 q2 q3 q4 p5 h0 n0) room_1.cells room_1.slots (T104.setTop (mkF m 155 #[.val (.long q1), .second, .val (.long q2), .second, .val (.long q3), .second, .val (.long q4), .second, .val (.int p5), .val (.long iv), .second, .val (.long ka), .second, .val (.long kb), .second, .val (.long kc), .second, .val (.long kd), .second, .val (.long w1), .second, .val (.long w2), .second, .val (.long w3), .second, .val (.ref b38)] [(.long w2), (.long w1), (.long kc), (.long kb), (.long ka), (.long kb), (.long ((own_um (own_um (own_um (fun _ => own_ABS) ka w1) kb w2) kc w3) kb))]))
  refine Till.pre (fun _ hr => XS.lload X106.here hx rfl (hb hby at_155) rfl hr) ?_
  show Till p e below s (Q0 Z q1 q2 q3 q4 p5 h0 n0) room_1.cells room_1.slots (T104.setTop (mkF m 157 #[.val (.long q1), .second, .val (.long q2), .second, .val (.long q3), .second, .val (.long q4), .second, .val (.int p5), .val (.long iv), .second, .val (.long ka), .second, .val (.long kb), .second, .val (.long kc), .second, .val (.long kd), .second, .val (.long w1), .second, .val (.long w2), .second, .val (.long w3), .second, .val (.ref b38)] [(.long w3), (.long w2), (.long w1), (.long kc), (.long kb), (.long ka), (.long kb), (.long ((own_um (own_um (own_um (fun _ => own_ABS) ka w1) kb w2) kc w3) kb))]))
  refine Till.callS (rm10 l Z a0 hw kb ka kb kc w1 w2 w3 T81.heap n0) X106 hx hZ hown (hw _ (List.mem_of_getElem? (i := 55) rfl)) (hw _ (List.mem_of_getElem? (i := 56) rfl)) (hw _ (List.mem_of_getElem? (i := 2) rfl)) (hw _ (List.mem_of_getElem? (i := 57) rfl)) (by decide) (by decide) (W := 2) (by decide) (by rw [hml]; rfl) (argsL := [(.long kb), (.long ka), (.long kb), (.long kc), (.long w1), (.long w2), (.long w3)]) (rest := [(.long ((own_um (own_um (own_um (fun _ => own_ABS) ka w1) kb w2) kc w3) kb))]) (lenOf pd0_7 rfl) rfl rfl (Nat.le_of_eq rfl) (hb hby at_157) e108 (by decide) (by decide) ?_
  rintro _ T109 L110 X111 ⟨rfl, N112, e113⟩
  have N112 := Fr.app N107 N112
  show Till p e below s (Q0 Z q1 q2 q3 q4 p5 h0 n0) room_1.cells room_1.slots (T109.setTop (mkF m 160 #[.val (.long q1), .second, .val (.long q2), .second, .val (.long q3), .second, .val (.long q4), .second, .val (.int p5), .val (.long iv), .second, .val (.long ka), .second, .val (.long kb), .second, .val (.long kc), .second, .val (.long kd), .second, .val (.long w1), .second, .val (.long w2), .second, .val (.long w3), .second, .val (.ref b38)] [(.long (fn10 kb ka kb kc w1 w2 w3)), (.long ((own_um (own_um (own_um (fun _ => own_ABS) ka w1) kb w2) kc w3) kb))]))
  refine Till.pre (fun _ hr => XS.lcmp X111.here hx rfl (hb hby at_160) rfl hr) ?_
  show Till p e below s (Q0 Z q1 q2 q3 q4 p5 h0 n0) room_1.cells room_1.slots (T109.setTop (mkF m 161 #[.val (.long q1), .second, .val (.long q2), .second, .val (.long q3), .second, .val (.long q4), .second, .val (.int p5), .val (.long iv), .second, .val (.long ka), .second, .val (.long kb), .second, .val (.long kc), .second, .val (.long kd), .second, .val (.long w1), .second, .val (.long w2), .second, .val (.long w3), .second, .val (.ref b38)] [(.int (lcmpW ((own_um (own_um (own_um (fun _ => own_ABS) ka w1) kb w2) kc w3) kb) (fn10 kb ka kb kc w1 w2 w3)))]))
  refine Till.ifc (pc' := 224) X111.here hx (hb hby at_161) (by decide) (by decide) (fun q => absurd (rfl : (((own_um (own_um (own_um (fun _ => own_ABS) ka w1) kb w2) kc w3) kb) = (fn10 kb ka kb kc w1 w2 w3))) (mt lEq.mpr (hEq.2.2.1 q))) (fun q => ?_)
  show Till p e below s (Q0 Z q1 q2 q3 q4 p5 h0 n0) room_1.cells room_1.slots (T109.setTop (mkF m 164 #[.val (.long q1), .second, .val (.long q2), .second, .val (.long q3), .second, .val (.long q4), .second, .val (.int p5), .val (.long iv), .second, .val (.long ka), .second, .val (.long kb), .second, .val (.long kc), .second, .val (.long kd), .second, .val (.long w1), .second, .val (.long w2), .second, .val (.long w3), .second, .val (.ref b38)] []))
  refine Till.pre (fun _ hr => XS.aload X111.here hx rfl (hb hby at_164) rfl rfl hr) ?_
  show Till p e below s (Q0 Z q1 q2 q3 q4 p5 h0 n0) room_1.cells room_1.slots (T109.setTop (mkF m 166 #[.val (.long q1), .second, .val (.long q2), .second, .val (.long q3), .second, .val (.long q4), .second, .val (.int p5), .val (.long iv), .second, .val (.long ka), .second, .val (.long kb), .second, .val (.long kc), .second, .val (.long kd), .second, .val (.long w1), .second, .val (.long w2), .second, .val (.long w3), .second, .val (.ref b38)] [(.ref b38)]))
  refine Till.pre (fun _ hr => XS.lload X111.here hx rfl (hb hby at_166) rfl hr) ?_
  show Till p e below s (Q0 Z q1 q2 q3 q4 p5 h0 n0) room_1.cells room_1.slots (T109.setTop (mkF m 168 #[.val (.long q1), .second, .val (.long q2), .second, .val (.long q3), .second, .val (.long q4), .second, .val (.int p5), .val (.long iv), .second, .val (.long ka), .second, .val (.long kb), .second, .val (.long kc), .second, .val (.long kd), .second, .val (.long w1), .second, .val (.long w2), .second, .val (.long w3), .second, .val (.ref b38)] [(.long kc), (.ref b38)]))
  refine Till.callV (rm9 l Z a0 hw b38 kc b53 b54 w87 f85 g86 3 (own_um (own_um (own_um (fun _ => own_ABS) ka w1) kb w2) kc w3) T81.heap n0 R_b38 R_b53 R_b54 (tb88) (by decide)) R_b38.1 X111 hx hZ hown (hw _ (List.mem_of_getElem? (i := 50) rfl)) (hw _ (List.mem_of_getElem? (i := 51) rfl)) (hw _ (List.mem_of_getElem? (i := 53) rfl)) (hw _ (List.mem_of_getElem? (i := 52) rfl)) (hw _ (List.mem_of_getElem? (i := 15) rfl)) (hw _ (List.mem_of_getElem? (i := 54) rfl)) (by decide) (by decide) (W := 0) (by decide) (by rw [hml]; rfl) (a := b38) (argsL := [(.long kc)]) (rest := []) (lenOf pd0_5 rfl) rfl rfl (Nat.le_of_eq rfl) (hb hby at_168) e113 (by decide) (by decide) ?_
  rintro _ T114 L115 X116 ⟨rfl, N117, e118⟩
  have N117 := Fr.app N112 N117
  show Till p e below s (Q0 Z q1 q2 q3 q4 p5 h0 n0) room_1.cells room_1.slots (T114.setTop (mkF m 171 #[.val (.long q1), .second, .val (.long q2), .second, .val (.long q3), .second, .val (.long q4), .second, .val (.int p5), .val (.long iv), .second, .val (.long ka), .second, .val (.long kb), .second, .val (.long kc), .second, .val (.long kd), .second, .val (.long w1), .second, .val (.long w2), .second, .val (.long w3), .second, .val (.ref b38)] [(.long ((own_um (own_um (own_um (fun _ => own_ABS) ka w1) kb w2) kc w3) kc))]))
  refine Till.pre (fun _ hr => XS.lload X116.here hx rfl (hb hby at_171) rfl hr) ?_
  show Till p e below s (Q0 Z q1 q2 q3 q4 p5 h0 n0) room_1.cells room_1.slots (T114.setTop (mkF m 173 #[.val (.long q1), .second, .val (.long q2), .second, .val (.long q3), .second, .val (.long q4), .second, .val (.int p5), .val (.long iv), .second, .val (.long ka), .second, .val (.long kb), .second, .val (.long kc), .second, .val (.long kd), .second, .val (.long w1), .second, .val (.long w2), .second, .val (.long w3), .second, .val (.ref b38)] [(.long kc), (.long ((own_um (own_um (own_um (fun _ => own_ABS) ka w1) kb w2) kc w3) kc))]))
  refine Till.pre (fun _ hr => XS.lload X116.here hx rfl (hb hby at_173) rfl hr) ?_
  show Till p e below s (Q0 Z q1 q2 q3 q4 p5 h0 n0) room_1.cells room_1.slots (T114.setTop (mkF m 175 #[.val (.long q1), .second, .val (.long q2), .second, .val (.long q3), .second, .val (.long q4), .second, .val (.int p5), .val (.long iv), .second, .val (.long ka), .second, .val (.long kb), .second, .val (.long kc), .second, .val (.long kd), .second, .val (.long w1), .second, .val (.long w2), .second, .val (.long w3), .second, .val (.ref b38)] [(.long ka), (.long kc), (.long ((own_um (own_um (own_um (fun _ => own_ABS) ka w1) kb w2) kc w3) kc))]))
  refine Till.pre (fun _ hr => XS.lload X116.here hx rfl (hb hby at_175) rfl hr) ?_
  show Till p e below s (Q0 Z q1 q2 q3 q4 p5 h0 n0) room_1.cells room_1.slots (T114.setTop (mkF m 177 #[.val (.long q1), .second, .val (.long q2), .second, .val (.long q3), .second, .val (.long q4), .second, .val (.int p5), .val (.long iv), .second, .val (.long ka), .second, .val (.long kb), .second, .val (.long kc), .second, .val (.long kd), .second, .val (.long w1), .second, .val (.long w2), .second, .val (.long w3), .second, .val (.ref b38)] [(.long kb), (.long ka), (.long kc), (.long ((own_um (own_um (own_um (fun _ => own_ABS) ka w1) kb w2) kc w3) kc))]))
  refine Till.pre (fun _ hr => XS.lload X116.here hx rfl (hb hby at_177) rfl hr) ?_
  show Till p e below s (Q0 Z q1 q2 q3 q4 p5 h0 n0) room_1.cells room_1.slots (T114.setTop (mkF m 179 #[.val (.long q1), .second, .val (.long q2), .second, .val (.long q3), .second, .val (.long q4), .second, .val (.int p5), .val (.long iv), .second, .val (.long ka), .second, .val (.long kb), .second, .val (.long kc), .second, .val (.long kd), .second, .val (.long w1), .second, .val (.long w2), .second, .val (.long w3), .second, .val (.ref b38)] [(.long kc), (.long kb), (.long ka), (.long kc), (.long ((own_um (own_um (own_um (fun _ => own_ABS) ka w1) kb w2) kc w3) kc))]))
  refine Till.pre (fun _ hr => XS.lload X116.here hx rfl (hb hby at_179) rfl hr) ?_
  show Till p e below s (Q0 Z q1 q2 q3 q4 p5 h0 n0) room_1.cells room_1.slots (T114.setTop (mkF m 181 #[.val (.long q1), .second, .val (.long q2), .second, .val (.long q3), .second, .val (.long q4), .second, .val (.int p5), .val (.long iv), .second, .val (.long ka), .second, .val (.long kb), .second, .val (.long kc), .second, .val (.long kd), .second, .val (.long w1), .second, .val (.long w2), .second, .val (.long w3), .second, .val (.ref b38)] [(.long w1), (.long kc), (.long kb), (.long ka), (.long kc), (.long ((own_um (own_um (own_um (fun _ => own_ABS) ka w1) kb w2) kc w3) kc))]))
  refine Till.pre (fun _ hr => XS.lload X116.here hx rfl (hb hby at_181) rfl hr) ?_
  show Till p e below s (Q0 Z q1 q2 q3 q4 p5 h0 n0) room_1.cells room_1.slots (T114.setTop (mkF m 183 #[.val (.long q1), .second, .val (.long q2), .second, .val (.long q3), .second, .val (.long q4), .second, .val (.int p5), .val (.long iv), .second, .val (.long ka), .second, .val (.long kb), .second, .val (.long kc), .second, .val (.long kd), .second, .val (.long w1), .second, .val (.long w2), .second, .val (.long w3), .second, .val (.ref b38)] [(.long w2), (.long w1), (.long kc), (.long kb), (.long ka), (.long kc), (.long ((own_um (own_um (own_um (fun _ => own_ABS) ka w1) kb w2) kc w3) kc))]))
  refine Till.pre (fun _ hr => XS.lload X116.here hx rfl (hb hby at_183) rfl hr) ?_
  show Till p e below s (Q0 Z q1 q2 q3 q4 p5 h0 n0) room_1.cells room_1.slots (T114.setTop (mkF m 185 #[.val (.long q1), .second, .val (.long q2), .second, .val (.long q3), .second, .val (.long q4), .second, .val (.int p5), .val (.long iv), .second, .val (.long ka), .second, .val (.long kb), .second, .val (.long kc), .second, .val (.long kd), .second, .val (.long w1), .second, .val (.long w2), .second, .val (.long w3), .second, .val (.ref b38)] [(.long w3), (.long w2), (.long w1), (.long kc), (.long kb), (.long ka), (.long kc), (.long ((own_um (own_um (own_um (fun _ => own_ABS) ka w1) kb w2) kc w3) kc))]))
  refine Till.callS (rm10 l Z a0 hw kc ka kb kc w1 w2 w3 T81.heap n0) X116 hx hZ hown (hw _ (List.mem_of_getElem? (i := 55) rfl)) (hw _ (List.mem_of_getElem? (i := 56) rfl)) (hw _ (List.mem_of_getElem? (i := 2) rfl)) (hw _ (List.mem_of_getElem? (i := 57) rfl)) (by decide) (by decide) (W := 2) (by decide) (by rw [hml]; rfl) (argsL := [(.long kc), (.long ka), (.long kb), (.long kc), (.long w1), (.long w2), (.long w3)]) (rest := [(.long ((own_um (own_um (own_um (fun _ => own_ABS) ka w1) kb w2) kc w3) kc))]) (lenOf pd0_7 rfl) rfl rfl (Nat.le_of_eq rfl) (hb hby at_185) e118 (by decide) (by decide) ?_
  rintro _ T119 L120 X121 ⟨rfl, N122, e123⟩
  have N122 := Fr.app N117 N122
  show Till p e below s (Q0 Z q1 q2 q3 q4 p5 h0 n0) room_1.cells room_1.slots (T119.setTop (mkF m 188 #[.val (.long q1), .second, .val (.long q2), .second, .val (.long q3), .second, .val (.long q4), .second, .val (.int p5), .val (.long iv), .second, .val (.long ka), .second, .val (.long kb), .second, .val (.long kc), .second, .val (.long kd), .second, .val (.long w1), .second, .val (.long w2), .second, .val (.long w3), .second, .val (.ref b38)] [(.long (fn10 kc ka kb kc w1 w2 w3)), (.long ((own_um (own_um (own_um (fun _ => own_ABS) ka w1) kb w2) kc w3) kc))]))
  refine Till.pre (fun _ hr => XS.lcmp X121.here hx rfl (hb hby at_188) rfl hr) ?_
  show Till p e below s (Q0 Z q1 q2 q3 q4 p5 h0 n0) room_1.cells room_1.slots (T119.setTop (mkF m 189 #[.val (.long q1), .second, .val (.long q2), .second, .val (.long q3), .second, .val (.long q4), .second, .val (.int p5), .val (.long iv), .second, .val (.long ka), .second, .val (.long kb), .second, .val (.long kc), .second, .val (.long kd), .second, .val (.long w1), .second, .val (.long w2), .second, .val (.long w3), .second, .val (.ref b38)] [(.int (lcmpW ((own_um (own_um (own_um (fun _ => own_ABS) ka w1) kb w2) kc w3) kc) (fn10 kc ka kb kc w1 w2 w3)))]))
  refine Till.ifc (pc' := 224) X121.here hx (hb hby at_189) (by decide) (by decide) (fun q => absurd (rfl : (((own_um (own_um (own_um (fun _ => own_ABS) ka w1) kb w2) kc w3) kc) = (fn10 kc ka kb kc w1 w2 w3))) (mt lEq.mpr (hEq.2.2.1 q))) (fun q => ?_)
  show Till p e below s (Q0 Z q1 q2 q3 q4 p5 h0 n0) room_1.cells room_1.slots (T119.setTop (mkF m 192 #[.val (.long q1), .second, .val (.long q2), .second, .val (.long q3), .second, .val (.long q4), .second, .val (.int p5), .val (.long iv), .second, .val (.long ka), .second, .val (.long kb), .second, .val (.long kc), .second, .val (.long kd), .second, .val (.long w1), .second, .val (.long w2), .second, .val (.long w3), .second, .val (.ref b38)] []))
  refine Till.pre (fun _ hr => XS.aload X121.here hx rfl (hb hby at_192) rfl rfl hr) ?_
  show Till p e below s (Q0 Z q1 q2 q3 q4 p5 h0 n0) room_1.cells room_1.slots (T119.setTop (mkF m 194 #[.val (.long q1), .second, .val (.long q2), .second, .val (.long q3), .second, .val (.long q4), .second, .val (.int p5), .val (.long iv), .second, .val (.long ka), .second, .val (.long kb), .second, .val (.long kc), .second, .val (.long kd), .second, .val (.long w1), .second, .val (.long w2), .second, .val (.long w3), .second, .val (.ref b38)] [(.ref b38)]))
  refine Till.pre (fun _ hr => XS.lload X121.here hx rfl (hb hby at_194) rfl hr) ?_
  show Till p e below s (Q0 Z q1 q2 q3 q4 p5 h0 n0) room_1.cells room_1.slots (T119.setTop (mkF m 196 #[.val (.long q1), .second, .val (.long q2), .second, .val (.long q3), .second, .val (.long q4), .second, .val (.int p5), .val (.long iv), .second, .val (.long ka), .second, .val (.long kb), .second, .val (.long kc), .second, .val (.long kd), .second, .val (.long w1), .second, .val (.long w2), .second, .val (.long w3), .second, .val (.ref b38)] [(.long kd), (.ref b38)]))
  refine Till.callV (rm9 l Z a0 hw b38 kd b53 b54 w87 f85 g86 3 (own_um (own_um (own_um (fun _ => own_ABS) ka w1) kb w2) kc w3) T81.heap n0 R_b38 R_b53 R_b54 (tb88) (by decide)) R_b38.1 X121 hx hZ hown (hw _ (List.mem_of_getElem? (i := 50) rfl)) (hw _ (List.mem_of_getElem? (i := 51) rfl)) (hw _ (List.mem_of_getElem? (i := 53) rfl)) (hw _ (List.mem_of_getElem? (i := 52) rfl)) (hw _ (List.mem_of_getElem? (i := 15) rfl)) (hw _ (List.mem_of_getElem? (i := 54) rfl)) (by decide) (by decide) (W := 0) (by decide) (by rw [hml]; rfl) (a := b38) (argsL := [(.long kd)]) (rest := []) (lenOf pd0_5 rfl) rfl rfl (Nat.le_of_eq rfl) (hb hby at_196) e123 (by decide) (by decide) ?_
  rintro _ T124 L125 X126 ⟨rfl, N127, e128⟩
  have N127 := Fr.app N122 N127
  show Till p e below s (Q0 Z q1 q2 q3 q4 p5 h0 n0) room_1.cells room_1.slots (T124.setTop (mkF m 199 #[.val (.long q1), .second, .val (.long q2), .second, .val (.long q3), .second, .val (.long q4), .second, .val (.int p5), .val (.long iv), .second, .val (.long ka), .second, .val (.long kb), .second, .val (.long kc), .second, .val (.long kd), .second, .val (.long w1), .second, .val (.long w2), .second, .val (.long w3), .second, .val (.ref b38)] [(.long ((own_um (own_um (own_um (fun _ => own_ABS) ka w1) kb w2) kc w3) kd))]))
  refine Till.pre (fun _ hr => XS.lload X126.here hx rfl (hb hby at_199) rfl hr) ?_
  show Till p e below s (Q0 Z q1 q2 q3 q4 p5 h0 n0) room_1.cells room_1.slots (T124.setTop (mkF m 201 #[.val (.long q1), .second, .val (.long q2), .second, .val (.long q3), .second, .val (.long q4), .second, .val (.int p5), .val (.long iv), .second, .val (.long ka), .second, .val (.long kb), .second, .val (.long kc), .second, .val (.long kd), .second, .val (.long w1), .second, .val (.long w2), .second, .val (.long w3), .second, .val (.ref b38)] [(.long kd), (.long ((own_um (own_um (own_um (fun _ => own_ABS) ka w1) kb w2) kc w3) kd))]))
  refine Till.pre (fun _ hr => XS.lload X126.here hx rfl (hb hby at_201) rfl hr) ?_
  show Till p e below s (Q0 Z q1 q2 q3 q4 p5 h0 n0) room_1.cells room_1.slots (T124.setTop (mkF m 203 #[.val (.long q1), .second, .val (.long q2), .second, .val (.long q3), .second, .val (.long q4), .second, .val (.int p5), .val (.long iv), .second, .val (.long ka), .second, .val (.long kb), .second, .val (.long kc), .second, .val (.long kd), .second, .val (.long w1), .second, .val (.long w2), .second, .val (.long w3), .second, .val (.ref b38)] [(.long ka), (.long kd), (.long ((own_um (own_um (own_um (fun _ => own_ABS) ka w1) kb w2) kc w3) kd))]))
  refine Till.pre (fun _ hr => XS.lload X126.here hx rfl (hb hby at_203) rfl hr) ?_
  show Till p e below s (Q0 Z q1 q2 q3 q4 p5 h0 n0) room_1.cells room_1.slots (T124.setTop (mkF m 205 #[.val (.long q1), .second, .val (.long q2), .second, .val (.long q3), .second, .val (.long q4), .second, .val (.int p5), .val (.long iv), .second, .val (.long ka), .second, .val (.long kb), .second, .val (.long kc), .second, .val (.long kd), .second, .val (.long w1), .second, .val (.long w2), .second, .val (.long w3), .second, .val (.ref b38)] [(.long kb), (.long ka), (.long kd), (.long ((own_um (own_um (own_um (fun _ => own_ABS) ka w1) kb w2) kc w3) kd))]))
  refine Till.pre (fun _ hr => XS.lload X126.here hx rfl (hb hby at_205) rfl hr) ?_
  show Till p e below s (Q0 Z q1 q2 q3 q4 p5 h0 n0) room_1.cells room_1.slots (T124.setTop (mkF m 207 #[.val (.long q1), .second, .val (.long q2), .second, .val (.long q3), .second, .val (.long q4), .second, .val (.int p5), .val (.long iv), .second, .val (.long ka), .second, .val (.long kb), .second, .val (.long kc), .second, .val (.long kd), .second, .val (.long w1), .second, .val (.long w2), .second, .val (.long w3), .second, .val (.ref b38)] [(.long kc), (.long kb), (.long ka), (.long kd), (.long ((own_um (own_um (own_um (fun _ => own_ABS) ka w1) kb w2) kc w3) kd))]))
  refine Till.pre (fun _ hr => XS.lload X126.here hx rfl (hb hby at_207) rfl hr) ?_
  show Till p e below s (Q0 Z q1 q2 q3 q4 p5 h0 n0) room_1.cells room_1.slots (T124.setTop (mkF m 209 #[.val (.long q1), .second, .val (.long q2), .second, .val (.long q3), .second, .val (.long q4), .second, .val (.int p5), .val (.long iv), .second, .val (.long ka), .second, .val (.long kb), .second, .val (.long kc), .second, .val (.long kd), .second, .val (.long w1), .second, .val (.long w2), .second, .val (.long w3), .second, .val (.ref b38)] [(.long w1), (.long kc), (.long kb), (.long ka), (.long kd), (.long ((own_um (own_um (own_um (fun _ => own_ABS) ka w1) kb w2) kc w3) kd))]))
  refine Till.pre (fun _ hr => XS.lload X126.here hx rfl (hb hby at_209) rfl hr) ?_
  show Till p e below s (Q0 Z q1 q2 q3 q4 p5 h0 n0) room_1.cells room_1.slots (T124.setTop (mkF m 211 #[.val (.long q1), .second, .val (.long q2), .second, .val (.long q3), .second, .val (.long q4), .second, .val (.int p5), .val (.long iv), .second, .val (.long ka), .second, .val (.long kb), .second, .val (.long kc), .second, .val (.long kd), .second, .val (.long w1), .second, .val (.long w2), .second, .val (.long w3), .second, .val (.ref b38)] [(.long w2), (.long w1), (.long kc), (.long kb), (.long ka), (.long kd), (.long ((own_um (own_um (own_um (fun _ => own_ABS) ka w1) kb w2) kc w3) kd))]))
  refine Till.pre (fun _ hr => XS.lload X126.here hx rfl (hb hby at_211) rfl hr) ?_
  show Till p e below s (Q0 Z q1 q2 q3 q4 p5 h0 n0) room_1.cells room_1.slots (T124.setTop (mkF m 213 #[.val (.long q1), .second, .val (.long q2), .second, .val (.long q3), .second, .val (.long q4), .second, .val (.int p5), .val (.long iv), .second, .val (.long ka), .second, .val (.long kb), .second, .val (.long kc), .second, .val (.long kd), .second, .val (.long w1), .second, .val (.long w2), .second, .val (.long w3), .second, .val (.ref b38)] [(.long w3), (.long w2), (.long w1), (.long kc), (.long kb), (.long ka), (.long kd), (.long ((own_um (own_um (own_um (fun _ => own_ABS) ka w1) kb w2) kc w3) kd))]))
  refine Till.callS (rm10 l Z a0 hw kd ka kb kc w1 w2 w3 T81.heap n0) X126 hx hZ hown (hw _ (List.mem_of_getElem? (i := 55) rfl)) (hw _ (List.mem_of_getElem? (i := 56) rfl)) (hw _ (List.mem_of_getElem? (i := 2) rfl)) (hw _ (List.mem_of_getElem? (i := 57) rfl)) (by decide) (by decide) (W := 2) (by decide) (by rw [hml]; rfl) (argsL := [(.long kd), (.long ka), (.long kb), (.long kc), (.long w1), (.long w2), (.long w3)]) (rest := [(.long ((own_um (own_um (own_um (fun _ => own_ABS) ka w1) kb w2) kc w3) kd))]) (lenOf pd0_7 rfl) rfl rfl (Nat.le_of_eq rfl) (hb hby at_213) e128 (by decide) (by decide) ?_
  rintro _ T129 L130 X131 ⟨rfl, N132, e133⟩
  have N132 := Fr.app N127 N132
  show Till p e below s (Q0 Z q1 q2 q3 q4 p5 h0 n0) room_1.cells room_1.slots (T129.setTop (mkF m 216 #[.val (.long q1), .second, .val (.long q2), .second, .val (.long q3), .second, .val (.long q4), .second, .val (.int p5), .val (.long iv), .second, .val (.long ka), .second, .val (.long kb), .second, .val (.long kc), .second, .val (.long kd), .second, .val (.long w1), .second, .val (.long w2), .second, .val (.long w3), .second, .val (.ref b38)] [(.long (fn10 kd ka kb kc w1 w2 w3)), (.long ((own_um (own_um (own_um (fun _ => own_ABS) ka w1) kb w2) kc w3) kd))]))
  refine Till.pre (fun _ hr => XS.lcmp X131.here hx rfl (hb hby at_216) rfl hr) ?_
  show Till p e below s (Q0 Z q1 q2 q3 q4 p5 h0 n0) room_1.cells room_1.slots (T129.setTop (mkF m 217 #[.val (.long q1), .second, .val (.long q2), .second, .val (.long q3), .second, .val (.long q4), .second, .val (.int p5), .val (.long iv), .second, .val (.long ka), .second, .val (.long kb), .second, .val (.long kc), .second, .val (.long kd), .second, .val (.long w1), .second, .val (.long w2), .second, .val (.long w3), .second, .val (.ref b38)] [(.int (lcmpW ((own_um (own_um (own_um (fun _ => own_ABS) ka w1) kb w2) kc w3) kd) (fn10 kd ka kb kc w1 w2 w3)))]))
  refine Till.ifc (pc' := 224) X131.here hx (hb hby at_217) (by decide) (by decide) (fun q => absurd (rfl : (((own_um (own_um (own_um (fun _ => own_ABS) ka w1) kb w2) kc w3) kd) = (fn10 kd ka kb kc w1 w2 w3))) (mt lEq.mpr (hEq.2.2.1 q))) (fun q => ?_)
  show Till p e below s (Q0 Z q1 q2 q3 q4 p5 h0 n0) room_1.cells room_1.slots (T129.setTop (mkF m 220 #[.val (.long q1), .second, .val (.long q2), .second, .val (.long q3), .second, .val (.long q4), .second, .val (.int p5), .val (.long iv), .second, .val (.long ka), .second, .val (.long kb), .second, .val (.long kc), .second, .val (.long kd), .second, .val (.long w1), .second, .val (.long w2), .second, .val (.long w3), .second, .val (.ref b38)] []))
  refine Till.pre (fun _ hr => XS.iconst X131.here hx rfl (hb hby at_220) hr) ?_
  show Till p e below s (Q0 Z q1 q2 q3 q4 p5 h0 n0) room_1.cells room_1.slots (T129.setTop (mkF m 221 #[.val (.long q1), .second, .val (.long q2), .second, .val (.long q3), .second, .val (.long q4), .second, .val (.int p5), .val (.long iv), .second, .val (.long ka), .second, .val (.long kb), .second, .val (.long kc), .second, .val (.long kd), .second, .val (.long w1), .second, .val (.long w2), .second, .val (.long w3), .second, .val (.ref b38)] [(.int (1 : Int32))]))
  refine Till.pre (fun _ hr => XS.goto X131.here hx rfl (pc0 := 221) (pc' := 225) rfl (hb hby at_221) (by decide) (by decide) hr) ?_
  show Till p e below s (Q0 Z q1 q2 q3 q4 p5 h0 n0) room_1.cells room_1.slots (T129.setTop (mkF m 225 #[.val (.long q1), .second, .val (.long q2), .second, .val (.long q3), .second, .val (.long q4), .second, .val (.int p5), .val (.long iv), .second, .val (.long ka), .second, .val (.long kb), .second, .val (.long kc), .second, .val (.long kd), .second, .val (.long w1), .second, .val (.long w2), .second, .val (.long w3), .second, .val (.ref b38)] [(.int (1 : Int32))]))
  refine Till.retZ (w := (1 : Int32)) X131 hx hret hlk (hb hby at_225) (by decide) (by decide) (by decide) ?_
  exact ⟨rfl, N132⟩
set_option maxRecDepth 65536 in
set_option maxHeartbeats 40000000 in
theorem comes_1 {Post : Tables → Env → Array Value → State → Outcome → State → Prop} (hpost : ∀ tb e args s v u, (limb_1_1.after args s (.returned v) u = true ∧ limb_1_2.after args s (.returned v) u = true ∧ True) → FrameEnd s (.returned v) u (Jvm.fieldLocs frame_1_writes args s ++ Jvm.arrayLocs frame_1_arrays args s ++ Jvm.staticLocs frame_1_statics s) 16 4224 → Post tb e args s (.returned v) u) :
    ArmFor flags0 classFile x code maxLocals ret World_1 tables_1 room_1 Calls_1 rest_1 Pre_1 Post := by
  intro l hfl _ _ p e ha hc hk s m args below hf hA hF happ hP
  obtain ⟨hcalls, hrest, hpre⟩ := hP
  obtain ⟨-, -, -, hnamed, -, -, -, hat⟩ := (Spec.applies_iff hf).mp happ
  obtain ⟨hg, hn⟩ := and_e (Cond.before_iff.mp (show (Jvm.Cond.and given_1 narrow_1).before args s = true from hpre))
  obtain ⟨h1, hg⟩ := and_e hg
  obtain ⟨k0, hg⟩ := and_e hg
  obtain ⟨k1, hg⟩ := and_e hg
  obtain ⟨k2, hg⟩ := and_e hg
  obtain ⟨k3, hg⟩ := and_e hg
  have k4 := hg
  obtain ⟨w0, w1, w2, w3, w4, rfl⟩ : ∃ w0 w1 w2 w3 w4 : Value, args = #[w0, w1, w2, w3, w4] := by
    have hs : args.size = 5 := by simpa [Cond.value, given_1] using h1
    obtain ⟨L⟩ := args
    match L, hs with
    | [w0, w1, w2, w3, w4], _ => exact ⟨w0, w1, w2, w3, w4, rfl⟩
  have hw := fun d (hd : d ∈ tables_1) => atoms_spec (ws := Jvm.Cond.code x code maxLocals ret :: tables_1) hat d (List.mem_cons_of_mem _ hd)
  obtain ⟨i0, ei0⟩ := isL_v k0
  obtain rfl : w0 = (.long i0) := Option.some.inj ei0
  obtain ⟨i1, ei1⟩ := isL_v k1
  obtain rfl : w1 = (.long i1) := Option.some.inj ei1
  obtain ⟨i2, ei2⟩ := isL_v k2
  obtain rfl : w2 = (.long i2) := Option.some.inj ei2
  obtain ⟨i3, ei3⟩ := isL_v k3
  obtain rfl : w3 = (.long i3) := Option.some.inj ei3
  obtain ⟨i4, ei4⟩ := is_v k4
  obtain rfl : w4 = (.int i4) := Option.some.inj ei4
  obtain ⟨n, o, h1, h2, h3, _, L, rfl, ⟨rfl, N⟩, hq⟩ := rm0 l s _ hw i0 i1 i2 i3 i4 s.heap s.heap.size (Nat.le_refl _) tables_1 p e ha hc hk s m _ below hf ((Spec.applies_iff_loose hf).mp happ).1 ⟨rfl, State.Warmed39.refl s, rfl⟩ trivial
  refine ⟨n, _, h1, h2, h3, hpost _ _ _ _ _ _ ⟨Cond.after_iff.mpr rfl, Cond.after_iff.mpr (eq_i res_at (Term.int_eval (1)) rfl), trivial⟩ ⟨hq.1, hq.2.1, (hq.2.2.sift fun y hy => Or.inr (N y hy)).mono (by decide) (by decide)⟩⟩
theorem main_1_1 : Claimed_1_1 := comes_1 fun _ _ _ _ _ _ h hF => ⟨h.1, hF⟩
theorem main_1_2 : Claimed_1_2 := comes_1 fun _ _ _ _ _ _ h hF => ⟨h.2.1, hF⟩
end Jvm.Pilot.@@N@@
namespace Jvm.Pilot.@@N@@
open Jvm Jvm.ClassFile Sem Op Lib Jvm.Free Jvm.Stand Jvm.Pilot.@@N@@.Jvm.D
/-! MADE BY PROGRAM (witnessworld.py) out of the Statement's table words and the real class files: 12 classes; the members and pool entries that the words name. The judged class is class 1, her method 5. -/
namespace start1
open Jvm.ClassFile
def u (s : String) : CpInfo := .utf8 (stringToUtf16 s)
/-- a pool by its gaps: so many unusable entries, then the entry; so many at the end -/
def gap : Nat → List CpInfo → List CpInfo
  | 0, r => r
  | n + 1, r => .unusable :: gap n r
def poolList (es : List (Nat × CpInfo)) (last : Nat) : List CpInfo := es.foldr (fun e r => gap e.1 (e.2 :: r)) (gap last [])
def pool (es : List (Nat × CpInfo)) (last : Nat) : Array CpInfo := ⟨poolList es last⟩
def fileOf (pool : Array CpInfo) (this : Nat) (attrs : Array Attribute := #[]) (ms : Array MethodInfo := #[]) (fl : Nat := 33) (sup : Nat := 0) (ifs : Array Nat := #[]) (fds : Array FieldInfo := #[]) : ClassFile where
  minorVersion := 0
  majorVersion := 65
  constantPool := pool
  accessFlags := fl
  thisClass := this
  superClass := sup
  interfaces := ifs
  fields := fds
  methods := ms
  attributes := attrs
def plain (name : String) (sup : Option ClassId) : Class where
  name := name
  kind := .ordinary
  loader := none
  accessFlags := 33
  super := sup
  interfaces := #[]
  cf := none
  fields := #[]
  methods := #[]
  instanceTypes := #[]
  staticTypes := #[]
  resolved := #[]
  callSites := []
  init := .initialized
  statics := none
  mirror := none

def pool0 : Array CpInfo := pool [(5, u "<init>"), (0, u "()V"), (1, .class_ 10), (1, u "java/lang/Object")] 113

def k0c0 : Code := { maxStack := 0, maxLocals := 1, code := object_method_1_code, exceptionTable := #[], attributes := #[] }
def k0m0 : Method := { name := "<init>", desc := "()V", sig := { parameters := [], returnType := none }, accessFlags := 1, code := some k0c0 }
/-- java/lang/Object -/
def k0 : Class := { plain "java/lang/Object" none with
  accessFlags := 33
  interfaces := #[]
  cf := some (fileOf pool0 8 #[] #[{ accessFlags := 1, nameIndex := 5, descriptorIndex := 6, attributes := #[] }] 33 0 #[] #[])
  fields := #[]
  methods := #[k0m0]
  instanceTypes := #[]
  staticTypes := #[]
  resolved := Array.replicate 124 none
  statics := none }

def pool1 : Array CpInfo := pool [(2, .class_ 4), (0, .nameAndType 5 6), (0, u "java/lang/Object"), (0, u "<init>"), (0, u "()V"), (0, .long 11400714819323198485), (1, .long 2), (1, .class_ 12), (0, u "com/example/tour/tour/io/IdTable"), (0, .long 9223372036854775808), (1, .methodref 16 17), (0, .class_ 18), (0, .nameAndType 19 20), (0, u "com/example/tour/tour/io/IdTablePutPinLaw"), (0, u "inverse"), (0, u "()J"), (0, .methodref 16 22), (0, .nameAndType 23 24), (0, u "offset"), (0, u "(I)J"), (0, .methodref 16 26), (0, .nameAndType 27 28), (0, u "fix"), (0, u "(J)J"), (0, .methodref 11 3), (0, .methodref 11 31), (0, .nameAndType 32 33), (0, u "put"), (0, u "(JJ)V"), (0, .methodref 11 35), (0, .nameAndType 36 28), (0, u "get"), (0, .methodref 16 38), (0, .nameAndType 39 40), (0, u "expect"), (0, u "(JJJJJJJ)J"), (3, u "law"), (0, u "(JJJJI)Z")] 2

def k1m0 : Method := { name := "<init>", desc := "()V", sig := { parameters := [], returnType := none }, accessFlags := 1, code := none }
def k1c1 : Code := { maxStack := 8, maxLocals := 4, code := method_2_code, exceptionTable := #[], attributes := #[] }
def k1m1 : Method := { name := "inverse", desc := "()J", sig := { parameters := [], returnType := some .long }, accessFlags := 10, code := some k1c1 }
def k1c2 : Code := { maxStack := 3, maxLocals := 4, code := method_3_code, exceptionTable := #[], attributes := #[] }
def k1m2 : Method := { name := "offset", desc := "(I)J", sig := { parameters := [.int], returnType := some .long }, accessFlags := 10, code := some k1c2 }
def k1c3 : Code := { maxStack := 4, maxLocals := 2, code := method_4_code, exceptionTable := #[], attributes := #[] }
def k1m3 : Method := { name := "fix", desc := "(J)J", sig := { parameters := [.long], returnType := some .long }, accessFlags := 10, code := some k1c3 }
def k1c4 : Code := { maxStack := 4, maxLocals := 14, code := method_5_code, exceptionTable := #[], attributes := #[] }
def k1m4 : Method := { name := "expect", desc := "(JJJJJJJ)J", sig := { parameters := [.long, .long, .long, .long, .long, .long, .long], returnType := some .long }, accessFlags := 10, code := some k1c4 }
def k1c5 : Code := { maxStack := 16, maxLocals := 26, code := code, exceptionTable := #[], attributes := #[] }
def k1m5 : Method := { name := "law", desc := "(JJJJI)Z", sig := { parameters := [.long, .long, .long, .long, .int], returnType := some .boolean }, accessFlags := 9, code := some k1c5 }
/-- com/example/tour/tour/io/IdTablePutPinLaw -/
def k1 : Class := { plain "com/example/tour/tour/io/IdTablePutPinLaw" (some 0) with
  accessFlags := 49
  interfaces := #[]
  cf := some (fileOf pool1 16 #[] #[{ accessFlags := 1, nameIndex := 5, descriptorIndex := 6, attributes := #[] }, { accessFlags := 10, nameIndex := 19, descriptorIndex := 20, attributes := #[] }, { accessFlags := 10, nameIndex := 23, descriptorIndex := 24, attributes := #[] }, { accessFlags := 10, nameIndex := 27, descriptorIndex := 28, attributes := #[] }, { accessFlags := 10, nameIndex := 39, descriptorIndex := 40, attributes := #[] }, { accessFlags := 9, nameIndex := 44, descriptorIndex := 45, attributes := #[] }] 49 2 #[] #[])
  fields := #[]
  methods := #[k1m0, k1m1, k1m2, k1m3, k1m4, k1m5]
  instanceTypes := #[]
  staticTypes := #[]
  resolved := Array.replicate 48 none
  statics := none }

def pool2 : Array CpInfo := pool [(3, .methodref 4 5), (0, .class_ 6), (0, .nameAndType 7 8), (0, u "java/lang/Object"), (0, u "<init>"), (0, u "()V"), (0, .methodref 10 11), (0, .class_ 12), (0, .nameAndType 13 14), (0, u "com/example/tour/tour/io/IdTable"), (0, u "allocate"), (0, u "(I)V"), (0, .fieldref 10 16), (0, .nameAndType 17 18), (0, u "size"), (0, u "I"), (0, .fieldref 10 20), (0, .nameAndType 21 22), (0, u "ids"), (0, u "[J"), (3, .methodref 10 27), (0, .nameAndType 28 29), (0, u "slotOf"), (0, u "(J)I"), (0, .fieldref 10 31), (0, .nameAndType 32 22), (0, u "values"), (0, .long 9223372036854775808), (1, .long 11400714819323198485), (1, .fieldref 10 38), (0, .nameAndType 39 18), (0, u "shift"), (0, .methodref 41 42), (0, .class_ 43), (0, .nameAndType 44 45), (0, u "java/util/Arrays"), (0, u "fill"), (0, u "([JJ)V"), (0, u "ABSENT"), (0, u "J"), (3, u "put"), (0, u "(JJ)V"), (1, u "get"), (0, u "(J)J")] 3

def k2c0 : Code := { maxStack := 2, maxLocals := 1, code := prog_7_method_1_code, exceptionTable := #[], attributes := #[] }
def k2m0 : Method := { name := "<init>", desc := "()V", sig := { parameters := [], returnType := none }, accessFlags := 0, code := some k2c0 }
def k2c1 : Code := { maxStack := 4, maxLocals := 6, code := prog_7_method_2_code, exceptionTable := #[], attributes := #[] }
def k2m1 : Method := { name := "put", desc := "(JJ)V", sig := { parameters := [.long, .long], returnType := none }, accessFlags := 0, code := some k2c1 }
def k2c2 : Code := { maxStack := 4, maxLocals := 3, code := prog_7_method_3_code, exceptionTable := #[], attributes := #[] }
def k2m2 : Method := { name := "get", desc := "(J)J", sig := { parameters := [.long], returnType := some .long }, accessFlags := 0, code := some k2c2 }
def k2c3 : Code := { maxStack := 4, maxLocals := 5, code := prog_7_method_4_code, exceptionTable := #[], attributes := #[] }
def k2m3 : Method := { name := "slotOf", desc := "(J)I", sig := { parameters := [.long], returnType := some .int }, accessFlags := 2, code := some k2c3 }
def k2c4 : Code := { maxStack := 3, maxLocals := 2, code := prog_7_method_6_code, exceptionTable := #[], attributes := #[] }
def k2m4 : Method := { name := "allocate", desc := "(I)V", sig := { parameters := [.int], returnType := none }, accessFlags := 2, code := some k2c4 }
/-- com/example/tour/tour/io/IdTable -/
def k2 : Class := { plain "com/example/tour/tour/io/IdTable" (some 0) with
  accessFlags := 32
  interfaces := #[]
  cf := some (fileOf pool2 10 #[] #[{ accessFlags := 0, nameIndex := 7, descriptorIndex := 8, attributes := #[] }, { accessFlags := 0, nameIndex := 51, descriptorIndex := 52, attributes := #[] }, { accessFlags := 0, nameIndex := 54, descriptorIndex := 55, attributes := #[] }, { accessFlags := 2, nameIndex := 28, descriptorIndex := 29, attributes := #[] }, { accessFlags := 2, nameIndex := 13, descriptorIndex := 14, attributes := #[] }] 32 4 #[] #[{ accessFlags := 24, nameIndex := 46, descriptorIndex := 47, attributes := #[] }, { accessFlags := 2, nameIndex := 21, descriptorIndex := 22, attributes := #[] }, { accessFlags := 2, nameIndex := 32, descriptorIndex := 22, attributes := #[] }, { accessFlags := 2, nameIndex := 39, descriptorIndex := 18, attributes := #[] }, { accessFlags := 2, nameIndex := 17, descriptorIndex := 18, attributes := #[] }])
  fields := #[{ name := "ABSENT", type := .long, accessFlags := 24, slot := 0, constantValue := 0 }, { name := "ids", type := (.array .long), accessFlags := 2, slot := 0, constantValue := 0 }, { name := "values", type := (.array .long), accessFlags := 2, slot := 1, constantValue := 0 }, { name := "shift", type := .int, accessFlags := 2, slot := 2, constantValue := 0 }, { name := "size", type := .int, accessFlags := 2, slot := 3, constantValue := 0 }]
  methods := #[k2m0, k2m1, k2m2, k2m3, k2m4]
  instanceTypes := #[(.array .long), (.array .long), .int, .int]
  staticTypes := #[.long]
  resolved := Array.replicate 59 none
  statics := none }

def pool3 : Array CpInfo := pool [(2, .class_ 4), (1, u "java/lang/Object"), (0, u "<init>"), (0, u "()V"), (7, .class_ 16), (1, u "java/util/Arrays"), (57, .class_ 76), (1, u "java/util/Arrays$NaturalOrder"), (36, .class_ 115), (1, u "java/util/Arrays$LegacyMergeSort"), (1, u "Z"), (257, .class_ 376), (0, u "java/util/Arrays$ArrayList"), (68, u "$assertionsDisabled"), (269, u "MIN_ARRAY_SORT_GRAN"), (0, u "I"), (2, u "INSERTIONSORT_THRESHOLD"), (120, u "fill"), (0, u "([JJ)V"), (133, .class_ 976), (0, u "java/util/Arrays$ArrayItr")] 52

def k3m0 : Method := { name := "<init>", desc := "()V", sig := { parameters := [], returnType := none }, accessFlags := 2, code := none }
def k3c1 : Code := { maxStack := 4, maxLocals := 5, code := jdk_65_method_101_code, exceptionTable := #[], attributes := #[] }
def k3m1 : Method := { name := "fill", desc := "([JJ)V", sig := { parameters := [(.array .long), .long], returnType := none }, accessFlags := 9, code := some k3c1 }
/-- java/util/Arrays -/
def k3 : Class := { plain "java/util/Arrays" (some 0) with
  accessFlags := 49
  interfaces := #[]
  cf := some (fileOf pool3 14 #[.nestMembers #[975, 375, 113, 74]] #[{ accessFlags := 2, nameIndex := 5, descriptorIndex := 6, attributes := #[] }, { accessFlags := 9, nameIndex := 840, descriptorIndex := 841, attributes := #[] }] 49 2 #[] #[{ accessFlags := 26, nameIndex := 715, descriptorIndex := 716, attributes := #[] }, { accessFlags := 26, nameIndex := 719, descriptorIndex := 716, attributes := #[] }, { accessFlags := 4120, nameIndex := 445, descriptorIndex := 117, attributes := #[] }])
  fields := #[{ name := "MIN_ARRAY_SORT_GRAN", type := .int, accessFlags := 26, slot := 0, constantValue := 0 }, { name := "INSERTIONSORT_THRESHOLD", type := .int, accessFlags := 26, slot := 1, constantValue := 0 }, { name := "$assertionsDisabled", type := .boolean, accessFlags := 4120, slot := 2, constantValue := 0 }]
  methods := #[k3m0, k3m1]
  instanceTypes := #[]
  staticTypes := #[.int, .int, .boolean]
  resolved := Array.replicate 1029 none
  statics := none }

def pool4 : Array CpInfo := pool [(1, u "java/lang/Cloneable"), (0, .class_ 1), (0, u "java/lang/Object"), (0, .class_ 3)] 3

/-- java/lang/Cloneable -/
def k4 : Class := { plain "java/lang/Cloneable" (some 0) with
  accessFlags := 1537
  interfaces := #[]
  cf := some (fileOf pool4 2 #[] #[] 1537 4 #[] #[])
  fields := #[]
  methods := #[]
  instanceTypes := #[]
  staticTypes := #[]
  resolved := Array.replicate 8 none
  statics := none }

def pool5 : Array CpInfo := pool [(1, u "java/io/Serializable"), (0, .class_ 1), (0, u "java/lang/Object"), (0, .class_ 3)] 3

/-- java/io/Serializable -/
def k5 : Class := { plain "java/io/Serializable" (some 0) with
  accessFlags := 1537
  interfaces := #[]
  cf := some (fileOf pool5 2 #[] #[] 1537 4 #[] #[])
  fields := #[]
  methods := #[]
  instanceTypes := #[]
  staticTypes := #[]
  resolved := Array.replicate 8 none
  statics := none }

/-- the primitive byte -/
def k6 : Class := { plain "byte" none with kind := .primitive 'B', accessFlags := 0x411 }
/-- [B -/
def k7 : Class := { plain "[B" (some 0) with kind := .array 6 .byte, interfaces := #[4, 5], accessFlags := 1041 }

/-- the primitive int -/
def k8 : Class := { plain "int" none with kind := .primitive 'I', accessFlags := 0x411 }
/-- [I -/
def k9 : Class := { plain "[I" (some 0) with kind := .array 8 .int, interfaces := #[4, 5], accessFlags := 1041 }

/-- the primitive long -/
def k10 : Class := { plain "long" none with kind := .primitive 'J', accessFlags := 0x411 }
/-- [J -/
def k11 : Class := { plain "[J" (some 0) with kind := .array 10 .long, interfaces := #[4, 5], accessFlags := 1041 }

def heap : Heap := #[]
def classes : Array Class := #[k0, k1, k2, k3, k4, k5, k6, k7, k8, k9, k10, k11]
def interned : List (Array UInt16 × Addr) := []
def slotsUsed : Nat := 0
def theMethod : MethodId := ⟨1, 5⟩
def args0 : Array Value := #[.long 5, .long 5, .long 5, .long 5, .int 5]
def aboutOver (below : List Frame) : State where
  vm := { classes := classes, interned := interned.toArray }
  heap := heap
  slotsUsed := slotsUsed
  threads := #[{ frames := .invoking theMethod args0 :: below }]
def below0 : List Frame := [.native { method := ⟨0, 0⟩, args := #[] }]
def about1 : State := aboutOver below0
def p0 : Program := .bare "" "" ""
def e0 : Env := launch0.env 0 0 0
theorem w_frames : about1.frames = Frame.invoking theMethod args0 :: below0 := rfl
set_option maxRecDepth 65536 in
theorem w_args : argsFit about1.vm theMethod args0 = true := by decide +kernel
set_option maxRecDepth 65536 in
theorem w_heap : heapFits about1 = true := by decide +kernel
set_option maxRecDepth 65536 in
theorem w_runnable : about1.curStatus? = some .runnable := by decide +kernel
set_option maxRecDepth 65536 in
theorem w_alone : about1.alone = true := by decide +kernel
set_option maxRecDepth 65536 in
theorem w_named : about1.methodNamed? x = some theMethod := by decide +kernel
set_option maxRecDepth 65536 in
theorem w_hears : about1.hears theMethod below0 = true := by decide +kernel
set_option maxRecDepth 65536 in
theorem w_ripe : about1.ripe theMethod args0 below0 = true := by decide +kernel
theorem w_running : about1.status = .running := rfl
set_option maxRecDepth 65536 in
theorem w_room : about1.hasRoom e0.platform room_1 = true :=
  launch0.hasRoom_least _ room_1 (by decide +kernel) (by decide +kernel) (by decide +kernel) (by decide +kernel) (by decide +kernel) (by decide +kernel)
theorem allAtoms_all (ts : List Jvm.Cond) (a : Array Jvm.Value) (st : Jvm.State) : (allAtoms ts).before a st = ts.all (fun c => c.before a st) := by
  induction ts with
  | nil => rfl
  | cons c t ih =>
    show (Jvm.Cond.and c (allAtoms t)).before a st = _
    rw [Jvm.Cond.before_and, ih, List.all_cons]
def words1 : List Jvm.Cond := Jvm.Cond.code x code maxLocals ret :: tables_1
/-- a 'code' word, met by the world's own term for the bytes: nothing is compared byte by byte -/
theorem code_word {y : MethodName} {bytes : ByteArray} {mx : Nat} {rt : Option FieldType} {a : Array Value} {s : State} {m : MethodId} {meth : Method} {c : Code} (h1 : s.methodNamed? y = some m) (h2 : s.vm.method? m = some meth) (h3 : meth.code = some c) (h4 : c.code = bytes)
    (h5 : (c.maxLocals == mx && c.exceptionTable.isEmpty && decide (c.maxStack ≤ mostOperands) && decide (meth.sig.returnType = rt) && !meth.locks && decide (parseMethodDescriptor y.desc = some meth.sig)) = true) : (Jvm.Cond.code y bytes mx rt).before a s = true := by
  simp only [Bool.and_eq_true, beq_iff_eq, Bool.not_eq_true', decide_eq_true_eq] at h5
  obtain ⟨⟨⟨⟨⟨g1, g2⟩, g3⟩, g4⟩, g5⟩, g6⟩ := h5
  simp [Cond.before, Cond.holds, Cond.value, h1, h2, h3, h4, g1, g2, g3, g4, g5, g6]
def isCode : Jvm.Cond → Bool
  | .code _ _ _ _ => true
  | _ => false
theorem all_split {L : List Jvm.Cond} {P : Jvm.Cond → Bool} (h1 : L.all (fun c => isCode c || P c) = true) (h2 : ∀ c ∈ L.filter isCode, P c = true) : L.all P = true := by
  refine List.all_eq_true.mpr fun c hc => ?_
  have h := List.all_eq_true.mp h1 c hc
  rcases Bool.eq_false_or_eq_true (isCode c) with hi | hi
  · exact h2 c (List.mem_filter.mpr ⟨hc, hi⟩)
  · simpa [hi] using h
set_option maxRecDepth 65536 in
theorem w_c0 : (Jvm.Cond.code x code maxLocals ret).before args0 about1 = true := code_word (m := ⟨1, 5⟩) (meth := k1m5) (c := k1c5) (by decide +kernel) rfl rfl rfl (by decide +kernel)
set_option maxRecDepth 65536 in
theorem w_c1 : (Jvm.Cond.code ({ cls := "com/example/tour/tour/io/IdTablePutPinLaw", name := "inverse", desc := "()J" } : Jvm.MethodName) method_2_code (4 : Nat) (Option.some Jvm.ClassFile.FieldType.long)).before args0 about1 = true := code_word (m := ⟨1, 1⟩) (meth := k1m1) (c := k1c1) (by decide +kernel) rfl rfl rfl (by decide +kernel)
set_option maxRecDepth 65536 in
theorem w_c2 : (Jvm.Cond.code ({ cls := "com/example/tour/tour/io/IdTablePutPinLaw", name := "offset", desc := "(I)J" } : Jvm.MethodName) method_3_code (4 : Nat) (Option.some Jvm.ClassFile.FieldType.long)).before args0 about1 = true := code_word (m := ⟨1, 2⟩) (meth := k1m2) (c := k1c2) (by decide +kernel) rfl rfl rfl (by decide +kernel)
set_option maxRecDepth 65536 in
theorem w_c3 : (Jvm.Cond.code ({ cls := "com/example/tour/tour/io/IdTablePutPinLaw", name := "fix", desc := "(J)J" } : Jvm.MethodName) method_4_code (2 : Nat) (Option.some Jvm.ClassFile.FieldType.long)).before args0 about1 = true := code_word (m := ⟨1, 3⟩) (meth := k1m3) (c := k1c3) (by decide +kernel) rfl rfl rfl (by decide +kernel)
set_option maxRecDepth 65536 in
theorem w_c4 : (Jvm.Cond.code ({ cls := "com/example/tour/tour/io/IdTable", name := "<init>", desc := "()V" } : Jvm.MethodName) prog_7_method_1_code (1 : Nat) (Option.none : Option Jvm.ClassFile.FieldType)).before args0 about1 = true := code_word (m := ⟨2, 0⟩) (meth := k2m0) (c := k2c0) (by decide +kernel) rfl rfl rfl (by decide +kernel)
set_option maxRecDepth 65536 in
theorem w_c5 : (Jvm.Cond.code ({ cls := "java/lang/Object", name := "<init>", desc := "()V" } : Jvm.MethodName) object_method_1_code (1 : Nat) (Option.none : Option Jvm.ClassFile.FieldType)).before args0 about1 = true := code_word (m := ⟨0, 0⟩) (meth := k0m0) (c := k0c0) (by decide +kernel) rfl rfl rfl (by decide +kernel)
set_option maxRecDepth 65536 in
theorem w_c6 : (Jvm.Cond.code ({ cls := "com/example/tour/tour/io/IdTable", name := "allocate", desc := "(I)V" } : Jvm.MethodName) prog_7_method_6_code (2 : Nat) (Option.none : Option Jvm.ClassFile.FieldType)).before args0 about1 = true := code_word (m := ⟨2, 4⟩) (meth := k2m4) (c := k2c4) (by decide +kernel) rfl rfl rfl (by decide +kernel)
set_option maxRecDepth 65536 in
theorem w_c7 : (Jvm.Cond.code ({ cls := "java/util/Arrays", name := "fill", desc := "([JJ)V" } : Jvm.MethodName) jdk_65_method_101_code (5 : Nat) (Option.none : Option Jvm.ClassFile.FieldType)).before args0 about1 = true := code_word (m := ⟨3, 1⟩) (meth := k3m1) (c := k3c1) (by decide +kernel) rfl rfl rfl (by decide +kernel)
set_option maxRecDepth 65536 in
theorem w_c8 : (Jvm.Cond.code ({ cls := "com/example/tour/tour/io/IdTable", name := "put", desc := "(JJ)V" } : Jvm.MethodName) prog_7_method_2_code (6 : Nat) (Option.none : Option Jvm.ClassFile.FieldType)).before args0 about1 = true := code_word (m := ⟨2, 1⟩) (meth := k2m1) (c := k2c1) (by decide +kernel) rfl rfl rfl (by decide +kernel)
set_option maxRecDepth 65536 in
theorem w_c9 : (Jvm.Cond.code ({ cls := "com/example/tour/tour/io/IdTable", name := "slotOf", desc := "(J)I" } : Jvm.MethodName) prog_7_method_4_code (5 : Nat) (Option.some Jvm.ClassFile.FieldType.int)).before args0 about1 = true := code_word (m := ⟨2, 3⟩) (meth := k2m3) (c := k2c3) (by decide +kernel) rfl rfl rfl (by decide +kernel)
set_option maxRecDepth 65536 in
theorem w_c10 : (Jvm.Cond.code ({ cls := "com/example/tour/tour/io/IdTable", name := "get", desc := "(J)J" } : Jvm.MethodName) prog_7_method_3_code (3 : Nat) (Option.some Jvm.ClassFile.FieldType.long)).before args0 about1 = true := code_word (m := ⟨2, 2⟩) (meth := k2m2) (c := k2c2) (by decide +kernel) rfl rfl rfl (by decide +kernel)
set_option maxRecDepth 65536 in
theorem w_c11 : (Jvm.Cond.code ({ cls := "com/example/tour/tour/io/IdTablePutPinLaw", name := "expect", desc := "(JJJJJJJ)J" } : Jvm.MethodName) method_5_code (14 : Nat) (Option.some Jvm.ClassFile.FieldType.long)).before args0 about1 = true := code_word (m := ⟨1, 4⟩) (meth := k1m4) (c := k1c4) (by decide +kernel) rfl rfl rfl (by decide +kernel)
def codes1 : List Jvm.Cond := [Jvm.Cond.code x code maxLocals ret, Jvm.Cond.code ({ cls := "com/example/tour/tour/io/IdTablePutPinLaw", name := "inverse", desc := "()J" } : Jvm.MethodName) method_2_code (4 : Nat) (Option.some Jvm.ClassFile.FieldType.long), Jvm.Cond.code ({ cls := "com/example/tour/tour/io/IdTablePutPinLaw", name := "offset", desc := "(I)J" } : Jvm.MethodName) method_3_code (4 : Nat) (Option.some Jvm.ClassFile.FieldType.long), Jvm.Cond.code ({ cls := "com/example/tour/tour/io/IdTablePutPinLaw", name := "fix", desc := "(J)J" } : Jvm.MethodName) method_4_code (2 : Nat) (Option.some Jvm.ClassFile.FieldType.long), Jvm.Cond.code ({ cls := "com/example/tour/tour/io/IdTable", name := "<init>", desc := "()V" } : Jvm.MethodName) prog_7_method_1_code (1 : Nat) (Option.none : Option Jvm.ClassFile.FieldType), Jvm.Cond.code ({ cls := "java/lang/Object", name := "<init>", desc := "()V" } : Jvm.MethodName) object_method_1_code (1 : Nat) (Option.none : Option Jvm.ClassFile.FieldType), Jvm.Cond.code ({ cls := "com/example/tour/tour/io/IdTable", name := "allocate", desc := "(I)V" } : Jvm.MethodName) prog_7_method_6_code (2 : Nat) (Option.none : Option Jvm.ClassFile.FieldType), Jvm.Cond.code ({ cls := "java/util/Arrays", name := "fill", desc := "([JJ)V" } : Jvm.MethodName) jdk_65_method_101_code (5 : Nat) (Option.none : Option Jvm.ClassFile.FieldType), Jvm.Cond.code ({ cls := "com/example/tour/tour/io/IdTable", name := "put", desc := "(JJ)V" } : Jvm.MethodName) prog_7_method_2_code (6 : Nat) (Option.none : Option Jvm.ClassFile.FieldType), Jvm.Cond.code ({ cls := "com/example/tour/tour/io/IdTable", name := "slotOf", desc := "(J)I" } : Jvm.MethodName) prog_7_method_4_code (5 : Nat) (Option.some Jvm.ClassFile.FieldType.int), Jvm.Cond.code ({ cls := "com/example/tour/tour/io/IdTable", name := "get", desc := "(J)J" } : Jvm.MethodName) prog_7_method_3_code (3 : Nat) (Option.some Jvm.ClassFile.FieldType.long), Jvm.Cond.code ({ cls := "com/example/tour/tour/io/IdTablePutPinLaw", name := "expect", desc := "(JJJJJJJ)J" } : Jvm.MethodName) method_5_code (14 : Nat) (Option.some Jvm.ClassFile.FieldType.long)]
set_option maxRecDepth 65536 in
theorem codes_eq : words1.filter isCode = codes1 := rfl
theorem w_codes : ∀ c ∈ words1.filter isCode, c.before args0 about1 = true := by
  rw [codes_eq]
  intro c hc
  simp only [codes1, List.mem_cons, List.not_mem_nil, or_false] at hc
  rcases hc with rfl | rfl | rfl | rfl | rfl | rfl | rfl | rfl | rfl | rfl | rfl | rfl
  · exact w_c0
  · exact w_c1
  · exact w_c2
  · exact w_c3
  · exact w_c4
  · exact w_c5
  · exact w_c6
  · exact w_c7
  · exact w_c8
  · exact w_c9
  · exact w_c10
  · exact w_c11
set_option maxRecDepth 65536 in
theorem w_t1 : (words1.take 24).all (fun c => isCode c || c.before args0 about1) = true := by decide +kernel
set_option maxRecDepth 65536 in
theorem w_t2 : ((words1.drop 24).take 24).all (fun c => isCode c || c.before args0 about1) = true := by decide +kernel
set_option maxRecDepth 65536 in
theorem w_t3 : ((words1.drop 24).drop 24).all (fun c => isCode c || c.before args0 about1) = true := by decide +kernel
theorem w_tables : (allAtoms (Jvm.Cond.code x code maxLocals ret :: tables_1)).before args0 about1 = true := by
  rw [allAtoms_all]
  show words1.all (fun c => c.before args0 about1) = true
  refine all_split ?_ w_codes
  rw [← List.take_append_drop 24 words1, List.all_append, w_t1, ← List.take_append_drop 24 (words1.drop 24), List.all_append, w_t2, w_t3]
  rfl
set_option maxRecDepth 65536 in
theorem w_case : (Jvm.Cond.and given_1 narrow_1).before args0 about1 = true := by decide +kernel
theorem w_applies : (headSpec (Jvm.Cond.code x code maxLocals ret :: tables_1) room_1).applies x e0.platform about1 = true :=
  (Spec.applies_iff w_frames).mpr ⟨w_running, w_runnable, w_alone, w_named, w_hears, w_ripe, w_room, w_tables⟩
theorem atStart : AtStart classFile x code maxLocals ret World_1 tables_1 room_1 Calls_1 rest_1 Pre_1 launch0 p0 e0 about1 theMethod args0 below0 :=
  ⟨lists_1, trivial, launch0.admits_env _ _ _, launch0.least_env, fairChoices_fair.cas, fairChoices_fair.clock, w_frames, w_args, w_heap, w_applies, trivial, trivial, w_case⟩
end start1
theorem witness_1 : WitnessClaimed_1 := ⟨start1.p0, start1.e0, start1.about1, start1.theMethod, start1.args0, start1.below0, start1.atStart⟩
end Jvm.Pilot.@@N@@
