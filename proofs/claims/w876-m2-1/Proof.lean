import JvmDerived
import JvmDerived.Pilot.@@N@@Statement
import JvmDerived.Pilot.@@N@@Code
set_option linter.unusedVariables false
set_option linter.unusedSimpArgs false
namespace Jvm.Own
open Sem ClassFile Op Lib Jvm.Stand Jvm.Free Jvm.LawKit Jvm.RoadKit
section Own
variable {p : Program} {l : Launch} {e : Env} {R : Room} {s : State} {m : MethodId} {args : Array Value} {below : List Frame} {meth : Method} {c : Code} {T : State} {locs : List Loc} {cells slots : Nat} {Q : Option Value → Heap → List Loc → Prop} {k n : Nat} {Z : State} {a0 : Array Value} {h h' h0 : Heap} {pc pc' : Nat} {Ls : Array Slot} {rest : List Value}
/-- from U the invocation comes to its end, returns, and Q holds there -/
def Till (p : Program) (e : Env) (below : List Frame) (s : State) (Q : Option Value → Heap → List Loc → Prop) (k n : Nat) (U : State) : Prop :=
  ∃ s₂ o, Steps p.tables e below U s₂ ∧ s₂.status = .running ∧ Ended s₂ below o ∧ ∃ v L, o = .returned v ∧ Q v s₂.heap L ∧ FrameEnd s o s₂ L k n
/-- a body's contract -/
def Ctr (l : Launch) (Z : State) (y : MethodName) (bytes : ByteArray) (maxL : Nat) (ret : Option FieldType) (rm : Room) (as : Array Value) (h : Heap) (Q : Option Value → Heap → List Loc → Prop) : Prop :=
  ∀ ws, MetFree l y (head1 (Jvm.Cond.code y bytes maxL ret :: ws) rm) (fun a U => a = as ∧ Z.Warmed39 U.vm ∧ U.heap = h) (fun _ _ _ _ _ => True) (fun _ U o U' => ∃ v L, o = .returned v ∧ Q v U'.heap L ∧ FrameEnd U o U' L rm.cells rm.slots)
theorem Till.pre {U V : State} (hs : ∀ t, Steps p.tables e below V t → Steps p.tables e below U t) (r : Till p e below s Q k n V) : Till p e below s Q k n U := by
  obtain ⟨s₂, o, h1, r⟩ := r; exact ⟨s₂, o, hs _ h1, r⟩
theorem Till.via {U V : State} (hs : Steps p.tables e below U V) (r : Till p e below s Q k n V) : Till p e below s Q k n U := by
  obtain ⟨s₂, o, h1, r⟩ := r; exact ⟨s₂, o, hs.trans h1, r⟩
theorem Till.cast {g g' : JFrame} (q : g = g') (r : Till p e below s Q k n (T.setTop g')) : Till p e below s Q k n (T.setTop g) := q ▸ r
theorem Ctr.of {y : MethodName} {bytes : ByteArray} {maxL : Nat} {ret : Option FieldType} {rm : Room} {as : Array Value} (hp : plainFor y = true)
    (body : ∀ p e s m below meth c s₁, p.tables.exec = Jvm.exec → c.code = bytes → c.maxLocals = maxL → s.vm.findClass y.cls = some m.cls → meth.name = y.name → meth.sig.returnType = ret → meth.locks = false → Z.Warmed39 s.vm → s₁.heap = h →
      Stand p l e rm s m as below meth c s₁ [] 0 0 → Till p e below s Q rm.cells rm.slots (s₁.setTop (entryFrame m as maxL))) : Ctr l Z y bytes maxL ret rm as h Q := by
  intro ws
  refine MetFree.of_bodySF hp hisR ?_
  intro p e s m args below meth c s₁ Bd hml hP hK
  obtain ⟨rfl, hZ, hh⟩ := hP
  exact body p e s m below meth c s₁ Bd.exec Bd.bytes hml (findClass_of_methodNamed Bd.named) (name_of_methodNamed Bd.named Bd.method).1 Bd.returns Bd.notSynchronized hZ (by rw [← hh, Bd.state]; rfl) (Stand.of_body Bd)
/-! branches -/
theorem Till.icmp {cd : ClassFile.Cond} {x y : Int32} {o : Int} (h : At T m c below) (hx : p.tables.exec = Jvm.exec) (hd : decode c.code pc = .ok (.if_icmp cd o, 3)) (ho : 0 ≤ (pc : Int) + o) (hp : ((pc : Int) + o).toNat = pc')
    (r1 : if_icmp.holds cd x y = true → Till p e below s Q k n (T.setTop (mkF m pc' Ls rest))) (r2 : if_icmp.holds cd x y = false → Till p e below s Q k n (T.setTop (mkF m (pc + 3) Ls rest))) : Till p e below s Q k n (T.setTop (mkF m pc Ls (.int y :: .int x :: rest))) := by
  cases hb : if_icmp.holds cd x y with
  | true => exact Till.pre (fun _ hr => XS.icmpYes h hx rfl (pc0 := pc) (pc' := pc') rfl hd rfl hb ho hp hr) (r1 hb)
  | false => exact Till.pre (fun _ hr => XS.icmpNo h hx rfl hd rfl hb hr) (r2 hb)
theorem Till.ifc {cd : ClassFile.Cond} {x : Int32} {o : Int} (h : At T m c below) (hx : p.tables.exec = Jvm.exec) (hd : decode c.code pc = .ok (.ifCond cd o, 3)) (ho : 0 ≤ (pc : Int) + o) (hp : ((pc : Int) + o).toNat = pc')
    (r1 : if_icmp.holds cd x 0 = true → Till p e below s Q k n (T.setTop (mkF m pc' Ls rest))) (r2 : if_icmp.holds cd x 0 = false → Till p e below s Q k n (T.setTop (mkF m (pc + 3) Ls rest))) : Till p e below s Q k n (T.setTop (mkF m pc Ls (.int x :: rest))) := by
  cases hb : if_icmp.holds cd x 0 with
  | true => exact Till.pre (fun _ hr => XS.ifYes h hx rfl (pc0 := pc) (pc' := pc') rfl hd rfl ((if0 _ _).trans hb) ho hp hr) (r1 hb)
  | false => exact Till.pre (fun _ hr => XS.ifNo h hx rfl hd rfl ((if0 _ _).trans hb) hr) (r2 hb)
theorem hEq {x y : Int32} : (if_icmp.holds .eq x y = true → x = y) ∧ (if_icmp.holds .eq x y = false → ¬ x = y) ∧ (if_icmp.holds .ne x y = true → ¬ x = y) ∧ (if_icmp.holds .ne x y = false → x = y) := by
  by_cases q : x = y
  · obtain ⟨h1, h2⟩ := teq q; rw [h1, h2]; simp [q]
  · obtain ⟨h1, h2⟩ := feq q; rw [h1, h2]; simp [q]
theorem hLt {x y : Int32} : (if_icmp.holds .lt x y = true → x < y) ∧ (if_icmp.holds .lt x y = false → ¬ x < y) ∧ (if_icmp.holds .ge x y = true → ¬ x < y) ∧ (if_icmp.holds .ge x y = false → x < y) ∧ (if_icmp.holds .gt y x = true → x < y) ∧ (if_icmp.holds .gt y x = false → ¬ x < y) ∧ (if_icmp.holds .le y x = true → ¬ x < y) ∧ (if_icmp.holds .le y x = false → x < y) := by
  by_cases q : x < y
  · obtain ⟨h1, h2, h3, h4⟩ := tlt q; rw [h1, h2, h3, h4]; simp [q]
  · obtain ⟨h1, h2, h3, h4⟩ := flt q; rw [h1, h2, h3, h4]; simp [q]
theorem lEq {x y : Int64} : lcmpW x y = 0 ↔ x = y := by rw [lcW x y]; exact lc_eq x y
theorem lLt {x y : Int64} : lcmpW x y < 0 ↔ x < y := by rw [lcW x y]; exact lc_lt x y
theorem lGt {x y : Int64} : 0 < lcmpW x y ↔ y < x := by rw [lcW x y]; exact lc_gt x y
/-- Java's >>> on longs -/
def lsr (x : Int64) (y : Int32) : Int64 := (x.toUInt64 >>> (y &&& 0x3f).toInt64.toUInt64).toInt64
/-! returns -/
theorem Till.retI (X : Stand p l e R s m args below meth c T locs cells slots) (hx : p.tables.exec = Jvm.exec) (hret : meth.sig.returnType = some .int) (hlk : meth.locks = false) {z : Int32} (hd : decode c.code pc = .ok (.ireturn, 1)) (hk : cells ≤ k) (hn : slots ≤ n) (hq : Q (some (.int z)) T.heap locs) : Till p e below s Q k n (T.setTop (mkF m pc Ls (.int z :: rest))) := by
  obtain ⟨fs, hr, hrun, hended, hW, hsame⟩ := X.leave (v := some (.int z)) (fun q => by rw [hret] at q; cases q) hlk
  exact ⟨_, _, retOut X hx hret rfl (Or.inl ⟨rfl, Or.inl rfl, z, rfl⟩) hd hr, hrun, hended, _, _, rfl, hq, ⟨_, rfl⟩, hW, hsame.mono hk hn⟩
theorem Till.retZ (X : Stand p l e R s m args below meth c T locs cells slots) (hx : p.tables.exec = Jvm.exec) (hret : meth.sig.returnType = some .boolean) (hlk : meth.locks = false) {z w : Int32} (hd : decode c.code pc = .ok (.ireturn, 1)) (hk : cells ≤ k) (hn : slots ≤ n) (hz : z &&& 1 = w) (hq : Q (some (.int w)) T.heap locs) : Till p e below s Q k n (T.setTop (mkF m pc Ls (.int z :: rest))) := by
  subst hz
  obtain ⟨fs, hr, hrun, hended, hW, hsame⟩ := X.leave (v := some (.int (z &&& 1))) (fun q => by rw [hret] at q; cases q) hlk
  exact ⟨_, _, retN X hx (t := .boolean) hret (Or.inl rfl) hd hr, hrun, hended, _, _, rfl, hq, ⟨_, rfl⟩, hW, hsame.mono hk hn⟩
theorem Till.retJ (X : Stand p l e R s m args below meth c T locs cells slots) (hx : p.tables.exec = Jvm.exec) (hret : meth.sig.returnType = some .long) (hlk : meth.locks = false) {z : Int64} (hd : decode c.code pc = .ok (.lreturn, 1)) (hk : cells ≤ k) (hn : slots ≤ n) (hq : Q (some (.long z)) T.heap locs) : Till p e below s Q k n (T.setTop (mkF m pc Ls (.long z :: rest))) := by
  obtain ⟨fs, hr, hrun, hended, hW, hsame⟩ := X.leave (v := some (.long z)) (fun q => by rw [hret] at q; cases q) hlk
  exact ⟨_, _, retOut X hx hret rfl (Or.inr (Or.inl ⟨rfl, rfl, z, rfl⟩)) hd hr, hrun, hended, _, _, rfl, hq, ⟨_, rfl⟩, hW, hsame.mono hk hn⟩
theorem Till.retA (X : Stand p l e R s m args below meth c T locs cells slots) (hx : p.tables.exec = Jvm.exec) {t : FieldType} (hret : meth.sig.returnType = some t) (ht : t.isReference = true) (hlk : meth.locks = false) {w : Value} (hw : w.isRef = true) (hnw : narrow t w = w) (hd : decode c.code pc = .ok (.areturn, 1)) (hk : cells ≤ k) (hn : slots ≤ n) (hq : Q (some w) T.heap locs) : Till p e below s Q k n (T.setTop (mkF m pc Ls (w :: rest))) := by
  obtain ⟨fs, hr, hrun, hended, hW, hsame⟩ := X.leave (v := some w) (fun q => by rw [hret] at q; cases q) hlk
  exact ⟨_, _, retOut X hx hret hnw (Or.inr (Or.inr (Or.inr (Or.inr ⟨rfl, ht, hw⟩)))) hd hr, hrun, hended, _, _, rfl, hq, ⟨_, rfl⟩, hW, hsame.mono hk hn⟩
theorem Till.retV (X : Stand p l e R s m args below meth c T locs cells slots) (hx : p.tables.exec = Jvm.exec) (hret : meth.sig.returnType = none) (hlk : meth.locks = false) (hd : decode c.code pc = .ok (.return_, 1)) (hk : cells ≤ k) (hn : slots ≤ n) (hq : Q none T.heap locs) : Till p e below s Q k n (T.setTop (mkF m pc Ls [])) := by
  obtain ⟨fs, hr, hrun, hended, hW, hsame⟩ := X.leave (v := none) (fun _ => rfl) hlk
  exact ⟨_, _, X.returnOut hx hret hd hr, hrun, hended, _, _, rfl, hq, ⟨_, rfl⟩, hW, hsame.mono hk hn⟩
/-! the heap -/
theorem Till.getF (X : Stand p l e R s m args below meth c T locs cells slots) (hx : p.tables.exec = Jvm.exec) (hZ : Z.Warmed39 s.vm) {own O nm d : String} {index : Nat} (hown : s.vm.findClass own = some m.cls) (w : (Jvm.Cond.fieldLink own index O nm d).before a0 Z = true) (eT : T.heap = h) {a : Addr} {v : Value} (F : Fld Z h a O nm d v) (hd : decode c.code pc = .ok (.getfield index, 3))
    (r : ∀ T', Stand p l e R s m args below meth c T' locs cells slots → T'.heap = h → Till p e below s Q k n (T'.setTop (mkF m (pc + 3) Ls (v :: rest)))) : Till p e below s Q k n (T.setTop (mkF m pc Ls (.ref a :: rest))) := by
  obtain ⟨T', X', e', st⟩ := Jvm.RoadKit.getF X hx hZ hown (host := "") (Or.inl w) Via.refl eT F (g := mkF m pc Ls (.ref a :: rest)) rfl rfl hd
  exact Till.pre st (r T' X' e')
theorem Till.putF (X : Stand p l e R s m args below meth c T locs cells slots) (hx : p.tables.exec = Jvm.exec) (hZ : Z.Warmed39 s.vm) {own O nm d C : String} {index kk : Nat} {ty : FieldType} (hown : s.vm.findClass own = some m.cls) (w : (Jvm.Cond.fieldLink own index O nm d).before a0 Z = true) (eT : T.heap = h) {a : Addr} {v old : Value} (F : Fld Z h a O nm d old) (E : Exa Z h a C)
    (L : (Jvm.Cond.lays C O nm d).before a0 Z = true ∨ ((Jvm.Cond.laysFinal C O nm d).before a0 Z = true ∧ own = O ∧ meth.name = "<init>")) (wi : (Jvm.Cond.instantiable C kk).before a0 Z = true) (hty : parseFieldDescriptor d = some ty) (hn : narrow ty v = v) (hf : fits ty v = true) (hd : decode c.code pc = .ok (.putfield index, 3))
    (r : ∀ T' h', Stand p l e R s m args below meth c T' (locs ++ [⟨a, Jvm.RoadKit.slotOf Z O nm d⟩]) cells slots → T'.heap = h' → Wr h h' a (Jvm.RoadKit.slotOf Z O nm d) v → Till p e below s Q k n (T'.setTop (mkF m (pc + 3) Ls rest))) : Till p e below s Q k n (T.setTop (mkF m pc Ls (v :: .ref a :: rest))) := by
  obtain ⟨T', h', X', e', W, st⟩ := Jvm.RoadKit.putF X hx hZ hown (host := "") (Or.inl w) Via.refl eT F E L wi hty hn hf (g := mkF m pc Ls (v :: .ref a :: rest)) rfl rfl hd
  exact Till.pre st (r T' h' X' e' W)
theorem Till.newO (X : Stand p l e R s m args below meth c T locs cells slots) (hx : p.tables.exec = Jvm.exec) (hZ : Z.Warmed39 s.vm) {own C : String} {index sl : Nat} (hown : s.vm.findClass own = some m.cls) (w : (Jvm.Cond.classLink own index C).before a0 Z = true) (wi : (Jvm.Cond.instantiable C sl).before a0 Z = true) (wz : (Jvm.Cond.initialized C).before a0 Z = true) (eT : T.heap = h) (hd : decode c.code pc = .ok (.new index, 3)) (hc : cells + 1 ≤ R.cells) (hl : slots + sl ≤ R.slots)
    (r : ∀ T' h' b, b = h.size → Stand p l e R s m args below meth c T' locs (cells + 1) (slots + sl) → T'.heap = h' → Ext h h' → Exa Z h' b C → (∀ {O nm d : String} {ty : FieldType}, Laid Z a0 C O nm d → parseFieldDescriptor d = some ty → Fld Z h' b O nm d (defaultValue ty)) → Till p e below s Q k n (T'.setTop (mkF m (pc + 3) Ls (.ref b :: rest)))) : Till p e below s Q k n (T.setTop (mkF m pc Ls rest)) := by
  obtain ⟨T', h', X', e', E, A, D, -, st⟩ := Jvm.RoadKit.newO X hx hZ hown w wi wz eT (g := mkF m pc Ls rest) rfl hd hc hl
  exact Till.pre st (r T' h' _ rfl X' e' E A D)
theorem Till.initO (X : Stand p l e R s m args below meth c T locs cells slots) (hx : p.tables.exec = Jvm.exec) (hZ : Z.Warmed39 s.vm) {own : String} {idx : Nat} (hown : s.vm.findClass own = some m.cls) (w1 : (Jvm.Cond.methodLink own idx Lib.objectInit).before a0 Z = true) (w2 : (Jvm.Cond.instanceMethod Lib.objectInit).before a0 Z = true) (w3 : (Jvm.Cond.code Lib.objectInit ⟨#[0xb1]⟩ 1 none).before a0 Z = true) (eT : T.heap = h) (hsize : Ls.size = c.maxLocals) {a : Addr} (hd : decode c.code pc = .ok (.invokespecial idx, 3))
    (hf : 1 ≤ R.frames) {W : Nat} (hW : (rest.map fun v => v.category).sum ≤ W) (hl : W + 12 ≤ R.locals)
    (r : ∀ T', Stand p l e R s m args below meth c T' locs cells slots → T'.heap = h → Till p e below s Q k n (T'.setTop (mkF m (pc + 3) Ls rest))) : Till p e below s Q k n (T.setTop (mkF m pc Ls (.ref a :: rest))) := by
  obtain ⟨T', X', e', st⟩ := Jvm.RoadKit.initO X hx hZ hown w1 w2 w3 eT (g := mkF m pc Ls (.ref a :: rest)) rfl hsize rfl hd hf (W := W) (by show 2 * 0 + _ ≤ _; omega) hl
  exact Till.pre st (r T' X' e')
/-! arrays: what they hold, as a function of the place -/
def AR {α : Type} (ty : FieldType) (w : α → Value) (Z : State) (h : Heap) (a : Addr) (z : Int32) (f : Nat → α) : Prop := ∃ c : Cell, Arr Z h a c ty ∧ c.slots.size = z.toNatClampNeg ∧ ¬ z < 0 ∧ ∀ i, i < c.slots.size → c.slots[i]? = some (w (f i))
abbrev LA := @AR Int64 .long Value.long
abbrev IA := @AR Int32 .int Value.int
abbrev BA := @AR Int32 .byte Value.int
def oupd {α : Type} (f : Nat → α) (i : Nat) (v : α) : Nat → α := fun x => if x = i then v else f x
theorem upd_hit {α : Type} {f : Nat → α} {i j : Nat} {v : α} (q : j = i) : oupd f i v j = v := if_pos q
theorem upd_miss {α : Type} {f : Nat → α} {i j : Nat} {v : α} (q : ¬ j = i) : oupd f i v j = f j := if_neg q
section Ary
variable {α : Type} {ty : FieldType} {w : α → Value} {a b : Addr} {z j : Int32} {f : Nat → α} {ws : List Addr} {sl : Nat} {v : Value}
theorem AR.lt (A : AR ty w Z h a z f) : a < h.size := by obtain ⟨c, A, -⟩ := A; exact A.lt
theorem AR.pos (A : AR ty w Z h a z f) : ¬ z < 0 := by obtain ⟨c, -, -, q, -⟩ := A; exact q
theorem AR.ext (A : AR ty w Z h a z f) (E : Ext h h') : AR ty w Z h' a z f := by obtain ⟨c, A, r⟩ := A; exact ⟨c, A.ext E, r⟩
theorem AR.keep (A : AR ty w Z h a z f) (K : Keep h h' ws) (q : a ∉ ws) : AR ty w Z h' a z f := by obtain ⟨c, A, r⟩ := A; exact ⟨c, ⟨K.2.1 a c A.1 q, A.2⟩, r⟩
theorem AR.wr (A : AR ty w Z h a z f) (W : Wr h h' b sl v) (q : a ≠ b) : AR ty w Z h' a z f := by obtain ⟨c, A, r⟩ := A; exact ⟨c, A.other W q, r⟩
theorem AR.congr {g : Nat → α} (A : AR ty w Z h a z f) (q : ∀ i, i < z.toNatClampNeg → f i = g i) : AR ty w Z h a z g := by obtain ⟨c, A, S, N, H⟩ := A; exact ⟨c, A, S, N, fun i hi => by rw [H i hi, q i (S ▸ hi)]⟩
theorem AR.set {x : α} (A : AR ty w Z h a z f) (W : Wr h h' a j.toNatClampNeg (w x)) : AR ty w Z h' a z (oupd f j.toNatClampNeg x) := by
  obtain ⟨c, A, S, N, H⟩ := A
  refine ⟨_, A.same W, by rw [sz_set]; exact S, N, fun i hi => ?_⟩
  rw [sz_set] at hi
  by_cases u : i = j.toNatClampNeg
  · rw [upd_hit u]; subst u; simp [Cell.setSlot, hi]
  · rw [upd_miss u]; simp only [Cell.setSlot]; rw [Array.getElem?_setIfInBounds_ne (Ne.symm u)]; exact H i hi
theorem Till.newA {aty : ArrayType} {d0 : α} (X : Stand p l e R s m args below meth c T locs cells slots) (hx : p.tables.exec = Jvm.exec) (hZ : Z.Warmed39 s.vm) (wa : (Jvm.Cond.arrayClass (newarray.typeOf aty)).before a0 Z = true) (eT : T.heap = h) (hd : decode c.code pc = .ok (.newarray aty, 2)) (hdv : defaultValue (newarray.typeOf aty) = w d0) (hz : ¬ z < 0) (cap : Nat) (hcap : z.toNatClampNeg ≤ cap) (hb : cap * 8 ≤ 536870912) (hc : cells + 1 ≤ R.cells) (hl : slots + cap ≤ R.slots)
    (r : ∀ T' h' b, b = h.size → Stand p l e R s m args below meth c T' locs (cells + 1) (slots + cap) → T'.heap = h' → Ext h h' → AR (newarray.typeOf aty) w Z h' b z (fun _ => d0) → Till p e below s Q k n (T'.setTop (mkF m (pc + 2) Ls (.ref b :: rest)))) : Till p e below s Q k n (T.setTop (mkF m pc Ls (.int z :: rest))) := by
  obtain ⟨T', h', cA, X', e', E, A, st⟩ := newP X hx hZ wa eT (g := mkF m pc Ls (.int z :: rest)) rfl hd rfl hz (cap := cap) hcap hb hc hl
  exact Till.pre st (r T' h' _ rfl X' e' E ⟨_, A, sz_new _ _ _, hz, fun i hi => by rw [sz_new] at hi; simp [Jvm.RoadKit.newA, hi, hdv]⟩)
theorem Till.alen (A : AR ty w Z h a z f) (X : Stand p l e R s m args below meth c T locs cells slots) (hx : p.tables.exec = Jvm.exec) (hZ : Z.Warmed39 s.vm) (eT : T.heap = h) (hd : decode c.code pc = .ok (.arraylength, 1))
    (r : Till p e below s Q k n (T.setTop (mkF m (pc + 1) Ls (.int z :: rest)))) : Till p e below s Q k n (T.setTop (mkF m pc Ls (.ref a :: rest))) := by
  obtain ⟨c', A, S, N, H⟩ := A
  refine Till.pre (X.arraylength hx (by rw [eT]; exact A.1) (State.isArrayOf_alike hZ.alike A.2.1) (g := mkF m pc Ls (.ref a :: rest)) rfl rfl hd) ?_
  rw [len_of S N]; exact r
theorem AR.at (A : AR ty w Z h a z f) (h1 : ¬ j < 0) (h2 : j < z) : ∃ c : Cell, Arr Z h a c ty ∧ ¬ (j < 0 ∨ c.slots.size ≤ j.toNatClampNeg) ∧ c.slots[j.toNatClampNeg]? = some (w (f j.toNatClampNeg)) := by
  obtain ⟨c', A, S, N, H⟩ := A
  have hin := inb_of S ⟨h1, h2⟩
  exact ⟨c', A, hin, H _ (Nat.lt_of_not_le fun y => hin (Or.inr y))⟩
end Ary
section Acc
variable {a : Addr} {z j : Int32}
theorem Till.laload {f : Nat → Int64} (A : LA Z h a z f) (h1 : ¬ j < 0) (h2 : j < z) (X : Stand p l e R s m args below meth c T locs cells slots) (hx : p.tables.exec = Jvm.exec) (hZ : Z.Warmed39 s.vm) (eT : T.heap = h) (hd : decode c.code pc = .ok (.laload, 1))
    (r : Till p e below s Q k n (T.setTop (mkF m (pc + 1) Ls (.long (f j.toNatClampNeg) :: rest)))) : Till p e below s Q k n (T.setTop (mkF m pc Ls (.int j :: .ref a :: rest))) := by
  obtain ⟨c', A, hin, hv⟩ := A.at h1 h2
  exact Till.pre (X.laload hx (by rw [eT]; exact A.1) (State.isArrayOf_alike hZ.alike A.2.1) A.2.2 hin hv (g := mkF m pc Ls (.int j :: .ref a :: rest)) rfl rfl hd) r
theorem Till.iaload {f : Nat → Int32} (A : IA Z h a z f) (h1 : ¬ j < 0) (h2 : j < z) (X : Stand p l e R s m args below meth c T locs cells slots) (hx : p.tables.exec = Jvm.exec) (hZ : Z.Warmed39 s.vm) (eT : T.heap = h) (hd : decode c.code pc = .ok (.iaload, 1))
    (r : Till p e below s Q k n (T.setTop (mkF m (pc + 1) Ls (.int (f j.toNatClampNeg) :: rest)))) : Till p e below s Q k n (T.setTop (mkF m pc Ls (.int j :: .ref a :: rest))) := by
  obtain ⟨c', A, hin, hv⟩ := A.at h1 h2
  exact Till.pre (X.iaload hx (by rw [eT]; exact A.1) (State.isArrayOf_alike hZ.alike A.2.1) A.2.2 hin hv (g := mkF m pc Ls (.int j :: .ref a :: rest)) rfl rfl hd) r
theorem Till.baload {f : Nat → Int32} (A : BA Z h a z f) (h1 : ¬ j < 0) (h2 : j < z) (X : Stand p l e R s m args below meth c T locs cells slots) (hx : p.tables.exec = Jvm.exec) (hZ : Z.Warmed39 s.vm) (eT : T.heap = h) (hd : decode c.code pc = .ok (.baload, 1))
    (r : Till p e below s Q k n (T.setTop (mkF m (pc + 1) Ls (.int (f j.toNatClampNeg) :: rest)))) : Till p e below s Q k n (T.setTop (mkF m pc Ls (.int j :: .ref a :: rest))) := by
  obtain ⟨c', A, hin, hv⟩ := A.at h1 h2
  exact Till.pre (X.baloadBytes hx (by rw [eT]; exact A.1) (State.isArrayOf_alike hZ.alike A.2.1) A.2.2 hin hv (g := mkF m pc Ls (.int j :: .ref a :: rest)) rfl rfl hd) r
theorem Till.lastore {f : Nat → Int64} {x : Int64} (A : LA Z h a z f) (h1 : ¬ j < 0) (h2 : j < z) (X : Stand p l e R s m args below meth c T locs cells slots) (hx : p.tables.exec = Jvm.exec) (hZ : Z.Warmed39 s.vm) (eT : T.heap = h) (hd : decode c.code pc = .ok (.lastore, 1))
    (r : ∀ T' h', Stand p l e R s m args below meth c T' (locs ++ [⟨a, j.toNatClampNeg⟩]) cells slots → T'.heap = h' → Wr h h' a j.toNatClampNeg (.long x) → LA Z h' a z (oupd f j.toNatClampNeg x) → Till p e below s Q k n (T'.setTop (mkF m (pc + 1) Ls rest))) : Till p e below s Q k n (T.setTop (mkF m pc Ls (.long x :: .int j :: .ref a :: rest))) := by
  obtain ⟨c', A', hin, hv⟩ := A.at h1 h2
  obtain ⟨T', h', X', e', W, st⟩ := stJ X hx hZ eT A' hin (x := x) (g := mkF m pc Ls (.long x :: .int j :: .ref a :: rest)) rfl rfl hd
  exact Till.pre st (r T' h' X' e' W (AR.set A W))
theorem Till.iastore {f : Nat → Int32} {x : Int32} (A : IA Z h a z f) (h1 : ¬ j < 0) (h2 : j < z) (X : Stand p l e R s m args below meth c T locs cells slots) (hx : p.tables.exec = Jvm.exec) (hZ : Z.Warmed39 s.vm) (eT : T.heap = h) (hd : decode c.code pc = .ok (.iastore, 1))
    (r : ∀ T' h', Stand p l e R s m args below meth c T' (locs ++ [⟨a, j.toNatClampNeg⟩]) cells slots → T'.heap = h' → Wr h h' a j.toNatClampNeg (.int x) → IA Z h' a z (oupd f j.toNatClampNeg x) → Till p e below s Q k n (T'.setTop (mkF m (pc + 1) Ls rest))) : Till p e below s Q k n (T.setTop (mkF m pc Ls (.int x :: .int j :: .ref a :: rest))) := by
  obtain ⟨c', A', hin, hv⟩ := A.at h1 h2
  obtain ⟨T', h', X', e', W, st⟩ := stI X hx hZ eT A' hin (x := x) (g := mkF m pc Ls (.int x :: .int j :: .ref a :: rest)) rfl rfl hd
  exact Till.pre st (r T' h' X' e' W (AR.set A W))
theorem Till.bastore {f : Nat → Int32} {x : Int32} (A : BA Z h a z f) (h1 : ¬ j < 0) (h2 : j < z) (X : Stand p l e R s m args below meth c T locs cells slots) (hx : p.tables.exec = Jvm.exec) (hZ : Z.Warmed39 s.vm) (eT : T.heap = h) (hd : decode c.code pc = .ok (.bastore, 1))
    (r : ∀ T' h', Stand p l e R s m args below meth c T' (locs ++ [⟨a, j.toNatClampNeg⟩]) cells slots → T'.heap = h' → Wr h h' a j.toNatClampNeg (.int x.toInt8.toInt32) → BA Z h' a z (oupd f j.toNatClampNeg x.toInt8.toInt32) → Till p e below s Q k n (T'.setTop (mkF m (pc + 1) Ls rest))) : Till p e below s Q k n (T.setTop (mkF m pc Ls (.int x :: .int j :: .ref a :: rest))) := by
  obtain ⟨c', A', hin, hv⟩ := A.at h1 h2
  obtain ⟨T', h', X', e', W, st⟩ := stB X hx hZ eT A' hin (x := x) (g := mkF m pc Ls (.int x :: .int j :: .ref a :: rest)) rfl rfl hd
  exact Till.pre st (r T' h' X' e' W (AR.set A W))
end Acc
/-! calls -/
section Calls
variable {own : String} {index maxL : Nat} {y : MethodName} {bytes : ByteArray} {ret : Option FieldType} {rm : Room} {as : Array Value} {Qc : Option Value → Heap → List Loc → Prop} {W : Nat} {argsL st : List Value}
theorem Till.callS (C : Ctr l Z y bytes maxL ret rm as h Qc) (X : Stand p l e R s m args below meth c T locs cells slots) (hx : p.tables.exec = Jvm.exec) (hZ : Z.Warmed39 s.vm) (hown : s.vm.findClass own = some m.cls) (w1 : (Jvm.Cond.methodLink own index y).before a0 Z = true) (w2 : (Jvm.Cond.static y).before a0 Z = true) (w3 : (Jvm.Cond.initialized y.cls).before a0 Z = true) (w4 : (Jvm.Cond.code y bytes maxL ret).before a0 Z = true)
    (hy : y.cls ≠ "java/lang/invoke/MethodHandle" ∧ y.cls ≠ "java/lang/invoke/VarHandle") (hf : rm.frames + 1 ≤ R.frames) (hl : W + (maxL + 11) + rm.locals ≤ R.locals) (hsize : Ls.size = c.maxLocals) (hlen : ∀ sig, parseMethodDescriptor y.desc = some sig → argsL.length = sig.parameters.length) (has : argsL.toArray = as) (hst : st = argsL.reverse ++ rest) (hW : (rest.map fun v => v.category).sum ≤ W) (hd : decode c.code pc = .ok (.invokestatic index, 3)) (eT : T.heap = h) (hc : cells + rm.cells ≤ R.cells) (hs : slots + rm.slots ≤ R.slots)
    (r : ∀ v T' L, Stand p l e R s m args below meth c T' (locs ++ L) (cells + rm.cells) (slots + rm.slots) → Qc v T'.heap L → Till p e below s Q k n (T'.setTop (mkF m (pc + 3) Ls (v.toList ++ rest)))) : Till p e below s Q k n (T.setTop (mkF m pc Ls st)) := by
  obtain ⟨v, vm1, ⟨T', L', c', s'⟩, -, X', ⟨Lc, hQ, l1, y1, z1⟩, stp⟩ := Jvm.LawKit.callS X hx hown (mvT hZ w1) (mvT hZ w2) (mvT hZ w3) (mvT hZ w4) hy (backOf (W := W) (C []) hZ w4 w3 hf hl) (g := mkF m pc Ls st) rfl hsize (argsL := argsL) (rest := rest) hlen hst (by show 2 * 0 + _ ≤ _; omega) hd (fun _ _ => ⟨has, eT, hc, hs⟩)
  dsimp only [Pt.U, Pt.locs, Pt.cells, Pt.slots] at X' l1 y1 z1 stp hQ
  subst l1 y1 z1
  exact Till.pre stp (r v T' Lc X' hQ)
theorem Till.callC {a : Addr} (C : Ctr l Z y bytes maxL none rm as h Qc) (X : Stand p l e R s m args below meth c T locs cells slots) (hx : p.tables.exec = Jvm.exec) (hZ : Z.Warmed39 s.vm) (hown : s.vm.findClass own = some m.cls) (hy1 : y.name = "<init>") (w1 : (Jvm.Cond.methodLink own index y).before a0 Z = true) (w2 : (Jvm.Cond.instanceMethod y).before a0 Z = true) (w3 : (Jvm.Cond.initialized y.cls).before a0 Z = true) (w4 : (Jvm.Cond.code y bytes maxL none).before a0 Z = true)
    (hy : y.cls ≠ "java/lang/invoke/MethodHandle" ∧ y.cls ≠ "java/lang/invoke/VarHandle") (hf : rm.frames + 1 ≤ R.frames) (hl : W + (maxL + 11) + rm.locals ≤ R.locals) (hsize : Ls.size = c.maxLocals) (hlen : ∀ sig, parseMethodDescriptor y.desc = some sig → argsL.length = sig.parameters.length) (has : (.ref a :: argsL).toArray = as) (hst : st = argsL.reverse ++ .ref a :: rest) (hW : (rest.map fun v => v.category).sum ≤ W) (hd : decode c.code pc = .ok (.invokespecial index, 3)) (eT : T.heap = h) (hc : cells + rm.cells ≤ R.cells) (hs : slots + rm.slots ≤ R.slots)
    (r : ∀ v T' L, Stand p l e R s m args below meth c T' (locs ++ L) (cells + rm.cells) (slots + rm.slots) → Qc v T'.heap L → Till p e below s Q k n (T'.setTop (mkF m (pc + 3) Ls (v.toList ++ rest)))) : Till p e below s Q k n (T.setTop (mkF m pc Ls st)) := by
  obtain ⟨v, vm1, ⟨T', L', c', s'⟩, -, X', ⟨Lc, hQ, l1, y1, z1⟩, stp⟩ := X.specialBack hx hy1 hown (mvT hZ w1) (mvT hZ w2) (mvT hZ w4) hy (backOf (W := W) (C []) hZ w4 w3 hf hl) (g := mkF m pc Ls st) rfl hsize (Steps.refl _) (a := a) (argsL := argsL) (rest := rest) hlen hst (by show 2 * 0 + _ ≤ _; omega) hd (fun _ _ => ⟨has, eT, hc, hs⟩)
  dsimp only [Pt.U, Pt.locs, Pt.cells, Pt.slots] at X' l1 y1 z1 stp hQ
  subst l1 y1 z1
  exact Till.via stp (r v T' Lc X' hQ)
theorem Till.callV {a : Addr} (C : Ctr l Z y bytes maxL ret rm as h Qc) (E : Exa Z h a y.cls) (X : Stand p l e R s m args below meth c T locs cells slots) (hx : p.tables.exec = Jvm.exec) (hZ : Z.Warmed39 s.vm) (hown : s.vm.findClass own = some m.cls) (w1 : (Jvm.Cond.methodLink own index y).before a0 Z = true) (w5 : (Jvm.Cond.declares y).before a0 Z = true) (w6 : (Jvm.Cond.selects y.cls y y).before a0 Z = true) (w2 : (Jvm.Cond.instanceMethod y).before a0 Z = true) (w3 : (Jvm.Cond.initialized y.cls).before a0 Z = true) (w4 : (Jvm.Cond.code y bytes maxL ret).before a0 Z = true)
    (hy : y.cls ≠ "java/lang/invoke/MethodHandle" ∧ y.cls ≠ "java/lang/invoke/VarHandle") (hf : rm.frames + 1 ≤ R.frames) (hl : W + (maxL + 11) + rm.locals ≤ R.locals) (hsize : Ls.size = c.maxLocals) (hlen : ∀ sig, parseMethodDescriptor y.desc = some sig → argsL.length = sig.parameters.length) (has : (.ref a :: argsL).toArray = as) (hst : st = argsL.reverse ++ .ref a :: rest) (hW : (rest.map fun v => v.category).sum ≤ W) (hd : decode c.code pc = .ok (.invokevirtual index, 3)) (eT : T.heap = h) (hc : cells + rm.cells ≤ R.cells) (hs : slots + rm.slots ≤ R.slots)
    (r : ∀ v T' L, Stand p l e R s m args below meth c T' (locs ++ L) (cells + rm.cells) (slots + rm.slots) → Qc v T'.heap L → Till p e below s Q k n (T'.setTop (mkF m (pc + 3) Ls (v.toList ++ rest)))) : Till p e below s Q k n (T.setTop (mkF m pc Ls st)) := by
  obtain ⟨cq, kq, qa, qb, qc⟩ := isOf hZ eT E
  obtain ⟨v, vm1, ⟨T', L', c', s'⟩, -, X', ⟨Lc, hQ, l1, y1, z1⟩, stp⟩ := X.virtualBack hx (y := y) (z := y) hown (mvT hZ w1) (mvT hZ w5) (notFace_of_selects (args := #[]) (mvT hZ w6)) (mvT hZ w6) (mvT hZ w2) hy (backOf (W := W) (C []) hZ w4 w3 hf hl) qa qc (g := mkF m pc Ls st) rfl hsize (Steps.refl _) (argsL := argsL) (rest := rest) hlen hst (by show 2 * 0 + _ ≤ _; omega) hd (fun _ _ => ⟨has, eT, hc, hs⟩)
  dsimp only [Pt.U, Pt.locs, Pt.cells, Pt.slots] at X' l1 y1 z1 stp hQ
  subst l1 y1 z1
  exact Till.via stp (r v T' Lc X' hQ)
theorem Till.callP {a : Addr} {kk : Nat} (C : Ctr l Z y bytes maxL ret rm as h Qc) (E : Exa Z h a y.cls) (X : Stand p l e R s m args below meth c T locs cells slots) (hx : p.tables.exec = Jvm.exec) (hZ : Z.Warmed39 s.vm) (hown : s.vm.findClass own = some m.cls) (w1 : (Jvm.Cond.methodLink own index y).before a0 Z = true) (w2 : (Jvm.Cond.instanceMethod y).before a0 Z = true) (wp : (Jvm.Cond.privateMethod y).before a0 Z = true) (wi : (Jvm.Cond.instantiable y.cls kk).before a0 Z = true) (w3 : (Jvm.Cond.initialized y.cls).before a0 Z = true) (w4 : (Jvm.Cond.code y bytes maxL ret).before a0 Z = true)
    (hy : y.cls ≠ "java/lang/invoke/MethodHandle" ∧ y.cls ≠ "java/lang/invoke/VarHandle") (hf : rm.frames + 1 ≤ R.frames) (hl : W + (maxL + 11) + rm.locals ≤ R.locals) (hsize : Ls.size = c.maxLocals) (hlen : ∀ sig, parseMethodDescriptor y.desc = some sig → argsL.length = sig.parameters.length) (has : (.ref a :: argsL).toArray = as) (hst : st = argsL.reverse ++ .ref a :: rest) (hW : (rest.map fun v => v.category).sum ≤ W) (hd : decode c.code pc = .ok (.invokevirtual index, 3)) (eT : T.heap = h) (hc : cells + rm.cells ≤ R.cells) (hs : slots + rm.slots ≤ R.slots)
    (r : ∀ v T' L, Stand p l e R s m args below meth c T' (locs ++ L) (cells + rm.cells) (slots + rm.slots) → Qc v T'.heap L → Till p e below s Q k n (T'.setTop (mkF m (pc + 3) Ls (v.toList ++ rest)))) : Till p e below s Q k n (T.setTop (mkF m pc Ls st)) := by
  have wi' : (Jvm.Cond.instantiable y.cls kk).before args s = true := mvT hZ wi
  have w2' : (Jvm.Cond.instanceMethod y).before args s = true := mvT hZ w2
  obtain ⟨c2, k2, i1, i2, -, hniab, -, -⟩ := Cond.instantiable_spec wi'
  have hpr := Cond.privateMethod_at (mvP hZ wp (args := args))
  have hsel : (Jvm.Cond.selects y.cls y y).before args s = true := selects_self_of_private i1 i2 (Bool.or_eq_false_iff.mp hniab).1 hpr w2' hy
  obtain ⟨cell, hcell, hobj⟩ := E.cell
  obtain ⟨v, vm1, ⟨T', L', c', s'⟩, -, X', ⟨Lc, hQ, l1, y1, z1⟩, stp⟩ := X.privateBack hx hown (mvT hZ w1) w2' hsel hpr (mvT hZ w4) hy (backOf (W := W) (C []) hZ w4 w3 hf hl) (g := mkF m pc Ls st) rfl hsize (Steps.refl _) (a := a) (by rw [eT]; exact hcell) hobj (argsL := argsL) (rest := rest) hlen hst (by show 2 * 0 + _ ≤ _; omega) hd (fun _ _ => ⟨has, eT, hc, hs⟩)
  dsimp only [Pt.U, Pt.locs, Pt.cells, Pt.slots] at X' l1 y1 z1 stp hQ
  subst l1 y1 z1
  exact Till.via stp (r v T' Lc X' hQ)
end Calls
theorem Till.pop2L {x : Int64} (X : Stand p l e R s m args below meth c T locs cells slots) (hx : p.tables.exec = Jvm.exec) (hd : decode c.code pc = .ok (.pop2, 1)) (r : Till p e below s Q k n (T.setTop (mkF m (pc + 1) Ls rest))) : Till p e below s Q k n (T.setTop (mkF m pc Ls (.long x :: rest))) := by
  refine Till.pre (fun t hr => ?_) r
  show Steps p.tables e below (T.setTop { method := m, pc := pc, locals := Ls, stack := _ :: rest, locked := none }) _
  jvm_step X.here [X.here.top, hx, hd, Value.category]
  exact hr
end Own
end Jvm.Own
namespace Jvm.Pilot.@@N@@
open Jvm Jvm.ClassFile Sem Op Lib Jvm.Free Jvm.Stand Jvm.LawKit Jvm.RoadKit Bundle Jvm.Own Jvm.Pilot.@@N@@.Jvm.D
theorem d1_0 : decode prog_79_method_4_code 0 = .ok (.lload_n 0, 1) := by decide +kernel
theorem d1_1 : decode prog_79_method_4_code 1 = .ok (.ldc2_w 35, 3) := by decide +kernel
theorem d1_4 : decode prog_79_method_4_code 4 = .ok (.land, 1) := by decide +kernel
theorem d1_5 : decode prog_79_method_4_code 5 = .ok (.ldc2_w 35, 3) := by decide +kernel
theorem d1_8 : decode prog_79_method_4_code 8 = .ok (.lcmp, 1) := by decide +kernel
theorem d1_9 : decode prog_79_method_4_code 9 = .ok (.ifCond .ne 7, 3) := by decide +kernel
theorem d1_12 : decode prog_79_method_4_code 12 = .ok (.iconst 1, 1) := by decide +kernel
theorem d1_13 : decode prog_79_method_4_code 13 = .ok (.goto 4, 3) := by decide +kernel
theorem d1_16 : decode prog_79_method_4_code 16 = .ok (.iconst 0, 1) := by decide +kernel
theorem d1_17 : decode prog_79_method_4_code 17 = .ok (.ireturn, 1) := by decide +kernel
theorem pn_1 : plainName "com/example/bunkerline/bunkerline/TextHash" = true := by first | (simp [plainName, overriddenIn]; done) | decide +kernel
theorem ef_1 (m : MethodId) (q1 : Int64) : entryFrame m #[(.long q1)] 2 = mkF m 0 #[.val (.long q1), .second] [] := by first | (simp [entryFrame, mkF, argsToLocals, Value.category]; done) | rfl
def fn1 (q1 : Int64) : Int32 := ((if ((q1 &&& (-72057594037927936 : Int64)) = (-72057594037927936 : Int64)) then (1 : Int32) else (0 : Int32)) &&& 1)
def Q1 (Z : State) (q1 : Int64) (h0 : Heap) (n0 : Nat) : Option Value → Heap → List Loc → Prop := fun v h L => v = some (Value.int (fn1 q1)) ∧ Fr n0 L ∧ h = h0
def room1 : Room := { frames := 0, cells := 0, slots := 0, locals := 0 }
set_option maxRecDepth 65536 in
set_option maxHeartbeats 40000000 in
theorem rm1 (l : Launch) (Z : State) (a0 : Array Value) (hw : ∀ d ∈ tables_1, d.before a0 Z = true) (q1 : Int64) (h0 : Heap) (n0 : Nat)  : Ctr l Z (⟨"com/example/bunkerline/bunkerline/TextHash", "isLonger", "(J)Z"⟩ : MethodName) prog_79_method_4_code 2 (some .boolean) room1 #[(.long q1)] h0 (Q1 Z q1 h0 n0) := by
  refine Ctr.of (plainFor_of_name pn_1) ?_
  intro p e s m below meth c s₁ hx hby hml hown hnm hret hlk hZ e0 X0
  have hown : s.vm.findClass "com/example/bunkerline/bunkerline/TextHash" = some m.cls := hown
  have hml : c.maxLocals = 2 := hml
  have hnm : meth.name = "isLonger" := hnm
  have hret : meth.sig.returnType = (some .boolean) := hret
  have N0 := Fr.nil n0
  refine Till.cast (ef_1 m q1) ?_
  show Till p e below s (Q1 Z q1 h0 n0) room1.cells room1.slots (s₁.setTop (mkF m 0 #[.val (.long q1), .second] []))
  refine Till.pre (fun _ hr => XS.lloadN X0.here hx rfl (hb hby d1_0) rfl hr) ?_
  show Till p e below s (Q1 Z q1 h0 n0) room1.cells room1.slots (s₁.setTop (mkF m 1 #[.val (.long q1), .second] [(.long q1)]))
  refine Till.pre (X0.ldc2Long hx hown (mvT hZ (hw _ (List.mem_of_getElem? (i := 5) rfl))) (g := (mkF m 1 #[.val (.long q1), .second] [(.long q1)])) rfl (hb hby d1_1)) ?_
  show Till p e below s (Q1 Z q1 h0 n0) room1.cells room1.slots (s₁.setTop (mkF m 4 #[.val (.long q1), .second] [(.long (-72057594037927936 : Int64)), (.long q1)]))
  refine Till.pre (fun _ hr => XS.land X0.here hx rfl (hb hby d1_4) rfl hr) ?_
  show Till p e below s (Q1 Z q1 h0 n0) room1.cells room1.slots (s₁.setTop (mkF m 5 #[.val (.long q1), .second] [(.long (q1 &&& (-72057594037927936 : Int64)))]))
  refine Till.pre (X0.ldc2Long hx hown (mvT hZ (hw _ (List.mem_of_getElem? (i := 5) rfl))) (g := (mkF m 5 #[.val (.long q1), .second] [(.long (q1 &&& (-72057594037927936 : Int64)))])) rfl (hb hby d1_5)) ?_
  show Till p e below s (Q1 Z q1 h0 n0) room1.cells room1.slots (s₁.setTop (mkF m 8 #[.val (.long q1), .second] [(.long (-72057594037927936 : Int64)), (.long (q1 &&& (-72057594037927936 : Int64)))]))
  refine Till.pre (fun _ hr => XS.lcmp X0.here hx rfl (hb hby d1_8) rfl hr) ?_
  show Till p e below s (Q1 Z q1 h0 n0) room1.cells room1.slots (s₁.setTop (mkF m 9 #[.val (.long q1), .second] [(.int (lcmpW (q1 &&& (-72057594037927936 : Int64)) (-72057594037927936 : Int64)))]))
  have J17_1 : ∀ (v17s0 : Int32) (hv17s0 : v17s0 = (if ((q1 &&& (-72057594037927936 : Int64)) = (-72057594037927936 : Int64)) then (1 : Int32) else (0 : Int32))), Till p e below s (Q1 Z q1 h0 n0) room1.cells room1.slots (s₁.setTop (mkF m 17 #[.val (.long q1), .second] [(.int v17s0)])) := by
    intro v17s0 hv17s0
    show Till p e below s (Q1 Z q1 h0 n0) room1.cells room1.slots (s₁.setTop (mkF m 17 #[.val (.long q1), .second] [(.int v17s0)]))
    refine Till.retZ (w := (v17s0 &&& 1)) X0 hx hret hlk (hb hby d1_17) (by decide) (by decide) (rfl) ?_
    subst hv17s0
    exact ⟨rfl, N0, e0⟩
  refine Till.ifc (pc' := 16) X0.here hx (hb hby d1_9) (by decide) (by decide) (fun q => ?_) (fun q => ?_)
  · have hc1 := (mt lEq.mpr (hEq.2.2.1 q))
    show Till p e below s (Q1 Z q1 h0 n0) room1.cells room1.slots (s₁.setTop (mkF m 16 #[.val (.long q1), .second] []))
    refine Till.pre (fun _ hr => XS.iconst X0.here hx rfl (hb hby d1_16) hr) ?_
    show Till p e below s (Q1 Z q1 h0 n0) room1.cells room1.slots (s₁.setTop (mkF m 17 #[.val (.long q1), .second] [(.int (0 : Int32))]))
    exact J17_1 _ (Eq.symm (if_neg hc1))
  · have hc1 := (lEq.mp (hEq.2.2.2 q))
    show Till p e below s (Q1 Z q1 h0 n0) room1.cells room1.slots (s₁.setTop (mkF m 12 #[.val (.long q1), .second] []))
    refine Till.pre (fun _ hr => XS.iconst X0.here hx rfl (hb hby d1_12) hr) ?_
    show Till p e below s (Q1 Z q1 h0 n0) room1.cells room1.slots (s₁.setTop (mkF m 13 #[.val (.long q1), .second] [(.int (1 : Int32))]))
    refine Till.pre (fun _ hr => XS.goto X0.here hx rfl (pc0 := 13) (pc' := 17) rfl (hb hby d1_13) (by decide) (by decide) hr) ?_
    show Till p e below s (Q1 Z q1 h0 n0) room1.cells room1.slots (s₁.setTop (mkF m 17 #[.val (.long q1), .second] [(.int (1 : Int32))]))
    exact J17_1 _ (Eq.symm (if_pos hc1))
theorem own_and (q : Int64) : ((q &&& (-72057594037927936 : Int64)) = (-72057594037927936 : Int64)) ↔ (-72057594037927936 ≤ q.toInt ∧ q.toInt < 0) := by
  have h1 : q = (q &&& (72057594037927935 : Int64)) + (q &&& (-72057594037927936 : Int64)) := by
    apply Int64.toBitVec_inj.mp
    rw [Int64.toBitVec_add, Int64.toBitVec_and, Int64.toBitVec_and]
    show q.toBitVec = (q.toBitVec &&& 72057594037927935#64) + (q.toBitVec &&& ~~~72057594037927935#64)
    generalize q.toBitVec = b
    rw [BitVec.add_eq_or_of_and_eq_zero]
    · ext i; simp only [BitVec.getElem_or, BitVec.getElem_and, BitVec.getElem_not]; cases b[i] <;> cases (72057594037927935#64)[i] <;> rfl
    · ext i; simp only [BitVec.getElem_and, BitVec.getElem_not, BitVec.getElem_zero]; cases b[i] <;> cases (72057594037927935#64)[i] <;> rfl
  have h2 := c_maskL q 72057594037927935 56 (by decide) (by decide)
  have h3 := c_ladd (q &&& (72057594037927935 : Int64)) (q &&& (-72057594037927936 : Int64))
  rw [← h1] at h3
  have h4 := rng64 (q &&& (-72057594037927936 : Int64))
  have h5 := rng64 q
  rw [← Int64.toInt_inj, show (-72057594037927936 : Int64).toInt = -72057594037927936 from rfl]
  omega
theorem own_f (q : Int64) : fn1 q = if (q &&& (-72057594037927936 : Int64)) = (-72057594037927936 : Int64) then (1 : Int32) else (0 : Int32) := by unfold fn1; split <;> rfl
theorem own_p (q : Int64) : fn1 q = (if (q < (-72057594037927936 : Int64)) then (0 : Int32) else (if (q < (0 : Int64)) then (1 : Int32) else (0 : Int32))) := by
  have h := own_and q
  rw [own_f]
  by_cases c : (q &&& (-72057594037927936 : Int64)) = (-72057594037927936 : Int64)
  · have := h.mp c
    rw [if_pos c, if_neg, if_pos]
    · rw [Int64.lt_iff_toInt_lt, show (0 : Int64).toInt = 0 from rfl]; omega
    · rw [Int64.lt_iff_toInt_lt, show (-72057594037927936 : Int64).toInt = -72057594037927936 from rfl]; omega
  · have : ¬ (-72057594037927936 ≤ q.toInt ∧ q.toInt < 0) := fun z => c (h.mpr z)
    rw [if_neg c]
    split
    · rfl
    · rename_i hn
      rw [if_neg]
      rw [Int64.lt_iff_toInt_lt, show (-72057594037927936 : Int64).toInt = -72057594037927936 from rfl] at hn
      rw [Int64.lt_iff_toInt_lt, show (0 : Int64).toInt = 0 from rfl]; omega
theorem own_m (q : Int64) : fn1 (q ||| (-72057594037927936 : Int64)) = 1 := by
  rw [own_f, if_pos]
  apply Int64.toBitVec_inj.mp
  rw [Int64.toBitVec_and, Int64.toBitVec_or]
  generalize q.toBitVec = b
  generalize (-72057594037927936 : Int64).toBitVec = d
  ext i; simp only [BitVec.getElem_or, BitVec.getElem_and]; cases b[i] <;> cases d[i] <;> rfl
theorem own_s (q : Int64) (p : Int32) : fn1 ((q &&& (72057594037927935 : Int64)) ||| (((p &&& (7 : Int32)) + (1 : Int32)).toInt64 <<< ((56 : Int32) &&& 0x3f).toInt64)) = 0 := by
  rw [own_f, if_neg]
  intro h
  have a1 := c_maskL q 72057594037927935 56 (by decide) (by decide)
  have a2 := c_mask p 7 3 (by decide) (by decide)
  have a3 := c_iadd (p &&& 7) 1
  have a4 := rng32 ((p &&& 7) + 1)
  have a5 := c_i2l ((p &&& 7) + 1)
  have a6 := c_lshl ((p &&& 7) + 1).toInt64 56 56 (by decide)
  have a7 := rng64 (((p &&& (7 : Int32)) + (1 : Int32)).toInt64 <<< ((56 : Int32) &&& 0x3f).toInt64)
  have e1 : (1 : Int32).toInt = 1 := rfl
  have b1 : 0 ≤ (q &&& (72057594037927935 : Int64)).toInt := by omega
  have b2 : 0 ≤ (((p &&& (7 : Int32)) + (1 : Int32)).toInt64 <<< ((56 : Int32) &&& 0x3f).toInt64).toInt := by omega
  have b3 := (c_orSL _ _).1 b1 b2
  have b4 := (c_andSL _ (-72057594037927936 : Int64)).2.1 b3
  rw [h] at b4
  exact absurd b4 (by decide)
theorem pn_0 : plainName "com/example/bunkerline/bunkerline/TextHashIsLongerPinLaw" = true := by first | (simp [plainName, overriddenIn]; done) | decide +kernel
theorem pd0_0 : parseMethodDescriptor "(J)Z" = some ⟨[.long], some .boolean⟩ := by decide +kernel
theorem ef_0 (m : MethodId) (q1 : Int64) (p2 : Int32) : entryFrame m #[(.long q1), (.int p2)] maxLocals = mkF m 0 #[.val (.long q1), .second, .val (.int p2), .unset, .unset, .unset, .unset, .unset, .unset, .unset, .unset, .unset, .unset] [] := by first | (simp [entryFrame, mkF, argsToLocals, Value.category, maxLocals]; done) | rfl
def Q0 (Z : State) (q1 : Int64) (p2 : Int32) (h0 : Heap) (n0 : Nat) : Option Value → Heap → List Loc → Prop := fun v h L => v = some (.int 1) ∧ Fr n0 L
set_option maxRecDepth 65536 in
set_option maxHeartbeats 40000000 in
theorem rm0 (l : Launch) (Z : State) (a0 : Array Value) (hw : ∀ d ∈ tables_1, d.before a0 Z = true) (q1 : Int64) (p2 : Int32) (h0 : Heap) (n0 : Nat) (Zs : n0 ≤ h0.size) : Ctr l Z x code maxLocals ret room_1 #[(.long q1), (.int p2)] h0 (Q0 Z q1 p2 h0 n0) := by
  refine Ctr.of (plainFor_of_name pn_0) ?_
  intro p e s m below meth c s₁ hx hby hml hown hnm hret hlk hZ e0 X0
  have hown : s.vm.findClass "com/example/bunkerline/bunkerline/TextHashIsLongerPinLaw" = some m.cls := hown
  have hml : c.maxLocals = 13 := hml
  have hnm : meth.name = "law" := hnm
  have hret : meth.sig.returnType = (some .boolean) := hret
  have N0 := Fr.nil n0
  refine Till.cast (ef_0 m q1 p2) ?_
  show Till p e below s (Q0 Z q1 p2 h0 n0) room_1.cells room_1.slots (s₁.setTop (mkF m 0 #[.val (.long q1), .second, .val (.int p2), .unset, .unset, .unset, .unset, .unset, .unset, .unset, .unset, .unset, .unset] []))
  refine Till.pre (X0.ldc2Long hx hown (mvT hZ (hw _ (List.mem_of_getElem? (i := 0) rfl))) (g := (mkF m 0 #[.val (.long q1), .second, .val (.int p2), .unset, .unset, .unset, .unset, .unset, .unset, .unset, .unset, .unset, .unset] [])) rfl (hb hby at_0)) ?_
  show Till p e below s (Q0 Z q1 p2 h0 n0) room_1.cells room_1.slots (s₁.setTop (mkF m 3 #[.val (.long q1), .second, .val (.int p2), .unset, .unset, .unset, .unset, .unset, .unset, .unset, .unset, .unset, .unset] [(.long (-72057594037927936 : Int64))]))
  refine Till.pre (fun _ hr => XS.lstoreN X0.here hx rfl (hb hby at_3) rfl (l' := #[.val (.long q1), .second, .val (.int p2), .val (.long (-72057594037927936 : Int64)), .second, .unset, .unset, .unset, .unset, .unset, .unset, .unset, .unset]) rfl hr) ?_
  show Till p e below s (Q0 Z q1 p2 h0 n0) room_1.cells room_1.slots (s₁.setTop (mkF m 4 #[.val (.long q1), .second, .val (.int p2), .val (.long (-72057594037927936 : Int64)), .second, .unset, .unset, .unset, .unset, .unset, .unset, .unset, .unset] []))
  refine Till.pre (fun _ hr => XS.lloadN X0.here hx rfl (hb hby at_4) rfl hr) ?_
  show Till p e below s (Q0 Z q1 p2 h0 n0) room_1.cells room_1.slots (s₁.setTop (mkF m 5 #[.val (.long q1), .second, .val (.int p2), .val (.long (-72057594037927936 : Int64)), .second, .unset, .unset, .unset, .unset, .unset, .unset, .unset, .unset] [(.long q1)]))
  refine Till.pre (fun _ hr => XS.lloadN X0.here hx rfl (hb hby at_5) rfl hr) ?_
  show Till p e below s (Q0 Z q1 p2 h0 n0) room_1.cells room_1.slots (s₁.setTop (mkF m 6 #[.val (.long q1), .second, .val (.int p2), .val (.long (-72057594037927936 : Int64)), .second, .unset, .unset, .unset, .unset, .unset, .unset, .unset, .unset] [(.long (-72057594037927936 : Int64)), (.long q1)]))
  refine Till.pre (fun _ hr => XS.lcmp X0.here hx rfl (hb hby at_6) rfl hr) ?_
  show Till p e below s (Q0 Z q1 p2 h0 n0) room_1.cells room_1.slots (s₁.setTop (mkF m 7 #[.val (.long q1), .second, .val (.int p2), .val (.long (-72057594037927936 : Int64)), .second, .unset, .unset, .unset, .unset, .unset, .unset, .unset, .unset] [(.int (lcmpW q1 (-72057594037927936 : Int64)))]))
  have J21_2 : ∀ (v21s0 : Int32) (hv21s0 : v21s0 = (if (q1 < (-72057594037927936 : Int64)) then (0 : Int32) else (if (q1 < (0 : Int64)) then (1 : Int32) else (0 : Int32)))), Till p e below s (Q0 Z q1 p2 h0 n0) room_1.cells room_1.slots (s₁.setTop (mkF m 21 #[.val (.long q1), .second, .val (.int p2), .val (.long (-72057594037927936 : Int64)), .second, .unset, .unset, .unset, .unset, .unset, .unset, .unset, .unset] [(.int v21s0)])) := by
    intro v21s0 hv21s0
    show Till p e below s (Q0 Z q1 p2 h0 n0) room_1.cells room_1.slots (s₁.setTop (mkF m 21 #[.val (.long q1), .second, .val (.int p2), .val (.long (-72057594037927936 : Int64)), .second, .unset, .unset, .unset, .unset, .unset, .unset, .unset, .unset] [(.int v21s0)]))
    refine Till.pre (fun _ hr => XS.istore X0.here hx rfl (hb hby at_21) rfl (l' := #[.val (.long q1), .second, .val (.int p2), .val (.long (-72057594037927936 : Int64)), .second, .val (.int v21s0), .unset, .unset, .unset, .unset, .unset, .unset, .unset]) rfl hr) ?_
    show Till p e below s (Q0 Z q1 p2 h0 n0) room_1.cells room_1.slots (s₁.setTop (mkF m 23 #[.val (.long q1), .second, .val (.int p2), .val (.long (-72057594037927936 : Int64)), .second, .val (.int v21s0), .unset, .unset, .unset, .unset, .unset, .unset, .unset] []))
    refine Till.pre (fun _ hr => XS.lloadN X0.here hx rfl (hb hby at_23) rfl hr) ?_
    show Till p e below s (Q0 Z q1 p2 h0 n0) room_1.cells room_1.slots (s₁.setTop (mkF m 24 #[.val (.long q1), .second, .val (.int p2), .val (.long (-72057594037927936 : Int64)), .second, .val (.int v21s0), .unset, .unset, .unset, .unset, .unset, .unset, .unset] [(.long q1)]))
    refine Till.callS (rm1 l Z a0 hw q1 h0 n0) X0 hx hZ hown (hw _ (List.mem_of_getElem? (i := 1) rfl)) (hw _ (List.mem_of_getElem? (i := 2) rfl)) (hw _ (List.mem_of_getElem? (i := 3) rfl)) (hw _ (List.mem_of_getElem? (i := 4) rfl)) (by decide) (by decide) (W := 0) (by decide) (by rw [hml]; rfl) (argsL := [(.long q1)]) (rest := []) (lenOf pd0_0 rfl) rfl rfl (Nat.le_of_eq rfl) (hb hby at_24) e0 (by decide) (by decide) ?_
    rintro _ T4 L5 X6 ⟨rfl, N7, e8⟩
    have N7 := Fr.app N0 N7
    show Till p e below s (Q0 Z q1 p2 h0 n0) room_1.cells room_1.slots (T4.setTop (mkF m 27 #[.val (.long q1), .second, .val (.int p2), .val (.long (-72057594037927936 : Int64)), .second, .val (.int v21s0), .unset, .unset, .unset, .unset, .unset, .unset, .unset] [(.int (fn1 q1))]))
    refine Till.pre (fun _ hr => XS.iload X6.here hx rfl (hb hby at_27) rfl hr) ?_
    show Till p e below s (Q0 Z q1 p2 h0 n0) room_1.cells room_1.slots (T4.setTop (mkF m 29 #[.val (.long q1), .second, .val (.int p2), .val (.long (-72057594037927936 : Int64)), .second, .val (.int v21s0), .unset, .unset, .unset, .unset, .unset, .unset, .unset] [(.int v21s0), (.int (fn1 q1))]))
    have J37_9 : ∀ (v37s0 : Int32) (hv37s0 : v37s0 = (if ((fn1 q1) = v21s0) then (1 : Int32) else (0 : Int32))), Till p e below s (Q0 Z q1 p2 h0 n0) room_1.cells room_1.slots (T4.setTop (mkF m 37 #[.val (.long q1), .second, .val (.int p2), .val (.long (-72057594037927936 : Int64)), .second, .val (.int v21s0), .unset, .unset, .unset, .unset, .unset, .unset, .unset] [(.int v37s0)])) := by
      intro v37s0 hv37s0
      show Till p e below s (Q0 Z q1 p2 h0 n0) room_1.cells room_1.slots (T4.setTop (mkF m 37 #[.val (.long q1), .second, .val (.int p2), .val (.long (-72057594037927936 : Int64)), .second, .val (.int v21s0), .unset, .unset, .unset, .unset, .unset, .unset, .unset] [(.int v37s0)]))
      refine Till.pre (fun _ hr => XS.istore X6.here hx rfl (hb hby at_37) rfl (l' := #[.val (.long q1), .second, .val (.int p2), .val (.long (-72057594037927936 : Int64)), .second, .val (.int v21s0), .val (.int v37s0), .unset, .unset, .unset, .unset, .unset, .unset]) rfl hr) ?_
      show Till p e below s (Q0 Z q1 p2 h0 n0) room_1.cells room_1.slots (T4.setTop (mkF m 39 #[.val (.long q1), .second, .val (.int p2), .val (.long (-72057594037927936 : Int64)), .second, .val (.int v21s0), .val (.int v37s0), .unset, .unset, .unset, .unset, .unset, .unset] []))
      refine Till.pre (fun _ hr => XS.lloadN X6.here hx rfl (hb hby at_39) rfl hr) ?_
      show Till p e below s (Q0 Z q1 p2 h0 n0) room_1.cells room_1.slots (T4.setTop (mkF m 40 #[.val (.long q1), .second, .val (.int p2), .val (.long (-72057594037927936 : Int64)), .second, .val (.int v21s0), .val (.int v37s0), .unset, .unset, .unset, .unset, .unset, .unset] [(.long q1)]))
      refine Till.pre (X6.ldc2Long hx hown (mvT hZ (hw _ (List.mem_of_getElem? (i := 0) rfl))) (g := (mkF m 40 #[.val (.long q1), .second, .val (.int p2), .val (.long (-72057594037927936 : Int64)), .second, .val (.int v21s0), .val (.int v37s0), .unset, .unset, .unset, .unset, .unset, .unset] [(.long q1)])) rfl (hb hby at_40)) ?_
      show Till p e below s (Q0 Z q1 p2 h0 n0) room_1.cells room_1.slots (T4.setTop (mkF m 43 #[.val (.long q1), .second, .val (.int p2), .val (.long (-72057594037927936 : Int64)), .second, .val (.int v21s0), .val (.int v37s0), .unset, .unset, .unset, .unset, .unset, .unset] [(.long (-72057594037927936 : Int64)), (.long q1)]))
      refine Till.pre (fun _ hr => XS.lor X6.here hx rfl (hb hby at_43) rfl hr) ?_
      show Till p e below s (Q0 Z q1 p2 h0 n0) room_1.cells room_1.slots (T4.setTop (mkF m 44 #[.val (.long q1), .second, .val (.int p2), .val (.long (-72057594037927936 : Int64)), .second, .val (.int v21s0), .val (.int v37s0), .unset, .unset, .unset, .unset, .unset, .unset] [(.long (q1 ||| (-72057594037927936 : Int64)))]))
      refine Till.pre (fun _ hr => XS.lstore X6.here hx rfl (hb hby at_44) rfl (l' := #[.val (.long q1), .second, .val (.int p2), .val (.long (-72057594037927936 : Int64)), .second, .val (.int v21s0), .val (.int v37s0), .val (.long (q1 ||| (-72057594037927936 : Int64))), .second, .unset, .unset, .unset, .unset]) rfl hr) ?_
      show Till p e below s (Q0 Z q1 p2 h0 n0) room_1.cells room_1.slots (T4.setTop (mkF m 46 #[.val (.long q1), .second, .val (.int p2), .val (.long (-72057594037927936 : Int64)), .second, .val (.int v21s0), .val (.int v37s0), .val (.long (q1 ||| (-72057594037927936 : Int64))), .second, .unset, .unset, .unset, .unset] []))
      refine Till.pre (fun _ hr => XS.lload X6.here hx rfl (hb hby at_46) rfl hr) ?_
      show Till p e below s (Q0 Z q1 p2 h0 n0) room_1.cells room_1.slots (T4.setTop (mkF m 48 #[.val (.long q1), .second, .val (.int p2), .val (.long (-72057594037927936 : Int64)), .second, .val (.int v21s0), .val (.int v37s0), .val (.long (q1 ||| (-72057594037927936 : Int64))), .second, .unset, .unset, .unset, .unset] [(.long (q1 ||| (-72057594037927936 : Int64)))]))
      refine Till.callS (rm1 l Z a0 hw (q1 ||| (-72057594037927936 : Int64)) h0 n0) X6 hx hZ hown (hw _ (List.mem_of_getElem? (i := 1) rfl)) (hw _ (List.mem_of_getElem? (i := 2) rfl)) (hw _ (List.mem_of_getElem? (i := 3) rfl)) (hw _ (List.mem_of_getElem? (i := 4) rfl)) (by decide) (by decide) (W := 0) (by decide) (by rw [hml]; rfl) (argsL := [(.long (q1 ||| (-72057594037927936 : Int64)))]) (rest := []) (lenOf pd0_0 rfl) rfl rfl (Nat.le_of_eq rfl) (hb hby at_48) e8 (by decide) (by decide) ?_
      rintro _ T11 L12 X13 ⟨rfl, N14, e15⟩
      have N14 := Fr.app N7 N14
      show Till p e below s (Q0 Z q1 p2 h0 n0) room_1.cells room_1.slots (T11.setTop (mkF m 51 #[.val (.long q1), .second, .val (.int p2), .val (.long (-72057594037927936 : Int64)), .second, .val (.int v21s0), .val (.int v37s0), .val (.long (q1 ||| (-72057594037927936 : Int64))), .second, .unset, .unset, .unset, .unset] [(.int (fn1 (q1 ||| (-72057594037927936 : Int64))))]))
      refine Till.pre (fun _ hr => XS.istore X13.here hx rfl (hb hby at_51) rfl (l' := #[.val (.long q1), .second, .val (.int p2), .val (.long (-72057594037927936 : Int64)), .second, .val (.int v21s0), .val (.int v37s0), .val (.long (q1 ||| (-72057594037927936 : Int64))), .second, .val (.int (fn1 (q1 ||| (-72057594037927936 : Int64)))), .unset, .unset, .unset]) rfl hr) ?_
      show Till p e below s (Q0 Z q1 p2 h0 n0) room_1.cells room_1.slots (T11.setTop (mkF m 53 #[.val (.long q1), .second, .val (.int p2), .val (.long (-72057594037927936 : Int64)), .second, .val (.int v21s0), .val (.int v37s0), .val (.long (q1 ||| (-72057594037927936 : Int64))), .second, .val (.int (fn1 (q1 ||| (-72057594037927936 : Int64)))), .unset, .unset, .unset] []))
      refine Till.pre (fun _ hr => XS.lloadN X13.here hx rfl (hb hby at_53) rfl hr) ?_
      show Till p e below s (Q0 Z q1 p2 h0 n0) room_1.cells room_1.slots (T11.setTop (mkF m 54 #[.val (.long q1), .second, .val (.int p2), .val (.long (-72057594037927936 : Int64)), .second, .val (.int v21s0), .val (.int v37s0), .val (.long (q1 ||| (-72057594037927936 : Int64))), .second, .val (.int (fn1 (q1 ||| (-72057594037927936 : Int64)))), .unset, .unset, .unset] [(.long q1)]))
      refine Till.pre (X13.ldc2Long hx hown (mvT hZ (hw _ (List.mem_of_getElem? (i := 6) rfl))) (g := (mkF m 54 #[.val (.long q1), .second, .val (.int p2), .val (.long (-72057594037927936 : Int64)), .second, .val (.int v21s0), .val (.int v37s0), .val (.long (q1 ||| (-72057594037927936 : Int64))), .second, .val (.int (fn1 (q1 ||| (-72057594037927936 : Int64)))), .unset, .unset, .unset] [(.long q1)])) rfl (hb hby at_54)) ?_
      show Till p e below s (Q0 Z q1 p2 h0 n0) room_1.cells room_1.slots (T11.setTop (mkF m 57 #[.val (.long q1), .second, .val (.int p2), .val (.long (-72057594037927936 : Int64)), .second, .val (.int v21s0), .val (.int v37s0), .val (.long (q1 ||| (-72057594037927936 : Int64))), .second, .val (.int (fn1 (q1 ||| (-72057594037927936 : Int64)))), .unset, .unset, .unset] [(.long (72057594037927935 : Int64)), (.long q1)]))
      refine Till.pre (fun _ hr => XS.land X13.here hx rfl (hb hby at_57) rfl hr) ?_
      show Till p e below s (Q0 Z q1 p2 h0 n0) room_1.cells room_1.slots (T11.setTop (mkF m 58 #[.val (.long q1), .second, .val (.int p2), .val (.long (-72057594037927936 : Int64)), .second, .val (.int v21s0), .val (.int v37s0), .val (.long (q1 ||| (-72057594037927936 : Int64))), .second, .val (.int (fn1 (q1 ||| (-72057594037927936 : Int64)))), .unset, .unset, .unset] [(.long (q1 &&& (72057594037927935 : Int64)))]))
      refine Till.pre (fun _ hr => XS.iloadN X13.here hx rfl (hb hby at_58) rfl hr) ?_
      show Till p e below s (Q0 Z q1 p2 h0 n0) room_1.cells room_1.slots (T11.setTop (mkF m 59 #[.val (.long q1), .second, .val (.int p2), .val (.long (-72057594037927936 : Int64)), .second, .val (.int v21s0), .val (.int v37s0), .val (.long (q1 ||| (-72057594037927936 : Int64))), .second, .val (.int (fn1 (q1 ||| (-72057594037927936 : Int64)))), .unset, .unset, .unset] [(.int p2), (.long (q1 &&& (72057594037927935 : Int64)))]))
      refine Till.pre (fun _ hr => XS.bipush X13.here hx rfl (hb hby at_59) hr) ?_
      show Till p e below s (Q0 Z q1 p2 h0 n0) room_1.cells room_1.slots (T11.setTop (mkF m 61 #[.val (.long q1), .second, .val (.int p2), .val (.long (-72057594037927936 : Int64)), .second, .val (.int v21s0), .val (.int v37s0), .val (.long (q1 ||| (-72057594037927936 : Int64))), .second, .val (.int (fn1 (q1 ||| (-72057594037927936 : Int64)))), .unset, .unset, .unset] [(.int (7 : Int32)), (.int p2), (.long (q1 &&& (72057594037927935 : Int64)))]))
      refine Till.pre (fun _ hr => XS.iand X13.here hx rfl (hb hby at_61) rfl hr) ?_
      show Till p e below s (Q0 Z q1 p2 h0 n0) room_1.cells room_1.slots (T11.setTop (mkF m 62 #[.val (.long q1), .second, .val (.int p2), .val (.long (-72057594037927936 : Int64)), .second, .val (.int v21s0), .val (.int v37s0), .val (.long (q1 ||| (-72057594037927936 : Int64))), .second, .val (.int (fn1 (q1 ||| (-72057594037927936 : Int64)))), .unset, .unset, .unset] [(.int (p2 &&& (7 : Int32))), (.long (q1 &&& (72057594037927935 : Int64)))]))
      refine Till.pre (fun _ hr => XS.iconst X13.here hx rfl (hb hby at_62) hr) ?_
      show Till p e below s (Q0 Z q1 p2 h0 n0) room_1.cells room_1.slots (T11.setTop (mkF m 63 #[.val (.long q1), .second, .val (.int p2), .val (.long (-72057594037927936 : Int64)), .second, .val (.int v21s0), .val (.int v37s0), .val (.long (q1 ||| (-72057594037927936 : Int64))), .second, .val (.int (fn1 (q1 ||| (-72057594037927936 : Int64)))), .unset, .unset, .unset] [(.int (1 : Int32)), (.int (p2 &&& (7 : Int32))), (.long (q1 &&& (72057594037927935 : Int64)))]))
      refine Till.pre (fun _ hr => XS.iadd X13.here hx rfl (hb hby at_63) rfl hr) ?_
      show Till p e below s (Q0 Z q1 p2 h0 n0) room_1.cells room_1.slots (T11.setTop (mkF m 64 #[.val (.long q1), .second, .val (.int p2), .val (.long (-72057594037927936 : Int64)), .second, .val (.int v21s0), .val (.int v37s0), .val (.long (q1 ||| (-72057594037927936 : Int64))), .second, .val (.int (fn1 (q1 ||| (-72057594037927936 : Int64)))), .unset, .unset, .unset] [(.int ((p2 &&& (7 : Int32)) + (1 : Int32))), (.long (q1 &&& (72057594037927935 : Int64)))]))
      refine Till.pre (fun _ hr => XS.i2l X13.here hx rfl (hb hby at_64) rfl hr) ?_
      show Till p e below s (Q0 Z q1 p2 h0 n0) room_1.cells room_1.slots (T11.setTop (mkF m 65 #[.val (.long q1), .second, .val (.int p2), .val (.long (-72057594037927936 : Int64)), .second, .val (.int v21s0), .val (.int v37s0), .val (.long (q1 ||| (-72057594037927936 : Int64))), .second, .val (.int (fn1 (q1 ||| (-72057594037927936 : Int64)))), .unset, .unset, .unset] [(.long ((p2 &&& (7 : Int32)) + (1 : Int32)).toInt64), (.long (q1 &&& (72057594037927935 : Int64)))]))
      refine Till.pre (fun _ hr => XS.bipush X13.here hx rfl (hb hby at_65) hr) ?_
      show Till p e below s (Q0 Z q1 p2 h0 n0) room_1.cells room_1.slots (T11.setTop (mkF m 67 #[.val (.long q1), .second, .val (.int p2), .val (.long (-72057594037927936 : Int64)), .second, .val (.int v21s0), .val (.int v37s0), .val (.long (q1 ||| (-72057594037927936 : Int64))), .second, .val (.int (fn1 (q1 ||| (-72057594037927936 : Int64)))), .unset, .unset, .unset] [(.int (56 : Int32)), (.long ((p2 &&& (7 : Int32)) + (1 : Int32)).toInt64), (.long (q1 &&& (72057594037927935 : Int64)))]))
      refine Till.pre (fun _ hr => XS.lshl X13.here hx rfl (hb hby at_67) rfl hr) ?_
      show Till p e below s (Q0 Z q1 p2 h0 n0) room_1.cells room_1.slots (T11.setTop (mkF m 68 #[.val (.long q1), .second, .val (.int p2), .val (.long (-72057594037927936 : Int64)), .second, .val (.int v21s0), .val (.int v37s0), .val (.long (q1 ||| (-72057594037927936 : Int64))), .second, .val (.int (fn1 (q1 ||| (-72057594037927936 : Int64)))), .unset, .unset, .unset] [(.long (((p2 &&& (7 : Int32)) + (1 : Int32)).toInt64 <<< ((56 : Int32) &&& 0x3f).toInt64)), (.long (q1 &&& (72057594037927935 : Int64)))]))
      refine Till.pre (fun _ hr => XS.lor X13.here hx rfl (hb hby at_68) rfl hr) ?_
      show Till p e below s (Q0 Z q1 p2 h0 n0) room_1.cells room_1.slots (T11.setTop (mkF m 69 #[.val (.long q1), .second, .val (.int p2), .val (.long (-72057594037927936 : Int64)), .second, .val (.int v21s0), .val (.int v37s0), .val (.long (q1 ||| (-72057594037927936 : Int64))), .second, .val (.int (fn1 (q1 ||| (-72057594037927936 : Int64)))), .unset, .unset, .unset] [(.long ((q1 &&& (72057594037927935 : Int64)) ||| (((p2 &&& (7 : Int32)) + (1 : Int32)).toInt64 <<< ((56 : Int32) &&& 0x3f).toInt64)))]))
      refine Till.pre (fun _ hr => XS.lstore X13.here hx rfl (hb hby at_69) rfl (l' := #[.val (.long q1), .second, .val (.int p2), .val (.long (-72057594037927936 : Int64)), .second, .val (.int v21s0), .val (.int v37s0), .val (.long (q1 ||| (-72057594037927936 : Int64))), .second, .val (.int (fn1 (q1 ||| (-72057594037927936 : Int64)))), .val (.long ((q1 &&& (72057594037927935 : Int64)) ||| (((p2 &&& (7 : Int32)) + (1 : Int32)).toInt64 <<< ((56 : Int32) &&& 0x3f).toInt64))), .second, .unset]) rfl hr) ?_
      show Till p e below s (Q0 Z q1 p2 h0 n0) room_1.cells room_1.slots (T11.setTop (mkF m 71 #[.val (.long q1), .second, .val (.int p2), .val (.long (-72057594037927936 : Int64)), .second, .val (.int v21s0), .val (.int v37s0), .val (.long (q1 ||| (-72057594037927936 : Int64))), .second, .val (.int (fn1 (q1 ||| (-72057594037927936 : Int64)))), .val (.long ((q1 &&& (72057594037927935 : Int64)) ||| (((p2 &&& (7 : Int32)) + (1 : Int32)).toInt64 <<< ((56 : Int32) &&& 0x3f).toInt64))), .second, .unset] []))
      refine Till.pre (fun _ hr => XS.lload X13.here hx rfl (hb hby at_71) rfl hr) ?_
      show Till p e below s (Q0 Z q1 p2 h0 n0) room_1.cells room_1.slots (T11.setTop (mkF m 73 #[.val (.long q1), .second, .val (.int p2), .val (.long (-72057594037927936 : Int64)), .second, .val (.int v21s0), .val (.int v37s0), .val (.long (q1 ||| (-72057594037927936 : Int64))), .second, .val (.int (fn1 (q1 ||| (-72057594037927936 : Int64)))), .val (.long ((q1 &&& (72057594037927935 : Int64)) ||| (((p2 &&& (7 : Int32)) + (1 : Int32)).toInt64 <<< ((56 : Int32) &&& 0x3f).toInt64))), .second, .unset] [(.long ((q1 &&& (72057594037927935 : Int64)) ||| (((p2 &&& (7 : Int32)) + (1 : Int32)).toInt64 <<< ((56 : Int32) &&& 0x3f).toInt64)))]))
      refine Till.callS (rm1 l Z a0 hw ((q1 &&& (72057594037927935 : Int64)) ||| (((p2 &&& (7 : Int32)) + (1 : Int32)).toInt64 <<< ((56 : Int32) &&& 0x3f).toInt64)) h0 n0) X13 hx hZ hown (hw _ (List.mem_of_getElem? (i := 1) rfl)) (hw _ (List.mem_of_getElem? (i := 2) rfl)) (hw _ (List.mem_of_getElem? (i := 3) rfl)) (hw _ (List.mem_of_getElem? (i := 4) rfl)) (by decide) (by decide) (W := 0) (by decide) (by rw [hml]; rfl) (argsL := [(.long ((q1 &&& (72057594037927935 : Int64)) ||| (((p2 &&& (7 : Int32)) + (1 : Int32)).toInt64 <<< ((56 : Int32) &&& 0x3f).toInt64)))]) (rest := []) (lenOf pd0_0 rfl) rfl rfl (Nat.le_of_eq rfl) (hb hby at_73) e15 (by decide) (by decide) ?_
      rintro _ T16 L17 X18 ⟨rfl, N19, e20⟩
      have N19 := Fr.app N14 N19
      show Till p e below s (Q0 Z q1 p2 h0 n0) room_1.cells room_1.slots (T16.setTop (mkF m 76 #[.val (.long q1), .second, .val (.int p2), .val (.long (-72057594037927936 : Int64)), .second, .val (.int v21s0), .val (.int v37s0), .val (.long (q1 ||| (-72057594037927936 : Int64))), .second, .val (.int (fn1 (q1 ||| (-72057594037927936 : Int64)))), .val (.long ((q1 &&& (72057594037927935 : Int64)) ||| (((p2 &&& (7 : Int32)) + (1 : Int32)).toInt64 <<< ((56 : Int32) &&& 0x3f).toInt64))), .second, .unset] [(.int (fn1 ((q1 &&& (72057594037927935 : Int64)) ||| (((p2 &&& (7 : Int32)) + (1 : Int32)).toInt64 <<< ((56 : Int32) &&& 0x3f).toInt64))))]))
      have J84_21 : ∀ (v84s0 : Int32) (hv84s0 : v84s0 = (if ((fn1 ((q1 &&& (72057594037927935 : Int64)) ||| (((p2 &&& (7 : Int32)) + (1 : Int32)).toInt64 <<< ((56 : Int32) &&& 0x3f).toInt64))) = (0 : Int32)) then (1 : Int32) else (0 : Int32))), Till p e below s (Q0 Z q1 p2 h0 n0) room_1.cells room_1.slots (T16.setTop (mkF m 84 #[.val (.long q1), .second, .val (.int p2), .val (.long (-72057594037927936 : Int64)), .second, .val (.int v21s0), .val (.int v37s0), .val (.long (q1 ||| (-72057594037927936 : Int64))), .second, .val (.int (fn1 (q1 ||| (-72057594037927936 : Int64)))), .val (.long ((q1 &&& (72057594037927935 : Int64)) ||| (((p2 &&& (7 : Int32)) + (1 : Int32)).toInt64 <<< ((56 : Int32) &&& 0x3f).toInt64))), .second, .unset] [(.int v84s0)])) := by
        intro v84s0 hv84s0
        show Till p e below s (Q0 Z q1 p2 h0 n0) room_1.cells room_1.slots (T16.setTop (mkF m 84 #[.val (.long q1), .second, .val (.int p2), .val (.long (-72057594037927936 : Int64)), .second, .val (.int v21s0), .val (.int v37s0), .val (.long (q1 ||| (-72057594037927936 : Int64))), .second, .val (.int (fn1 (q1 ||| (-72057594037927936 : Int64)))), .val (.long ((q1 &&& (72057594037927935 : Int64)) ||| (((p2 &&& (7 : Int32)) + (1 : Int32)).toInt64 <<< ((56 : Int32) &&& 0x3f).toInt64))), .second, .unset] [(.int v84s0)]))
        refine Till.pre (fun _ hr => XS.istore X18.here hx rfl (hb hby at_84) rfl (l' := #[.val (.long q1), .second, .val (.int p2), .val (.long (-72057594037927936 : Int64)), .second, .val (.int v21s0), .val (.int v37s0), .val (.long (q1 ||| (-72057594037927936 : Int64))), .second, .val (.int (fn1 (q1 ||| (-72057594037927936 : Int64)))), .val (.long ((q1 &&& (72057594037927935 : Int64)) ||| (((p2 &&& (7 : Int32)) + (1 : Int32)).toInt64 <<< ((56 : Int32) &&& 0x3f).toInt64))), .second, .val (.int v84s0)]) rfl hr) ?_
        show Till p e below s (Q0 Z q1 p2 h0 n0) room_1.cells room_1.slots (T16.setTop (mkF m 86 #[.val (.long q1), .second, .val (.int p2), .val (.long (-72057594037927936 : Int64)), .second, .val (.int v21s0), .val (.int v37s0), .val (.long (q1 ||| (-72057594037927936 : Int64))), .second, .val (.int (fn1 (q1 ||| (-72057594037927936 : Int64)))), .val (.long ((q1 &&& (72057594037927935 : Int64)) ||| (((p2 &&& (7 : Int32)) + (1 : Int32)).toInt64 <<< ((56 : Int32) &&& 0x3f).toInt64))), .second, .val (.int v84s0)] []))
        refine Till.pre (fun _ hr => XS.iload X18.here hx rfl (hb hby at_86) rfl hr) ?_
        show Till p e below s (Q0 Z q1 p2 h0 n0) room_1.cells room_1.slots (T16.setTop (mkF m 88 #[.val (.long q1), .second, .val (.int p2), .val (.long (-72057594037927936 : Int64)), .second, .val (.int v21s0), .val (.int v37s0), .val (.long (q1 ||| (-72057594037927936 : Int64))), .second, .val (.int (fn1 (q1 ||| (-72057594037927936 : Int64)))), .val (.long ((q1 &&& (72057594037927935 : Int64)) ||| (((p2 &&& (7 : Int32)) + (1 : Int32)).toInt64 <<< ((56 : Int32) &&& 0x3f).toInt64))), .second, .val (.int v84s0)] [(.int v37s0)]))
        have J106_25 : ∀ (v106s0 : Int32) (hv106s0 : v106s0 = (if (v37s0 = (0 : Int32)) then (0 : Int32) else (if ((fn1 (q1 ||| (-72057594037927936 : Int64))) = (0 : Int32)) then (0 : Int32) else (if (v84s0 = (0 : Int32)) then (0 : Int32) else (1 : Int32))))), Till p e below s (Q0 Z q1 p2 h0 n0) room_1.cells room_1.slots (T16.setTop (mkF m 106 #[.val (.long q1), .second, .val (.int p2), .val (.long (-72057594037927936 : Int64)), .second, .val (.int v21s0), .val (.int v37s0), .val (.long (q1 ||| (-72057594037927936 : Int64))), .second, .val (.int (fn1 (q1 ||| (-72057594037927936 : Int64)))), .val (.long ((q1 &&& (72057594037927935 : Int64)) ||| (((p2 &&& (7 : Int32)) + (1 : Int32)).toInt64 <<< ((56 : Int32) &&& 0x3f).toInt64))), .second, .val (.int v84s0)] [(.int v106s0)])) := by
          intro v106s0 hv106s0
          show Till p e below s (Q0 Z q1 p2 h0 n0) room_1.cells room_1.slots (T16.setTop (mkF m 106 #[.val (.long q1), .second, .val (.int p2), .val (.long (-72057594037927936 : Int64)), .second, .val (.int v21s0), .val (.int v37s0), .val (.long (q1 ||| (-72057594037927936 : Int64))), .second, .val (.int (fn1 (q1 ||| (-72057594037927936 : Int64)))), .val (.long ((q1 &&& (72057594037927935 : Int64)) ||| (((p2 &&& (7 : Int32)) + (1 : Int32)).toInt64 <<< ((56 : Int32) &&& 0x3f).toInt64))), .second, .val (.int v84s0)] [(.int v106s0)]))
          refine Till.retZ (w := (1 : Int32)) X18 hx hret hlk (hb hby at_106) (by decide) (by decide) (by rw [hv106s0, hv37s0, if_pos ((own_p q1).trans hv21s0.symm), if_neg (by decide), if_neg (by rw [own_m]; decide), hv84s0, if_pos (own_s q1 p2)]; decide) ?_
          exact ⟨rfl, N19⟩
        refine Till.ifc (pc' := 105) X18.here hx (hb hby at_88) (by decide) (by decide) (fun q => ?_) (fun q => ?_)
        · have hc23 := (hEq.1 q)
          show Till p e below s (Q0 Z q1 p2 h0 n0) room_1.cells room_1.slots (T16.setTop (mkF m 105 #[.val (.long q1), .second, .val (.int p2), .val (.long (-72057594037927936 : Int64)), .second, .val (.int v21s0), .val (.int v37s0), .val (.long (q1 ||| (-72057594037927936 : Int64))), .second, .val (.int (fn1 (q1 ||| (-72057594037927936 : Int64)))), .val (.long ((q1 &&& (72057594037927935 : Int64)) ||| (((p2 &&& (7 : Int32)) + (1 : Int32)).toInt64 <<< ((56 : Int32) &&& 0x3f).toInt64))), .second, .val (.int v84s0)] []))
          refine Till.pre (fun _ hr => XS.iconst X18.here hx rfl (hb hby at_105) hr) ?_
          show Till p e below s (Q0 Z q1 p2 h0 n0) room_1.cells room_1.slots (T16.setTop (mkF m 106 #[.val (.long q1), .second, .val (.int p2), .val (.long (-72057594037927936 : Int64)), .second, .val (.int v21s0), .val (.int v37s0), .val (.long (q1 ||| (-72057594037927936 : Int64))), .second, .val (.int (fn1 (q1 ||| (-72057594037927936 : Int64)))), .val (.long ((q1 &&& (72057594037927935 : Int64)) ||| (((p2 &&& (7 : Int32)) + (1 : Int32)).toInt64 <<< ((56 : Int32) &&& 0x3f).toInt64))), .second, .val (.int v84s0)] [(.int (0 : Int32))]))
          exact J106_25 _ (Eq.symm (if_pos hc23))
        · have hc23 := (hEq.2.1 q)
          show Till p e below s (Q0 Z q1 p2 h0 n0) room_1.cells room_1.slots (T16.setTop (mkF m 91 #[.val (.long q1), .second, .val (.int p2), .val (.long (-72057594037927936 : Int64)), .second, .val (.int v21s0), .val (.int v37s0), .val (.long (q1 ||| (-72057594037927936 : Int64))), .second, .val (.int (fn1 (q1 ||| (-72057594037927936 : Int64)))), .val (.long ((q1 &&& (72057594037927935 : Int64)) ||| (((p2 &&& (7 : Int32)) + (1 : Int32)).toInt64 <<< ((56 : Int32) &&& 0x3f).toInt64))), .second, .val (.int v84s0)] []))
          refine Till.pre (fun _ hr => XS.iload X18.here hx rfl (hb hby at_91) rfl hr) ?_
          show Till p e below s (Q0 Z q1 p2 h0 n0) room_1.cells room_1.slots (T16.setTop (mkF m 93 #[.val (.long q1), .second, .val (.int p2), .val (.long (-72057594037927936 : Int64)), .second, .val (.int v21s0), .val (.int v37s0), .val (.long (q1 ||| (-72057594037927936 : Int64))), .second, .val (.int (fn1 (q1 ||| (-72057594037927936 : Int64)))), .val (.long ((q1 &&& (72057594037927935 : Int64)) ||| (((p2 &&& (7 : Int32)) + (1 : Int32)).toInt64 <<< ((56 : Int32) &&& 0x3f).toInt64))), .second, .val (.int v84s0)] [(.int (fn1 (q1 ||| (-72057594037927936 : Int64))))]))
          refine Till.ifc (pc' := 105) X18.here hx (hb hby at_93) (by decide) (by decide) (fun q => ?_) (fun q => ?_)
          · have hc24 := (hEq.1 q)
            show Till p e below s (Q0 Z q1 p2 h0 n0) room_1.cells room_1.slots (T16.setTop (mkF m 105 #[.val (.long q1), .second, .val (.int p2), .val (.long (-72057594037927936 : Int64)), .second, .val (.int v21s0), .val (.int v37s0), .val (.long (q1 ||| (-72057594037927936 : Int64))), .second, .val (.int (fn1 (q1 ||| (-72057594037927936 : Int64)))), .val (.long ((q1 &&& (72057594037927935 : Int64)) ||| (((p2 &&& (7 : Int32)) + (1 : Int32)).toInt64 <<< ((56 : Int32) &&& 0x3f).toInt64))), .second, .val (.int v84s0)] []))
            refine Till.pre (fun _ hr => XS.iconst X18.here hx rfl (hb hby at_105) hr) ?_
            show Till p e below s (Q0 Z q1 p2 h0 n0) room_1.cells room_1.slots (T16.setTop (mkF m 106 #[.val (.long q1), .second, .val (.int p2), .val (.long (-72057594037927936 : Int64)), .second, .val (.int v21s0), .val (.int v37s0), .val (.long (q1 ||| (-72057594037927936 : Int64))), .second, .val (.int (fn1 (q1 ||| (-72057594037927936 : Int64)))), .val (.long ((q1 &&& (72057594037927935 : Int64)) ||| (((p2 &&& (7 : Int32)) + (1 : Int32)).toInt64 <<< ((56 : Int32) &&& 0x3f).toInt64))), .second, .val (.int v84s0)] [(.int (0 : Int32))]))
            exact J106_25 _ (Eq.symm ((if_neg hc23).trans (if_pos hc24)))
          · have hc24 := (hEq.2.1 q)
            show Till p e below s (Q0 Z q1 p2 h0 n0) room_1.cells room_1.slots (T16.setTop (mkF m 96 #[.val (.long q1), .second, .val (.int p2), .val (.long (-72057594037927936 : Int64)), .second, .val (.int v21s0), .val (.int v37s0), .val (.long (q1 ||| (-72057594037927936 : Int64))), .second, .val (.int (fn1 (q1 ||| (-72057594037927936 : Int64)))), .val (.long ((q1 &&& (72057594037927935 : Int64)) ||| (((p2 &&& (7 : Int32)) + (1 : Int32)).toInt64 <<< ((56 : Int32) &&& 0x3f).toInt64))), .second, .val (.int v84s0)] []))
            refine Till.pre (fun _ hr => XS.iload X18.here hx rfl (hb hby at_96) rfl hr) ?_
            show Till p e below s (Q0 Z q1 p2 h0 n0) room_1.cells room_1.slots (T16.setTop (mkF m 98 #[.val (.long q1), .second, .val (.int p2), .val (.long (-72057594037927936 : Int64)), .second, .val (.int v21s0), .val (.int v37s0), .val (.long (q1 ||| (-72057594037927936 : Int64))), .second, .val (.int (fn1 (q1 ||| (-72057594037927936 : Int64)))), .val (.long ((q1 &&& (72057594037927935 : Int64)) ||| (((p2 &&& (7 : Int32)) + (1 : Int32)).toInt64 <<< ((56 : Int32) &&& 0x3f).toInt64))), .second, .val (.int v84s0)] [(.int v84s0)]))
            refine Till.ifc (pc' := 105) X18.here hx (hb hby at_98) (by decide) (by decide) (fun q => ?_) (fun q => ?_)
            · have hc25 := (hEq.1 q)
              show Till p e below s (Q0 Z q1 p2 h0 n0) room_1.cells room_1.slots (T16.setTop (mkF m 105 #[.val (.long q1), .second, .val (.int p2), .val (.long (-72057594037927936 : Int64)), .second, .val (.int v21s0), .val (.int v37s0), .val (.long (q1 ||| (-72057594037927936 : Int64))), .second, .val (.int (fn1 (q1 ||| (-72057594037927936 : Int64)))), .val (.long ((q1 &&& (72057594037927935 : Int64)) ||| (((p2 &&& (7 : Int32)) + (1 : Int32)).toInt64 <<< ((56 : Int32) &&& 0x3f).toInt64))), .second, .val (.int v84s0)] []))
              refine Till.pre (fun _ hr => XS.iconst X18.here hx rfl (hb hby at_105) hr) ?_
              show Till p e below s (Q0 Z q1 p2 h0 n0) room_1.cells room_1.slots (T16.setTop (mkF m 106 #[.val (.long q1), .second, .val (.int p2), .val (.long (-72057594037927936 : Int64)), .second, .val (.int v21s0), .val (.int v37s0), .val (.long (q1 ||| (-72057594037927936 : Int64))), .second, .val (.int (fn1 (q1 ||| (-72057594037927936 : Int64)))), .val (.long ((q1 &&& (72057594037927935 : Int64)) ||| (((p2 &&& (7 : Int32)) + (1 : Int32)).toInt64 <<< ((56 : Int32) &&& 0x3f).toInt64))), .second, .val (.int v84s0)] [(.int (0 : Int32))]))
              exact J106_25 _ (Eq.symm ((if_neg hc23).trans ((if_neg hc24).trans (if_pos hc25))))
            · have hc25 := (hEq.2.1 q)
              show Till p e below s (Q0 Z q1 p2 h0 n0) room_1.cells room_1.slots (T16.setTop (mkF m 101 #[.val (.long q1), .second, .val (.int p2), .val (.long (-72057594037927936 : Int64)), .second, .val (.int v21s0), .val (.int v37s0), .val (.long (q1 ||| (-72057594037927936 : Int64))), .second, .val (.int (fn1 (q1 ||| (-72057594037927936 : Int64)))), .val (.long ((q1 &&& (72057594037927935 : Int64)) ||| (((p2 &&& (7 : Int32)) + (1 : Int32)).toInt64 <<< ((56 : Int32) &&& 0x3f).toInt64))), .second, .val (.int v84s0)] []))
              refine Till.pre (fun _ hr => XS.iconst X18.here hx rfl (hb hby at_101) hr) ?_
              show Till p e below s (Q0 Z q1 p2 h0 n0) room_1.cells room_1.slots (T16.setTop (mkF m 102 #[.val (.long q1), .second, .val (.int p2), .val (.long (-72057594037927936 : Int64)), .second, .val (.int v21s0), .val (.int v37s0), .val (.long (q1 ||| (-72057594037927936 : Int64))), .second, .val (.int (fn1 (q1 ||| (-72057594037927936 : Int64)))), .val (.long ((q1 &&& (72057594037927935 : Int64)) ||| (((p2 &&& (7 : Int32)) + (1 : Int32)).toInt64 <<< ((56 : Int32) &&& 0x3f).toInt64))), .second, .val (.int v84s0)] [(.int (1 : Int32))]))
              refine Till.pre (fun _ hr => XS.goto X18.here hx rfl (pc0 := 102) (pc' := 106) rfl (hb hby at_102) (by decide) (by decide) hr) ?_
              show Till p e below s (Q0 Z q1 p2 h0 n0) room_1.cells room_1.slots (T16.setTop (mkF m 106 #[.val (.long q1), .second, .val (.int p2), .val (.long (-72057594037927936 : Int64)), .second, .val (.int v21s0), .val (.int v37s0), .val (.long (q1 ||| (-72057594037927936 : Int64))), .second, .val (.int (fn1 (q1 ||| (-72057594037927936 : Int64)))), .val (.long ((q1 &&& (72057594037927935 : Int64)) ||| (((p2 &&& (7 : Int32)) + (1 : Int32)).toInt64 <<< ((56 : Int32) &&& 0x3f).toInt64))), .second, .val (.int v84s0)] [(.int (1 : Int32))]))
              exact J106_25 _ (Eq.symm ((if_neg hc23).trans ((if_neg hc24).trans (if_neg hc25))))
      refine Till.ifc (pc' := 83) X18.here hx (hb hby at_76) (by decide) (by decide) (fun q => ?_) (fun q => ?_)
      · have hc21 := (hEq.2.2.1 q)
        show Till p e below s (Q0 Z q1 p2 h0 n0) room_1.cells room_1.slots (T16.setTop (mkF m 83 #[.val (.long q1), .second, .val (.int p2), .val (.long (-72057594037927936 : Int64)), .second, .val (.int v21s0), .val (.int v37s0), .val (.long (q1 ||| (-72057594037927936 : Int64))), .second, .val (.int (fn1 (q1 ||| (-72057594037927936 : Int64)))), .val (.long ((q1 &&& (72057594037927935 : Int64)) ||| (((p2 &&& (7 : Int32)) + (1 : Int32)).toInt64 <<< ((56 : Int32) &&& 0x3f).toInt64))), .second, .unset] []))
        refine Till.pre (fun _ hr => XS.iconst X18.here hx rfl (hb hby at_83) hr) ?_
        show Till p e below s (Q0 Z q1 p2 h0 n0) room_1.cells room_1.slots (T16.setTop (mkF m 84 #[.val (.long q1), .second, .val (.int p2), .val (.long (-72057594037927936 : Int64)), .second, .val (.int v21s0), .val (.int v37s0), .val (.long (q1 ||| (-72057594037927936 : Int64))), .second, .val (.int (fn1 (q1 ||| (-72057594037927936 : Int64)))), .val (.long ((q1 &&& (72057594037927935 : Int64)) ||| (((p2 &&& (7 : Int32)) + (1 : Int32)).toInt64 <<< ((56 : Int32) &&& 0x3f).toInt64))), .second, .unset] [(.int (0 : Int32))]))
        exact J84_21 _ (Eq.symm (if_neg hc21))
      · have hc21 := (hEq.2.2.2 q)
        show Till p e below s (Q0 Z q1 p2 h0 n0) room_1.cells room_1.slots (T16.setTop (mkF m 79 #[.val (.long q1), .second, .val (.int p2), .val (.long (-72057594037927936 : Int64)), .second, .val (.int v21s0), .val (.int v37s0), .val (.long (q1 ||| (-72057594037927936 : Int64))), .second, .val (.int (fn1 (q1 ||| (-72057594037927936 : Int64)))), .val (.long ((q1 &&& (72057594037927935 : Int64)) ||| (((p2 &&& (7 : Int32)) + (1 : Int32)).toInt64 <<< ((56 : Int32) &&& 0x3f).toInt64))), .second, .unset] []))
        refine Till.pre (fun _ hr => XS.iconst X18.here hx rfl (hb hby at_79) hr) ?_
        show Till p e below s (Q0 Z q1 p2 h0 n0) room_1.cells room_1.slots (T16.setTop (mkF m 80 #[.val (.long q1), .second, .val (.int p2), .val (.long (-72057594037927936 : Int64)), .second, .val (.int v21s0), .val (.int v37s0), .val (.long (q1 ||| (-72057594037927936 : Int64))), .second, .val (.int (fn1 (q1 ||| (-72057594037927936 : Int64)))), .val (.long ((q1 &&& (72057594037927935 : Int64)) ||| (((p2 &&& (7 : Int32)) + (1 : Int32)).toInt64 <<< ((56 : Int32) &&& 0x3f).toInt64))), .second, .unset] [(.int (1 : Int32))]))
        refine Till.pre (fun _ hr => XS.goto X18.here hx rfl (pc0 := 80) (pc' := 84) rfl (hb hby at_80) (by decide) (by decide) hr) ?_
        show Till p e below s (Q0 Z q1 p2 h0 n0) room_1.cells room_1.slots (T16.setTop (mkF m 84 #[.val (.long q1), .second, .val (.int p2), .val (.long (-72057594037927936 : Int64)), .second, .val (.int v21s0), .val (.int v37s0), .val (.long (q1 ||| (-72057594037927936 : Int64))), .second, .val (.int (fn1 (q1 ||| (-72057594037927936 : Int64)))), .val (.long ((q1 &&& (72057594037927935 : Int64)) ||| (((p2 &&& (7 : Int32)) + (1 : Int32)).toInt64 <<< ((56 : Int32) &&& 0x3f).toInt64))), .second, .unset] [(.int (1 : Int32))]))
        exact J84_21 _ (Eq.symm (if_pos hc21))
    refine Till.icmp (pc' := 36) X6.here hx (hb hby at_29) (by decide) (by decide) (fun q => ?_) (fun q => ?_)
    · have hc9 := (hEq.2.2.1 q)
      show Till p e below s (Q0 Z q1 p2 h0 n0) room_1.cells room_1.slots (T4.setTop (mkF m 36 #[.val (.long q1), .second, .val (.int p2), .val (.long (-72057594037927936 : Int64)), .second, .val (.int v21s0), .unset, .unset, .unset, .unset, .unset, .unset, .unset] []))
      refine Till.pre (fun _ hr => XS.iconst X6.here hx rfl (hb hby at_36) hr) ?_
      show Till p e below s (Q0 Z q1 p2 h0 n0) room_1.cells room_1.slots (T4.setTop (mkF m 37 #[.val (.long q1), .second, .val (.int p2), .val (.long (-72057594037927936 : Int64)), .second, .val (.int v21s0), .unset, .unset, .unset, .unset, .unset, .unset, .unset] [(.int (0 : Int32))]))
      exact J37_9 _ (Eq.symm (if_neg hc9))
    · have hc9 := (hEq.2.2.2 q)
      show Till p e below s (Q0 Z q1 p2 h0 n0) room_1.cells room_1.slots (T4.setTop (mkF m 32 #[.val (.long q1), .second, .val (.int p2), .val (.long (-72057594037927936 : Int64)), .second, .val (.int v21s0), .unset, .unset, .unset, .unset, .unset, .unset, .unset] []))
      refine Till.pre (fun _ hr => XS.iconst X6.here hx rfl (hb hby at_32) hr) ?_
      show Till p e below s (Q0 Z q1 p2 h0 n0) room_1.cells room_1.slots (T4.setTop (mkF m 33 #[.val (.long q1), .second, .val (.int p2), .val (.long (-72057594037927936 : Int64)), .second, .val (.int v21s0), .unset, .unset, .unset, .unset, .unset, .unset, .unset] [(.int (1 : Int32))]))
      refine Till.pre (fun _ hr => XS.goto X6.here hx rfl (pc0 := 33) (pc' := 37) rfl (hb hby at_33) (by decide) (by decide) hr) ?_
      show Till p e below s (Q0 Z q1 p2 h0 n0) room_1.cells room_1.slots (T4.setTop (mkF m 37 #[.val (.long q1), .second, .val (.int p2), .val (.long (-72057594037927936 : Int64)), .second, .val (.int v21s0), .unset, .unset, .unset, .unset, .unset, .unset, .unset] [(.int (1 : Int32))]))
      exact J37_9 _ (Eq.symm (if_pos hc9))
  refine Till.ifc (pc' := 20) X0.here hx (hb hby at_7) (by decide) (by decide) (fun q => ?_) (fun q => ?_)
  · have hc1 := (lLt.mp (hLt.1 q))
    show Till p e below s (Q0 Z q1 p2 h0 n0) room_1.cells room_1.slots (s₁.setTop (mkF m 20 #[.val (.long q1), .second, .val (.int p2), .val (.long (-72057594037927936 : Int64)), .second, .unset, .unset, .unset, .unset, .unset, .unset, .unset, .unset] []))
    refine Till.pre (fun _ hr => XS.iconst X0.here hx rfl (hb hby at_20) hr) ?_
    show Till p e below s (Q0 Z q1 p2 h0 n0) room_1.cells room_1.slots (s₁.setTop (mkF m 21 #[.val (.long q1), .second, .val (.int p2), .val (.long (-72057594037927936 : Int64)), .second, .unset, .unset, .unset, .unset, .unset, .unset, .unset, .unset] [(.int (0 : Int32))]))
    exact J21_2 _ (Eq.symm (if_pos hc1))
  · have hc1 := (mt lLt.mpr (hLt.2.1 q))
    show Till p e below s (Q0 Z q1 p2 h0 n0) room_1.cells room_1.slots (s₁.setTop (mkF m 10 #[.val (.long q1), .second, .val (.int p2), .val (.long (-72057594037927936 : Int64)), .second, .unset, .unset, .unset, .unset, .unset, .unset, .unset, .unset] []))
    refine Till.pre (fun _ hr => XS.lloadN X0.here hx rfl (hb hby at_10) rfl hr) ?_
    show Till p e below s (Q0 Z q1 p2 h0 n0) room_1.cells room_1.slots (s₁.setTop (mkF m 11 #[.val (.long q1), .second, .val (.int p2), .val (.long (-72057594037927936 : Int64)), .second, .unset, .unset, .unset, .unset, .unset, .unset, .unset, .unset] [(.long q1)]))
    refine Till.pre (fun _ hr => XS.lconst X0.here hx rfl (hb hby at_11) hr) ?_
    show Till p e below s (Q0 Z q1 p2 h0 n0) room_1.cells room_1.slots (s₁.setTop (mkF m 12 #[.val (.long q1), .second, .val (.int p2), .val (.long (-72057594037927936 : Int64)), .second, .unset, .unset, .unset, .unset, .unset, .unset, .unset, .unset] [(.long (0 : Int64)), (.long q1)]))
    refine Till.pre (fun _ hr => XS.lcmp X0.here hx rfl (hb hby at_12) rfl hr) ?_
    show Till p e below s (Q0 Z q1 p2 h0 n0) room_1.cells room_1.slots (s₁.setTop (mkF m 13 #[.val (.long q1), .second, .val (.int p2), .val (.long (-72057594037927936 : Int64)), .second, .unset, .unset, .unset, .unset, .unset, .unset, .unset, .unset] [(.int (lcmpW q1 (0 : Int64)))]))
    refine Till.ifc (pc' := 20) X0.here hx (hb hby at_13) (by decide) (by decide) (fun q => ?_) (fun q => ?_)
    · have hc2 := (mt lLt.mpr (hLt.2.2.1 q))
      show Till p e below s (Q0 Z q1 p2 h0 n0) room_1.cells room_1.slots (s₁.setTop (mkF m 20 #[.val (.long q1), .second, .val (.int p2), .val (.long (-72057594037927936 : Int64)), .second, .unset, .unset, .unset, .unset, .unset, .unset, .unset, .unset] []))
      refine Till.pre (fun _ hr => XS.iconst X0.here hx rfl (hb hby at_20) hr) ?_
      show Till p e below s (Q0 Z q1 p2 h0 n0) room_1.cells room_1.slots (s₁.setTop (mkF m 21 #[.val (.long q1), .second, .val (.int p2), .val (.long (-72057594037927936 : Int64)), .second, .unset, .unset, .unset, .unset, .unset, .unset, .unset, .unset] [(.int (0 : Int32))]))
      exact J21_2 _ (Eq.symm ((if_neg hc1).trans (if_neg hc2)))
    · have hc2 := (lLt.mp (hLt.2.2.2.1 q))
      show Till p e below s (Q0 Z q1 p2 h0 n0) room_1.cells room_1.slots (s₁.setTop (mkF m 16 #[.val (.long q1), .second, .val (.int p2), .val (.long (-72057594037927936 : Int64)), .second, .unset, .unset, .unset, .unset, .unset, .unset, .unset, .unset] []))
      refine Till.pre (fun _ hr => XS.iconst X0.here hx rfl (hb hby at_16) hr) ?_
      show Till p e below s (Q0 Z q1 p2 h0 n0) room_1.cells room_1.slots (s₁.setTop (mkF m 17 #[.val (.long q1), .second, .val (.int p2), .val (.long (-72057594037927936 : Int64)), .second, .unset, .unset, .unset, .unset, .unset, .unset, .unset, .unset] [(.int (1 : Int32))]))
      refine Till.pre (fun _ hr => XS.goto X0.here hx rfl (pc0 := 17) (pc' := 21) rfl (hb hby at_17) (by decide) (by decide) hr) ?_
      show Till p e below s (Q0 Z q1 p2 h0 n0) room_1.cells room_1.slots (s₁.setTop (mkF m 21 #[.val (.long q1), .second, .val (.int p2), .val (.long (-72057594037927936 : Int64)), .second, .unset, .unset, .unset, .unset, .unset, .unset, .unset, .unset] [(.int (1 : Int32))]))
      exact J21_2 _ (Eq.symm ((if_neg hc1).trans (if_pos hc2)))
set_option maxRecDepth 65536 in
set_option maxHeartbeats 40000000 in
theorem comes_1 {Post : Tables → Env → Array Value → State → Outcome → State → Prop} (hpost : ∀ tb e args s v u, (limb_1_1.after args s (.returned v) u = true ∧ limb_1_2.after args s (.returned v) u = true ∧ True) → FrameEnd s (.returned v) u (Jvm.fieldLocs frame_1_writes args s ++ Jvm.arrayLocs frame_1_arrays args s ++ Jvm.staticLocs frame_1_statics s) 0 0 → Post tb e args s (.returned v) u) :
    ArmFor flags0 classFile x code maxLocals ret World_1 tables_1 room_1 Calls_1 rest_1 Pre_1 Post := by
  intro l hfl _ _ p e ha hc hk s m args below hf hA hF happ hP
  obtain ⟨hcalls, hrest, hpre⟩ := hP
  obtain ⟨-, -, -, hnamed, -, -, -, hat⟩ := (Spec.applies_iff hf).mp happ
  obtain ⟨hg, hn⟩ := and_e (Cond.before_iff.mp (show (Jvm.Cond.and given_1 narrow_1).before args s = true from hpre))
  obtain ⟨h1, hg⟩ := and_e hg
  obtain ⟨k0, hg⟩ := and_e hg
  have k1 := hg
  obtain ⟨w0, w1, rfl⟩ : ∃ w0 w1 : Value, args = #[w0, w1] := by
    have hs : args.size = 2 := by simpa [Cond.value, given_1] using h1
    obtain ⟨L⟩ := args
    match L, hs with
    | [w0, w1], _ => exact ⟨w0, w1, rfl⟩
  have hw := fun d (hd : d ∈ tables_1) => atoms_spec (ws := Jvm.Cond.code x code maxLocals ret :: tables_1) hat d (List.mem_cons_of_mem _ hd)
  obtain ⟨i0, ei0⟩ := isL_v k0
  obtain rfl : w0 = (.long i0) := Option.some.inj ei0
  obtain ⟨i1, ei1⟩ := is_v k1
  obtain rfl : w1 = (.int i1) := Option.some.inj ei1
  obtain ⟨n, o, h1, h2, h3, _, L, rfl, ⟨rfl, N⟩, hq⟩ := rm0 l s _ hw i0 i1 s.heap s.heap.size (Nat.le_refl _) tables_1 p e ha hc hk s m _ below hf ((Spec.applies_iff_loose hf).mp happ).1 ⟨rfl, State.Warmed39.refl s, rfl⟩ trivial
  refine ⟨n, _, h1, h2, h3, hpost _ _ _ _ _ _ ⟨Cond.after_iff.mpr rfl, Cond.after_iff.mpr (eq_i res_at (Term.int_eval (1)) rfl), trivial⟩ ⟨hq.1, hq.2.1, (hq.2.2.sift fun y hy => Or.inr (N y hy)).mono (by decide) (by decide)⟩⟩
theorem main_1_1 : Claimed_1_1 := comes_1 fun _ _ _ _ _ _ h hF => ⟨h.1, hF⟩
theorem main_1_2 : Claimed_1_2 := comes_1 fun _ _ _ _ _ _ h hF => ⟨h.2.1, hF⟩
end Jvm.Pilot.@@N@@
namespace Jvm.Pilot.@@N@@
open Jvm Jvm.ClassFile Sem Op Lib Jvm.Free Jvm.Stand Jvm.Pilot.@@N@@.Jvm.D
/-! MADE BY PROGRAM (witnessworld.py) out of the Statement's table words and the real class files: 7 classes; the members and pool entries that the words name. The judged class is class 1, her method 1. -/
namespace start1
open Jvm.ClassFile
def u (s : String) : CpInfo := .utf8 (stringToUtf16 s)
/-- a pool by its gaps: so many unusable entries, then the entry; so many at the end -/
def gap : Nat → List CpInfo → List CpInfo
  | 0, r => r
  | n + 1, r => .unusable :: gap n r
def poolList (es : List (Nat × CpInfo)) (last : Nat) : List CpInfo := es.foldr (fun e r => gap e.1 (e.2 :: r)) (gap last [])
def pool (es : List (Nat × CpInfo)) (last : Nat) : Array CpInfo := ⟨poolList es last⟩
def fileOf (pool : Array CpInfo) (this : Nat) (attrs : Array Attribute := #[]) (ms : Array MethodInfo := #[]) (fl : Nat := 33) (sup : Nat := 0) (ifs : Array Nat := #[]) (fds : Array FieldInfo := #[]) : ClassFile where
  minorVersion := 0
  majorVersion := 65
  constantPool := pool
  accessFlags := fl
  thisClass := this
  superClass := sup
  interfaces := ifs
  fields := fds
  methods := ms
  attributes := attrs
def plain (name : String) (sup : Option ClassId) : Class where
  name := name
  kind := .ordinary
  loader := none
  accessFlags := 33
  super := sup
  interfaces := #[]
  cf := none
  fields := #[]
  methods := #[]
  instanceTypes := #[]
  staticTypes := #[]
  resolved := #[]
  callSites := []
  init := .initialized
  statics := none
  mirror := none

def pool0 : Array CpInfo := pool [(5, u "<init>"), (0, u "()V"), (1, .class_ 10), (1, u "java/lang/Object")] 113

def k0m0 : Method := { name := "<init>", desc := "()V", sig := { parameters := [], returnType := none }, accessFlags := 1, code := none }
/-- java/lang/Object -/
def k0 : Class := { plain "java/lang/Object" none with
  accessFlags := 33
  interfaces := #[]
  cf := some (fileOf pool0 8 #[] #[{ accessFlags := 1, nameIndex := 5, descriptorIndex := 6, attributes := #[] }] 33 0 #[] #[])
  fields := #[]
  methods := #[k0m0]
  instanceTypes := #[]
  staticTypes := #[]
  resolved := Array.replicate 124 none
  statics := none }

def pool1 : Array CpInfo := pool [(2, .class_ 4), (1, u "java/lang/Object"), (0, u "<init>"), (0, u "()V"), (0, .long 18374686479671623680), (1, .methodref 10 11), (0, .class_ 12), (0, .nameAndType 13 14), (0, u "com/example/bunkerline/bunkerline/TextHash"), (0, u "isLonger"), (0, u "(J)Z"), (0, .long 72057594037927935), (1, .class_ 18), (0, u "com/example/bunkerline/bunkerline/TextHashIsLongerPinLaw"), (2, u "law"), (0, u "(JI)Z")] 3

def k1m0 : Method := { name := "<init>", desc := "()V", sig := { parameters := [], returnType := none }, accessFlags := 2, code := none }
def k1c1 : Code := { maxStack := 5, maxLocals := 13, code := code, exceptionTable := #[], attributes := #[] }
def k1m1 : Method := { name := "law", desc := "(JI)Z", sig := { parameters := [.long, .int], returnType := some .boolean }, accessFlags := 9, code := some k1c1 }
/-- com/example/bunkerline/bunkerline/TextHashIsLongerPinLaw -/
def k1 : Class := { plain "com/example/bunkerline/bunkerline/TextHashIsLongerPinLaw" (some 0) with
  accessFlags := 49
  interfaces := #[]
  cf := some (fileOf pool1 17 #[] #[{ accessFlags := 2, nameIndex := 5, descriptorIndex := 6, attributes := #[] }, { accessFlags := 9, nameIndex := 21, descriptorIndex := 22, attributes := #[] }] 49 2 #[] #[])
  fields := #[]
  methods := #[k1m0, k1m1]
  instanceTypes := #[]
  staticTypes := #[]
  resolved := Array.replicate 26 none
  statics := none }

def pool2 : Array CpInfo := pool [(6, .class_ 8), (1, u "java/lang/Object"), (0, u "<init>"), (0, u "()V"), (0, .class_ 12), (0, u "com/example/bunkerline/bunkerline/TextHash"), (10, u "WORDS"), (0, u "Ljava/lang/invoke/VarHandle;"), (10, .long 18374686479671623680), (48, u "HELD"), (0, u "I"), (2, u "LONGER"), (0, u "J"), (0, u "SEED"), (0, u "MULTIPLIER"), (0, u "LENGTH_MULTIPLIER"), (6, u "isLonger"), (0, u "(J)Z")] 5

def k2m0 : Method := { name := "<init>", desc := "()V", sig := { parameters := [], returnType := none }, accessFlags := 2, code := none }
def k2c1 : Code := { maxStack := 4, maxLocals := 2, code := prog_79_method_4_code, exceptionTable := #[], attributes := #[] }
def k2m1 : Method := { name := "isLonger", desc := "(J)Z", sig := { parameters := [.long], returnType := some .boolean }, accessFlags := 8, code := some k2c1 }
/-- com/example/bunkerline/bunkerline/TextHash -/
def k2 : Class := { plain "com/example/bunkerline/bunkerline/TextHash" (some 0) with
  accessFlags := 48
  interfaces := #[]
  cf := some (fileOf pool2 11 #[] #[{ accessFlags := 2, nameIndex := 9, descriptorIndex := 10, attributes := #[] }, { accessFlags := 8, nameIndex := 99, descriptorIndex := 100, attributes := #[] }] 48 6 #[] #[{ accessFlags := 26, nameIndex := 23, descriptorIndex := 24, attributes := #[] }, { accessFlags := 26, nameIndex := 84, descriptorIndex := 85, attributes := #[] }, { accessFlags := 26, nameIndex := 88, descriptorIndex := 89, attributes := #[] }, { accessFlags := 26, nameIndex := 90, descriptorIndex := 89, attributes := #[] }, { accessFlags := 26, nameIndex := 91, descriptorIndex := 89, attributes := #[] }, { accessFlags := 26, nameIndex := 92, descriptorIndex := 89, attributes := #[] }])
  fields := #[{ name := "WORDS", type := (.object "java/lang/invoke/VarHandle"), accessFlags := 26, slot := 0, constantValue := 0 }, { name := "HELD", type := .int, accessFlags := 26, slot := 1, constantValue := 0 }, { name := "LONGER", type := .long, accessFlags := 26, slot := 2, constantValue := 0 }, { name := "SEED", type := .long, accessFlags := 26, slot := 3, constantValue := 0 }, { name := "MULTIPLIER", type := .long, accessFlags := 26, slot := 4, constantValue := 0 }, { name := "LENGTH_MULTIPLIER", type := .long, accessFlags := 26, slot := 5, constantValue := 0 }]
  methods := #[k2m0, k2m1]
  instanceTypes := #[]
  staticTypes := #[(.object "java/lang/invoke/VarHandle"), .int, .long, .long, .long, .long]
  resolved := Array.replicate 106 none
  statics := none }

def pool3 : Array CpInfo := pool [(1, u "java/lang/Cloneable"), (0, .class_ 1), (0, u "java/lang/Object"), (0, .class_ 3)] 3

/-- java/lang/Cloneable -/
def k3 : Class := { plain "java/lang/Cloneable" (some 0) with
  accessFlags := 1537
  interfaces := #[]
  cf := some (fileOf pool3 2 #[] #[] 1537 4 #[] #[])
  fields := #[]
  methods := #[]
  instanceTypes := #[]
  staticTypes := #[]
  resolved := Array.replicate 8 none
  statics := none }

def pool4 : Array CpInfo := pool [(1, u "java/io/Serializable"), (0, .class_ 1), (0, u "java/lang/Object"), (0, .class_ 3)] 3

/-- java/io/Serializable -/
def k4 : Class := { plain "java/io/Serializable" (some 0) with
  accessFlags := 1537
  interfaces := #[]
  cf := some (fileOf pool4 2 #[] #[] 1537 4 #[] #[])
  fields := #[]
  methods := #[]
  instanceTypes := #[]
  staticTypes := #[]
  resolved := Array.replicate 8 none
  statics := none }

/-- the primitive byte -/
def k5 : Class := { plain "byte" none with kind := .primitive 'B', accessFlags := 0x411 }
/-- [B -/
def k6 : Class := { plain "[B" (some 0) with kind := .array 5 .byte, interfaces := #[3, 4], accessFlags := 1041 }

def heap : Heap := #[]
def classes : Array Class := #[k0, k1, k2, k3, k4, k5, k6]
def interned : List (Array UInt16 × Addr) := []
def slotsUsed : Nat := 0
def theMethod : MethodId := ⟨1, 1⟩
def args0 : Array Value := #[.long 5, .int 5]
def aboutOver (below : List Frame) : State where
  vm := { classes := classes, interned := interned.toArray }
  heap := heap
  slotsUsed := slotsUsed
  threads := #[{ frames := .invoking theMethod args0 :: below }]
def below0 : List Frame := [.native { method := ⟨0, 0⟩, args := #[] }]
def about1 : State := aboutOver below0
def p0 : Program := .bare "" "" ""
def e0 : Env := launch0.env 0 0 0
theorem w_frames : about1.frames = Frame.invoking theMethod args0 :: below0 := rfl
set_option maxRecDepth 65536 in
theorem w_args : argsFit about1.vm theMethod args0 = true := by decide +kernel
set_option maxRecDepth 65536 in
theorem w_heap : heapFits about1 = true := by decide +kernel
set_option maxRecDepth 65536 in
theorem w_runnable : about1.curStatus? = some .runnable := by decide +kernel
set_option maxRecDepth 65536 in
theorem w_alone : about1.alone = true := by decide +kernel
set_option maxRecDepth 65536 in
theorem w_named : about1.methodNamed? x = some theMethod := by decide +kernel
set_option maxRecDepth 65536 in
theorem w_hears : about1.hears theMethod below0 = true := by decide +kernel
set_option maxRecDepth 65536 in
theorem w_ripe : about1.ripe theMethod args0 below0 = true := by decide +kernel
theorem w_running : about1.status = .running := rfl
set_option maxRecDepth 65536 in
theorem w_room : about1.hasRoom e0.platform room_1 = true :=
  launch0.hasRoom_least _ room_1 (by decide +kernel) (by decide +kernel) (by decide +kernel) (by decide +kernel) (by decide +kernel) (by decide +kernel)
theorem allAtoms_all (ts : List Jvm.Cond) (a : Array Jvm.Value) (st : Jvm.State) : (allAtoms ts).before a st = ts.all (fun c => c.before a st) := by
  induction ts with
  | nil => rfl
  | cons c t ih =>
    show (Jvm.Cond.and c (allAtoms t)).before a st = _
    rw [Jvm.Cond.before_and, ih, List.all_cons]
def words1 : List Jvm.Cond := Jvm.Cond.code x code maxLocals ret :: tables_1
/-- a 'code' word, met by the world's own term for the bytes: nothing is compared byte by byte -/
theorem code_word {y : MethodName} {bytes : ByteArray} {mx : Nat} {rt : Option FieldType} {a : Array Value} {s : State} {m : MethodId} {meth : Method} {c : Code} (h1 : s.methodNamed? y = some m) (h2 : s.vm.method? m = some meth) (h3 : meth.code = some c) (h4 : c.code = bytes)
    (h5 : (c.maxLocals == mx && c.exceptionTable.isEmpty && decide (c.maxStack ≤ mostOperands) && decide (meth.sig.returnType = rt) && !meth.locks && decide (parseMethodDescriptor y.desc = some meth.sig)) = true) : (Jvm.Cond.code y bytes mx rt).before a s = true := by
  simp only [Bool.and_eq_true, beq_iff_eq, Bool.not_eq_true', decide_eq_true_eq] at h5
  obtain ⟨⟨⟨⟨⟨g1, g2⟩, g3⟩, g4⟩, g5⟩, g6⟩ := h5
  simp [Cond.before, Cond.holds, Cond.value, h1, h2, h3, h4, g1, g2, g3, g4, g5, g6]
def isCode : Jvm.Cond → Bool
  | .code _ _ _ _ => true
  | _ => false
theorem all_split {L : List Jvm.Cond} {P : Jvm.Cond → Bool} (h1 : L.all (fun c => isCode c || P c) = true) (h2 : ∀ c ∈ L.filter isCode, P c = true) : L.all P = true := by
  refine List.all_eq_true.mpr fun c hc => ?_
  have h := List.all_eq_true.mp h1 c hc
  rcases Bool.eq_false_or_eq_true (isCode c) with hi | hi
  · exact h2 c (List.mem_filter.mpr ⟨hc, hi⟩)
  · simpa [hi] using h
set_option maxRecDepth 65536 in
theorem w_c0 : (Jvm.Cond.code x code maxLocals ret).before args0 about1 = true := code_word (m := ⟨1, 1⟩) (meth := k1m1) (c := k1c1) (by decide +kernel) rfl rfl rfl (by decide +kernel)
set_option maxRecDepth 65536 in
theorem w_c1 : (Jvm.Cond.code ({ cls := "com/example/bunkerline/bunkerline/TextHash", name := "isLonger", desc := "(J)Z" } : Jvm.MethodName) prog_79_method_4_code (2 : Nat) (Option.some Jvm.ClassFile.FieldType.boolean)).before args0 about1 = true := code_word (m := ⟨2, 1⟩) (meth := k2m1) (c := k2c1) (by decide +kernel) rfl rfl rfl (by decide +kernel)
def codes1 : List Jvm.Cond := [Jvm.Cond.code x code maxLocals ret, Jvm.Cond.code ({ cls := "com/example/bunkerline/bunkerline/TextHash", name := "isLonger", desc := "(J)Z" } : Jvm.MethodName) prog_79_method_4_code (2 : Nat) (Option.some Jvm.ClassFile.FieldType.boolean)]
set_option maxRecDepth 65536 in
theorem codes_eq : words1.filter isCode = codes1 := rfl
theorem w_codes : ∀ c ∈ words1.filter isCode, c.before args0 about1 = true := by
  rw [codes_eq]
  intro c hc
  simp only [codes1, List.mem_cons, List.not_mem_nil, or_false] at hc
  rcases hc with rfl | rfl
  · exact w_c0
  · exact w_c1
set_option maxRecDepth 65536 in
theorem w_t1 : words1.all (fun c => isCode c || c.before args0 about1) = true := by decide +kernel
theorem w_tables : (allAtoms (Jvm.Cond.code x code maxLocals ret :: tables_1)).before args0 about1 = true := by
  rw [allAtoms_all]
  show words1.all (fun c => c.before args0 about1) = true
  refine all_split ?_ w_codes
  rw [w_t1]
set_option maxRecDepth 65536 in
theorem w_case : (Jvm.Cond.and given_1 narrow_1).before args0 about1 = true := by decide +kernel
theorem w_applies : (headSpec (Jvm.Cond.code x code maxLocals ret :: tables_1) room_1).applies x e0.platform about1 = true :=
  (Spec.applies_iff w_frames).mpr ⟨w_running, w_runnable, w_alone, w_named, w_hears, w_ripe, w_room, w_tables⟩
theorem atStart : AtStart classFile x code maxLocals ret World_1 tables_1 room_1 Calls_1 rest_1 Pre_1 launch0 p0 e0 about1 theMethod args0 below0 :=
  ⟨lists_1, trivial, launch0.admits_env _ _ _, launch0.least_env, fairChoices_fair.cas, fairChoices_fair.clock, w_frames, w_args, w_heap, w_applies, trivial, trivial, w_case⟩
end start1
theorem witness_1 : WitnessClaimed_1 := ⟨start1.p0, start1.e0, start1.about1, start1.theMethod, start1.args0, start1.below0, start1.atStart⟩
end Jvm.Pilot.@@N@@
