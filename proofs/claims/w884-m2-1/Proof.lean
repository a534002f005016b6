import JvmDerived
import JvmDerived.Pilot.@@N@@Statement
import JvmDerived.Pilot.@@N@@Code
set_option linter.unusedVariables false
set_option linter.unusedSimpArgs false
namespace Jvm.Own
open Sem ClassFile Op Lib Jvm.Stand Jvm.Free Jvm.LawKit Jvm.RoadKit
section Own
variable {p : Program} {l : Launch} {e : Env} {R : Room} {s : State} {m : MethodId} {args : Array Value} {below : List Frame} {meth : Method} {c : Code} {T : State} {locs : List Loc} {cells slots : Nat} {Q : Option Value → Heap → List Loc → Prop} {k n : Nat} {Z : State} {a0 : Array Value} {h h' h0 : Heap} {pc pc' : Nat} {Ls : Array Slot} {rest : List Value}
/-- from U the invocation comes to its end, returns, and Q holds there -/
def Till (p : Program) (e : Env) (below : List Frame) (s : State) (Q : Option Value → Heap → List Loc → Prop) (k n : Nat) (U : State) : Prop :=
  ∃ s₂ o, Steps p.tables e below U s₂ ∧ s₂.status = .running ∧ Ended s₂ below o ∧ ∃ v L, o = .returned v ∧ Q v s₂.heap L ∧ FrameEnd s o s₂ L k n
/-- a body's contract -/
def Ctr (l : Launch) (Z : State) (y : MethodName) (bytes : ByteArray) (maxL : Nat) (ret : Option FieldType) (rm : Room) (as : Array Value) (h : Heap) (Q : Option Value → Heap → List Loc → Prop) : Prop :=
  ∀ ws, MetFree l y (head1 (Jvm.Cond.code y bytes maxL ret :: ws) rm) (fun a U => a = as ∧ Z.Warmed39 U.vm ∧ U.heap = h) (fun _ _ _ _ _ => True) (fun _ U o U' => ∃ v L, o = .returned v ∧ Q v U'.heap L ∧ FrameEnd U o U' L rm.cells rm.slots)
theorem Till.pre {U V : State} (hs : ∀ t, Steps p.tables e below V t → Steps p.tables e below U t) (r : Till p e below s Q k n V) : Till p e below s Q k n U := by
  obtain ⟨s₂, o, h1, r⟩ := r; exact ⟨s₂, o, hs _ h1, r⟩
theorem Till.via {U V : State} (hs : Steps p.tables e below U V) (r : Till p e below s Q k n V) : Till p e below s Q k n U := by
  obtain ⟨s₂, o, h1, r⟩ := r; exact ⟨s₂, o, hs.trans h1, r⟩
theorem Till.cast {g g' : JFrame} (q : g = g') (r : Till p e below s Q k n (T.setTop g')) : Till p e below s Q k n (T.setTop g) := q ▸ r
theorem Ctr.of {y : MethodName} {bytes : ByteArray} {maxL : Nat} {ret : Option FieldType} {rm : Room} {as : Array Value} (hp : plainFor y = true)
    (body : ∀ p e s m below meth c s₁, p.tables.exec = Jvm.exec → c.code = bytes → c.maxLocals = maxL → s.vm.findClass y.cls = some m.cls → meth.name = y.name → meth.sig.returnType = ret → meth.locks = false → Z.Warmed39 s.vm → s₁.heap = h →
      Stand p l e rm s m as below meth c s₁ [] 0 0 → Till p e below s Q rm.cells rm.slots (s₁.setTop (entryFrame m as maxL))) : Ctr l Z y bytes maxL ret rm as h Q := by
  intro ws
  refine MetFree.of_bodySF hp hisR ?_
  intro p e s m args below meth c s₁ Bd hml hP hK
  obtain ⟨rfl, hZ, hh⟩ := hP
  exact body p e s m below meth c s₁ Bd.exec Bd.bytes hml (findClass_of_methodNamed Bd.named) (name_of_methodNamed Bd.named Bd.method).1 Bd.returns Bd.notSynchronized hZ (by rw [← hh, Bd.state]; rfl) (Stand.of_body Bd)
/-! branches -/
theorem Till.icmp {cd : ClassFile.Cond} {x y : Int32} {o : Int} (h : At T m c below) (hx : p.tables.exec = Jvm.exec) (hd : decode c.code pc = .ok (.if_icmp cd o, 3)) (ho : 0 ≤ (pc : Int) + o) (hp : ((pc : Int) + o).toNat = pc')
    (r1 : if_icmp.holds cd x y = true → Till p e below s Q k n (T.setTop (mkF m pc' Ls rest))) (r2 : if_icmp.holds cd x y = false → Till p e below s Q k n (T.setTop (mkF m (pc + 3) Ls rest))) : Till p e below s Q k n (T.setTop (mkF m pc Ls (.int y :: .int x :: rest))) := by
  cases hb : if_icmp.holds cd x y with
  | true => exact Till.pre (fun _ hr => XS.icmpYes h hx rfl (pc0 := pc) (pc' := pc') rfl hd rfl hb ho hp hr) (r1 hb)
  | false => exact Till.pre (fun _ hr => XS.icmpNo h hx rfl hd rfl hb hr) (r2 hb)
theorem Till.ifc {cd : ClassFile.Cond} {x : Int32} {o : Int} (h : At T m c below) (hx : p.tables.exec = Jvm.exec) (hd : decode c.code pc = .ok (.ifCond cd o, 3)) (ho : 0 ≤ (pc : Int) + o) (hp : ((pc : Int) + o).toNat = pc')
    (r1 : if_icmp.holds cd x 0 = true → Till p e below s Q k n (T.setTop (mkF m pc' Ls rest))) (r2 : if_icmp.holds cd x 0 = false → Till p e below s Q k n (T.setTop (mkF m (pc + 3) Ls rest))) : Till p e below s Q k n (T.setTop (mkF m pc Ls (.int x :: rest))) := by
  cases hb : if_icmp.holds cd x 0 with
  | true => exact Till.pre (fun _ hr => XS.ifYes h hx rfl (pc0 := pc) (pc' := pc') rfl hd rfl ((if0 _ _).trans hb) ho hp hr) (r1 hb)
  | false => exact Till.pre (fun _ hr => XS.ifNo h hx rfl hd rfl ((if0 _ _).trans hb) hr) (r2 hb)
theorem hEq {x y : Int32} : (if_icmp.holds .eq x y = true → x = y) ∧ (if_icmp.holds .eq x y = false → ¬ x = y) ∧ (if_icmp.holds .ne x y = true → ¬ x = y) ∧ (if_icmp.holds .ne x y = false → x = y) := by
  by_cases q : x = y
  · obtain ⟨h1, h2⟩ := teq q; rw [h1, h2]; simp [q]
  · obtain ⟨h1, h2⟩ := feq q; rw [h1, h2]; simp [q]
theorem hLt {x y : Int32} : (if_icmp.holds .lt x y = true → x < y) ∧ (if_icmp.holds .lt x y = false → ¬ x < y) ∧ (if_icmp.holds .ge x y = true → ¬ x < y) ∧ (if_icmp.holds .ge x y = false → x < y) ∧ (if_icmp.holds .gt y x = true → x < y) ∧ (if_icmp.holds .gt y x = false → ¬ x < y) ∧ (if_icmp.holds .le y x = true → ¬ x < y) ∧ (if_icmp.holds .le y x = false → x < y) := by
  by_cases q : x < y
  · obtain ⟨h1, h2, h3, h4⟩ := tlt q; rw [h1, h2, h3, h4]; simp [q]
  · obtain ⟨h1, h2, h3, h4⟩ := flt q; rw [h1, h2, h3, h4]; simp [q]
theorem lEq {x y : Int64} : lcmpW x y = 0 ↔ x = y := by rw [lcW x y]; exact lc_eq x y
theorem lLt {x y : Int64} : lcmpW x y < 0 ↔ x < y := by rw [lcW x y]; exact lc_lt x y
theorem lGt {x y : Int64} : 0 < lcmpW x y ↔ y < x := by rw [lcW x y]; exact lc_gt x y
/-- Java's >>> on longs -/
def lsr (x : Int64) (y : Int32) : Int64 := (x.toUInt64 >>> (y &&& 0x3f).toInt64.toUInt64).toInt64
/-! returns -/
theorem Till.retI (X : Stand p l e R s m args below meth c T locs cells slots) (hx : p.tables.exec = Jvm.exec) (hret : meth.sig.returnType = some .int) (hlk : meth.locks = false) {z : Int32} (hd : decode c.code pc = .ok (.ireturn, 1)) (hk : cells ≤ k) (hn : slots ≤ n) (hq : Q (some (.int z)) T.heap locs) : Till p e below s Q k n (T.setTop (mkF m pc Ls (.int z :: rest))) := by
  obtain ⟨fs, hr, hrun, hended, hW, hsame⟩ := X.leave (v := some (.int z)) (fun q => by rw [hret] at q; cases q) hlk
  exact ⟨_, _, retOut X hx hret rfl (Or.inl ⟨rfl, Or.inl rfl, z, rfl⟩) hd hr, hrun, hended, _, _, rfl, hq, ⟨_, rfl⟩, hW, hsame.mono hk hn⟩
theorem Till.retZ (X : Stand p l e R s m args below meth c T locs cells slots) (hx : p.tables.exec = Jvm.exec) (hret : meth.sig.returnType = some .boolean) (hlk : meth.locks = false) {z w : Int32} (hd : decode c.code pc = .ok (.ireturn, 1)) (hk : cells ≤ k) (hn : slots ≤ n) (hz : z &&& 1 = w) (hq : Q (some (.int w)) T.heap locs) : Till p e below s Q k n (T.setTop (mkF m pc Ls (.int z :: rest))) := by
  subst hz
  obtain ⟨fs, hr, hrun, hended, hW, hsame⟩ := X.leave (v := some (.int (z &&& 1))) (fun q => by rw [hret] at q; cases q) hlk
  exact ⟨_, _, retN X hx (t := .boolean) hret (Or.inl rfl) hd hr, hrun, hended, _, _, rfl, hq, ⟨_, rfl⟩, hW, hsame.mono hk hn⟩
theorem Till.retJ (X : Stand p l e R s m args below meth c T locs cells slots) (hx : p.tables.exec = Jvm.exec) (hret : meth.sig.returnType = some .long) (hlk : meth.locks = false) {z : Int64} (hd : decode c.code pc = .ok (.lreturn, 1)) (hk : cells ≤ k) (hn : slots ≤ n) (hq : Q (some (.long z)) T.heap locs) : Till p e below s Q k n (T.setTop (mkF m pc Ls (.long z :: rest))) := by
  obtain ⟨fs, hr, hrun, hended, hW, hsame⟩ := X.leave (v := some (.long z)) (fun q => by rw [hret] at q; cases q) hlk
  exact ⟨_, _, retOut X hx hret rfl (Or.inr (Or.inl ⟨rfl, rfl, z, rfl⟩)) hd hr, hrun, hended, _, _, rfl, hq, ⟨_, rfl⟩, hW, hsame.mono hk hn⟩
theorem Till.retA (X : Stand p l e R s m args below meth c T locs cells slots) (hx : p.tables.exec = Jvm.exec) {t : FieldType} (hret : meth.sig.returnType = some t) (ht : t.isReference = true) (hlk : meth.locks = false) {w : Value} (hw : w.isRef = true) (hnw : narrow t w = w) (hd : decode c.code pc = .ok (.areturn, 1)) (hk : cells ≤ k) (hn : slots ≤ n) (hq : Q (some w) T.heap locs) : Till p e below s Q k n (T.setTop (mkF m pc Ls (w :: rest))) := by
  obtain ⟨fs, hr, hrun, hended, hW, hsame⟩ := X.leave (v := some w) (fun q => by rw [hret] at q; cases q) hlk
  exact ⟨_, _, retOut X hx hret hnw (Or.inr (Or.inr (Or.inr (Or.inr ⟨rfl, ht, hw⟩)))) hd hr, hrun, hended, _, _, rfl, hq, ⟨_, rfl⟩, hW, hsame.mono hk hn⟩
theorem Till.retV (X : Stand p l e R s m args below meth c T locs cells slots) (hx : p.tables.exec = Jvm.exec) (hret : meth.sig.returnType = none) (hlk : meth.locks = false) (hd : decode c.code pc = .ok (.return_, 1)) (hk : cells ≤ k) (hn : slots ≤ n) (hq : Q none T.heap locs) : Till p e below s Q k n (T.setTop (mkF m pc Ls [])) := by
  obtain ⟨fs, hr, hrun, hended, hW, hsame⟩ := X.leave (v := none) (fun _ => rfl) hlk
  exact ⟨_, _, X.returnOut hx hret hd hr, hrun, hended, _, _, rfl, hq, ⟨_, rfl⟩, hW, hsame.mono hk hn⟩
/-! the heap -/
theorem Till.getF (X : Stand p l e R s m args below meth c T locs cells slots) (hx : p.tables.exec = Jvm.exec) (hZ : Z.Warmed39 s.vm) {own O nm d : String} {index : Nat} (hown : s.vm.findClass own = some m.cls) (w : (Jvm.Cond.fieldLink own index O nm d).before a0 Z = true) (eT : T.heap = h) {a : Addr} {v : Value} (F : Fld Z h a O nm d v) (hd : decode c.code pc = .ok (.getfield index, 3))
    (r : ∀ T', Stand p l e R s m args below meth c T' locs cells slots → T'.heap = h → Till p e below s Q k n (T'.setTop (mkF m (pc + 3) Ls (v :: rest)))) : Till p e below s Q k n (T.setTop (mkF m pc Ls (.ref a :: rest))) := by
  obtain ⟨T', X', e', st⟩ := Jvm.RoadKit.getF X hx hZ hown (host := "") (Or.inl w) Via.refl eT F (g := mkF m pc Ls (.ref a :: rest)) rfl rfl hd
  exact Till.pre st (r T' X' e')
theorem Till.putF (X : Stand p l e R s m args below meth c T locs cells slots) (hx : p.tables.exec = Jvm.exec) (hZ : Z.Warmed39 s.vm) {own O nm d C : String} {index kk : Nat} {ty : FieldType} (hown : s.vm.findClass own = some m.cls) (w : (Jvm.Cond.fieldLink own index O nm d).before a0 Z = true) (eT : T.heap = h) {a : Addr} {v old : Value} (F : Fld Z h a O nm d old) (E : Exa Z h a C)
    (L : (Jvm.Cond.lays C O nm d).before a0 Z = true ∨ ((Jvm.Cond.laysFinal C O nm d).before a0 Z = true ∧ own = O ∧ meth.name = "<init>")) (wi : (Jvm.Cond.instantiable C kk).before a0 Z = true) (hty : parseFieldDescriptor d = some ty) (hn : narrow ty v = v) (hf : fits ty v = true) (hd : decode c.code pc = .ok (.putfield index, 3))
    (r : ∀ T' h', Stand p l e R s m args below meth c T' (locs ++ [⟨a, Jvm.RoadKit.slotOf Z O nm d⟩]) cells slots → T'.heap = h' → Wr h h' a (Jvm.RoadKit.slotOf Z O nm d) v → Till p e below s Q k n (T'.setTop (mkF m (pc + 3) Ls rest))) : Till p e below s Q k n (T.setTop (mkF m pc Ls (v :: .ref a :: rest))) := by
  obtain ⟨T', h', X', e', W, st⟩ := Jvm.RoadKit.putF X hx hZ hown (host := "") (Or.inl w) Via.refl eT F E L wi hty hn hf (g := mkF m pc Ls (v :: .ref a :: rest)) rfl rfl hd
  exact Till.pre st (r T' h' X' e' W)
theorem Till.newO (X : Stand p l e R s m args below meth c T locs cells slots) (hx : p.tables.exec = Jvm.exec) (hZ : Z.Warmed39 s.vm) {own C : String} {index sl : Nat} (hown : s.vm.findClass own = some m.cls) (w : (Jvm.Cond.classLink own index C).before a0 Z = true) (wi : (Jvm.Cond.instantiable C sl).before a0 Z = true) (wz : (Jvm.Cond.initialized C).before a0 Z = true) (eT : T.heap = h) (hd : decode c.code pc = .ok (.new index, 3)) (hc : cells + 1 ≤ R.cells) (hl : slots + sl ≤ R.slots)
    (r : ∀ T' h' b, b = h.size → Stand p l e R s m args below meth c T' locs (cells + 1) (slots + sl) → T'.heap = h' → Ext h h' → Exa Z h' b C → (∀ {O nm d : String} {ty : FieldType}, Laid Z a0 C O nm d → parseFieldDescriptor d = some ty → Fld Z h' b O nm d (defaultValue ty)) → Till p e below s Q k n (T'.setTop (mkF m (pc + 3) Ls (.ref b :: rest)))) : Till p e below s Q k n (T.setTop (mkF m pc Ls rest)) := by
  obtain ⟨T', h', X', e', E, A, D, -, st⟩ := Jvm.RoadKit.newO X hx hZ hown w wi wz eT (g := mkF m pc Ls rest) rfl hd hc hl
  exact Till.pre st (r T' h' _ rfl X' e' E A D)
theorem Till.initO (X : Stand p l e R s m args below meth c T locs cells slots) (hx : p.tables.exec = Jvm.exec) (hZ : Z.Warmed39 s.vm) {own : String} {idx : Nat} (hown : s.vm.findClass own = some m.cls) (w1 : (Jvm.Cond.methodLink own idx Lib.objectInit).before a0 Z = true) (w2 : (Jvm.Cond.instanceMethod Lib.objectInit).before a0 Z = true) (w3 : (Jvm.Cond.code Lib.objectInit ⟨#[0xb1]⟩ 1 none).before a0 Z = true) (eT : T.heap = h) (hsize : Ls.size = c.maxLocals) {a : Addr} (hd : decode c.code pc = .ok (.invokespecial idx, 3))
    (hf : 1 ≤ R.frames) {W : Nat} (hW : (rest.map fun v => v.category).sum ≤ W) (hl : W + 12 ≤ R.locals)
    (r : ∀ T', Stand p l e R s m args below meth c T' locs cells slots → T'.heap = h → Till p e below s Q k n (T'.setTop (mkF m (pc + 3) Ls rest))) : Till p e below s Q k n (T.setTop (mkF m pc Ls (.ref a :: rest))) := by
  obtain ⟨T', X', e', st⟩ := Jvm.RoadKit.initO X hx hZ hown w1 w2 w3 eT (g := mkF m pc Ls (.ref a :: rest)) rfl hsize rfl hd hf (W := W) (by show 2 * 0 + _ ≤ _; omega) hl
  exact Till.pre st (r T' X' e')
/-! arrays: what they hold, as a function of the place -/
def AR {α : Type} (ty : FieldType) (w : α → Value) (Z : State) (h : Heap) (a : Addr) (z : Int32) (f : Nat → α) : Prop := ∃ c : Cell, Arr Z h a c ty ∧ c.slots.size = z.toNatClampNeg ∧ ¬ z < 0 ∧ ∀ i, i < c.slots.size → c.slots[i]? = some (w (f i))
abbrev LA := @AR Int64 .long Value.long
abbrev IA := @AR Int32 .int Value.int
abbrev BA := @AR Int32 .byte Value.int
def oupd {α : Type} (f : Nat → α) (i : Nat) (v : α) : Nat → α := fun x => if x = i then v else f x
theorem upd_hit {α : Type} {f : Nat → α} {i j : Nat} {v : α} (q : j = i) : oupd f i v j = v := if_pos q
theorem upd_miss {α : Type} {f : Nat → α} {i j : Nat} {v : α} (q : ¬ j = i) : oupd f i v j = f j := if_neg q
section Ary
variable {α : Type} {ty : FieldType} {w : α → Value} {a b : Addr} {z j : Int32} {f : Nat → α} {ws : List Addr} {sl : Nat} {v : Value}
theorem AR.lt (A : AR ty w Z h a z f) : a < h.size := by obtain ⟨c, A, -⟩ := A; exact A.lt
theorem AR.pos (A : AR ty w Z h a z f) : ¬ z < 0 := by obtain ⟨c, -, -, q, -⟩ := A; exact q
theorem AR.ext (A : AR ty w Z h a z f) (E : Ext h h') : AR ty w Z h' a z f := by obtain ⟨c, A, r⟩ := A; exact ⟨c, A.ext E, r⟩
theorem AR.keep (A : AR ty w Z h a z f) (K : Keep h h' ws) (q : a ∉ ws) : AR ty w Z h' a z f := by obtain ⟨c, A, r⟩ := A; exact ⟨c, ⟨K.2.1 a c A.1 q, A.2⟩, r⟩
theorem AR.wr (A : AR ty w Z h a z f) (W : Wr h h' b sl v) (q : a ≠ b) : AR ty w Z h' a z f := by obtain ⟨c, A, r⟩ := A; exact ⟨c, A.other W q, r⟩
theorem AR.congr {g : Nat → α} (A : AR ty w Z h a z f) (q : ∀ i, i < z.toNatClampNeg → f i = g i) : AR ty w Z h a z g := by obtain ⟨c, A, S, N, H⟩ := A; exact ⟨c, A, S, N, fun i hi => by rw [H i hi, q i (S ▸ hi)]⟩
theorem AR.set {x : α} (A : AR ty w Z h a z f) (W : Wr h h' a j.toNatClampNeg (w x)) : AR ty w Z h' a z (oupd f j.toNatClampNeg x) := by
  obtain ⟨c, A, S, N, H⟩ := A
  refine ⟨_, A.same W, by rw [sz_set]; exact S, N, fun i hi => ?_⟩
  rw [sz_set] at hi
  by_cases u : i = j.toNatClampNeg
  · rw [upd_hit u]; subst u; simp [Cell.setSlot, hi]
  · rw [upd_miss u]; simp only [Cell.setSlot]; rw [Array.getElem?_setIfInBounds_ne (Ne.symm u)]; exact H i hi
theorem Till.newA {aty : ArrayType} {d0 : α} (X : Stand p l e R s m args below meth c T locs cells slots) (hx : p.tables.exec = Jvm.exec) (hZ : Z.Warmed39 s.vm) (wa : (Jvm.Cond.arrayClass (newarray.typeOf aty)).before a0 Z = true) (eT : T.heap = h) (hd : decode c.code pc = .ok (.newarray aty, 2)) (hdv : defaultValue (newarray.typeOf aty) = w d0) (hz : ¬ z < 0) (cap : Nat) (hcap : z.toNatClampNeg ≤ cap) (hb : cap * 8 ≤ 536870912) (hc : cells + 1 ≤ R.cells) (hl : slots + cap ≤ R.slots)
    (r : ∀ T' h' b, b = h.size → Stand p l e R s m args below meth c T' locs (cells + 1) (slots + cap) → T'.heap = h' → Ext h h' → AR (newarray.typeOf aty) w Z h' b z (fun _ => d0) → Till p e below s Q k n (T'.setTop (mkF m (pc + 2) Ls (.ref b :: rest)))) : Till p e below s Q k n (T.setTop (mkF m pc Ls (.int z :: rest))) := by
  obtain ⟨T', h', cA, X', e', E, A, st⟩ := newP X hx hZ wa eT (g := mkF m pc Ls (.int z :: rest)) rfl hd rfl hz (cap := cap) hcap hb hc hl
  exact Till.pre st (r T' h' _ rfl X' e' E ⟨_, A, sz_new _ _ _, hz, fun i hi => by rw [sz_new] at hi; simp [Jvm.RoadKit.newA, hi, hdv]⟩)
theorem Till.alen (A : AR ty w Z h a z f) (X : Stand p l e R s m args below meth c T locs cells slots) (hx : p.tables.exec = Jvm.exec) (hZ : Z.Warmed39 s.vm) (eT : T.heap = h) (hd : decode c.code pc = .ok (.arraylength, 1))
    (r : Till p e below s Q k n (T.setTop (mkF m (pc + 1) Ls (.int z :: rest)))) : Till p e below s Q k n (T.setTop (mkF m pc Ls (.ref a :: rest))) := by
  obtain ⟨c', A, S, N, H⟩ := A
  refine Till.pre (X.arraylength hx (by rw [eT]; exact A.1) (State.isArrayOf_alike hZ.alike A.2.1) (g := mkF m pc Ls (.ref a :: rest)) rfl rfl hd) ?_
  rw [len_of S N]; exact r
theorem AR.at (A : AR ty w Z h a z f) (h1 : ¬ j < 0) (h2 : j < z) : ∃ c : Cell, Arr Z h a c ty ∧ ¬ (j < 0 ∨ c.slots.size ≤ j.toNatClampNeg) ∧ c.slots[j.toNatClampNeg]? = some (w (f j.toNatClampNeg)) := by
  obtain ⟨c', A, S, N, H⟩ := A
  have hin := inb_of S ⟨h1, h2⟩
  exact ⟨c', A, hin, H _ (Nat.lt_of_not_le fun y => hin (Or.inr y))⟩
end Ary
section Acc
variable {a : Addr} {z j : Int32}
theorem Till.laload {f : Nat → Int64} (A : LA Z h a z f) (h1 : ¬ j < 0) (h2 : j < z) (X : Stand p l e R s m args below meth c T locs cells slots) (hx : p.tables.exec = Jvm.exec) (hZ : Z.Warmed39 s.vm) (eT : T.heap = h) (hd : decode c.code pc = .ok (.laload, 1))
    (r : Till p e below s Q k n (T.setTop (mkF m (pc + 1) Ls (.long (f j.toNatClampNeg) :: rest)))) : Till p e below s Q k n (T.setTop (mkF m pc Ls (.int j :: .ref a :: rest))) := by
  obtain ⟨c', A, hin, hv⟩ := A.at h1 h2
  exact Till.pre (X.laload hx (by rw [eT]; exact A.1) (State.isArrayOf_alike hZ.alike A.2.1) A.2.2 hin hv (g := mkF m pc Ls (.int j :: .ref a :: rest)) rfl rfl hd) r
theorem Till.iaload {f : Nat → Int32} (A : IA Z h a z f) (h1 : ¬ j < 0) (h2 : j < z) (X : Stand p l e R s m args below meth c T locs cells slots) (hx : p.tables.exec = Jvm.exec) (hZ : Z.Warmed39 s.vm) (eT : T.heap = h) (hd : decode c.code pc = .ok (.iaload, 1))
    (r : Till p e below s Q k n (T.setTop (mkF m (pc + 1) Ls (.int (f j.toNatClampNeg) :: rest)))) : Till p e below s Q k n (T.setTop (mkF m pc Ls (.int j :: .ref a :: rest))) := by
  obtain ⟨c', A, hin, hv⟩ := A.at h1 h2
  exact Till.pre (X.iaload hx (by rw [eT]; exact A.1) (State.isArrayOf_alike hZ.alike A.2.1) A.2.2 hin hv (g := mkF m pc Ls (.int j :: .ref a :: rest)) rfl rfl hd) r
theorem Till.baload {f : Nat → Int32} (A : BA Z h a z f) (h1 : ¬ j < 0) (h2 : j < z) (X : Stand p l e R s m args below meth c T locs cells slots) (hx : p.tables.exec = Jvm.exec) (hZ : Z.Warmed39 s.vm) (eT : T.heap = h) (hd : decode c.code pc = .ok (.baload, 1))
    (r : Till p e below s Q k n (T.setTop (mkF m (pc + 1) Ls (.int (f j.toNatClampNeg) :: rest)))) : Till p e below s Q k n (T.setTop (mkF m pc Ls (.int j :: .ref a :: rest))) := by
  obtain ⟨c', A, hin, hv⟩ := A.at h1 h2
  exact Till.pre (X.baloadBytes hx (by rw [eT]; exact A.1) (State.isArrayOf_alike hZ.alike A.2.1) A.2.2 hin hv (g := mkF m pc Ls (.int j :: .ref a :: rest)) rfl rfl hd) r
theorem Till.lastore {f : Nat → Int64} {x : Int64} (A : LA Z h a z f) (h1 : ¬ j < 0) (h2 : j < z) (X : Stand p l e R s m args below meth c T locs cells slots) (hx : p.tables.exec = Jvm.exec) (hZ : Z.Warmed39 s.vm) (eT : T.heap = h) (hd : decode c.code pc = .ok (.lastore, 1))
    (r : ∀ T' h', Stand p l e R s m args below meth c T' (locs ++ [⟨a, j.toNatClampNeg⟩]) cells slots → T'.heap = h' → Wr h h' a j.toNatClampNeg (.long x) → LA Z h' a z (oupd f j.toNatClampNeg x) → Till p e below s Q k n (T'.setTop (mkF m (pc + 1) Ls rest))) : Till p e below s Q k n (T.setTop (mkF m pc Ls (.long x :: .int j :: .ref a :: rest))) := by
  obtain ⟨c', A', hin, hv⟩ := A.at h1 h2
  obtain ⟨T', h', X', e', W, st⟩ := stJ X hx hZ eT A' hin (x := x) (g := mkF m pc Ls (.long x :: .int j :: .ref a :: rest)) rfl rfl hd
  exact Till.pre st (r T' h' X' e' W (AR.set A W))
theorem Till.iastore {f : Nat → Int32} {x : Int32} (A : IA Z h a z f) (h1 : ¬ j < 0) (h2 : j < z) (X : Stand p l e R s m args below meth c T locs cells slots) (hx : p.tables.exec = Jvm.exec) (hZ : Z.Warmed39 s.vm) (eT : T.heap = h) (hd : decode c.code pc = .ok (.iastore, 1))
    (r : ∀ T' h', Stand p l e R s m args below meth c T' (locs ++ [⟨a, j.toNatClampNeg⟩]) cells slots → T'.heap = h' → Wr h h' a j.toNatClampNeg (.int x) → IA Z h' a z (oupd f j.toNatClampNeg x) → Till p e below s Q k n (T'.setTop (mkF m (pc + 1) Ls rest))) : Till p e below s Q k n (T.setTop (mkF m pc Ls (.int x :: .int j :: .ref a :: rest))) := by
  obtain ⟨c', A', hin, hv⟩ := A.at h1 h2
  obtain ⟨T', h', X', e', W, st⟩ := stI X hx hZ eT A' hin (x := x) (g := mkF m pc Ls (.int x :: .int j :: .ref a :: rest)) rfl rfl hd
  exact Till.pre st (r T' h' X' e' W (AR.set A W))
theorem Till.bastore {f : Nat → Int32} {x : Int32} (A : BA Z h a z f) (h1 : ¬ j < 0) (h2 : j < z) (X : Stand p l e R s m args below meth c T locs cells slots) (hx : p.tables.exec = Jvm.exec) (hZ : Z.Warmed39 s.vm) (eT : T.heap = h) (hd : decode c.code pc = .ok (.bastore, 1))
    (r : ∀ T' h', Stand p l e R s m args below meth c T' (locs ++ [⟨a, j.toNatClampNeg⟩]) cells slots → T'.heap = h' → Wr h h' a j.toNatClampNeg (.int x.toInt8.toInt32) → BA Z h' a z (oupd f j.toNatClampNeg x.toInt8.toInt32) → Till p e below s Q k n (T'.setTop (mkF m (pc + 1) Ls rest))) : Till p e below s Q k n (T.setTop (mkF m pc Ls (.int x :: .int j :: .ref a :: rest))) := by
  obtain ⟨c', A', hin, hv⟩ := A.at h1 h2
  obtain ⟨T', h', X', e', W, st⟩ := stB X hx hZ eT A' hin (x := x) (g := mkF m pc Ls (.int x :: .int j :: .ref a :: rest)) rfl rfl hd
  exact Till.pre st (r T' h' X' e' W (AR.set A W))
end Acc
/-! calls -/
section Calls
variable {own : String} {index maxL : Nat} {y : MethodName} {bytes : ByteArray} {ret : Option FieldType} {rm : Room} {as : Array Value} {Qc : Option Value → Heap → List Loc → Prop} {W : Nat} {argsL st : List Value}
theorem Till.callS (C : Ctr l Z y bytes maxL ret rm as h Qc) (X : Stand p l e R s m args below meth c T locs cells slots) (hx : p.tables.exec = Jvm.exec) (hZ : Z.Warmed39 s.vm) (hown : s.vm.findClass own = some m.cls) (w1 : (Jvm.Cond.methodLink own index y).before a0 Z = true) (w2 : (Jvm.Cond.static y).before a0 Z = true) (w3 : (Jvm.Cond.initialized y.cls).before a0 Z = true) (w4 : (Jvm.Cond.code y bytes maxL ret).before a0 Z = true)
    (hy : y.cls ≠ "java/lang/invoke/MethodHandle" ∧ y.cls ≠ "java/lang/invoke/VarHandle") (hf : rm.frames + 1 ≤ R.frames) (hl : W + (maxL + 11) + rm.locals ≤ R.locals) (hsize : Ls.size = c.maxLocals) (hlen : ∀ sig, parseMethodDescriptor y.desc = some sig → argsL.length = sig.parameters.length) (has : argsL.toArray = as) (hst : st = argsL.reverse ++ rest) (hW : (rest.map fun v => v.category).sum ≤ W) (hd : decode c.code pc = .ok (.invokestatic index, 3)) (eT : T.heap = h) (hc : cells + rm.cells ≤ R.cells) (hs : slots + rm.slots ≤ R.slots)
    (r : ∀ v T' L, Stand p l e R s m args below meth c T' (locs ++ L) (cells + rm.cells) (slots + rm.slots) → Qc v T'.heap L → Till p e below s Q k n (T'.setTop (mkF m (pc + 3) Ls (v.toList ++ rest)))) : Till p e below s Q k n (T.setTop (mkF m pc Ls st)) := by
  obtain ⟨v, vm1, ⟨T', L', c', s'⟩, -, X', ⟨Lc, hQ, l1, y1, z1⟩, stp⟩ := Jvm.LawKit.callS X hx hown (mvT hZ w1) (mvT hZ w2) (mvT hZ w3) (mvT hZ w4) hy (backOf (W := W) (C []) hZ w4 w3 hf hl) (g := mkF m pc Ls st) rfl hsize (argsL := argsL) (rest := rest) hlen hst (by show 2 * 0 + _ ≤ _; omega) hd (fun _ _ => ⟨has, eT, hc, hs⟩)
  dsimp only [Pt.U, Pt.locs, Pt.cells, Pt.slots] at X' l1 y1 z1 stp hQ
  subst l1 y1 z1
  exact Till.pre stp (r v T' Lc X' hQ)
theorem Till.callC {a : Addr} (C : Ctr l Z y bytes maxL none rm as h Qc) (X : Stand p l e R s m args below meth c T locs cells slots) (hx : p.tables.exec = Jvm.exec) (hZ : Z.Warmed39 s.vm) (hown : s.vm.findClass own = some m.cls) (hy1 : y.name = "<init>") (w1 : (Jvm.Cond.methodLink own index y).before a0 Z = true) (w2 : (Jvm.Cond.instanceMethod y).before a0 Z = true) (w3 : (Jvm.Cond.initialized y.cls).before a0 Z = true) (w4 : (Jvm.Cond.code y bytes maxL none).before a0 Z = true)
    (hy : y.cls ≠ "java/lang/invoke/MethodHandle" ∧ y.cls ≠ "java/lang/invoke/VarHandle") (hf : rm.frames + 1 ≤ R.frames) (hl : W + (maxL + 11) + rm.locals ≤ R.locals) (hsize : Ls.size = c.maxLocals) (hlen : ∀ sig, parseMethodDescriptor y.desc = some sig → argsL.length = sig.parameters.length) (has : (.ref a :: argsL).toArray = as) (hst : st = argsL.reverse ++ .ref a :: rest) (hW : (rest.map fun v => v.category).sum ≤ W) (hd : decode c.code pc = .ok (.invokespecial index, 3)) (eT : T.heap = h) (hc : cells + rm.cells ≤ R.cells) (hs : slots + rm.slots ≤ R.slots)
    (r : ∀ v T' L, Stand p l e R s m args below meth c T' (locs ++ L) (cells + rm.cells) (slots + rm.slots) → Qc v T'.heap L → Till p e below s Q k n (T'.setTop (mkF m (pc + 3) Ls (v.toList ++ rest)))) : Till p e below s Q k n (T.setTop (mkF m pc Ls st)) := by
  obtain ⟨v, vm1, ⟨T', L', c', s'⟩, -, X', ⟨Lc, hQ, l1, y1, z1⟩, stp⟩ := X.specialBack hx hy1 hown (mvT hZ w1) (mvT hZ w2) (mvT hZ w4) hy (backOf (W := W) (C []) hZ w4 w3 hf hl) (g := mkF m pc Ls st) rfl hsize (Steps.refl _) (a := a) (argsL := argsL) (rest := rest) hlen hst (by show 2 * 0 + _ ≤ _; omega) hd (fun _ _ => ⟨has, eT, hc, hs⟩)
  dsimp only [Pt.U, Pt.locs, Pt.cells, Pt.slots] at X' l1 y1 z1 stp hQ
  subst l1 y1 z1
  exact Till.via stp (r v T' Lc X' hQ)
theorem Till.callV {a : Addr} (C : Ctr l Z y bytes maxL ret rm as h Qc) (E : Exa Z h a y.cls) (X : Stand p l e R s m args below meth c T locs cells slots) (hx : p.tables.exec = Jvm.exec) (hZ : Z.Warmed39 s.vm) (hown : s.vm.findClass own = some m.cls) (w1 : (Jvm.Cond.methodLink own index y).before a0 Z = true) (w5 : (Jvm.Cond.declares y).before a0 Z = true) (w6 : (Jvm.Cond.selects y.cls y y).before a0 Z = true) (w2 : (Jvm.Cond.instanceMethod y).before a0 Z = true) (w3 : (Jvm.Cond.initialized y.cls).before a0 Z = true) (w4 : (Jvm.Cond.code y bytes maxL ret).before a0 Z = true)
    (hy : y.cls ≠ "java/lang/invoke/MethodHandle" ∧ y.cls ≠ "java/lang/invoke/VarHandle") (hf : rm.frames + 1 ≤ R.frames) (hl : W + (maxL + 11) + rm.locals ≤ R.locals) (hsize : Ls.size = c.maxLocals) (hlen : ∀ sig, parseMethodDescriptor y.desc = some sig → argsL.length = sig.parameters.length) (has : (.ref a :: argsL).toArray = as) (hst : st = argsL.reverse ++ .ref a :: rest) (hW : (rest.map fun v => v.category).sum ≤ W) (hd : decode c.code pc = .ok (.invokevirtual index, 3)) (eT : T.heap = h) (hc : cells + rm.cells ≤ R.cells) (hs : slots + rm.slots ≤ R.slots)
    (r : ∀ v T' L, Stand p l e R s m args below meth c T' (locs ++ L) (cells + rm.cells) (slots + rm.slots) → Qc v T'.heap L → Till p e below s Q k n (T'.setTop (mkF m (pc + 3) Ls (v.toList ++ rest)))) : Till p e below s Q k n (T.setTop (mkF m pc Ls st)) := by
  obtain ⟨cq, kq, qa, qb, qc⟩ := isOf hZ eT E
  obtain ⟨v, vm1, ⟨T', L', c', s'⟩, -, X', ⟨Lc, hQ, l1, y1, z1⟩, stp⟩ := X.virtualBack hx (y := y) (z := y) hown (mvT hZ w1) (mvT hZ w5) (notFace_of_selects (args := #[]) (mvT hZ w6)) (mvT hZ w6) (mvT hZ w2) hy (backOf (W := W) (C []) hZ w4 w3 hf hl) qa qc (g := mkF m pc Ls st) rfl hsize (Steps.refl _) (argsL := argsL) (rest := rest) hlen hst (by show 2 * 0 + _ ≤ _; omega) hd (fun _ _ => ⟨has, eT, hc, hs⟩)
  dsimp only [Pt.U, Pt.locs, Pt.cells, Pt.slots] at X' l1 y1 z1 stp hQ
  subst l1 y1 z1
  exact Till.via stp (r v T' Lc X' hQ)
theorem Till.callP {a : Addr} {kk : Nat} (C : Ctr l Z y bytes maxL ret rm as h Qc) (E : Exa Z h a y.cls) (X : Stand p l e R s m args below meth c T locs cells slots) (hx : p.tables.exec = Jvm.exec) (hZ : Z.Warmed39 s.vm) (hown : s.vm.findClass own = some m.cls) (w1 : (Jvm.Cond.methodLink own index y).before a0 Z = true) (w2 : (Jvm.Cond.instanceMethod y).before a0 Z = true) (wp : (Jvm.Cond.privateMethod y).before a0 Z = true) (wi : (Jvm.Cond.instantiable y.cls kk).before a0 Z = true) (w3 : (Jvm.Cond.initialized y.cls).before a0 Z = true) (w4 : (Jvm.Cond.code y bytes maxL ret).before a0 Z = true)
    (hy : y.cls ≠ "java/lang/invoke/MethodHandle" ∧ y.cls ≠ "java/lang/invoke/VarHandle") (hf : rm.frames + 1 ≤ R.frames) (hl : W + (maxL + 11) + rm.locals ≤ R.locals) (hsize : Ls.size = c.maxLocals) (hlen : ∀ sig, parseMethodDescriptor y.desc = some sig → argsL.length = sig.parameters.length) (has : (.ref a :: argsL).toArray = as) (hst : st = argsL.reverse ++ .ref a :: rest) (hW : (rest.map fun v => v.category).sum ≤ W) (hd : decode c.code pc = .ok (.invokevirtual index, 3)) (eT : T.heap = h) (hc : cells + rm.cells ≤ R.cells) (hs : slots + rm.slots ≤ R.slots)
    (r : ∀ v T' L, Stand p l e R s m args below meth c T' (locs ++ L) (cells + rm.cells) (slots + rm.slots) → Qc v T'.heap L → Till p e below s Q k n (T'.setTop (mkF m (pc + 3) Ls (v.toList ++ rest)))) : Till p e below s Q k n (T.setTop (mkF m pc Ls st)) := by
  have wi' : (Jvm.Cond.instantiable y.cls kk).before args s = true := mvT hZ wi
  have w2' : (Jvm.Cond.instanceMethod y).before args s = true := mvT hZ w2
  obtain ⟨c2, k2, i1, i2, -, hniab, -, -⟩ := Cond.instantiable_spec wi'
  have hpr := Cond.privateMethod_at (mvP hZ wp (args := args))
  have hsel : (Jvm.Cond.selects y.cls y y).before args s = true := selects_self_of_private i1 i2 (Bool.or_eq_false_iff.mp hniab).1 hpr w2' hy
  obtain ⟨cell, hcell, hobj⟩ := E.cell
  obtain ⟨v, vm1, ⟨T', L', c', s'⟩, -, X', ⟨Lc, hQ, l1, y1, z1⟩, stp⟩ := X.privateBack hx hown (mvT hZ w1) w2' hsel hpr (mvT hZ w4) hy (backOf (W := W) (C []) hZ w4 w3 hf hl) (g := mkF m pc Ls st) rfl hsize (Steps.refl _) (a := a) (by rw [eT]; exact hcell) hobj (argsL := argsL) (rest := rest) hlen hst (by show 2 * 0 + _ ≤ _; omega) hd (fun _ _ => ⟨has, eT, hc, hs⟩)
  dsimp only [Pt.U, Pt.locs, Pt.cells, Pt.slots] at X' l1 y1 z1 stp hQ
  subst l1 y1 z1
  exact Till.via stp (r v T' Lc X' hQ)
end Calls
theorem Till.pop2L {x : Int64} (X : Stand p l e R s m args below meth c T locs cells slots) (hx : p.tables.exec = Jvm.exec) (hd : decode c.code pc = .ok (.pop2, 1)) (r : Till p e below s Q k n (T.setTop (mkF m (pc + 1) Ls rest))) : Till p e below s Q k n (T.setTop (mkF m pc Ls (.long x :: rest))) := by
  refine Till.pre (fun t hr => ?_) r
  show Steps p.tables e below (T.setTop { method := m, pc := pc, locals := Ls, stack := _ :: rest, locked := none }) _
  jvm_step X.here [X.here.top, hx, hd, Value.category]
  exact hr
end Own
end Jvm.Own
namespace Jvm.Pilot.@@N@@
open Jvm Jvm.ClassFile Sem Op Lib Jvm.Free Jvm.Stand Jvm.LawKit Jvm.RoadKit Bundle Jvm.Own Jvm.Pilot.@@N@@.Jvm.D
theorem d1_0 : decode prog_208_method_2_code 0 = .ok (.iload_n 0, 1) := by decide +kernel
theorem d1_1 : decode prog_208_method_2_code 1 = .ok (.bipush 9, 2) := by decide +kernel
theorem d1_3 : decode prog_208_method_2_code 3 = .ok (.if_icmp .eq 51, 3) := by decide +kernel
theorem d1_6 : decode prog_208_method_2_code 6 = .ok (.iload_n 0, 1) := by decide +kernel
theorem d1_7 : decode prog_208_method_2_code 7 = .ok (.bipush 10, 2) := by decide +kernel
theorem d1_9 : decode prog_208_method_2_code 9 = .ok (.if_icmp .eq 45, 3) := by decide +kernel
theorem d1_12 : decode prog_208_method_2_code 12 = .ok (.iload_n 0, 1) := by decide +kernel
theorem d1_13 : decode prog_208_method_2_code 13 = .ok (.bipush 13, 2) := by decide +kernel
theorem d1_15 : decode prog_208_method_2_code 15 = .ok (.if_icmp .eq 39, 3) := by decide +kernel
theorem d1_18 : decode prog_208_method_2_code 18 = .ok (.iload_n 0, 1) := by decide +kernel
theorem d1_19 : decode prog_208_method_2_code 19 = .ok (.bipush 32, 2) := by decide +kernel
theorem d1_21 : decode prog_208_method_2_code 21 = .ok (.if_icmp .lt 9, 3) := by decide +kernel
theorem d1_24 : decode prog_208_method_2_code 24 = .ok (.iload_n 0, 1) := by decide +kernel
theorem d1_25 : decode prog_208_method_2_code 25 = .ok (.ldc 7, 2) := by decide +kernel
theorem d1_27 : decode prog_208_method_2_code 27 = .ok (.if_icmp .le 27, 3) := by decide +kernel
theorem d1_30 : decode prog_208_method_2_code 30 = .ok (.iload_n 0, 1) := by decide +kernel
theorem d1_31 : decode prog_208_method_2_code 31 = .ok (.ldc 8, 2) := by decide +kernel
theorem d1_33 : decode prog_208_method_2_code 33 = .ok (.if_icmp .lt 9, 3) := by decide +kernel
theorem d1_36 : decode prog_208_method_2_code 36 = .ok (.iload_n 0, 1) := by decide +kernel
theorem d1_37 : decode prog_208_method_2_code 37 = .ok (.ldc 9, 2) := by decide +kernel
theorem d1_39 : decode prog_208_method_2_code 39 = .ok (.if_icmp .le 15, 3) := by decide +kernel
theorem d1_42 : decode prog_208_method_2_code 42 = .ok (.iload_n 0, 1) := by decide +kernel
theorem d1_43 : decode prog_208_method_2_code 43 = .ok (.ldc 10, 2) := by decide +kernel
theorem d1_45 : decode prog_208_method_2_code 45 = .ok (.if_icmp .lt 13, 3) := by decide +kernel
theorem d1_48 : decode prog_208_method_2_code 48 = .ok (.iload_n 0, 1) := by decide +kernel
theorem d1_49 : decode prog_208_method_2_code 49 = .ok (.ldc 11, 2) := by decide +kernel
theorem d1_51 : decode prog_208_method_2_code 51 = .ok (.if_icmp .gt 7, 3) := by decide +kernel
theorem d1_54 : decode prog_208_method_2_code 54 = .ok (.iconst 1, 1) := by decide +kernel
theorem d1_55 : decode prog_208_method_2_code 55 = .ok (.goto 4, 3) := by decide +kernel
theorem d1_58 : decode prog_208_method_2_code 58 = .ok (.iconst 0, 1) := by decide +kernel
theorem d1_59 : decode prog_208_method_2_code 59 = .ok (.ireturn, 1) := by decide +kernel
theorem pn_1 : plainName "com/example/wolfville/wolfville/xml/XmlCharacters" = true := by first | (simp [plainName, overriddenIn]; done) | decide +kernel
theorem ef_1 (m : MethodId) (p1 : Int32) : entryFrame m #[(.int p1)] 1 = mkF m 0 #[.val (.int p1)] [] := by first | (simp [entryFrame, mkF, argsToLocals, Value.category]; done) | rfl
def fn1 (p1 : Int32) : Int32 := ((if (p1 = (9 : Int32)) then (1 : Int32) else (if (p1 = (10 : Int32)) then (1 : Int32) else (if (p1 = (13 : Int32)) then (1 : Int32) else (if (p1 < (32 : Int32)) then (if (p1 < (57344 : Int32)) then (if (p1 < (65536 : Int32)) then (0 : Int32) else (if ((1114111 : Int32) < p1) then (0 : Int32) else (1 : Int32))) else (if ((65533 : Int32) < p1) then (if (p1 < (65536 : Int32)) then (0 : Int32) else (if ((1114111 : Int32) < p1) then (0 : Int32) else (1 : Int32))) else (1 : Int32))) else (if ((55295 : Int32) < p1) then (if (p1 < (57344 : Int32)) then (if (p1 < (65536 : Int32)) then (0 : Int32) else (if ((1114111 : Int32) < p1) then (0 : Int32) else (1 : Int32))) else (if ((65533 : Int32) < p1) then (if (p1 < (65536 : Int32)) then (0 : Int32) else (if ((1114111 : Int32) < p1) then (0 : Int32) else (1 : Int32))) else (1 : Int32))) else (1 : Int32)))))) &&& 1)
def Q1 (Z : State) (p1 : Int32) (h0 : Heap) (n0 : Nat) : Option Value → Heap → List Loc → Prop := fun v h L => v = some (Value.int (fn1 p1)) ∧ Fr n0 L ∧ h = h0
def room1 : Room := { frames := 0, cells := 0, slots := 0, locals := 0 }
set_option maxRecDepth 65536 in
set_option maxHeartbeats 40000000 in
theorem rm1 (l : Launch) (Z : State) (a0 : Array Value) (hw : ∀ d ∈ tables_1, d.before a0 Z = true) (p1 : Int32) (h0 : Heap) (n0 : Nat)  : Ctr l Z (⟨"com/example/wolfville/wolfville/xml/XmlCharacters", "isChar", "(I)Z"⟩ : MethodName) prog_208_method_2_code 1 (some .boolean) room1 #[(.int p1)] h0 (Q1 Z p1 h0 n0) := by
  refine Ctr.of (plainFor_of_name pn_1) ?_
  intro p e s m below meth c s₁ hx hby hml hown hnm hret hlk hZ e0 X0
  have hown : s.vm.findClass "com/example/wolfville/wolfville/xml/XmlCharacters" = some m.cls := hown
  have hml : c.maxLocals = 1 := hml
  have hnm : meth.name = "isChar" := hnm
  have hret : meth.sig.returnType = (some .boolean) := hret
  have N0 := Fr.nil n0
  refine Till.cast (ef_1 m p1) ?_
  show Till p e below s (Q1 Z p1 h0 n0) room1.cells room1.slots (s₁.setTop (mkF m 0 #[.val (.int p1)] []))
  refine Till.pre (fun _ hr => XS.iloadN X0.here hx rfl (hb hby d1_0) rfl hr) ?_
  show Till p e below s (Q1 Z p1 h0 n0) room1.cells room1.slots (s₁.setTop (mkF m 1 #[.val (.int p1)] [(.int p1)]))
  refine Till.pre (fun _ hr => XS.bipush X0.here hx rfl (hb hby d1_1) hr) ?_
  show Till p e below s (Q1 Z p1 h0 n0) room1.cells room1.slots (s₁.setTop (mkF m 3 #[.val (.int p1)] [(.int (9 : Int32)), (.int p1)]))
  have J59_17 : ∀ (v59s0 : Int32) (hv59s0 : v59s0 = (if (p1 = (9 : Int32)) then (1 : Int32) else (if (p1 = (10 : Int32)) then (1 : Int32) else (if (p1 = (13 : Int32)) then (1 : Int32) else (if (p1 < (32 : Int32)) then (if (p1 < (57344 : Int32)) then (if (p1 < (65536 : Int32)) then (0 : Int32) else (if ((1114111 : Int32) < p1) then (0 : Int32) else (1 : Int32))) else (if ((65533 : Int32) < p1) then (if (p1 < (65536 : Int32)) then (0 : Int32) else (if ((1114111 : Int32) < p1) then (0 : Int32) else (1 : Int32))) else (1 : Int32))) else (if ((55295 : Int32) < p1) then (if (p1 < (57344 : Int32)) then (if (p1 < (65536 : Int32)) then (0 : Int32) else (if ((1114111 : Int32) < p1) then (0 : Int32) else (1 : Int32))) else (if ((65533 : Int32) < p1) then (if (p1 < (65536 : Int32)) then (0 : Int32) else (if ((1114111 : Int32) < p1) then (0 : Int32) else (1 : Int32))) else (1 : Int32))) else (1 : Int32))))))), Till p e below s (Q1 Z p1 h0 n0) room1.cells room1.slots (s₁.setTop (mkF m 59 #[.val (.int p1)] [(.int v59s0)])) := by
    intro v59s0 hv59s0
    show Till p e below s (Q1 Z p1 h0 n0) room1.cells room1.slots (s₁.setTop (mkF m 59 #[.val (.int p1)] [(.int v59s0)]))
    refine Till.retZ (w := (v59s0 &&& 1)) X0 hx hret hlk (hb hby d1_59) (by decide) (by decide) (rfl) ?_
    subst hv59s0
    exact ⟨rfl, N0, e0⟩
  refine Till.icmp (pc' := 54) X0.here hx (hb hby d1_3) (by decide) (by decide) (fun q => ?_) (fun q => ?_)
  · have hc1 := (hEq.1 q)
    show Till p e below s (Q1 Z p1 h0 n0) room1.cells room1.slots (s₁.setTop (mkF m 54 #[.val (.int p1)] []))
    refine Till.pre (fun _ hr => XS.iconst X0.here hx rfl (hb hby d1_54) hr) ?_
    show Till p e below s (Q1 Z p1 h0 n0) room1.cells room1.slots (s₁.setTop (mkF m 55 #[.val (.int p1)] [(.int (1 : Int32))]))
    refine Till.pre (fun _ hr => XS.goto X0.here hx rfl (pc0 := 55) (pc' := 59) rfl (hb hby d1_55) (by decide) (by decide) hr) ?_
    show Till p e below s (Q1 Z p1 h0 n0) room1.cells room1.slots (s₁.setTop (mkF m 59 #[.val (.int p1)] [(.int (1 : Int32))]))
    exact J59_17 _ (Eq.symm (if_pos hc1))
  · have hc1 := (hEq.2.1 q)
    show Till p e below s (Q1 Z p1 h0 n0) room1.cells room1.slots (s₁.setTop (mkF m 6 #[.val (.int p1)] []))
    refine Till.pre (fun _ hr => XS.iloadN X0.here hx rfl (hb hby d1_6) rfl hr) ?_
    show Till p e below s (Q1 Z p1 h0 n0) room1.cells room1.slots (s₁.setTop (mkF m 7 #[.val (.int p1)] [(.int p1)]))
    refine Till.pre (fun _ hr => XS.bipush X0.here hx rfl (hb hby d1_7) hr) ?_
    show Till p e below s (Q1 Z p1 h0 n0) room1.cells room1.slots (s₁.setTop (mkF m 9 #[.val (.int p1)] [(.int (10 : Int32)), (.int p1)]))
    refine Till.icmp (pc' := 54) X0.here hx (hb hby d1_9) (by decide) (by decide) (fun q => ?_) (fun q => ?_)
    · have hc2 := (hEq.1 q)
      show Till p e below s (Q1 Z p1 h0 n0) room1.cells room1.slots (s₁.setTop (mkF m 54 #[.val (.int p1)] []))
      refine Till.pre (fun _ hr => XS.iconst X0.here hx rfl (hb hby d1_54) hr) ?_
      show Till p e below s (Q1 Z p1 h0 n0) room1.cells room1.slots (s₁.setTop (mkF m 55 #[.val (.int p1)] [(.int (1 : Int32))]))
      refine Till.pre (fun _ hr => XS.goto X0.here hx rfl (pc0 := 55) (pc' := 59) rfl (hb hby d1_55) (by decide) (by decide) hr) ?_
      show Till p e below s (Q1 Z p1 h0 n0) room1.cells room1.slots (s₁.setTop (mkF m 59 #[.val (.int p1)] [(.int (1 : Int32))]))
      exact J59_17 _ (Eq.symm ((if_neg hc1).trans (if_pos hc2)))
    · have hc2 := (hEq.2.1 q)
      show Till p e below s (Q1 Z p1 h0 n0) room1.cells room1.slots (s₁.setTop (mkF m 12 #[.val (.int p1)] []))
      refine Till.pre (fun _ hr => XS.iloadN X0.here hx rfl (hb hby d1_12) rfl hr) ?_
      show Till p e below s (Q1 Z p1 h0 n0) room1.cells room1.slots (s₁.setTop (mkF m 13 #[.val (.int p1)] [(.int p1)]))
      refine Till.pre (fun _ hr => XS.bipush X0.here hx rfl (hb hby d1_13) hr) ?_
      show Till p e below s (Q1 Z p1 h0 n0) room1.cells room1.slots (s₁.setTop (mkF m 15 #[.val (.int p1)] [(.int (13 : Int32)), (.int p1)]))
      refine Till.icmp (pc' := 54) X0.here hx (hb hby d1_15) (by decide) (by decide) (fun q => ?_) (fun q => ?_)
      · have hc3 := (hEq.1 q)
        show Till p e below s (Q1 Z p1 h0 n0) room1.cells room1.slots (s₁.setTop (mkF m 54 #[.val (.int p1)] []))
        refine Till.pre (fun _ hr => XS.iconst X0.here hx rfl (hb hby d1_54) hr) ?_
        show Till p e below s (Q1 Z p1 h0 n0) room1.cells room1.slots (s₁.setTop (mkF m 55 #[.val (.int p1)] [(.int (1 : Int32))]))
        refine Till.pre (fun _ hr => XS.goto X0.here hx rfl (pc0 := 55) (pc' := 59) rfl (hb hby d1_55) (by decide) (by decide) hr) ?_
        show Till p e below s (Q1 Z p1 h0 n0) room1.cells room1.slots (s₁.setTop (mkF m 59 #[.val (.int p1)] [(.int (1 : Int32))]))
        exact J59_17 _ (Eq.symm ((if_neg hc1).trans ((if_neg hc2).trans (if_pos hc3))))
      · have hc3 := (hEq.2.1 q)
        show Till p e below s (Q1 Z p1 h0 n0) room1.cells room1.slots (s₁.setTop (mkF m 18 #[.val (.int p1)] []))
        refine Till.pre (fun _ hr => XS.iloadN X0.here hx rfl (hb hby d1_18) rfl hr) ?_
        show Till p e below s (Q1 Z p1 h0 n0) room1.cells room1.slots (s₁.setTop (mkF m 19 #[.val (.int p1)] [(.int p1)]))
        refine Till.pre (fun _ hr => XS.bipush X0.here hx rfl (hb hby d1_19) hr) ?_
        show Till p e below s (Q1 Z p1 h0 n0) room1.cells room1.slots (s₁.setTop (mkF m 21 #[.val (.int p1)] [(.int (32 : Int32)), (.int p1)]))
        refine Till.icmp (pc' := 30) X0.here hx (hb hby d1_21) (by decide) (by decide) (fun q => ?_) (fun q => ?_)
        · have hc4 := (hLt.1 q)
          show Till p e below s (Q1 Z p1 h0 n0) room1.cells room1.slots (s₁.setTop (mkF m 30 #[.val (.int p1)] []))
          refine Till.pre (fun _ hr => XS.iloadN X0.here hx rfl (hb hby d1_30) rfl hr) ?_
          show Till p e below s (Q1 Z p1 h0 n0) room1.cells room1.slots (s₁.setTop (mkF m 31 #[.val (.int p1)] [(.int p1)]))
          refine Till.pre (X0.ldcInt hx hown (mvT hZ (hw _ (List.mem_of_getElem? (i := 16) rfl))) (g := (mkF m 31 #[.val (.int p1)] [(.int p1)])) rfl (hb hby d1_31)) ?_
          show Till p e below s (Q1 Z p1 h0 n0) room1.cells room1.slots (s₁.setTop (mkF m 33 #[.val (.int p1)] [(.int (57344 : Int32)), (.int p1)]))
          refine Till.icmp (pc' := 42) X0.here hx (hb hby d1_33) (by decide) (by decide) (fun q => ?_) (fun q => ?_)
          · have hc5 := (hLt.1 q)
            show Till p e below s (Q1 Z p1 h0 n0) room1.cells room1.slots (s₁.setTop (mkF m 42 #[.val (.int p1)] []))
            refine Till.pre (fun _ hr => XS.iloadN X0.here hx rfl (hb hby d1_42) rfl hr) ?_
            show Till p e below s (Q1 Z p1 h0 n0) room1.cells room1.slots (s₁.setTop (mkF m 43 #[.val (.int p1)] [(.int p1)]))
            refine Till.pre (X0.ldcInt hx hown (mvT hZ (hw _ (List.mem_of_getElem? (i := 17) rfl))) (g := (mkF m 43 #[.val (.int p1)] [(.int p1)])) rfl (hb hby d1_43)) ?_
            show Till p e below s (Q1 Z p1 h0 n0) room1.cells room1.slots (s₁.setTop (mkF m 45 #[.val (.int p1)] [(.int (65536 : Int32)), (.int p1)]))
            refine Till.icmp (pc' := 58) X0.here hx (hb hby d1_45) (by decide) (by decide) (fun q => ?_) (fun q => ?_)
            · have hc6 := (hLt.1 q)
              show Till p e below s (Q1 Z p1 h0 n0) room1.cells room1.slots (s₁.setTop (mkF m 58 #[.val (.int p1)] []))
              refine Till.pre (fun _ hr => XS.iconst X0.here hx rfl (hb hby d1_58) hr) ?_
              show Till p e below s (Q1 Z p1 h0 n0) room1.cells room1.slots (s₁.setTop (mkF m 59 #[.val (.int p1)] [(.int (0 : Int32))]))
              exact J59_17 _ (Eq.symm ((if_neg hc1).trans ((if_neg hc2).trans ((if_neg hc3).trans ((if_pos hc4).trans ((if_pos hc5).trans (if_pos hc6)))))))
            · have hc6 := (hLt.2.1 q)
              show Till p e below s (Q1 Z p1 h0 n0) room1.cells room1.slots (s₁.setTop (mkF m 48 #[.val (.int p1)] []))
              refine Till.pre (fun _ hr => XS.iloadN X0.here hx rfl (hb hby d1_48) rfl hr) ?_
              show Till p e below s (Q1 Z p1 h0 n0) room1.cells room1.slots (s₁.setTop (mkF m 49 #[.val (.int p1)] [(.int p1)]))
              refine Till.pre (X0.ldcInt hx hown (mvT hZ (hw _ (List.mem_of_getElem? (i := 24) rfl))) (g := (mkF m 49 #[.val (.int p1)] [(.int p1)])) rfl (hb hby d1_49)) ?_
              show Till p e below s (Q1 Z p1 h0 n0) room1.cells room1.slots (s₁.setTop (mkF m 51 #[.val (.int p1)] [(.int (1114111 : Int32)), (.int p1)]))
              refine Till.icmp (pc' := 58) X0.here hx (hb hby d1_51) (by decide) (by decide) (fun q => ?_) (fun q => ?_)
              · have hc7 := (hLt.2.2.2.2.1 q)
                show Till p e below s (Q1 Z p1 h0 n0) room1.cells room1.slots (s₁.setTop (mkF m 58 #[.val (.int p1)] []))
                refine Till.pre (fun _ hr => XS.iconst X0.here hx rfl (hb hby d1_58) hr) ?_
                show Till p e below s (Q1 Z p1 h0 n0) room1.cells room1.slots (s₁.setTop (mkF m 59 #[.val (.int p1)] [(.int (0 : Int32))]))
                exact J59_17 _ (Eq.symm ((if_neg hc1).trans ((if_neg hc2).trans ((if_neg hc3).trans ((if_pos hc4).trans ((if_pos hc5).trans ((if_neg hc6).trans (if_pos hc7))))))))
              · have hc7 := (hLt.2.2.2.2.2.1 q)
                show Till p e below s (Q1 Z p1 h0 n0) room1.cells room1.slots (s₁.setTop (mkF m 54 #[.val (.int p1)] []))
                refine Till.pre (fun _ hr => XS.iconst X0.here hx rfl (hb hby d1_54) hr) ?_
                show Till p e below s (Q1 Z p1 h0 n0) room1.cells room1.slots (s₁.setTop (mkF m 55 #[.val (.int p1)] [(.int (1 : Int32))]))
                refine Till.pre (fun _ hr => XS.goto X0.here hx rfl (pc0 := 55) (pc' := 59) rfl (hb hby d1_55) (by decide) (by decide) hr) ?_
                show Till p e below s (Q1 Z p1 h0 n0) room1.cells room1.slots (s₁.setTop (mkF m 59 #[.val (.int p1)] [(.int (1 : Int32))]))
                exact J59_17 _ (Eq.symm ((if_neg hc1).trans ((if_neg hc2).trans ((if_neg hc3).trans ((if_pos hc4).trans ((if_pos hc5).trans ((if_neg hc6).trans (if_neg hc7))))))))
          · have hc5 := (hLt.2.1 q)
            show Till p e below s (Q1 Z p1 h0 n0) room1.cells room1.slots (s₁.setTop (mkF m 36 #[.val (.int p1)] []))
            refine Till.pre (fun _ hr => XS.iloadN X0.here hx rfl (hb hby d1_36) rfl hr) ?_
            show Till p e below s (Q1 Z p1 h0 n0) room1.cells room1.slots (s₁.setTop (mkF m 37 #[.val (.int p1)] [(.int p1)]))
            refine Till.pre (X0.ldcInt hx hown (mvT hZ (hw _ (List.mem_of_getElem? (i := 23) rfl))) (g := (mkF m 37 #[.val (.int p1)] [(.int p1)])) rfl (hb hby d1_37)) ?_
            show Till p e below s (Q1 Z p1 h0 n0) room1.cells room1.slots (s₁.setTop (mkF m 39 #[.val (.int p1)] [(.int (65533 : Int32)), (.int p1)]))
            refine Till.icmp (pc' := 54) X0.here hx (hb hby d1_39) (by decide) (by decide) (fun q => ?_) (fun q => ?_)
            · have hc8 := (hLt.2.2.2.2.2.2.1 q)
              show Till p e below s (Q1 Z p1 h0 n0) room1.cells room1.slots (s₁.setTop (mkF m 54 #[.val (.int p1)] []))
              refine Till.pre (fun _ hr => XS.iconst X0.here hx rfl (hb hby d1_54) hr) ?_
              show Till p e below s (Q1 Z p1 h0 n0) room1.cells room1.slots (s₁.setTop (mkF m 55 #[.val (.int p1)] [(.int (1 : Int32))]))
              refine Till.pre (fun _ hr => XS.goto X0.here hx rfl (pc0 := 55) (pc' := 59) rfl (hb hby d1_55) (by decide) (by decide) hr) ?_
              show Till p e below s (Q1 Z p1 h0 n0) room1.cells room1.slots (s₁.setTop (mkF m 59 #[.val (.int p1)] [(.int (1 : Int32))]))
              exact J59_17 _ (Eq.symm ((if_neg hc1).trans ((if_neg hc2).trans ((if_neg hc3).trans ((if_pos hc4).trans ((if_neg hc5).trans (if_neg hc8)))))))
            · have hc8 := (hLt.2.2.2.2.2.2.2 q)
              show Till p e below s (Q1 Z p1 h0 n0) room1.cells room1.slots (s₁.setTop (mkF m 42 #[.val (.int p1)] []))
              refine Till.pre (fun _ hr => XS.iloadN X0.here hx rfl (hb hby d1_42) rfl hr) ?_
              show Till p e below s (Q1 Z p1 h0 n0) room1.cells room1.slots (s₁.setTop (mkF m 43 #[.val (.int p1)] [(.int p1)]))
              refine Till.pre (X0.ldcInt hx hown (mvT hZ (hw _ (List.mem_of_getElem? (i := 17) rfl))) (g := (mkF m 43 #[.val (.int p1)] [(.int p1)])) rfl (hb hby d1_43)) ?_
              show Till p e below s (Q1 Z p1 h0 n0) room1.cells room1.slots (s₁.setTop (mkF m 45 #[.val (.int p1)] [(.int (65536 : Int32)), (.int p1)]))
              refine Till.icmp (pc' := 58) X0.here hx (hb hby d1_45) (by decide) (by decide) (fun q => ?_) (fun q => ?_)
              · have hc9 := (hLt.1 q)
                show Till p e below s (Q1 Z p1 h0 n0) room1.cells room1.slots (s₁.setTop (mkF m 58 #[.val (.int p1)] []))
                refine Till.pre (fun _ hr => XS.iconst X0.here hx rfl (hb hby d1_58) hr) ?_
                show Till p e below s (Q1 Z p1 h0 n0) room1.cells room1.slots (s₁.setTop (mkF m 59 #[.val (.int p1)] [(.int (0 : Int32))]))
                exact J59_17 _ (Eq.symm ((if_neg hc1).trans ((if_neg hc2).trans ((if_neg hc3).trans ((if_pos hc4).trans ((if_neg hc5).trans ((if_pos hc8).trans (if_pos hc9))))))))
              · have hc9 := (hLt.2.1 q)
                show Till p e below s (Q1 Z p1 h0 n0) room1.cells room1.slots (s₁.setTop (mkF m 48 #[.val (.int p1)] []))
                refine Till.pre (fun _ hr => XS.iloadN X0.here hx rfl (hb hby d1_48) rfl hr) ?_
                show Till p e below s (Q1 Z p1 h0 n0) room1.cells room1.slots (s₁.setTop (mkF m 49 #[.val (.int p1)] [(.int p1)]))
                refine Till.pre (X0.ldcInt hx hown (mvT hZ (hw _ (List.mem_of_getElem? (i := 24) rfl))) (g := (mkF m 49 #[.val (.int p1)] [(.int p1)])) rfl (hb hby d1_49)) ?_
                show Till p e below s (Q1 Z p1 h0 n0) room1.cells room1.slots (s₁.setTop (mkF m 51 #[.val (.int p1)] [(.int (1114111 : Int32)), (.int p1)]))
                refine Till.icmp (pc' := 58) X0.here hx (hb hby d1_51) (by decide) (by decide) (fun q => ?_) (fun q => ?_)
                · have hc10 := (hLt.2.2.2.2.1 q)
                  show Till p e below s (Q1 Z p1 h0 n0) room1.cells room1.slots (s₁.setTop (mkF m 58 #[.val (.int p1)] []))
                  refine Till.pre (fun _ hr => XS.iconst X0.here hx rfl (hb hby d1_58) hr) ?_
                  show Till p e below s (Q1 Z p1 h0 n0) room1.cells room1.slots (s₁.setTop (mkF m 59 #[.val (.int p1)] [(.int (0 : Int32))]))
                  exact J59_17 _ (Eq.symm ((if_neg hc1).trans ((if_neg hc2).trans ((if_neg hc3).trans ((if_pos hc4).trans ((if_neg hc5).trans ((if_pos hc8).trans ((if_neg hc9).trans (if_pos hc10)))))))))
                · have hc10 := (hLt.2.2.2.2.2.1 q)
                  show Till p e below s (Q1 Z p1 h0 n0) room1.cells room1.slots (s₁.setTop (mkF m 54 #[.val (.int p1)] []))
                  refine Till.pre (fun _ hr => XS.iconst X0.here hx rfl (hb hby d1_54) hr) ?_
                  show Till p e below s (Q1 Z p1 h0 n0) room1.cells room1.slots (s₁.setTop (mkF m 55 #[.val (.int p1)] [(.int (1 : Int32))]))
                  refine Till.pre (fun _ hr => XS.goto X0.here hx rfl (pc0 := 55) (pc' := 59) rfl (hb hby d1_55) (by decide) (by decide) hr) ?_
                  show Till p e below s (Q1 Z p1 h0 n0) room1.cells room1.slots (s₁.setTop (mkF m 59 #[.val (.int p1)] [(.int (1 : Int32))]))
                  exact J59_17 _ (Eq.symm ((if_neg hc1).trans ((if_neg hc2).trans ((if_neg hc3).trans ((if_pos hc4).trans ((if_neg hc5).trans ((if_pos hc8).trans ((if_neg hc9).trans (if_neg hc10)))))))))
        · have hc4 := (hLt.2.1 q)
          show Till p e below s (Q1 Z p1 h0 n0) room1.cells room1.slots (s₁.setTop (mkF m 24 #[.val (.int p1)] []))
          refine Till.pre (fun _ hr => XS.iloadN X0.here hx rfl (hb hby d1_24) rfl hr) ?_
          show Till p e below s (Q1 Z p1 h0 n0) room1.cells room1.slots (s₁.setTop (mkF m 25 #[.val (.int p1)] [(.int p1)]))
          refine Till.pre (X0.ldcInt hx hown (mvT hZ (hw _ (List.mem_of_getElem? (i := 22) rfl))) (g := (mkF m 25 #[.val (.int p1)] [(.int p1)])) rfl (hb hby d1_25)) ?_
          show Till p e below s (Q1 Z p1 h0 n0) room1.cells room1.slots (s₁.setTop (mkF m 27 #[.val (.int p1)] [(.int (55295 : Int32)), (.int p1)]))
          refine Till.icmp (pc' := 54) X0.here hx (hb hby d1_27) (by decide) (by decide) (fun q => ?_) (fun q => ?_)
          · have hc11 := (hLt.2.2.2.2.2.2.1 q)
            show Till p e below s (Q1 Z p1 h0 n0) room1.cells room1.slots (s₁.setTop (mkF m 54 #[.val (.int p1)] []))
            refine Till.pre (fun _ hr => XS.iconst X0.here hx rfl (hb hby d1_54) hr) ?_
            show Till p e below s (Q1 Z p1 h0 n0) room1.cells room1.slots (s₁.setTop (mkF m 55 #[.val (.int p1)] [(.int (1 : Int32))]))
            refine Till.pre (fun _ hr => XS.goto X0.here hx rfl (pc0 := 55) (pc' := 59) rfl (hb hby d1_55) (by decide) (by decide) hr) ?_
            show Till p e below s (Q1 Z p1 h0 n0) room1.cells room1.slots (s₁.setTop (mkF m 59 #[.val (.int p1)] [(.int (1 : Int32))]))
            exact J59_17 _ (Eq.symm ((if_neg hc1).trans ((if_neg hc2).trans ((if_neg hc3).trans ((if_neg hc4).trans (if_neg hc11))))))
          · have hc11 := (hLt.2.2.2.2.2.2.2 q)
            show Till p e below s (Q1 Z p1 h0 n0) room1.cells room1.slots (s₁.setTop (mkF m 30 #[.val (.int p1)] []))
            refine Till.pre (fun _ hr => XS.iloadN X0.here hx rfl (hb hby d1_30) rfl hr) ?_
            show Till p e below s (Q1 Z p1 h0 n0) room1.cells room1.slots (s₁.setTop (mkF m 31 #[.val (.int p1)] [(.int p1)]))
            refine Till.pre (X0.ldcInt hx hown (mvT hZ (hw _ (List.mem_of_getElem? (i := 16) rfl))) (g := (mkF m 31 #[.val (.int p1)] [(.int p1)])) rfl (hb hby d1_31)) ?_
            show Till p e below s (Q1 Z p1 h0 n0) room1.cells room1.slots (s₁.setTop (mkF m 33 #[.val (.int p1)] [(.int (57344 : Int32)), (.int p1)]))
            refine Till.icmp (pc' := 42) X0.here hx (hb hby d1_33) (by decide) (by decide) (fun q => ?_) (fun q => ?_)
            · have hc12 := (hLt.1 q)
              show Till p e below s (Q1 Z p1 h0 n0) room1.cells room1.slots (s₁.setTop (mkF m 42 #[.val (.int p1)] []))
              refine Till.pre (fun _ hr => XS.iloadN X0.here hx rfl (hb hby d1_42) rfl hr) ?_
              show Till p e below s (Q1 Z p1 h0 n0) room1.cells room1.slots (s₁.setTop (mkF m 43 #[.val (.int p1)] [(.int p1)]))
              refine Till.pre (X0.ldcInt hx hown (mvT hZ (hw _ (List.mem_of_getElem? (i := 17) rfl))) (g := (mkF m 43 #[.val (.int p1)] [(.int p1)])) rfl (hb hby d1_43)) ?_
              show Till p e below s (Q1 Z p1 h0 n0) room1.cells room1.slots (s₁.setTop (mkF m 45 #[.val (.int p1)] [(.int (65536 : Int32)), (.int p1)]))
              refine Till.icmp (pc' := 58) X0.here hx (hb hby d1_45) (by decide) (by decide) (fun q => ?_) (fun q => ?_)
              · have hc13 := (hLt.1 q)
                show Till p e below s (Q1 Z p1 h0 n0) room1.cells room1.slots (s₁.setTop (mkF m 58 #[.val (.int p1)] []))
                refine Till.pre (fun _ hr => XS.iconst X0.here hx rfl (hb hby d1_58) hr) ?_
                show Till p e below s (Q1 Z p1 h0 n0) room1.cells room1.slots (s₁.setTop (mkF m 59 #[.val (.int p1)] [(.int (0 : Int32))]))
                exact J59_17 _ (Eq.symm ((if_neg hc1).trans ((if_neg hc2).trans ((if_neg hc3).trans ((if_neg hc4).trans ((if_pos hc11).trans ((if_pos hc12).trans (if_pos hc13))))))))
              · have hc13 := (hLt.2.1 q)
                show Till p e below s (Q1 Z p1 h0 n0) room1.cells room1.slots (s₁.setTop (mkF m 48 #[.val (.int p1)] []))
                refine Till.pre (fun _ hr => XS.iloadN X0.here hx rfl (hb hby d1_48) rfl hr) ?_
                show Till p e below s (Q1 Z p1 h0 n0) room1.cells room1.slots (s₁.setTop (mkF m 49 #[.val (.int p1)] [(.int p1)]))
                refine Till.pre (X0.ldcInt hx hown (mvT hZ (hw _ (List.mem_of_getElem? (i := 24) rfl))) (g := (mkF m 49 #[.val (.int p1)] [(.int p1)])) rfl (hb hby d1_49)) ?_
                show Till p e below s (Q1 Z p1 h0 n0) room1.cells room1.slots (s₁.setTop (mkF m 51 #[.val (.int p1)] [(.int (1114111 : Int32)), (.int p1)]))
                refine Till.icmp (pc' := 58) X0.here hx (hb hby d1_51) (by decide) (by decide) (fun q => ?_) (fun q => ?_)
                · have hc14 := (hLt.2.2.2.2.1 q)
                  show Till p e below s (Q1 Z p1 h0 n0) room1.cells room1.slots (s₁.setTop (mkF m 58 #[.val (.int p1)] []))
                  refine Till.pre (fun _ hr => XS.iconst X0.here hx rfl (hb hby d1_58) hr) ?_
                  show Till p e below s (Q1 Z p1 h0 n0) room1.cells room1.slots (s₁.setTop (mkF m 59 #[.val (.int p1)] [(.int (0 : Int32))]))
                  exact J59_17 _ (Eq.symm ((if_neg hc1).trans ((if_neg hc2).trans ((if_neg hc3).trans ((if_neg hc4).trans ((if_pos hc11).trans ((if_pos hc12).trans ((if_neg hc13).trans (if_pos hc14)))))))))
                · have hc14 := (hLt.2.2.2.2.2.1 q)
                  show Till p e below s (Q1 Z p1 h0 n0) room1.cells room1.slots (s₁.setTop (mkF m 54 #[.val (.int p1)] []))
                  refine Till.pre (fun _ hr => XS.iconst X0.here hx rfl (hb hby d1_54) hr) ?_
                  show Till p e below s (Q1 Z p1 h0 n0) room1.cells room1.slots (s₁.setTop (mkF m 55 #[.val (.int p1)] [(.int (1 : Int32))]))
                  refine Till.pre (fun _ hr => XS.goto X0.here hx rfl (pc0 := 55) (pc' := 59) rfl (hb hby d1_55) (by decide) (by decide) hr) ?_
                  show Till p e below s (Q1 Z p1 h0 n0) room1.cells room1.slots (s₁.setTop (mkF m 59 #[.val (.int p1)] [(.int (1 : Int32))]))
                  exact J59_17 _ (Eq.symm ((if_neg hc1).trans ((if_neg hc2).trans ((if_neg hc3).trans ((if_neg hc4).trans ((if_pos hc11).trans ((if_pos hc12).trans ((if_neg hc13).trans (if_neg hc14)))))))))
            · have hc12 := (hLt.2.1 q)
              show Till p e below s (Q1 Z p1 h0 n0) room1.cells room1.slots (s₁.setTop (mkF m 36 #[.val (.int p1)] []))
              refine Till.pre (fun _ hr => XS.iloadN X0.here hx rfl (hb hby d1_36) rfl hr) ?_
              show Till p e below s (Q1 Z p1 h0 n0) room1.cells room1.slots (s₁.setTop (mkF m 37 #[.val (.int p1)] [(.int p1)]))
              refine Till.pre (X0.ldcInt hx hown (mvT hZ (hw _ (List.mem_of_getElem? (i := 23) rfl))) (g := (mkF m 37 #[.val (.int p1)] [(.int p1)])) rfl (hb hby d1_37)) ?_
              show Till p e below s (Q1 Z p1 h0 n0) room1.cells room1.slots (s₁.setTop (mkF m 39 #[.val (.int p1)] [(.int (65533 : Int32)), (.int p1)]))
              refine Till.icmp (pc' := 54) X0.here hx (hb hby d1_39) (by decide) (by decide) (fun q => ?_) (fun q => ?_)
              · have hc15 := (hLt.2.2.2.2.2.2.1 q)
                show Till p e below s (Q1 Z p1 h0 n0) room1.cells room1.slots (s₁.setTop (mkF m 54 #[.val (.int p1)] []))
                refine Till.pre (fun _ hr => XS.iconst X0.here hx rfl (hb hby d1_54) hr) ?_
                show Till p e below s (Q1 Z p1 h0 n0) room1.cells room1.slots (s₁.setTop (mkF m 55 #[.val (.int p1)] [(.int (1 : Int32))]))
                refine Till.pre (fun _ hr => XS.goto X0.here hx rfl (pc0 := 55) (pc' := 59) rfl (hb hby d1_55) (by decide) (by decide) hr) ?_
                show Till p e below s (Q1 Z p1 h0 n0) room1.cells room1.slots (s₁.setTop (mkF m 59 #[.val (.int p1)] [(.int (1 : Int32))]))
                exact J59_17 _ (Eq.symm ((if_neg hc1).trans ((if_neg hc2).trans ((if_neg hc3).trans ((if_neg hc4).trans ((if_pos hc11).trans ((if_neg hc12).trans (if_neg hc15))))))))
              · have hc15 := (hLt.2.2.2.2.2.2.2 q)
                show Till p e below s (Q1 Z p1 h0 n0) room1.cells room1.slots (s₁.setTop (mkF m 42 #[.val (.int p1)] []))
                refine Till.pre (fun _ hr => XS.iloadN X0.here hx rfl (hb hby d1_42) rfl hr) ?_
                show Till p e below s (Q1 Z p1 h0 n0) room1.cells room1.slots (s₁.setTop (mkF m 43 #[.val (.int p1)] [(.int p1)]))
                refine Till.pre (X0.ldcInt hx hown (mvT hZ (hw _ (List.mem_of_getElem? (i := 17) rfl))) (g := (mkF m 43 #[.val (.int p1)] [(.int p1)])) rfl (hb hby d1_43)) ?_
                show Till p e below s (Q1 Z p1 h0 n0) room1.cells room1.slots (s₁.setTop (mkF m 45 #[.val (.int p1)] [(.int (65536 : Int32)), (.int p1)]))
                refine Till.icmp (pc' := 58) X0.here hx (hb hby d1_45) (by decide) (by decide) (fun q => ?_) (fun q => ?_)
                · have hc16 := (hLt.1 q)
                  show Till p e below s (Q1 Z p1 h0 n0) room1.cells room1.slots (s₁.setTop (mkF m 58 #[.val (.int p1)] []))
                  refine Till.pre (fun _ hr => XS.iconst X0.here hx rfl (hb hby d1_58) hr) ?_
                  show Till p e below s (Q1 Z p1 h0 n0) room1.cells room1.slots (s₁.setTop (mkF m 59 #[.val (.int p1)] [(.int (0 : Int32))]))
                  exact J59_17 _ (Eq.symm ((if_neg hc1).trans ((if_neg hc2).trans ((if_neg hc3).trans ((if_neg hc4).trans ((if_pos hc11).trans ((if_neg hc12).trans ((if_pos hc15).trans (if_pos hc16)))))))))
                · have hc16 := (hLt.2.1 q)
                  show Till p e below s (Q1 Z p1 h0 n0) room1.cells room1.slots (s₁.setTop (mkF m 48 #[.val (.int p1)] []))
                  refine Till.pre (fun _ hr => XS.iloadN X0.here hx rfl (hb hby d1_48) rfl hr) ?_
                  show Till p e below s (Q1 Z p1 h0 n0) room1.cells room1.slots (s₁.setTop (mkF m 49 #[.val (.int p1)] [(.int p1)]))
                  refine Till.pre (X0.ldcInt hx hown (mvT hZ (hw _ (List.mem_of_getElem? (i := 24) rfl))) (g := (mkF m 49 #[.val (.int p1)] [(.int p1)])) rfl (hb hby d1_49)) ?_
                  show Till p e below s (Q1 Z p1 h0 n0) room1.cells room1.slots (s₁.setTop (mkF m 51 #[.val (.int p1)] [(.int (1114111 : Int32)), (.int p1)]))
                  refine Till.icmp (pc' := 58) X0.here hx (hb hby d1_51) (by decide) (by decide) (fun q => ?_) (fun q => ?_)
                  · have hc17 := (hLt.2.2.2.2.1 q)
                    show Till p e below s (Q1 Z p1 h0 n0) room1.cells room1.slots (s₁.setTop (mkF m 58 #[.val (.int p1)] []))
                    refine Till.pre (fun _ hr => XS.iconst X0.here hx rfl (hb hby d1_58) hr) ?_
                    show Till p e below s (Q1 Z p1 h0 n0) room1.cells room1.slots (s₁.setTop (mkF m 59 #[.val (.int p1)] [(.int (0 : Int32))]))
                    exact J59_17 _ (Eq.symm ((if_neg hc1).trans ((if_neg hc2).trans ((if_neg hc3).trans ((if_neg hc4).trans ((if_pos hc11).trans ((if_neg hc12).trans ((if_pos hc15).trans ((if_neg hc16).trans (if_pos hc17))))))))))
                  · have hc17 := (hLt.2.2.2.2.2.1 q)
                    show Till p e below s (Q1 Z p1 h0 n0) room1.cells room1.slots (s₁.setTop (mkF m 54 #[.val (.int p1)] []))
                    refine Till.pre (fun _ hr => XS.iconst X0.here hx rfl (hb hby d1_54) hr) ?_
                    show Till p e below s (Q1 Z p1 h0 n0) room1.cells room1.slots (s₁.setTop (mkF m 55 #[.val (.int p1)] [(.int (1 : Int32))]))
                    refine Till.pre (fun _ hr => XS.goto X0.here hx rfl (pc0 := 55) (pc' := 59) rfl (hb hby d1_55) (by decide) (by decide) hr) ?_
                    show Till p e below s (Q1 Z p1 h0 n0) room1.cells room1.slots (s₁.setTop (mkF m 59 #[.val (.int p1)] [(.int (1 : Int32))]))
                    exact J59_17 _ (Eq.symm ((if_neg hc1).trans ((if_neg hc2).trans ((if_neg hc3).trans ((if_neg hc4).trans ((if_pos hc11).trans ((if_neg hc12).trans ((if_pos hc15).trans ((if_neg hc16).trans (if_neg hc17))))))))))
theorem d2_0 : decode method_2_code 0 = .ok (.iload_n 0, 1) := by decide +kernel
theorem d2_1 : decode method_2_code 1 = .ok (.ifCond .lt 9, 3) := by decide +kernel
theorem d2_4 : decode method_2_code 4 = .ok (.iload_n 0, 1) := by decide +kernel
theorem d2_5 : decode method_2_code 5 = .ok (.ldc 7, 2) := by decide +kernel
theorem d2_7 : decode method_2_code 7 = .ok (.if_icmp .le 5, 3) := by decide +kernel
theorem d2_10 : decode method_2_code 10 = .ok (.iconst 0, 1) := by decide +kernel
theorem d2_11 : decode method_2_code 11 = .ok (.ireturn, 1) := by decide +kernel
theorem d2_12 : decode method_2_code 12 = .ok (.iload_n 0, 1) := by decide +kernel
theorem d2_13 : decode method_2_code 13 = .ok (.bipush 32, 2) := by decide +kernel
theorem d2_15 : decode method_2_code 15 = .ok (.if_icmp .ge 27, 3) := by decide +kernel
theorem d2_18 : decode method_2_code 18 = .ok (.iload_n 0, 1) := by decide +kernel
theorem d2_19 : decode method_2_code 19 = .ok (.bipush 9, 2) := by decide +kernel
theorem d2_21 : decode method_2_code 21 = .ok (.if_icmp .eq 15, 3) := by decide +kernel
theorem d2_24 : decode method_2_code 24 = .ok (.iload_n 0, 1) := by decide +kernel
theorem d2_25 : decode method_2_code 25 = .ok (.bipush 10, 2) := by decide +kernel
theorem d2_27 : decode method_2_code 27 = .ok (.if_icmp .eq 9, 3) := by decide +kernel
theorem d2_30 : decode method_2_code 30 = .ok (.iload_n 0, 1) := by decide +kernel
theorem d2_31 : decode method_2_code 31 = .ok (.bipush 13, 2) := by decide +kernel
theorem d2_33 : decode method_2_code 33 = .ok (.if_icmp .ne 7, 3) := by decide +kernel
theorem d2_36 : decode method_2_code 36 = .ok (.iconst 1, 1) := by decide +kernel
theorem d2_37 : decode method_2_code 37 = .ok (.goto 4, 3) := by decide +kernel
theorem d2_40 : decode method_2_code 40 = .ok (.iconst 0, 1) := by decide +kernel
theorem d2_41 : decode method_2_code 41 = .ok (.ireturn, 1) := by decide +kernel
theorem d2_42 : decode method_2_code 42 = .ok (.iload_n 0, 1) := by decide +kernel
theorem d2_43 : decode method_2_code 43 = .ok (.ldc 8, 2) := by decide +kernel
theorem d2_45 : decode method_2_code 45 = .ok (.if_icmp .lt 11, 3) := by decide +kernel
theorem d2_48 : decode method_2_code 48 = .ok (.iload_n 0, 1) := by decide +kernel
theorem d2_49 : decode method_2_code 49 = .ok (.ldc 9, 2) := by decide +kernel
theorem d2_51 : decode method_2_code 51 = .ok (.if_icmp .gt 5, 3) := by decide +kernel
theorem d2_54 : decode method_2_code 54 = .ok (.iconst 0, 1) := by decide +kernel
theorem d2_55 : decode method_2_code 55 = .ok (.ireturn, 1) := by decide +kernel
theorem d2_56 : decode method_2_code 56 = .ok (.iload_n 0, 1) := by decide +kernel
theorem d2_57 : decode method_2_code 57 = .ok (.ldc 10, 2) := by decide +kernel
theorem d2_59 : decode method_2_code 59 = .ok (.if_icmp .eq 9, 3) := by decide +kernel
theorem d2_62 : decode method_2_code 62 = .ok (.iload_n 0, 1) := by decide +kernel
theorem d2_63 : decode method_2_code 63 = .ok (.ldc 11, 2) := by decide +kernel
theorem d2_65 : decode method_2_code 65 = .ok (.if_icmp .ne 5, 3) := by decide +kernel
theorem d2_68 : decode method_2_code 68 = .ok (.iconst 0, 1) := by decide +kernel
theorem d2_69 : decode method_2_code 69 = .ok (.ireturn, 1) := by decide +kernel
theorem d2_70 : decode method_2_code 70 = .ok (.iconst 1, 1) := by decide +kernel
theorem d2_71 : decode method_2_code 71 = .ok (.ireturn, 1) := by decide +kernel
theorem pn_2 : plainName "com/example/wolfville/wolfville/xml/XmlCharactersIsCharPinLaw" = true := by first | (simp [plainName, overriddenIn]; done) | decide +kernel
theorem ef_2 (m : MethodId) (p1 : Int32) : entryFrame m #[(.int p1)] 1 = mkF m 0 #[.val (.int p1)] [] := by first | (simp [entryFrame, mkF, argsToLocals, Value.category]; done) | rfl
def fn2 (p1 : Int32) : Int32 := (if (p1 < (0 : Int32)) then (0 : Int32) else (if ((1114111 : Int32) < p1) then (0 : Int32) else (if (p1 < (32 : Int32)) then ((if (p1 = (9 : Int32)) then (1 : Int32) else (if (p1 = (10 : Int32)) then (1 : Int32) else (if (p1 = (13 : Int32)) then (1 : Int32) else (0 : Int32)))) &&& 1) else (if (p1 < (55296 : Int32)) then (if (p1 = (65534 : Int32)) then (0 : Int32) else (if (p1 = (65535 : Int32)) then (0 : Int32) else (1 : Int32))) else (if ((57343 : Int32) < p1) then (if (p1 = (65534 : Int32)) then (0 : Int32) else (if (p1 = (65535 : Int32)) then (0 : Int32) else (1 : Int32))) else (0 : Int32))))))
def Q2 (Z : State) (p1 : Int32) (h0 : Heap) (n0 : Nat) : Option Value → Heap → List Loc → Prop := fun v h L => v = some (Value.int (fn2 p1)) ∧ Fr n0 L ∧ h = h0
def room2 : Room := { frames := 0, cells := 0, slots := 0, locals := 0 }
set_option maxRecDepth 65536 in
set_option maxHeartbeats 40000000 in
theorem rm2 (l : Launch) (Z : State) (a0 : Array Value) (hw : ∀ d ∈ tables_1, d.before a0 Z = true) (p1 : Int32) (h0 : Heap) (n0 : Nat)  : Ctr l Z (⟨"com/example/wolfville/wolfville/xml/XmlCharactersIsCharPinLaw", "ref", "(I)Z"⟩ : MethodName) method_2_code 1 (some .boolean) room2 #[(.int p1)] h0 (Q2 Z p1 h0 n0) := by
  refine Ctr.of (plainFor_of_name pn_2) ?_
  intro p e s m below meth c s₁ hx hby hml hown hnm hret hlk hZ e0 X0
  have hown : s.vm.findClass "com/example/wolfville/wolfville/xml/XmlCharactersIsCharPinLaw" = some m.cls := hown
  have hml : c.maxLocals = 1 := hml
  have hnm : meth.name = "ref" := hnm
  have hret : meth.sig.returnType = (some .boolean) := hret
  have N0 := Fr.nil n0
  refine Till.cast (ef_2 m p1) ?_
  show Till p e below s (Q2 Z p1 h0 n0) room2.cells room2.slots (s₁.setTop (mkF m 0 #[.val (.int p1)] []))
  refine Till.pre (fun _ hr => XS.iloadN X0.here hx rfl (hb hby d2_0) rfl hr) ?_
  show Till p e below s (Q2 Z p1 h0 n0) room2.cells room2.slots (s₁.setTop (mkF m 1 #[.val (.int p1)] [(.int p1)]))
  refine Till.ifc (pc' := 10) X0.here hx (hb hby d2_1) (by decide) (by decide) (fun q => ?_) (fun q => ?_)
  · have hc1 := (hLt.1 q)
    show Till p e below s (Q2 Z p1 h0 n0) room2.cells room2.slots (s₁.setTop (mkF m 10 #[.val (.int p1)] []))
    refine Till.pre (fun _ hr => XS.iconst X0.here hx rfl (hb hby d2_10) hr) ?_
    show Till p e below s (Q2 Z p1 h0 n0) room2.cells room2.slots (s₁.setTop (mkF m 11 #[.val (.int p1)] [(.int (0 : Int32))]))
    refine Till.retZ (w := (0 : Int32)) X0 hx hret hlk (hb hby d2_11) (by decide) (by decide) (by decide) ?_
    exact ⟨(congrArg (fun z => some (Value.int z)) (Eq.symm (if_pos hc1))), N0, e0⟩
  · have hc1 := (hLt.2.1 q)
    show Till p e below s (Q2 Z p1 h0 n0) room2.cells room2.slots (s₁.setTop (mkF m 4 #[.val (.int p1)] []))
    refine Till.pre (fun _ hr => XS.iloadN X0.here hx rfl (hb hby d2_4) rfl hr) ?_
    show Till p e below s (Q2 Z p1 h0 n0) room2.cells room2.slots (s₁.setTop (mkF m 5 #[.val (.int p1)] [(.int p1)]))
    refine Till.pre (X0.ldcInt hx hown (mvT hZ (hw _ (List.mem_of_getElem? (i := 9) rfl))) (g := (mkF m 5 #[.val (.int p1)] [(.int p1)])) rfl (hb hby d2_5)) ?_
    show Till p e below s (Q2 Z p1 h0 n0) room2.cells room2.slots (s₁.setTop (mkF m 7 #[.val (.int p1)] [(.int (1114111 : Int32)), (.int p1)]))
    refine Till.icmp (pc' := 12) X0.here hx (hb hby d2_7) (by decide) (by decide) (fun q => ?_) (fun q => ?_)
    · have hc2 := (hLt.2.2.2.2.2.2.1 q)
      show Till p e below s (Q2 Z p1 h0 n0) room2.cells room2.slots (s₁.setTop (mkF m 12 #[.val (.int p1)] []))
      refine Till.pre (fun _ hr => XS.iloadN X0.here hx rfl (hb hby d2_12) rfl hr) ?_
      show Till p e below s (Q2 Z p1 h0 n0) room2.cells room2.slots (s₁.setTop (mkF m 13 #[.val (.int p1)] [(.int p1)]))
      refine Till.pre (fun _ hr => XS.bipush X0.here hx rfl (hb hby d2_13) hr) ?_
      show Till p e below s (Q2 Z p1 h0 n0) room2.cells room2.slots (s₁.setTop (mkF m 15 #[.val (.int p1)] [(.int (32 : Int32)), (.int p1)]))
      refine Till.icmp (pc' := 42) X0.here hx (hb hby d2_15) (by decide) (by decide) (fun q => ?_) (fun q => ?_)
      · have hc3 := (hLt.2.2.1 q)
        show Till p e below s (Q2 Z p1 h0 n0) room2.cells room2.slots (s₁.setTop (mkF m 42 #[.val (.int p1)] []))
        refine Till.pre (fun _ hr => XS.iloadN X0.here hx rfl (hb hby d2_42) rfl hr) ?_
        show Till p e below s (Q2 Z p1 h0 n0) room2.cells room2.slots (s₁.setTop (mkF m 43 #[.val (.int p1)] [(.int p1)]))
        refine Till.pre (X0.ldcInt hx hown (mvT hZ (hw _ (List.mem_of_getElem? (i := 2) rfl))) (g := (mkF m 43 #[.val (.int p1)] [(.int p1)])) rfl (hb hby d2_43)) ?_
        show Till p e below s (Q2 Z p1 h0 n0) room2.cells room2.slots (s₁.setTop (mkF m 45 #[.val (.int p1)] [(.int (55296 : Int32)), (.int p1)]))
        refine Till.icmp (pc' := 56) X0.here hx (hb hby d2_45) (by decide) (by decide) (fun q => ?_) (fun q => ?_)
        · have hc4 := (hLt.1 q)
          show Till p e below s (Q2 Z p1 h0 n0) room2.cells room2.slots (s₁.setTop (mkF m 56 #[.val (.int p1)] []))
          refine Till.pre (fun _ hr => XS.iloadN X0.here hx rfl (hb hby d2_56) rfl hr) ?_
          show Till p e below s (Q2 Z p1 h0 n0) room2.cells room2.slots (s₁.setTop (mkF m 57 #[.val (.int p1)] [(.int p1)]))
          refine Till.pre (X0.ldcInt hx hown (mvT hZ (hw _ (List.mem_of_getElem? (i := 6) rfl))) (g := (mkF m 57 #[.val (.int p1)] [(.int p1)])) rfl (hb hby d2_57)) ?_
          show Till p e below s (Q2 Z p1 h0 n0) room2.cells room2.slots (s₁.setTop (mkF m 59 #[.val (.int p1)] [(.int (65534 : Int32)), (.int p1)]))
          refine Till.icmp (pc' := 68) X0.here hx (hb hby d2_59) (by decide) (by decide) (fun q => ?_) (fun q => ?_)
          · have hc5 := (hEq.1 q)
            show Till p e below s (Q2 Z p1 h0 n0) room2.cells room2.slots (s₁.setTop (mkF m 68 #[.val (.int p1)] []))
            refine Till.pre (fun _ hr => XS.iconst X0.here hx rfl (hb hby d2_68) hr) ?_
            show Till p e below s (Q2 Z p1 h0 n0) room2.cells room2.slots (s₁.setTop (mkF m 69 #[.val (.int p1)] [(.int (0 : Int32))]))
            refine Till.retZ (w := (0 : Int32)) X0 hx hret hlk (hb hby d2_69) (by decide) (by decide) (by decide) ?_
            exact ⟨(congrArg (fun z => some (Value.int z)) (Eq.symm ((if_neg hc1).trans ((if_neg hc2).trans ((if_neg hc3).trans ((if_pos hc4).trans (if_pos hc5))))))), N0, e0⟩
          · have hc5 := (hEq.2.1 q)
            show Till p e below s (Q2 Z p1 h0 n0) room2.cells room2.slots (s₁.setTop (mkF m 62 #[.val (.int p1)] []))
            refine Till.pre (fun _ hr => XS.iloadN X0.here hx rfl (hb hby d2_62) rfl hr) ?_
            show Till p e below s (Q2 Z p1 h0 n0) room2.cells room2.slots (s₁.setTop (mkF m 63 #[.val (.int p1)] [(.int p1)]))
            refine Till.pre (X0.ldcInt hx hown (mvT hZ (hw _ (List.mem_of_getElem? (i := 7) rfl))) (g := (mkF m 63 #[.val (.int p1)] [(.int p1)])) rfl (hb hby d2_63)) ?_
            show Till p e below s (Q2 Z p1 h0 n0) room2.cells room2.slots (s₁.setTop (mkF m 65 #[.val (.int p1)] [(.int (65535 : Int32)), (.int p1)]))
            refine Till.icmp (pc' := 70) X0.here hx (hb hby d2_65) (by decide) (by decide) (fun q => ?_) (fun q => ?_)
            · have hc6 := (hEq.2.2.1 q)
              show Till p e below s (Q2 Z p1 h0 n0) room2.cells room2.slots (s₁.setTop (mkF m 70 #[.val (.int p1)] []))
              refine Till.pre (fun _ hr => XS.iconst X0.here hx rfl (hb hby d2_70) hr) ?_
              show Till p e below s (Q2 Z p1 h0 n0) room2.cells room2.slots (s₁.setTop (mkF m 71 #[.val (.int p1)] [(.int (1 : Int32))]))
              refine Till.retZ (w := (1 : Int32)) X0 hx hret hlk (hb hby d2_71) (by decide) (by decide) (by decide) ?_
              exact ⟨(congrArg (fun z => some (Value.int z)) (Eq.symm ((if_neg hc1).trans ((if_neg hc2).trans ((if_neg hc3).trans ((if_pos hc4).trans ((if_neg hc5).trans (if_neg hc6)))))))), N0, e0⟩
            · have hc6 := (hEq.2.2.2 q)
              show Till p e below s (Q2 Z p1 h0 n0) room2.cells room2.slots (s₁.setTop (mkF m 68 #[.val (.int p1)] []))
              refine Till.pre (fun _ hr => XS.iconst X0.here hx rfl (hb hby d2_68) hr) ?_
              show Till p e below s (Q2 Z p1 h0 n0) room2.cells room2.slots (s₁.setTop (mkF m 69 #[.val (.int p1)] [(.int (0 : Int32))]))
              refine Till.retZ (w := (0 : Int32)) X0 hx hret hlk (hb hby d2_69) (by decide) (by decide) (by decide) ?_
              exact ⟨(congrArg (fun z => some (Value.int z)) (Eq.symm ((if_neg hc1).trans ((if_neg hc2).trans ((if_neg hc3).trans ((if_pos hc4).trans ((if_neg hc5).trans (if_pos hc6)))))))), N0, e0⟩
        · have hc4 := (hLt.2.1 q)
          show Till p e below s (Q2 Z p1 h0 n0) room2.cells room2.slots (s₁.setTop (mkF m 48 #[.val (.int p1)] []))
          refine Till.pre (fun _ hr => XS.iloadN X0.here hx rfl (hb hby d2_48) rfl hr) ?_
          show Till p e below s (Q2 Z p1 h0 n0) room2.cells room2.slots (s₁.setTop (mkF m 49 #[.val (.int p1)] [(.int p1)]))
          refine Till.pre (X0.ldcInt hx hown (mvT hZ (hw _ (List.mem_of_getElem? (i := 3) rfl))) (g := (mkF m 49 #[.val (.int p1)] [(.int p1)])) rfl (hb hby d2_49)) ?_
          show Till p e below s (Q2 Z p1 h0 n0) room2.cells room2.slots (s₁.setTop (mkF m 51 #[.val (.int p1)] [(.int (57343 : Int32)), (.int p1)]))
          refine Till.icmp (pc' := 56) X0.here hx (hb hby d2_51) (by decide) (by decide) (fun q => ?_) (fun q => ?_)
          · have hc7 := (hLt.2.2.2.2.1 q)
            show Till p e below s (Q2 Z p1 h0 n0) room2.cells room2.slots (s₁.setTop (mkF m 56 #[.val (.int p1)] []))
            refine Till.pre (fun _ hr => XS.iloadN X0.here hx rfl (hb hby d2_56) rfl hr) ?_
            show Till p e below s (Q2 Z p1 h0 n0) room2.cells room2.slots (s₁.setTop (mkF m 57 #[.val (.int p1)] [(.int p1)]))
            refine Till.pre (X0.ldcInt hx hown (mvT hZ (hw _ (List.mem_of_getElem? (i := 6) rfl))) (g := (mkF m 57 #[.val (.int p1)] [(.int p1)])) rfl (hb hby d2_57)) ?_
            show Till p e below s (Q2 Z p1 h0 n0) room2.cells room2.slots (s₁.setTop (mkF m 59 #[.val (.int p1)] [(.int (65534 : Int32)), (.int p1)]))
            refine Till.icmp (pc' := 68) X0.here hx (hb hby d2_59) (by decide) (by decide) (fun q => ?_) (fun q => ?_)
            · have hc8 := (hEq.1 q)
              show Till p e below s (Q2 Z p1 h0 n0) room2.cells room2.slots (s₁.setTop (mkF m 68 #[.val (.int p1)] []))
              refine Till.pre (fun _ hr => XS.iconst X0.here hx rfl (hb hby d2_68) hr) ?_
              show Till p e below s (Q2 Z p1 h0 n0) room2.cells room2.slots (s₁.setTop (mkF m 69 #[.val (.int p1)] [(.int (0 : Int32))]))
              refine Till.retZ (w := (0 : Int32)) X0 hx hret hlk (hb hby d2_69) (by decide) (by decide) (by decide) ?_
              exact ⟨(congrArg (fun z => some (Value.int z)) (Eq.symm ((if_neg hc1).trans ((if_neg hc2).trans ((if_neg hc3).trans ((if_neg hc4).trans ((if_pos hc7).trans (if_pos hc8)))))))), N0, e0⟩
            · have hc8 := (hEq.2.1 q)
              show Till p e below s (Q2 Z p1 h0 n0) room2.cells room2.slots (s₁.setTop (mkF m 62 #[.val (.int p1)] []))
              refine Till.pre (fun _ hr => XS.iloadN X0.here hx rfl (hb hby d2_62) rfl hr) ?_
              show Till p e below s (Q2 Z p1 h0 n0) room2.cells room2.slots (s₁.setTop (mkF m 63 #[.val (.int p1)] [(.int p1)]))
              refine Till.pre (X0.ldcInt hx hown (mvT hZ (hw _ (List.mem_of_getElem? (i := 7) rfl))) (g := (mkF m 63 #[.val (.int p1)] [(.int p1)])) rfl (hb hby d2_63)) ?_
              show Till p e below s (Q2 Z p1 h0 n0) room2.cells room2.slots (s₁.setTop (mkF m 65 #[.val (.int p1)] [(.int (65535 : Int32)), (.int p1)]))
              refine Till.icmp (pc' := 70) X0.here hx (hb hby d2_65) (by decide) (by decide) (fun q => ?_) (fun q => ?_)
              · have hc9 := (hEq.2.2.1 q)
                show Till p e below s (Q2 Z p1 h0 n0) room2.cells room2.slots (s₁.setTop (mkF m 70 #[.val (.int p1)] []))
                refine Till.pre (fun _ hr => XS.iconst X0.here hx rfl (hb hby d2_70) hr) ?_
                show Till p e below s (Q2 Z p1 h0 n0) room2.cells room2.slots (s₁.setTop (mkF m 71 #[.val (.int p1)] [(.int (1 : Int32))]))
                refine Till.retZ (w := (1 : Int32)) X0 hx hret hlk (hb hby d2_71) (by decide) (by decide) (by decide) ?_
                exact ⟨(congrArg (fun z => some (Value.int z)) (Eq.symm ((if_neg hc1).trans ((if_neg hc2).trans ((if_neg hc3).trans ((if_neg hc4).trans ((if_pos hc7).trans ((if_neg hc8).trans (if_neg hc9))))))))), N0, e0⟩
              · have hc9 := (hEq.2.2.2 q)
                show Till p e below s (Q2 Z p1 h0 n0) room2.cells room2.slots (s₁.setTop (mkF m 68 #[.val (.int p1)] []))
                refine Till.pre (fun _ hr => XS.iconst X0.here hx rfl (hb hby d2_68) hr) ?_
                show Till p e below s (Q2 Z p1 h0 n0) room2.cells room2.slots (s₁.setTop (mkF m 69 #[.val (.int p1)] [(.int (0 : Int32))]))
                refine Till.retZ (w := (0 : Int32)) X0 hx hret hlk (hb hby d2_69) (by decide) (by decide) (by decide) ?_
                exact ⟨(congrArg (fun z => some (Value.int z)) (Eq.symm ((if_neg hc1).trans ((if_neg hc2).trans ((if_neg hc3).trans ((if_neg hc4).trans ((if_pos hc7).trans ((if_neg hc8).trans (if_pos hc9))))))))), N0, e0⟩
          · have hc7 := (hLt.2.2.2.2.2.1 q)
            show Till p e below s (Q2 Z p1 h0 n0) room2.cells room2.slots (s₁.setTop (mkF m 54 #[.val (.int p1)] []))
            refine Till.pre (fun _ hr => XS.iconst X0.here hx rfl (hb hby d2_54) hr) ?_
            show Till p e below s (Q2 Z p1 h0 n0) room2.cells room2.slots (s₁.setTop (mkF m 55 #[.val (.int p1)] [(.int (0 : Int32))]))
            refine Till.retZ (w := (0 : Int32)) X0 hx hret hlk (hb hby d2_55) (by decide) (by decide) (by decide) ?_
            exact ⟨(congrArg (fun z => some (Value.int z)) (Eq.symm ((if_neg hc1).trans ((if_neg hc2).trans ((if_neg hc3).trans ((if_neg hc4).trans (if_neg hc7))))))), N0, e0⟩
      · have hc3 := (hLt.2.2.2.1 q)
        show Till p e below s (Q2 Z p1 h0 n0) room2.cells room2.slots (s₁.setTop (mkF m 18 #[.val (.int p1)] []))
        refine Till.pre (fun _ hr => XS.iloadN X0.here hx rfl (hb hby d2_18) rfl hr) ?_
        show Till p e below s (Q2 Z p1 h0 n0) room2.cells room2.slots (s₁.setTop (mkF m 19 #[.val (.int p1)] [(.int p1)]))
        refine Till.pre (fun _ hr => XS.bipush X0.here hx rfl (hb hby d2_19) hr) ?_
        show Till p e below s (Q2 Z p1 h0 n0) room2.cells room2.slots (s₁.setTop (mkF m 21 #[.val (.int p1)] [(.int (9 : Int32)), (.int p1)]))
        have J41_12 : ∀ (v41s0 : Int32) (hv41s0 : v41s0 = (if (p1 = (9 : Int32)) then (1 : Int32) else (if (p1 = (10 : Int32)) then (1 : Int32) else (if (p1 = (13 : Int32)) then (1 : Int32) else (0 : Int32))))), Till p e below s (Q2 Z p1 h0 n0) room2.cells room2.slots (s₁.setTop (mkF m 41 #[.val (.int p1)] [(.int v41s0)])) := by
          intro v41s0 hv41s0
          show Till p e below s (Q2 Z p1 h0 n0) room2.cells room2.slots (s₁.setTop (mkF m 41 #[.val (.int p1)] [(.int v41s0)]))
          refine Till.retZ (w := (v41s0 &&& 1)) X0 hx hret hlk (hb hby d2_41) (by decide) (by decide) (rfl) ?_
          subst hv41s0
          exact ⟨(congrArg (fun z => some (Value.int z)) (Eq.symm ((if_neg hc1).trans ((if_neg hc2).trans (if_pos hc3))))), N0, e0⟩
        refine Till.icmp (pc' := 36) X0.here hx (hb hby d2_21) (by decide) (by decide) (fun q => ?_) (fun q => ?_)
        · have hc10 := (hEq.1 q)
          show Till p e below s (Q2 Z p1 h0 n0) room2.cells room2.slots (s₁.setTop (mkF m 36 #[.val (.int p1)] []))
          refine Till.pre (fun _ hr => XS.iconst X0.here hx rfl (hb hby d2_36) hr) ?_
          show Till p e below s (Q2 Z p1 h0 n0) room2.cells room2.slots (s₁.setTop (mkF m 37 #[.val (.int p1)] [(.int (1 : Int32))]))
          refine Till.pre (fun _ hr => XS.goto X0.here hx rfl (pc0 := 37) (pc' := 41) rfl (hb hby d2_37) (by decide) (by decide) hr) ?_
          show Till p e below s (Q2 Z p1 h0 n0) room2.cells room2.slots (s₁.setTop (mkF m 41 #[.val (.int p1)] [(.int (1 : Int32))]))
          exact J41_12 _ (Eq.symm (if_pos hc10))
        · have hc10 := (hEq.2.1 q)
          show Till p e below s (Q2 Z p1 h0 n0) room2.cells room2.slots (s₁.setTop (mkF m 24 #[.val (.int p1)] []))
          refine Till.pre (fun _ hr => XS.iloadN X0.here hx rfl (hb hby d2_24) rfl hr) ?_
          show Till p e below s (Q2 Z p1 h0 n0) room2.cells room2.slots (s₁.setTop (mkF m 25 #[.val (.int p1)] [(.int p1)]))
          refine Till.pre (fun _ hr => XS.bipush X0.here hx rfl (hb hby d2_25) hr) ?_
          show Till p e below s (Q2 Z p1 h0 n0) room2.cells room2.slots (s₁.setTop (mkF m 27 #[.val (.int p1)] [(.int (10 : Int32)), (.int p1)]))
          refine Till.icmp (pc' := 36) X0.here hx (hb hby d2_27) (by decide) (by decide) (fun q => ?_) (fun q => ?_)
          · have hc11 := (hEq.1 q)
            show Till p e below s (Q2 Z p1 h0 n0) room2.cells room2.slots (s₁.setTop (mkF m 36 #[.val (.int p1)] []))
            refine Till.pre (fun _ hr => XS.iconst X0.here hx rfl (hb hby d2_36) hr) ?_
            show Till p e below s (Q2 Z p1 h0 n0) room2.cells room2.slots (s₁.setTop (mkF m 37 #[.val (.int p1)] [(.int (1 : Int32))]))
            refine Till.pre (fun _ hr => XS.goto X0.here hx rfl (pc0 := 37) (pc' := 41) rfl (hb hby d2_37) (by decide) (by decide) hr) ?_
            show Till p e below s (Q2 Z p1 h0 n0) room2.cells room2.slots (s₁.setTop (mkF m 41 #[.val (.int p1)] [(.int (1 : Int32))]))
            exact J41_12 _ (Eq.symm ((if_neg hc10).trans (if_pos hc11)))
          · have hc11 := (hEq.2.1 q)
            show Till p e below s (Q2 Z p1 h0 n0) room2.cells room2.slots (s₁.setTop (mkF m 30 #[.val (.int p1)] []))
            refine Till.pre (fun _ hr => XS.iloadN X0.here hx rfl (hb hby d2_30) rfl hr) ?_
            show Till p e below s (Q2 Z p1 h0 n0) room2.cells room2.slots (s₁.setTop (mkF m 31 #[.val (.int p1)] [(.int p1)]))
            refine Till.pre (fun _ hr => XS.bipush X0.here hx rfl (hb hby d2_31) hr) ?_
            show Till p e below s (Q2 Z p1 h0 n0) room2.cells room2.slots (s₁.setTop (mkF m 33 #[.val (.int p1)] [(.int (13 : Int32)), (.int p1)]))
            refine Till.icmp (pc' := 40) X0.here hx (hb hby d2_33) (by decide) (by decide) (fun q => ?_) (fun q => ?_)
            · have hc12 := (hEq.2.2.1 q)
              show Till p e below s (Q2 Z p1 h0 n0) room2.cells room2.slots (s₁.setTop (mkF m 40 #[.val (.int p1)] []))
              refine Till.pre (fun _ hr => XS.iconst X0.here hx rfl (hb hby d2_40) hr) ?_
              show Till p e below s (Q2 Z p1 h0 n0) room2.cells room2.slots (s₁.setTop (mkF m 41 #[.val (.int p1)] [(.int (0 : Int32))]))
              exact J41_12 _ (Eq.symm ((if_neg hc10).trans ((if_neg hc11).trans (if_neg hc12))))
            · have hc12 := (hEq.2.2.2 q)
              show Till p e below s (Q2 Z p1 h0 n0) room2.cells room2.slots (s₁.setTop (mkF m 36 #[.val (.int p1)] []))
              refine Till.pre (fun _ hr => XS.iconst X0.here hx rfl (hb hby d2_36) hr) ?_
              show Till p e below s (Q2 Z p1 h0 n0) room2.cells room2.slots (s₁.setTop (mkF m 37 #[.val (.int p1)] [(.int (1 : Int32))]))
              refine Till.pre (fun _ hr => XS.goto X0.here hx rfl (pc0 := 37) (pc' := 41) rfl (hb hby d2_37) (by decide) (by decide) hr) ?_
              show Till p e below s (Q2 Z p1 h0 n0) room2.cells room2.slots (s₁.setTop (mkF m 41 #[.val (.int p1)] [(.int (1 : Int32))]))
              exact J41_12 _ (Eq.symm ((if_neg hc10).trans ((if_neg hc11).trans (if_pos hc12))))
    · have hc2 := (hLt.2.2.2.2.2.2.2 q)
      show Till p e below s (Q2 Z p1 h0 n0) room2.cells room2.slots (s₁.setTop (mkF m 10 #[.val (.int p1)] []))
      refine Till.pre (fun _ hr => XS.iconst X0.here hx rfl (hb hby d2_10) hr) ?_
      show Till p e below s (Q2 Z p1 h0 n0) room2.cells room2.slots (s₁.setTop (mkF m 11 #[.val (.int p1)] [(.int (0 : Int32))]))
      refine Till.retZ (w := (0 : Int32)) X0 hx hret hlk (hb hby d2_11) (by decide) (by decide) (by decide) ?_
      exact ⟨(congrArg (fun z => some (Value.int z)) (Eq.symm ((if_neg hc1).trans (if_pos hc2)))), N0, e0⟩
theorem own_eq (c : Int32) : fn1 c = fn2 c := by
  have r := rng32 c
  unfold fn1 fn2
  repeat' split
  all_goals first | rfl | (exfalso; simp only [Int32.lt_iff_toInt_lt, ← Int32.toInt_inj, Int32.reduceToInt] at *; omega)
theorem own_ix (p : Int32) : ¬ ((p &&& (2147483647 : Int32)) % (16 : Int32)) < (0 : Int32) ∧ ((p &&& (2147483647 : Int32)) % (16 : Int32)) < (16 : Int32) := by
  have a1 := c_mask p 2147483647 31 (by decide) (by decide)
  have a2 := c_irem (p &&& 2147483647) 16 16 (by decide)
  have e0 : (0 : Int32).toInt = 0 := rfl
  have e16 : (16 : Int32).toInt = 16 := rfl
  rw [Int32.lt_iff_toInt_lt, Int32.lt_iff_toInt_lt, e0, e16]
  have := rng32 p
  have h : 0 ≤ (p &&& (2147483647 : Int32)).toInt := by omega
  have := a2.1 h
  omega
theorem pd0_0 : parseMethodDescriptor "(I)Z" = some ⟨[.int], some .boolean⟩ := by decide +kernel
theorem ef_0 (m : MethodId) (p1 : Int32) (p2 : Int32) (p3 : Int32) : entryFrame m #[(.int p1), (.int p2), (.int p3)] maxLocals = mkF m 0 #[.val (.int p1), .val (.int p2), .val (.int p3), .unset, .unset, .unset, .unset, .unset] [] := by first | (simp [entryFrame, mkF, argsToLocals, Value.category, maxLocals]; done) | rfl
def Q0 (Z : State) (p1 : Int32) (p2 : Int32) (p3 : Int32) (h0 : Heap) (n0 : Nat) : Option Value → Heap → List Loc → Prop := fun v h L => v = some (.int 1) ∧ Fr n0 L
set_option maxRecDepth 65536 in
set_option maxHeartbeats 40000000 in
theorem rm0 (l : Launch) (Z : State) (a0 : Array Value) (hw : ∀ d ∈ tables_1, d.before a0 Z = true) (p1 : Int32) (p2 : Int32) (p3 : Int32) (h0 : Heap) (n0 : Nat) (Zs : n0 ≤ h0.size) : Ctr l Z x code maxLocals ret room_1 #[(.int p1), (.int p2), (.int p3)] h0 (Q0 Z p1 p2 p3 h0 n0) := by
  refine Ctr.of (plainFor_of_name pn_2) ?_
  intro p e s m below meth c s₁ hx hby hml hown hnm hret hlk hZ e0 X0
  have hown : s.vm.findClass "com/example/wolfville/wolfville/xml/XmlCharactersIsCharPinLaw" = some m.cls := hown
  have hml : c.maxLocals = 8 := hml
  have hnm : meth.name = "law" := hnm
  have hret : meth.sig.returnType = (some .boolean) := hret
  have N0 := Fr.nil n0
  refine Till.cast (ef_0 m p1 p2 p3) ?_
  show Till p e below s (Q0 Z p1 p2 p3 h0 n0) room_1.cells room_1.slots (s₁.setTop (mkF m 0 #[.val (.int p1), .val (.int p2), .val (.int p3), .unset, .unset, .unset, .unset, .unset] []))
  refine Till.pre (fun _ hr => XS.bipush X0.here hx rfl (hb hby at_0) hr) ?_
  show Till p e below s (Q0 Z p1 p2 p3 h0 n0) room_1.cells room_1.slots (s₁.setTop (mkF m 2 #[.val (.int p1), .val (.int p2), .val (.int p3), .unset, .unset, .unset, .unset, .unset] [(.int (16 : Int32))]))
  refine Till.newA (aty := .int) (w := Value.int) (d0 := (0 : Int32)) X0 hx hZ (hw _ (List.mem_of_getElem? (i := 0) rfl)) e0 (hb hby at_2) rfl (by decide) 16 (by decide) (by decide) (by decide) (by decide) (fun T1 h2 b3 g4 X5 e6 E7 A8 => ?_)
  have g_b3 : n0 ≤ b3 := Nat.le_trans Zs (Nat.le_of_eq g4.symm)
  have Zs := Nat.le_trans Zs E7.1
  have R_b3 : IA Z h2 b3 (16 : Int32) (fun _ => (0 : Int32)) := A8
  show Till p e below s (Q0 Z p1 p2 p3 h0 n0) room_1.cells room_1.slots (T1.setTop (mkF m 4 #[.val (.int p1), .val (.int p2), .val (.int p3), .unset, .unset, .unset, .unset, .unset] [(.ref b3)]))
  refine Till.pre (fun _ hr => XS.dup X5.here hx rfl (hb hby at_4) rfl rfl hr) ?_
  show Till p e below s (Q0 Z p1 p2 p3 h0 n0) room_1.cells room_1.slots (T1.setTop (mkF m 5 #[.val (.int p1), .val (.int p2), .val (.int p3), .unset, .unset, .unset, .unset, .unset] [(.ref b3), (.ref b3)]))
  refine Till.pre (fun _ hr => XS.iconst X5.here hx rfl (hb hby at_5) hr) ?_
  show Till p e below s (Q0 Z p1 p2 p3 h0 n0) room_1.cells room_1.slots (T1.setTop (mkF m 6 #[.val (.int p1), .val (.int p2), .val (.int p3), .unset, .unset, .unset, .unset, .unset] [(.int (0 : Int32)), (.ref b3), (.ref b3)]))
  refine Till.pre (fun _ hr => XS.iconst X5.here hx rfl (hb hby at_6) hr) ?_
  show Till p e below s (Q0 Z p1 p2 p3 h0 n0) room_1.cells room_1.slots (T1.setTop (mkF m 7 #[.val (.int p1), .val (.int p2), .val (.int p3), .unset, .unset, .unset, .unset, .unset] [(.int (0 : Int32)), (.int (0 : Int32)), (.ref b3), (.ref b3)]))
  refine Till.iastore R_b3 (by decide) (by decide) X5 hx hZ e6 (hb hby at_7) (fun T9 h10 X11 e12 W13 A14 => ?_)
  have N15 := Fr.snoc X11 N0 g_b3
  have Zs := Nat.le_trans Zs (Keep.of_wr W13).1
  have R_b3 : IA Z h10 b3 (16 : Int32) (oupd (fun _ => (0 : Int32)) 0 (0 : Int32)) := A14
  show Till p e below s (Q0 Z p1 p2 p3 h0 n0) room_1.cells room_1.slots (T9.setTop (mkF m 8 #[.val (.int p1), .val (.int p2), .val (.int p3), .unset, .unset, .unset, .unset, .unset] [(.ref b3)]))
  refine Till.pre (fun _ hr => XS.dup X11.here hx rfl (hb hby at_8) rfl rfl hr) ?_
  show Till p e below s (Q0 Z p1 p2 p3 h0 n0) room_1.cells room_1.slots (T9.setTop (mkF m 9 #[.val (.int p1), .val (.int p2), .val (.int p3), .unset, .unset, .unset, .unset, .unset] [(.ref b3), (.ref b3)]))
  refine Till.pre (fun _ hr => XS.iconst X11.here hx rfl (hb hby at_9) hr) ?_
  show Till p e below s (Q0 Z p1 p2 p3 h0 n0) room_1.cells room_1.slots (T9.setTop (mkF m 10 #[.val (.int p1), .val (.int p2), .val (.int p3), .unset, .unset, .unset, .unset, .unset] [(.int (1 : Int32)), (.ref b3), (.ref b3)]))
  refine Till.pre (fun _ hr => XS.bipush X11.here hx rfl (hb hby at_10) hr) ?_
  show Till p e below s (Q0 Z p1 p2 p3 h0 n0) room_1.cells room_1.slots (T9.setTop (mkF m 12 #[.val (.int p1), .val (.int p2), .val (.int p3), .unset, .unset, .unset, .unset, .unset] [(.int (9 : Int32)), (.int (1 : Int32)), (.ref b3), (.ref b3)]))
  refine Till.iastore R_b3 (by decide) (by decide) X11 hx hZ e12 (hb hby at_12) (fun T16 h17 X18 e19 W20 A21 => ?_)
  have N22 := Fr.snoc X18 N15 g_b3
  have Zs := Nat.le_trans Zs (Keep.of_wr W20).1
  have R_b3 : IA Z h17 b3 (16 : Int32) (oupd (oupd (fun _ => (0 : Int32)) 0 (0 : Int32)) 1 (9 : Int32)) := A21
  show Till p e below s (Q0 Z p1 p2 p3 h0 n0) room_1.cells room_1.slots (T16.setTop (mkF m 13 #[.val (.int p1), .val (.int p2), .val (.int p3), .unset, .unset, .unset, .unset, .unset] [(.ref b3)]))
  refine Till.pre (fun _ hr => XS.dup X18.here hx rfl (hb hby at_13) rfl rfl hr) ?_
  show Till p e below s (Q0 Z p1 p2 p3 h0 n0) room_1.cells room_1.slots (T16.setTop (mkF m 14 #[.val (.int p1), .val (.int p2), .val (.int p3), .unset, .unset, .unset, .unset, .unset] [(.ref b3), (.ref b3)]))
  refine Till.pre (fun _ hr => XS.iconst X18.here hx rfl (hb hby at_14) hr) ?_
  show Till p e below s (Q0 Z p1 p2 p3 h0 n0) room_1.cells room_1.slots (T16.setTop (mkF m 15 #[.val (.int p1), .val (.int p2), .val (.int p3), .unset, .unset, .unset, .unset, .unset] [(.int (2 : Int32)), (.ref b3), (.ref b3)]))
  refine Till.pre (fun _ hr => XS.bipush X18.here hx rfl (hb hby at_15) hr) ?_
  show Till p e below s (Q0 Z p1 p2 p3 h0 n0) room_1.cells room_1.slots (T16.setTop (mkF m 17 #[.val (.int p1), .val (.int p2), .val (.int p3), .unset, .unset, .unset, .unset, .unset] [(.int (10 : Int32)), (.int (2 : Int32)), (.ref b3), (.ref b3)]))
  refine Till.iastore R_b3 (by decide) (by decide) X18 hx hZ e19 (hb hby at_17) (fun T23 h24 X25 e26 W27 A28 => ?_)
  have N29 := Fr.snoc X25 N22 g_b3
  have Zs := Nat.le_trans Zs (Keep.of_wr W27).1
  have R_b3 : IA Z h24 b3 (16 : Int32) (oupd (oupd (oupd (fun _ => (0 : Int32)) 0 (0 : Int32)) 1 (9 : Int32)) 2 (10 : Int32)) := A28
  show Till p e below s (Q0 Z p1 p2 p3 h0 n0) room_1.cells room_1.slots (T23.setTop (mkF m 18 #[.val (.int p1), .val (.int p2), .val (.int p3), .unset, .unset, .unset, .unset, .unset] [(.ref b3)]))
  refine Till.pre (fun _ hr => XS.dup X25.here hx rfl (hb hby at_18) rfl rfl hr) ?_
  show Till p e below s (Q0 Z p1 p2 p3 h0 n0) room_1.cells room_1.slots (T23.setTop (mkF m 19 #[.val (.int p1), .val (.int p2), .val (.int p3), .unset, .unset, .unset, .unset, .unset] [(.ref b3), (.ref b3)]))
  refine Till.pre (fun _ hr => XS.iconst X25.here hx rfl (hb hby at_19) hr) ?_
  show Till p e below s (Q0 Z p1 p2 p3 h0 n0) room_1.cells room_1.slots (T23.setTop (mkF m 20 #[.val (.int p1), .val (.int p2), .val (.int p3), .unset, .unset, .unset, .unset, .unset] [(.int (3 : Int32)), (.ref b3), (.ref b3)]))
  refine Till.pre (fun _ hr => XS.bipush X25.here hx rfl (hb hby at_20) hr) ?_
  show Till p e below s (Q0 Z p1 p2 p3 h0 n0) room_1.cells room_1.slots (T23.setTop (mkF m 22 #[.val (.int p1), .val (.int p2), .val (.int p3), .unset, .unset, .unset, .unset, .unset] [(.int (13 : Int32)), (.int (3 : Int32)), (.ref b3), (.ref b3)]))
  refine Till.iastore R_b3 (by decide) (by decide) X25 hx hZ e26 (hb hby at_22) (fun T30 h31 X32 e33 W34 A35 => ?_)
  have N36 := Fr.snoc X32 N29 g_b3
  have Zs := Nat.le_trans Zs (Keep.of_wr W34).1
  have R_b3 : IA Z h31 b3 (16 : Int32) (oupd (oupd (oupd (oupd (fun _ => (0 : Int32)) 0 (0 : Int32)) 1 (9 : Int32)) 2 (10 : Int32)) 3 (13 : Int32)) := A35
  show Till p e below s (Q0 Z p1 p2 p3 h0 n0) room_1.cells room_1.slots (T30.setTop (mkF m 23 #[.val (.int p1), .val (.int p2), .val (.int p3), .unset, .unset, .unset, .unset, .unset] [(.ref b3)]))
  refine Till.pre (fun _ hr => XS.dup X32.here hx rfl (hb hby at_23) rfl rfl hr) ?_
  show Till p e below s (Q0 Z p1 p2 p3 h0 n0) room_1.cells room_1.slots (T30.setTop (mkF m 24 #[.val (.int p1), .val (.int p2), .val (.int p3), .unset, .unset, .unset, .unset, .unset] [(.ref b3), (.ref b3)]))
  refine Till.pre (fun _ hr => XS.iconst X32.here hx rfl (hb hby at_24) hr) ?_
  show Till p e below s (Q0 Z p1 p2 p3 h0 n0) room_1.cells room_1.slots (T30.setTop (mkF m 25 #[.val (.int p1), .val (.int p2), .val (.int p3), .unset, .unset, .unset, .unset, .unset] [(.int (4 : Int32)), (.ref b3), (.ref b3)]))
  refine Till.pre (fun _ hr => XS.bipush X32.here hx rfl (hb hby at_25) hr) ?_
  show Till p e below s (Q0 Z p1 p2 p3 h0 n0) room_1.cells room_1.slots (T30.setTop (mkF m 27 #[.val (.int p1), .val (.int p2), .val (.int p3), .unset, .unset, .unset, .unset, .unset] [(.int (32 : Int32)), (.int (4 : Int32)), (.ref b3), (.ref b3)]))
  refine Till.iastore R_b3 (by decide) (by decide) X32 hx hZ e33 (hb hby at_27) (fun T37 h38 X39 e40 W41 A42 => ?_)
  have N43 := Fr.snoc X39 N36 g_b3
  have Zs := Nat.le_trans Zs (Keep.of_wr W41).1
  have R_b3 : IA Z h38 b3 (16 : Int32) (oupd (oupd (oupd (oupd (oupd (fun _ => (0 : Int32)) 0 (0 : Int32)) 1 (9 : Int32)) 2 (10 : Int32)) 3 (13 : Int32)) 4 (32 : Int32)) := A42
  show Till p e below s (Q0 Z p1 p2 p3 h0 n0) room_1.cells room_1.slots (T37.setTop (mkF m 28 #[.val (.int p1), .val (.int p2), .val (.int p3), .unset, .unset, .unset, .unset, .unset] [(.ref b3)]))
  refine Till.pre (fun _ hr => XS.dup X39.here hx rfl (hb hby at_28) rfl rfl hr) ?_
  show Till p e below s (Q0 Z p1 p2 p3 h0 n0) room_1.cells room_1.slots (T37.setTop (mkF m 29 #[.val (.int p1), .val (.int p2), .val (.int p3), .unset, .unset, .unset, .unset, .unset] [(.ref b3), (.ref b3)]))
  refine Till.pre (fun _ hr => XS.iconst X39.here hx rfl (hb hby at_29) hr) ?_
  show Till p e below s (Q0 Z p1 p2 p3 h0 n0) room_1.cells room_1.slots (T37.setTop (mkF m 30 #[.val (.int p1), .val (.int p2), .val (.int p3), .unset, .unset, .unset, .unset, .unset] [(.int (5 : Int32)), (.ref b3), (.ref b3)]))
  refine Till.pre (X39.ldcInt hx hown (mvT hZ (hw _ (List.mem_of_getElem? (i := 1) rfl))) (g := (mkF m 30 #[.val (.int p1), .val (.int p2), .val (.int p3), .unset, .unset, .unset, .unset, .unset] [(.int (5 : Int32)), (.ref b3), (.ref b3)])) rfl (hb hby at_30)) ?_
  show Till p e below s (Q0 Z p1 p2 p3 h0 n0) room_1.cells room_1.slots (T37.setTop (mkF m 32 #[.val (.int p1), .val (.int p2), .val (.int p3), .unset, .unset, .unset, .unset, .unset] [(.int (55295 : Int32)), (.int (5 : Int32)), (.ref b3), (.ref b3)]))
  refine Till.iastore R_b3 (by decide) (by decide) X39 hx hZ e40 (hb hby at_32) (fun T44 h45 X46 e47 W48 A49 => ?_)
  have N50 := Fr.snoc X46 N43 g_b3
  have Zs := Nat.le_trans Zs (Keep.of_wr W48).1
  have R_b3 : IA Z h45 b3 (16 : Int32) (oupd (oupd (oupd (oupd (oupd (oupd (fun _ => (0 : Int32)) 0 (0 : Int32)) 1 (9 : Int32)) 2 (10 : Int32)) 3 (13 : Int32)) 4 (32 : Int32)) 5 (55295 : Int32)) := A49
  show Till p e below s (Q0 Z p1 p2 p3 h0 n0) room_1.cells room_1.slots (T44.setTop (mkF m 33 #[.val (.int p1), .val (.int p2), .val (.int p3), .unset, .unset, .unset, .unset, .unset] [(.ref b3)]))
  refine Till.pre (fun _ hr => XS.dup X46.here hx rfl (hb hby at_33) rfl rfl hr) ?_
  show Till p e below s (Q0 Z p1 p2 p3 h0 n0) room_1.cells room_1.slots (T44.setTop (mkF m 34 #[.val (.int p1), .val (.int p2), .val (.int p3), .unset, .unset, .unset, .unset, .unset] [(.ref b3), (.ref b3)]))
  refine Till.pre (fun _ hr => XS.bipush X46.here hx rfl (hb hby at_34) hr) ?_
  show Till p e below s (Q0 Z p1 p2 p3 h0 n0) room_1.cells room_1.slots (T44.setTop (mkF m 36 #[.val (.int p1), .val (.int p2), .val (.int p3), .unset, .unset, .unset, .unset, .unset] [(.int (6 : Int32)), (.ref b3), (.ref b3)]))
  refine Till.pre (X46.ldcInt hx hown (mvT hZ (hw _ (List.mem_of_getElem? (i := 2) rfl))) (g := (mkF m 36 #[.val (.int p1), .val (.int p2), .val (.int p3), .unset, .unset, .unset, .unset, .unset] [(.int (6 : Int32)), (.ref b3), (.ref b3)])) rfl (hb hby at_36)) ?_
  show Till p e below s (Q0 Z p1 p2 p3 h0 n0) room_1.cells room_1.slots (T44.setTop (mkF m 38 #[.val (.int p1), .val (.int p2), .val (.int p3), .unset, .unset, .unset, .unset, .unset] [(.int (55296 : Int32)), (.int (6 : Int32)), (.ref b3), (.ref b3)]))
  refine Till.iastore R_b3 (by decide) (by decide) X46 hx hZ e47 (hb hby at_38) (fun T51 h52 X53 e54 W55 A56 => ?_)
  have N57 := Fr.snoc X53 N50 g_b3
  have Zs := Nat.le_trans Zs (Keep.of_wr W55).1
  have R_b3 : IA Z h52 b3 (16 : Int32) (oupd (oupd (oupd (oupd (oupd (oupd (oupd (fun _ => (0 : Int32)) 0 (0 : Int32)) 1 (9 : Int32)) 2 (10 : Int32)) 3 (13 : Int32)) 4 (32 : Int32)) 5 (55295 : Int32)) 6 (55296 : Int32)) := A56
  show Till p e below s (Q0 Z p1 p2 p3 h0 n0) room_1.cells room_1.slots (T51.setTop (mkF m 39 #[.val (.int p1), .val (.int p2), .val (.int p3), .unset, .unset, .unset, .unset, .unset] [(.ref b3)]))
  refine Till.pre (fun _ hr => XS.dup X53.here hx rfl (hb hby at_39) rfl rfl hr) ?_
  show Till p e below s (Q0 Z p1 p2 p3 h0 n0) room_1.cells room_1.slots (T51.setTop (mkF m 40 #[.val (.int p1), .val (.int p2), .val (.int p3), .unset, .unset, .unset, .unset, .unset] [(.ref b3), (.ref b3)]))
  refine Till.pre (fun _ hr => XS.bipush X53.here hx rfl (hb hby at_40) hr) ?_
  show Till p e below s (Q0 Z p1 p2 p3 h0 n0) room_1.cells room_1.slots (T51.setTop (mkF m 42 #[.val (.int p1), .val (.int p2), .val (.int p3), .unset, .unset, .unset, .unset, .unset] [(.int (7 : Int32)), (.ref b3), (.ref b3)]))
  refine Till.pre (X53.ldcInt hx hown (mvT hZ (hw _ (List.mem_of_getElem? (i := 3) rfl))) (g := (mkF m 42 #[.val (.int p1), .val (.int p2), .val (.int p3), .unset, .unset, .unset, .unset, .unset] [(.int (7 : Int32)), (.ref b3), (.ref b3)])) rfl (hb hby at_42)) ?_
  show Till p e below s (Q0 Z p1 p2 p3 h0 n0) room_1.cells room_1.slots (T51.setTop (mkF m 44 #[.val (.int p1), .val (.int p2), .val (.int p3), .unset, .unset, .unset, .unset, .unset] [(.int (57343 : Int32)), (.int (7 : Int32)), (.ref b3), (.ref b3)]))
  refine Till.iastore R_b3 (by decide) (by decide) X53 hx hZ e54 (hb hby at_44) (fun T58 h59 X60 e61 W62 A63 => ?_)
  have N64 := Fr.snoc X60 N57 g_b3
  have Zs := Nat.le_trans Zs (Keep.of_wr W62).1
  have R_b3 : IA Z h59 b3 (16 : Int32) (oupd (oupd (oupd (oupd (oupd (oupd (oupd (oupd (fun _ => (0 : Int32)) 0 (0 : Int32)) 1 (9 : Int32)) 2 (10 : Int32)) 3 (13 : Int32)) 4 (32 : Int32)) 5 (55295 : Int32)) 6 (55296 : Int32)) 7 (57343 : Int32)) := A63
  show Till p e below s (Q0 Z p1 p2 p3 h0 n0) room_1.cells room_1.slots (T58.setTop (mkF m 45 #[.val (.int p1), .val (.int p2), .val (.int p3), .unset, .unset, .unset, .unset, .unset] [(.ref b3)]))
  refine Till.pre (fun _ hr => XS.dup X60.here hx rfl (hb hby at_45) rfl rfl hr) ?_
  show Till p e below s (Q0 Z p1 p2 p3 h0 n0) room_1.cells room_1.slots (T58.setTop (mkF m 46 #[.val (.int p1), .val (.int p2), .val (.int p3), .unset, .unset, .unset, .unset, .unset] [(.ref b3), (.ref b3)]))
  refine Till.pre (fun _ hr => XS.bipush X60.here hx rfl (hb hby at_46) hr) ?_
  show Till p e below s (Q0 Z p1 p2 p3 h0 n0) room_1.cells room_1.slots (T58.setTop (mkF m 48 #[.val (.int p1), .val (.int p2), .val (.int p3), .unset, .unset, .unset, .unset, .unset] [(.int (8 : Int32)), (.ref b3), (.ref b3)]))
  refine Till.pre (X60.ldcInt hx hown (mvT hZ (hw _ (List.mem_of_getElem? (i := 4) rfl))) (g := (mkF m 48 #[.val (.int p1), .val (.int p2), .val (.int p3), .unset, .unset, .unset, .unset, .unset] [(.int (8 : Int32)), (.ref b3), (.ref b3)])) rfl (hb hby at_48)) ?_
  show Till p e below s (Q0 Z p1 p2 p3 h0 n0) room_1.cells room_1.slots (T58.setTop (mkF m 50 #[.val (.int p1), .val (.int p2), .val (.int p3), .unset, .unset, .unset, .unset, .unset] [(.int (57344 : Int32)), (.int (8 : Int32)), (.ref b3), (.ref b3)]))
  refine Till.iastore R_b3 (by decide) (by decide) X60 hx hZ e61 (hb hby at_50) (fun T65 h66 X67 e68 W69 A70 => ?_)
  have N71 := Fr.snoc X67 N64 g_b3
  have Zs := Nat.le_trans Zs (Keep.of_wr W69).1
  have R_b3 : IA Z h66 b3 (16 : Int32) (oupd (oupd (oupd (oupd (oupd (oupd (oupd (oupd (oupd (fun _ => (0 : Int32)) 0 (0 : Int32)) 1 (9 : Int32)) 2 (10 : Int32)) 3 (13 : Int32)) 4 (32 : Int32)) 5 (55295 : Int32)) 6 (55296 : Int32)) 7 (57343 : Int32)) 8 (57344 : Int32)) := A70
  show Till p e below s (Q0 Z p1 p2 p3 h0 n0) room_1.cells room_1.slots (T65.setTop (mkF m 51 #[.val (.int p1), .val (.int p2), .val (.int p3), .unset, .unset, .unset, .unset, .unset] [(.ref b3)]))
  refine Till.pre (fun _ hr => XS.dup X67.here hx rfl (hb hby at_51) rfl rfl hr) ?_
  show Till p e below s (Q0 Z p1 p2 p3 h0 n0) room_1.cells room_1.slots (T65.setTop (mkF m 52 #[.val (.int p1), .val (.int p2), .val (.int p3), .unset, .unset, .unset, .unset, .unset] [(.ref b3), (.ref b3)]))
  refine Till.pre (fun _ hr => XS.bipush X67.here hx rfl (hb hby at_52) hr) ?_
  show Till p e below s (Q0 Z p1 p2 p3 h0 n0) room_1.cells room_1.slots (T65.setTop (mkF m 54 #[.val (.int p1), .val (.int p2), .val (.int p3), .unset, .unset, .unset, .unset, .unset] [(.int (9 : Int32)), (.ref b3), (.ref b3)]))
  refine Till.pre (X67.ldcInt hx hown (mvT hZ (hw _ (List.mem_of_getElem? (i := 5) rfl))) (g := (mkF m 54 #[.val (.int p1), .val (.int p2), .val (.int p3), .unset, .unset, .unset, .unset, .unset] [(.int (9 : Int32)), (.ref b3), (.ref b3)])) rfl (hb hby at_54)) ?_
  show Till p e below s (Q0 Z p1 p2 p3 h0 n0) room_1.cells room_1.slots (T65.setTop (mkF m 56 #[.val (.int p1), .val (.int p2), .val (.int p3), .unset, .unset, .unset, .unset, .unset] [(.int (65533 : Int32)), (.int (9 : Int32)), (.ref b3), (.ref b3)]))
  refine Till.iastore R_b3 (by decide) (by decide) X67 hx hZ e68 (hb hby at_56) (fun T72 h73 X74 e75 W76 A77 => ?_)
  have N78 := Fr.snoc X74 N71 g_b3
  have Zs := Nat.le_trans Zs (Keep.of_wr W76).1
  have R_b3 : IA Z h73 b3 (16 : Int32) (oupd (oupd (oupd (oupd (oupd (oupd (oupd (oupd (oupd (oupd (fun _ => (0 : Int32)) 0 (0 : Int32)) 1 (9 : Int32)) 2 (10 : Int32)) 3 (13 : Int32)) 4 (32 : Int32)) 5 (55295 : Int32)) 6 (55296 : Int32)) 7 (57343 : Int32)) 8 (57344 : Int32)) 9 (65533 : Int32)) := A77
  show Till p e below s (Q0 Z p1 p2 p3 h0 n0) room_1.cells room_1.slots (T72.setTop (mkF m 57 #[.val (.int p1), .val (.int p2), .val (.int p3), .unset, .unset, .unset, .unset, .unset] [(.ref b3)]))
  refine Till.pre (fun _ hr => XS.dup X74.here hx rfl (hb hby at_57) rfl rfl hr) ?_
  show Till p e below s (Q0 Z p1 p2 p3 h0 n0) room_1.cells room_1.slots (T72.setTop (mkF m 58 #[.val (.int p1), .val (.int p2), .val (.int p3), .unset, .unset, .unset, .unset, .unset] [(.ref b3), (.ref b3)]))
  refine Till.pre (fun _ hr => XS.bipush X74.here hx rfl (hb hby at_58) hr) ?_
  show Till p e below s (Q0 Z p1 p2 p3 h0 n0) room_1.cells room_1.slots (T72.setTop (mkF m 60 #[.val (.int p1), .val (.int p2), .val (.int p3), .unset, .unset, .unset, .unset, .unset] [(.int (10 : Int32)), (.ref b3), (.ref b3)]))
  refine Till.pre (X74.ldcInt hx hown (mvT hZ (hw _ (List.mem_of_getElem? (i := 6) rfl))) (g := (mkF m 60 #[.val (.int p1), .val (.int p2), .val (.int p3), .unset, .unset, .unset, .unset, .unset] [(.int (10 : Int32)), (.ref b3), (.ref b3)])) rfl (hb hby at_60)) ?_
  show Till p e below s (Q0 Z p1 p2 p3 h0 n0) room_1.cells room_1.slots (T72.setTop (mkF m 62 #[.val (.int p1), .val (.int p2), .val (.int p3), .unset, .unset, .unset, .unset, .unset] [(.int (65534 : Int32)), (.int (10 : Int32)), (.ref b3), (.ref b3)]))
  refine Till.iastore R_b3 (by decide) (by decide) X74 hx hZ e75 (hb hby at_62) (fun T79 h80 X81 e82 W83 A84 => ?_)
  have N85 := Fr.snoc X81 N78 g_b3
  have Zs := Nat.le_trans Zs (Keep.of_wr W83).1
  have R_b3 : IA Z h80 b3 (16 : Int32) (oupd (oupd (oupd (oupd (oupd (oupd (oupd (oupd (oupd (oupd (oupd (fun _ => (0 : Int32)) 0 (0 : Int32)) 1 (9 : Int32)) 2 (10 : Int32)) 3 (13 : Int32)) 4 (32 : Int32)) 5 (55295 : Int32)) 6 (55296 : Int32)) 7 (57343 : Int32)) 8 (57344 : Int32)) 9 (65533 : Int32)) 10 (65534 : Int32)) := A84
  show Till p e below s (Q0 Z p1 p2 p3 h0 n0) room_1.cells room_1.slots (T79.setTop (mkF m 63 #[.val (.int p1), .val (.int p2), .val (.int p3), .unset, .unset, .unset, .unset, .unset] [(.ref b3)]))
  refine Till.pre (fun _ hr => XS.dup X81.here hx rfl (hb hby at_63) rfl rfl hr) ?_
  show Till p e below s (Q0 Z p1 p2 p3 h0 n0) room_1.cells room_1.slots (T79.setTop (mkF m 64 #[.val (.int p1), .val (.int p2), .val (.int p3), .unset, .unset, .unset, .unset, .unset] [(.ref b3), (.ref b3)]))
  refine Till.pre (fun _ hr => XS.bipush X81.here hx rfl (hb hby at_64) hr) ?_
  show Till p e below s (Q0 Z p1 p2 p3 h0 n0) room_1.cells room_1.slots (T79.setTop (mkF m 66 #[.val (.int p1), .val (.int p2), .val (.int p3), .unset, .unset, .unset, .unset, .unset] [(.int (11 : Int32)), (.ref b3), (.ref b3)]))
  refine Till.pre (X81.ldcInt hx hown (mvT hZ (hw _ (List.mem_of_getElem? (i := 7) rfl))) (g := (mkF m 66 #[.val (.int p1), .val (.int p2), .val (.int p3), .unset, .unset, .unset, .unset, .unset] [(.int (11 : Int32)), (.ref b3), (.ref b3)])) rfl (hb hby at_66)) ?_
  show Till p e below s (Q0 Z p1 p2 p3 h0 n0) room_1.cells room_1.slots (T79.setTop (mkF m 68 #[.val (.int p1), .val (.int p2), .val (.int p3), .unset, .unset, .unset, .unset, .unset] [(.int (65535 : Int32)), (.int (11 : Int32)), (.ref b3), (.ref b3)]))
  refine Till.iastore R_b3 (by decide) (by decide) X81 hx hZ e82 (hb hby at_68) (fun T86 h87 X88 e89 W90 A91 => ?_)
  have N92 := Fr.snoc X88 N85 g_b3
  have Zs := Nat.le_trans Zs (Keep.of_wr W90).1
  have R_b3 : IA Z h87 b3 (16 : Int32) (oupd (oupd (oupd (oupd (oupd (oupd (oupd (oupd (oupd (oupd (oupd (oupd (fun _ => (0 : Int32)) 0 (0 : Int32)) 1 (9 : Int32)) 2 (10 : Int32)) 3 (13 : Int32)) 4 (32 : Int32)) 5 (55295 : Int32)) 6 (55296 : Int32)) 7 (57343 : Int32)) 8 (57344 : Int32)) 9 (65533 : Int32)) 10 (65534 : Int32)) 11 (65535 : Int32)) := A91
  show Till p e below s (Q0 Z p1 p2 p3 h0 n0) room_1.cells room_1.slots (T86.setTop (mkF m 69 #[.val (.int p1), .val (.int p2), .val (.int p3), .unset, .unset, .unset, .unset, .unset] [(.ref b3)]))
  refine Till.pre (fun _ hr => XS.dup X88.here hx rfl (hb hby at_69) rfl rfl hr) ?_
  show Till p e below s (Q0 Z p1 p2 p3 h0 n0) room_1.cells room_1.slots (T86.setTop (mkF m 70 #[.val (.int p1), .val (.int p2), .val (.int p3), .unset, .unset, .unset, .unset, .unset] [(.ref b3), (.ref b3)]))
  refine Till.pre (fun _ hr => XS.bipush X88.here hx rfl (hb hby at_70) hr) ?_
  show Till p e below s (Q0 Z p1 p2 p3 h0 n0) room_1.cells room_1.slots (T86.setTop (mkF m 72 #[.val (.int p1), .val (.int p2), .val (.int p3), .unset, .unset, .unset, .unset, .unset] [(.int (12 : Int32)), (.ref b3), (.ref b3)]))
  refine Till.pre (X88.ldcInt hx hown (mvT hZ (hw _ (List.mem_of_getElem? (i := 8) rfl))) (g := (mkF m 72 #[.val (.int p1), .val (.int p2), .val (.int p3), .unset, .unset, .unset, .unset, .unset] [(.int (12 : Int32)), (.ref b3), (.ref b3)])) rfl (hb hby at_72)) ?_
  show Till p e below s (Q0 Z p1 p2 p3 h0 n0) room_1.cells room_1.slots (T86.setTop (mkF m 74 #[.val (.int p1), .val (.int p2), .val (.int p3), .unset, .unset, .unset, .unset, .unset] [(.int (65536 : Int32)), (.int (12 : Int32)), (.ref b3), (.ref b3)]))
  refine Till.iastore R_b3 (by decide) (by decide) X88 hx hZ e89 (hb hby at_74) (fun T93 h94 X95 e96 W97 A98 => ?_)
  have N99 := Fr.snoc X95 N92 g_b3
  have Zs := Nat.le_trans Zs (Keep.of_wr W97).1
  have R_b3 : IA Z h94 b3 (16 : Int32) (oupd (oupd (oupd (oupd (oupd (oupd (oupd (oupd (oupd (oupd (oupd (oupd (oupd (fun _ => (0 : Int32)) 0 (0 : Int32)) 1 (9 : Int32)) 2 (10 : Int32)) 3 (13 : Int32)) 4 (32 : Int32)) 5 (55295 : Int32)) 6 (55296 : Int32)) 7 (57343 : Int32)) 8 (57344 : Int32)) 9 (65533 : Int32)) 10 (65534 : Int32)) 11 (65535 : Int32)) 12 (65536 : Int32)) := A98
  show Till p e below s (Q0 Z p1 p2 p3 h0 n0) room_1.cells room_1.slots (T93.setTop (mkF m 75 #[.val (.int p1), .val (.int p2), .val (.int p3), .unset, .unset, .unset, .unset, .unset] [(.ref b3)]))
  refine Till.pre (fun _ hr => XS.dup X95.here hx rfl (hb hby at_75) rfl rfl hr) ?_
  show Till p e below s (Q0 Z p1 p2 p3 h0 n0) room_1.cells room_1.slots (T93.setTop (mkF m 76 #[.val (.int p1), .val (.int p2), .val (.int p3), .unset, .unset, .unset, .unset, .unset] [(.ref b3), (.ref b3)]))
  refine Till.pre (fun _ hr => XS.bipush X95.here hx rfl (hb hby at_76) hr) ?_
  show Till p e below s (Q0 Z p1 p2 p3 h0 n0) room_1.cells room_1.slots (T93.setTop (mkF m 78 #[.val (.int p1), .val (.int p2), .val (.int p3), .unset, .unset, .unset, .unset, .unset] [(.int (13 : Int32)), (.ref b3), (.ref b3)]))
  refine Till.pre (X95.ldcInt hx hown (mvT hZ (hw _ (List.mem_of_getElem? (i := 9) rfl))) (g := (mkF m 78 #[.val (.int p1), .val (.int p2), .val (.int p3), .unset, .unset, .unset, .unset, .unset] [(.int (13 : Int32)), (.ref b3), (.ref b3)])) rfl (hb hby at_78)) ?_
  show Till p e below s (Q0 Z p1 p2 p3 h0 n0) room_1.cells room_1.slots (T93.setTop (mkF m 80 #[.val (.int p1), .val (.int p2), .val (.int p3), .unset, .unset, .unset, .unset, .unset] [(.int (1114111 : Int32)), (.int (13 : Int32)), (.ref b3), (.ref b3)]))
  refine Till.iastore R_b3 (by decide) (by decide) X95 hx hZ e96 (hb hby at_80) (fun T100 h101 X102 e103 W104 A105 => ?_)
  have N106 := Fr.snoc X102 N99 g_b3
  have Zs := Nat.le_trans Zs (Keep.of_wr W104).1
  have R_b3 : IA Z h101 b3 (16 : Int32) (oupd (oupd (oupd (oupd (oupd (oupd (oupd (oupd (oupd (oupd (oupd (oupd (oupd (oupd (fun _ => (0 : Int32)) 0 (0 : Int32)) 1 (9 : Int32)) 2 (10 : Int32)) 3 (13 : Int32)) 4 (32 : Int32)) 5 (55295 : Int32)) 6 (55296 : Int32)) 7 (57343 : Int32)) 8 (57344 : Int32)) 9 (65533 : Int32)) 10 (65534 : Int32)) 11 (65535 : Int32)) 12 (65536 : Int32)) 13 (1114111 : Int32)) := A105
  show Till p e below s (Q0 Z p1 p2 p3 h0 n0) room_1.cells room_1.slots (T100.setTop (mkF m 81 #[.val (.int p1), .val (.int p2), .val (.int p3), .unset, .unset, .unset, .unset, .unset] [(.ref b3)]))
  refine Till.pre (fun _ hr => XS.dup X102.here hx rfl (hb hby at_81) rfl rfl hr) ?_
  show Till p e below s (Q0 Z p1 p2 p3 h0 n0) room_1.cells room_1.slots (T100.setTop (mkF m 82 #[.val (.int p1), .val (.int p2), .val (.int p3), .unset, .unset, .unset, .unset, .unset] [(.ref b3), (.ref b3)]))
  refine Till.pre (fun _ hr => XS.bipush X102.here hx rfl (hb hby at_82) hr) ?_
  show Till p e below s (Q0 Z p1 p2 p3 h0 n0) room_1.cells room_1.slots (T100.setTop (mkF m 84 #[.val (.int p1), .val (.int p2), .val (.int p3), .unset, .unset, .unset, .unset, .unset] [(.int (14 : Int32)), (.ref b3), (.ref b3)]))
  refine Till.pre (X102.ldcInt hx hown (mvT hZ (hw _ (List.mem_of_getElem? (i := 10) rfl))) (g := (mkF m 84 #[.val (.int p1), .val (.int p2), .val (.int p3), .unset, .unset, .unset, .unset, .unset] [(.int (14 : Int32)), (.ref b3), (.ref b3)])) rfl (hb hby at_84)) ?_
  show Till p e below s (Q0 Z p1 p2 p3 h0 n0) room_1.cells room_1.slots (T100.setTop (mkF m 86 #[.val (.int p1), .val (.int p2), .val (.int p3), .unset, .unset, .unset, .unset, .unset] [(.int (-2147483648 : Int32)), (.int (14 : Int32)), (.ref b3), (.ref b3)]))
  refine Till.iastore R_b3 (by decide) (by decide) X102 hx hZ e103 (hb hby at_86) (fun T107 h108 X109 e110 W111 A112 => ?_)
  have N113 := Fr.snoc X109 N106 g_b3
  have Zs := Nat.le_trans Zs (Keep.of_wr W111).1
  have R_b3 : IA Z h108 b3 (16 : Int32) (oupd (oupd (oupd (oupd (oupd (oupd (oupd (oupd (oupd (oupd (oupd (oupd (oupd (oupd (oupd (fun _ => (0 : Int32)) 0 (0 : Int32)) 1 (9 : Int32)) 2 (10 : Int32)) 3 (13 : Int32)) 4 (32 : Int32)) 5 (55295 : Int32)) 6 (55296 : Int32)) 7 (57343 : Int32)) 8 (57344 : Int32)) 9 (65533 : Int32)) 10 (65534 : Int32)) 11 (65535 : Int32)) 12 (65536 : Int32)) 13 (1114111 : Int32)) 14 (-2147483648 : Int32)) := A112
  show Till p e below s (Q0 Z p1 p2 p3 h0 n0) room_1.cells room_1.slots (T107.setTop (mkF m 87 #[.val (.int p1), .val (.int p2), .val (.int p3), .unset, .unset, .unset, .unset, .unset] [(.ref b3)]))
  refine Till.pre (fun _ hr => XS.dup X109.here hx rfl (hb hby at_87) rfl rfl hr) ?_
  show Till p e below s (Q0 Z p1 p2 p3 h0 n0) room_1.cells room_1.slots (T107.setTop (mkF m 88 #[.val (.int p1), .val (.int p2), .val (.int p3), .unset, .unset, .unset, .unset, .unset] [(.ref b3), (.ref b3)]))
  refine Till.pre (fun _ hr => XS.bipush X109.here hx rfl (hb hby at_88) hr) ?_
  show Till p e below s (Q0 Z p1 p2 p3 h0 n0) room_1.cells room_1.slots (T107.setTop (mkF m 90 #[.val (.int p1), .val (.int p2), .val (.int p3), .unset, .unset, .unset, .unset, .unset] [(.int (15 : Int32)), (.ref b3), (.ref b3)]))
  refine Till.pre (X109.ldcInt hx hown (mvT hZ (hw _ (List.mem_of_getElem? (i := 11) rfl))) (g := (mkF m 90 #[.val (.int p1), .val (.int p2), .val (.int p3), .unset, .unset, .unset, .unset, .unset] [(.int (15 : Int32)), (.ref b3), (.ref b3)])) rfl (hb hby at_90)) ?_
  show Till p e below s (Q0 Z p1 p2 p3 h0 n0) room_1.cells room_1.slots (T107.setTop (mkF m 92 #[.val (.int p1), .val (.int p2), .val (.int p3), .unset, .unset, .unset, .unset, .unset] [(.int (2147483647 : Int32)), (.int (15 : Int32)), (.ref b3), (.ref b3)]))
  refine Till.iastore R_b3 (by decide) (by decide) X109 hx hZ e110 (hb hby at_92) (fun T114 h115 X116 e117 W118 A119 => ?_)
  have N120 := Fr.snoc X116 N113 g_b3
  have Zs := Nat.le_trans Zs (Keep.of_wr W118).1
  have R_b3 : IA Z h115 b3 (16 : Int32) (oupd (oupd (oupd (oupd (oupd (oupd (oupd (oupd (oupd (oupd (oupd (oupd (oupd (oupd (oupd (oupd (fun _ => (0 : Int32)) 0 (0 : Int32)) 1 (9 : Int32)) 2 (10 : Int32)) 3 (13 : Int32)) 4 (32 : Int32)) 5 (55295 : Int32)) 6 (55296 : Int32)) 7 (57343 : Int32)) 8 (57344 : Int32)) 9 (65533 : Int32)) 10 (65534 : Int32)) 11 (65535 : Int32)) 12 (65536 : Int32)) 13 (1114111 : Int32)) 14 (-2147483648 : Int32)) 15 (2147483647 : Int32)) := A119
  show Till p e below s (Q0 Z p1 p2 p3 h0 n0) room_1.cells room_1.slots (T114.setTop (mkF m 93 #[.val (.int p1), .val (.int p2), .val (.int p3), .unset, .unset, .unset, .unset, .unset] [(.ref b3)]))
  refine Till.pre (fun _ hr => XS.astoreN X116.here hx rfl (hb hby at_93) rfl rfl (l' := #[.val (.int p1), .val (.int p2), .val (.int p3), .val (.ref b3), .unset, .unset, .unset, .unset]) rfl hr) ?_
  show Till p e below s (Q0 Z p1 p2 p3 h0 n0) room_1.cells room_1.slots (T114.setTop (mkF m 94 #[.val (.int p1), .val (.int p2), .val (.int p3), .val (.ref b3), .unset, .unset, .unset, .unset] []))
  refine Till.pre (fun _ hr => XS.iloadN X116.here hx rfl (hb hby at_94) rfl hr) ?_
  show Till p e below s (Q0 Z p1 p2 p3 h0 n0) room_1.cells room_1.slots (T114.setTop (mkF m 95 #[.val (.int p1), .val (.int p2), .val (.int p3), .val (.ref b3), .unset, .unset, .unset, .unset] [(.int p2)]))
  refine Till.pre (X116.ldcInt hx hown (mvT hZ (hw _ (List.mem_of_getElem? (i := 11) rfl))) (g := (mkF m 95 #[.val (.int p1), .val (.int p2), .val (.int p3), .val (.ref b3), .unset, .unset, .unset, .unset] [(.int p2)])) rfl (hb hby at_95)) ?_
  show Till p e below s (Q0 Z p1 p2 p3 h0 n0) room_1.cells room_1.slots (T114.setTop (mkF m 97 #[.val (.int p1), .val (.int p2), .val (.int p3), .val (.ref b3), .unset, .unset, .unset, .unset] [(.int (2147483647 : Int32)), (.int p2)]))
  refine Till.pre (fun _ hr => XS.iand X116.here hx rfl (hb hby at_97) rfl hr) ?_
  show Till p e below s (Q0 Z p1 p2 p3 h0 n0) room_1.cells room_1.slots (T114.setTop (mkF m 98 #[.val (.int p1), .val (.int p2), .val (.int p3), .val (.ref b3), .unset, .unset, .unset, .unset] [(.int (p2 &&& (2147483647 : Int32)))]))
  refine Till.pre (fun _ hr => XS.bipush X116.here hx rfl (hb hby at_98) hr) ?_
  show Till p e below s (Q0 Z p1 p2 p3 h0 n0) room_1.cells room_1.slots (T114.setTop (mkF m 100 #[.val (.int p1), .val (.int p2), .val (.int p3), .val (.ref b3), .unset, .unset, .unset, .unset] [(.int (16 : Int32)), (.int (p2 &&& (2147483647 : Int32)))]))
  refine Till.pre (fun _ hr => iremM X116 hx rfl (hb hby at_100) rfl (by decide) hr) ?_
  show Till p e below s (Q0 Z p1 p2 p3 h0 n0) room_1.cells room_1.slots (T114.setTop (mkF m 101 #[.val (.int p1), .val (.int p2), .val (.int p3), .val (.ref b3), .unset, .unset, .unset, .unset] [(.int ((p2 &&& (2147483647 : Int32)) % (16 : Int32)))]))
  refine Till.pre (fun _ hr => XS.istore X116.here hx rfl (hb hby at_101) rfl (l' := #[.val (.int p1), .val (.int p2), .val (.int p3), .val (.ref b3), .val (.int ((p2 &&& (2147483647 : Int32)) % (16 : Int32))), .unset, .unset, .unset]) rfl hr) ?_
  show Till p e below s (Q0 Z p1 p2 p3 h0 n0) room_1.cells room_1.slots (T114.setTop (mkF m 103 #[.val (.int p1), .val (.int p2), .val (.int p3), .val (.ref b3), .val (.int ((p2 &&& (2147483647 : Int32)) % (16 : Int32))), .unset, .unset, .unset] []))
  refine Till.pre (fun _ hr => XS.aloadN X116.here hx rfl (hb hby at_103) rfl rfl hr) ?_
  show Till p e below s (Q0 Z p1 p2 p3 h0 n0) room_1.cells room_1.slots (T114.setTop (mkF m 104 #[.val (.int p1), .val (.int p2), .val (.int p3), .val (.ref b3), .val (.int ((p2 &&& (2147483647 : Int32)) % (16 : Int32))), .unset, .unset, .unset] [(.ref b3)]))
  refine Till.pre (fun _ hr => XS.iload X116.here hx rfl (hb hby at_104) rfl hr) ?_
  show Till p e below s (Q0 Z p1 p2 p3 h0 n0) room_1.cells room_1.slots (T114.setTop (mkF m 106 #[.val (.int p1), .val (.int p2), .val (.int p3), .val (.ref b3), .val (.int ((p2 &&& (2147483647 : Int32)) % (16 : Int32))), .unset, .unset, .unset] [(.int ((p2 &&& (2147483647 : Int32)) % (16 : Int32))), (.ref b3)]))
  refine Till.iaload R_b3 ((own_ix p2).1) ((own_ix p2).2) X116 hx hZ e117 (hb hby at_106) ?_
  show Till p e below s (Q0 Z p1 p2 p3 h0 n0) room_1.cells room_1.slots (T114.setTop (mkF m 107 #[.val (.int p1), .val (.int p2), .val (.int p3), .val (.ref b3), .val (.int ((p2 &&& (2147483647 : Int32)) % (16 : Int32))), .unset, .unset, .unset] [(.int ((oupd (oupd (oupd (oupd (oupd (oupd (oupd (oupd (oupd (oupd (oupd (oupd (oupd (oupd (oupd (oupd (fun _ => (0 : Int32)) 0 (0 : Int32)) 1 (9 : Int32)) 2 (10 : Int32)) 3 (13 : Int32)) 4 (32 : Int32)) 5 (55295 : Int32)) 6 (55296 : Int32)) 7 (57343 : Int32)) 8 (57344 : Int32)) 9 (65533 : Int32)) 10 (65534 : Int32)) 11 (65535 : Int32)) 12 (65536 : Int32)) 13 (1114111 : Int32)) 14 (-2147483648 : Int32)) 15 (2147483647 : Int32)) (((p2 &&& (2147483647 : Int32)) % (16 : Int32))).toNatClampNeg))]))
  refine Till.pre (fun _ hr => XS.iloadN X116.here hx rfl (hb hby at_107) rfl hr) ?_
  show Till p e below s (Q0 Z p1 p2 p3 h0 n0) room_1.cells room_1.slots (T114.setTop (mkF m 108 #[.val (.int p1), .val (.int p2), .val (.int p3), .val (.ref b3), .val (.int ((p2 &&& (2147483647 : Int32)) % (16 : Int32))), .unset, .unset, .unset] [(.int p3), (.int ((oupd (oupd (oupd (oupd (oupd (oupd (oupd (oupd (oupd (oupd (oupd (oupd (oupd (oupd (oupd (oupd (fun _ => (0 : Int32)) 0 (0 : Int32)) 1 (9 : Int32)) 2 (10 : Int32)) 3 (13 : Int32)) 4 (32 : Int32)) 5 (55295 : Int32)) 6 (55296 : Int32)) 7 (57343 : Int32)) 8 (57344 : Int32)) 9 (65533 : Int32)) 10 (65534 : Int32)) 11 (65535 : Int32)) 12 (65536 : Int32)) 13 (1114111 : Int32)) 14 (-2147483648 : Int32)) 15 (2147483647 : Int32)) (((p2 &&& (2147483647 : Int32)) % (16 : Int32))).toNatClampNeg))]))
  refine Till.pre (fun _ hr => XS.bipush X116.here hx rfl (hb hby at_108) hr) ?_
  show Till p e below s (Q0 Z p1 p2 p3 h0 n0) room_1.cells room_1.slots (T114.setTop (mkF m 110 #[.val (.int p1), .val (.int p2), .val (.int p3), .val (.ref b3), .val (.int ((p2 &&& (2147483647 : Int32)) % (16 : Int32))), .unset, .unset, .unset] [(.int (7 : Int32)), (.int p3), (.int ((oupd (oupd (oupd (oupd (oupd (oupd (oupd (oupd (oupd (oupd (oupd (oupd (oupd (oupd (oupd (oupd (fun _ => (0 : Int32)) 0 (0 : Int32)) 1 (9 : Int32)) 2 (10 : Int32)) 3 (13 : Int32)) 4 (32 : Int32)) 5 (55295 : Int32)) 6 (55296 : Int32)) 7 (57343 : Int32)) 8 (57344 : Int32)) 9 (65533 : Int32)) 10 (65534 : Int32)) 11 (65535 : Int32)) 12 (65536 : Int32)) 13 (1114111 : Int32)) 14 (-2147483648 : Int32)) 15 (2147483647 : Int32)) (((p2 &&& (2147483647 : Int32)) % (16 : Int32))).toNatClampNeg))]))
  refine Till.pre (fun _ hr => XS.iand X116.here hx rfl (hb hby at_110) rfl hr) ?_
  show Till p e below s (Q0 Z p1 p2 p3 h0 n0) room_1.cells room_1.slots (T114.setTop (mkF m 111 #[.val (.int p1), .val (.int p2), .val (.int p3), .val (.ref b3), .val (.int ((p2 &&& (2147483647 : Int32)) % (16 : Int32))), .unset, .unset, .unset] [(.int (p3 &&& (7 : Int32))), (.int ((oupd (oupd (oupd (oupd (oupd (oupd (oupd (oupd (oupd (oupd (oupd (oupd (oupd (oupd (oupd (oupd (fun _ => (0 : Int32)) 0 (0 : Int32)) 1 (9 : Int32)) 2 (10 : Int32)) 3 (13 : Int32)) 4 (32 : Int32)) 5 (55295 : Int32)) 6 (55296 : Int32)) 7 (57343 : Int32)) 8 (57344 : Int32)) 9 (65533 : Int32)) 10 (65534 : Int32)) 11 (65535 : Int32)) 12 (65536 : Int32)) 13 (1114111 : Int32)) 14 (-2147483648 : Int32)) 15 (2147483647 : Int32)) (((p2 &&& (2147483647 : Int32)) % (16 : Int32))).toNatClampNeg))]))
  refine Till.pre (fun _ hr => XS.iadd X116.here hx rfl (hb hby at_111) rfl hr) ?_
  show Till p e below s (Q0 Z p1 p2 p3 h0 n0) room_1.cells room_1.slots (T114.setTop (mkF m 112 #[.val (.int p1), .val (.int p2), .val (.int p3), .val (.ref b3), .val (.int ((p2 &&& (2147483647 : Int32)) % (16 : Int32))), .unset, .unset, .unset] [(.int (((oupd (oupd (oupd (oupd (oupd (oupd (oupd (oupd (oupd (oupd (oupd (oupd (oupd (oupd (oupd (oupd (fun _ => (0 : Int32)) 0 (0 : Int32)) 1 (9 : Int32)) 2 (10 : Int32)) 3 (13 : Int32)) 4 (32 : Int32)) 5 (55295 : Int32)) 6 (55296 : Int32)) 7 (57343 : Int32)) 8 (57344 : Int32)) 9 (65533 : Int32)) 10 (65534 : Int32)) 11 (65535 : Int32)) 12 (65536 : Int32)) 13 (1114111 : Int32)) 14 (-2147483648 : Int32)) 15 (2147483647 : Int32)) (((p2 &&& (2147483647 : Int32)) % (16 : Int32))).toNatClampNeg) + (p3 &&& (7 : Int32))))]))
  refine Till.pre (fun _ hr => XS.iconst X116.here hx rfl (hb hby at_112) hr) ?_
  show Till p e below s (Q0 Z p1 p2 p3 h0 n0) room_1.cells room_1.slots (T114.setTop (mkF m 113 #[.val (.int p1), .val (.int p2), .val (.int p3), .val (.ref b3), .val (.int ((p2 &&& (2147483647 : Int32)) % (16 : Int32))), .unset, .unset, .unset] [(.int (3 : Int32)), (.int (((oupd (oupd (oupd (oupd (oupd (oupd (oupd (oupd (oupd (oupd (oupd (oupd (oupd (oupd (oupd (oupd (fun _ => (0 : Int32)) 0 (0 : Int32)) 1 (9 : Int32)) 2 (10 : Int32)) 3 (13 : Int32)) 4 (32 : Int32)) 5 (55295 : Int32)) 6 (55296 : Int32)) 7 (57343 : Int32)) 8 (57344 : Int32)) 9 (65533 : Int32)) 10 (65534 : Int32)) 11 (65535 : Int32)) 12 (65536 : Int32)) 13 (1114111 : Int32)) 14 (-2147483648 : Int32)) 15 (2147483647 : Int32)) (((p2 &&& (2147483647 : Int32)) % (16 : Int32))).toNatClampNeg) + (p3 &&& (7 : Int32))))]))
  refine Till.pre (fun _ hr => XS.isub X116.here hx rfl (hb hby at_113) rfl hr) ?_
  show Till p e below s (Q0 Z p1 p2 p3 h0 n0) room_1.cells room_1.slots (T114.setTop (mkF m 114 #[.val (.int p1), .val (.int p2), .val (.int p3), .val (.ref b3), .val (.int ((p2 &&& (2147483647 : Int32)) % (16 : Int32))), .unset, .unset, .unset] [(.int ((((oupd (oupd (oupd (oupd (oupd (oupd (oupd (oupd (oupd (oupd (oupd (oupd (oupd (oupd (oupd (oupd (fun _ => (0 : Int32)) 0 (0 : Int32)) 1 (9 : Int32)) 2 (10 : Int32)) 3 (13 : Int32)) 4 (32 : Int32)) 5 (55295 : Int32)) 6 (55296 : Int32)) 7 (57343 : Int32)) 8 (57344 : Int32)) 9 (65533 : Int32)) 10 (65534 : Int32)) 11 (65535 : Int32)) 12 (65536 : Int32)) 13 (1114111 : Int32)) 14 (-2147483648 : Int32)) 15 (2147483647 : Int32)) (((p2 &&& (2147483647 : Int32)) % (16 : Int32))).toNatClampNeg) + (p3 &&& (7 : Int32))) - (3 : Int32)))]))
  generalize hu_near : ((((oupd (oupd (oupd (oupd (oupd (oupd (oupd (oupd (oupd (oupd (oupd (oupd (oupd (oupd (oupd (oupd (fun _ => (0 : Int32)) 0 (0 : Int32)) 1 (9 : Int32)) 2 (10 : Int32)) 3 (13 : Int32)) 4 (32 : Int32)) 5 (55295 : Int32)) 6 (55296 : Int32)) 7 (57343 : Int32)) 8 (57344 : Int32)) 9 (65533 : Int32)) 10 (65534 : Int32)) 11 (65535 : Int32)) 12 (65536 : Int32)) 13 (1114111 : Int32)) 14 (-2147483648 : Int32)) 15 (2147483647 : Int32)) (((p2 &&& (2147483647 : Int32)) % (16 : Int32))).toNatClampNeg) + (p3 &&& (7 : Int32))) - (3 : Int32)) = near
  show Till p e below s (Q0 Z p1 p2 p3 h0 n0) room_1.cells room_1.slots (T114.setTop (mkF m 114 #[.val (.int p1), .val (.int p2), .val (.int p3), .val (.ref b3), .val (.int ((p2 &&& (2147483647 : Int32)) % (16 : Int32))), .unset, .unset, .unset] [(.int near)]))
  refine Till.pre (fun _ hr => XS.istore X116.here hx rfl (hb hby at_114) rfl (l' := #[.val (.int p1), .val (.int p2), .val (.int p3), .val (.ref b3), .val (.int ((p2 &&& (2147483647 : Int32)) % (16 : Int32))), .val (.int near), .unset, .unset]) rfl hr) ?_
  show Till p e below s (Q0 Z p1 p2 p3 h0 n0) room_1.cells room_1.slots (T114.setTop (mkF m 116 #[.val (.int p1), .val (.int p2), .val (.int p3), .val (.ref b3), .val (.int ((p2 &&& (2147483647 : Int32)) % (16 : Int32))), .val (.int near), .unset, .unset] []))
  refine Till.pre (fun _ hr => XS.iloadN X116.here hx rfl (hb hby at_116) rfl hr) ?_
  show Till p e below s (Q0 Z p1 p2 p3 h0 n0) room_1.cells room_1.slots (T114.setTop (mkF m 117 #[.val (.int p1), .val (.int p2), .val (.int p3), .val (.ref b3), .val (.int ((p2 &&& (2147483647 : Int32)) % (16 : Int32))), .val (.int near), .unset, .unset] [(.int p1)]))
  refine Till.callS (rm1 l Z a0 hw p1 h115 n0) X116 hx hZ hown (hw _ (List.mem_of_getElem? (i := 12) rfl)) (hw _ (List.mem_of_getElem? (i := 13) rfl)) (hw _ (List.mem_of_getElem? (i := 14) rfl)) (hw _ (List.mem_of_getElem? (i := 15) rfl)) (by decide) (by decide) (W := 0) (by decide) (by rw [hml]; rfl) (argsL := [(.int p1)]) (rest := []) (lenOf pd0_0 rfl) rfl rfl (Nat.le_of_eq rfl) (hb hby at_117) e117 (by decide) (by decide) ?_
  rintro _ T121 L122 X123 ⟨rfl, N124, e125⟩
  have N124 := Fr.app N120 N124
  show Till p e below s (Q0 Z p1 p2 p3 h0 n0) room_1.cells room_1.slots (T121.setTop (mkF m 120 #[.val (.int p1), .val (.int p2), .val (.int p3), .val (.ref b3), .val (.int ((p2 &&& (2147483647 : Int32)) % (16 : Int32))), .val (.int near), .unset, .unset] [(.int (fn1 p1))]))
  refine Till.pre (fun _ hr => XS.iloadN X123.here hx rfl (hb hby at_120) rfl hr) ?_
  show Till p e below s (Q0 Z p1 p2 p3 h0 n0) room_1.cells room_1.slots (T121.setTop (mkF m 121 #[.val (.int p1), .val (.int p2), .val (.int p3), .val (.ref b3), .val (.int ((p2 &&& (2147483647 : Int32)) % (16 : Int32))), .val (.int near), .unset, .unset] [(.int p1), (.int (fn1 p1))]))
  refine Till.callS (rm2 l Z a0 hw p1 h115 n0) X123 hx hZ hown (hw _ (List.mem_of_getElem? (i := 18) rfl)) (hw _ (List.mem_of_getElem? (i := 19) rfl)) (hw _ (List.mem_of_getElem? (i := 20) rfl)) (hw _ (List.mem_of_getElem? (i := 21) rfl)) (by decide) (by decide) (W := 1) (by decide) (by rw [hml]; rfl) (argsL := [(.int p1)]) (rest := [(.int (fn1 p1))]) (lenOf pd0_0 rfl) rfl rfl (Nat.le_of_eq rfl) (hb hby at_121) e125 (by decide) (by decide) ?_
  rintro _ T126 L127 X128 ⟨rfl, N129, e130⟩
  have N129 := Fr.app N124 N129
  show Till p e below s (Q0 Z p1 p2 p3 h0 n0) room_1.cells room_1.slots (T126.setTop (mkF m 124 #[.val (.int p1), .val (.int p2), .val (.int p3), .val (.ref b3), .val (.int ((p2 &&& (2147483647 : Int32)) % (16 : Int32))), .val (.int near), .unset, .unset] [(.int (fn2 p1)), (.int (fn1 p1))]))
  have J132_131 : ∀ (v132s0 : Int32) (hv132s0 : v132s0 = (if ((fn1 p1) = (fn2 p1)) then (1 : Int32) else (0 : Int32))), Till p e below s (Q0 Z p1 p2 p3 h0 n0) room_1.cells room_1.slots (T126.setTop (mkF m 132 #[.val (.int p1), .val (.int p2), .val (.int p3), .val (.ref b3), .val (.int ((p2 &&& (2147483647 : Int32)) % (16 : Int32))), .val (.int near), .unset, .unset] [(.int v132s0)])) := by
    intro v132s0 hv132s0
    show Till p e below s (Q0 Z p1 p2 p3 h0 n0) room_1.cells room_1.slots (T126.setTop (mkF m 132 #[.val (.int p1), .val (.int p2), .val (.int p3), .val (.ref b3), .val (.int ((p2 &&& (2147483647 : Int32)) % (16 : Int32))), .val (.int near), .unset, .unset] [(.int v132s0)]))
    refine Till.pre (fun _ hr => XS.istore X128.here hx rfl (hb hby at_132) rfl (l' := #[.val (.int p1), .val (.int p2), .val (.int p3), .val (.ref b3), .val (.int ((p2 &&& (2147483647 : Int32)) % (16 : Int32))), .val (.int near), .val (.int v132s0), .unset]) rfl hr) ?_
    show Till p e below s (Q0 Z p1 p2 p3 h0 n0) room_1.cells room_1.slots (T126.setTop (mkF m 134 #[.val (.int p1), .val (.int p2), .val (.int p3), .val (.ref b3), .val (.int ((p2 &&& (2147483647 : Int32)) % (16 : Int32))), .val (.int near), .val (.int v132s0), .unset] []))
    refine Till.pre (fun _ hr => XS.iload X128.here hx rfl (hb hby at_134) rfl hr) ?_
    show Till p e below s (Q0 Z p1 p2 p3 h0 n0) room_1.cells room_1.slots (T126.setTop (mkF m 136 #[.val (.int p1), .val (.int p2), .val (.int p3), .val (.ref b3), .val (.int ((p2 &&& (2147483647 : Int32)) % (16 : Int32))), .val (.int near), .val (.int v132s0), .unset] [(.int near)]))
    refine Till.callS (rm1 l Z a0 hw near h115 n0) X128 hx hZ hown (hw _ (List.mem_of_getElem? (i := 12) rfl)) (hw _ (List.mem_of_getElem? (i := 13) rfl)) (hw _ (List.mem_of_getElem? (i := 14) rfl)) (hw _ (List.mem_of_getElem? (i := 15) rfl)) (by decide) (by decide) (W := 0) (by decide) (by rw [hml]; rfl) (argsL := [(.int near)]) (rest := []) (lenOf pd0_0 rfl) rfl rfl (Nat.le_of_eq rfl) (hb hby at_136) e130 (by decide) (by decide) ?_
    rintro _ T133 L134 X135 ⟨rfl, N136, e137⟩
    have N136 := Fr.app N129 N136
    show Till p e below s (Q0 Z p1 p2 p3 h0 n0) room_1.cells room_1.slots (T133.setTop (mkF m 139 #[.val (.int p1), .val (.int p2), .val (.int p3), .val (.ref b3), .val (.int ((p2 &&& (2147483647 : Int32)) % (16 : Int32))), .val (.int near), .val (.int v132s0), .unset] [(.int (fn1 near))]))
    refine Till.pre (fun _ hr => XS.iload X135.here hx rfl (hb hby at_139) rfl hr) ?_
    show Till p e below s (Q0 Z p1 p2 p3 h0 n0) room_1.cells room_1.slots (T133.setTop (mkF m 141 #[.val (.int p1), .val (.int p2), .val (.int p3), .val (.ref b3), .val (.int ((p2 &&& (2147483647 : Int32)) % (16 : Int32))), .val (.int near), .val (.int v132s0), .unset] [(.int near), (.int (fn1 near))]))
    refine Till.callS (rm2 l Z a0 hw near h115 n0) X135 hx hZ hown (hw _ (List.mem_of_getElem? (i := 18) rfl)) (hw _ (List.mem_of_getElem? (i := 19) rfl)) (hw _ (List.mem_of_getElem? (i := 20) rfl)) (hw _ (List.mem_of_getElem? (i := 21) rfl)) (by decide) (by decide) (W := 1) (by decide) (by rw [hml]; rfl) (argsL := [(.int near)]) (rest := [(.int (fn1 near))]) (lenOf pd0_0 rfl) rfl rfl (Nat.le_of_eq rfl) (hb hby at_141) e137 (by decide) (by decide) ?_
    rintro _ T138 L139 X140 ⟨rfl, N141, e142⟩
    have N141 := Fr.app N136 N141
    show Till p e below s (Q0 Z p1 p2 p3 h0 n0) room_1.cells room_1.slots (T138.setTop (mkF m 144 #[.val (.int p1), .val (.int p2), .val (.int p3), .val (.ref b3), .val (.int ((p2 &&& (2147483647 : Int32)) % (16 : Int32))), .val (.int near), .val (.int v132s0), .unset] [(.int (fn2 near)), (.int (fn1 near))]))
    have J152_143 : ∀ (v152s0 : Int32) (hv152s0 : v152s0 = (if ((fn1 near) = (fn2 near)) then (1 : Int32) else (0 : Int32))), Till p e below s (Q0 Z p1 p2 p3 h0 n0) room_1.cells room_1.slots (T138.setTop (mkF m 152 #[.val (.int p1), .val (.int p2), .val (.int p3), .val (.ref b3), .val (.int ((p2 &&& (2147483647 : Int32)) % (16 : Int32))), .val (.int near), .val (.int v132s0), .unset] [(.int v152s0)])) := by
      intro v152s0 hv152s0
      show Till p e below s (Q0 Z p1 p2 p3 h0 n0) room_1.cells room_1.slots (T138.setTop (mkF m 152 #[.val (.int p1), .val (.int p2), .val (.int p3), .val (.ref b3), .val (.int ((p2 &&& (2147483647 : Int32)) % (16 : Int32))), .val (.int near), .val (.int v132s0), .unset] [(.int v152s0)]))
      refine Till.pre (fun _ hr => XS.istore X140.here hx rfl (hb hby at_152) rfl (l' := #[.val (.int p1), .val (.int p2), .val (.int p3), .val (.ref b3), .val (.int ((p2 &&& (2147483647 : Int32)) % (16 : Int32))), .val (.int near), .val (.int v132s0), .val (.int v152s0)]) rfl hr) ?_
      show Till p e below s (Q0 Z p1 p2 p3 h0 n0) room_1.cells room_1.slots (T138.setTop (mkF m 154 #[.val (.int p1), .val (.int p2), .val (.int p3), .val (.ref b3), .val (.int ((p2 &&& (2147483647 : Int32)) % (16 : Int32))), .val (.int near), .val (.int v132s0), .val (.int v152s0)] []))
      refine Till.pre (fun _ hr => XS.iload X140.here hx rfl (hb hby at_154) rfl hr) ?_
      show Till p e below s (Q0 Z p1 p2 p3 h0 n0) room_1.cells room_1.slots (T138.setTop (mkF m 156 #[.val (.int p1), .val (.int p2), .val (.int p3), .val (.ref b3), .val (.int ((p2 &&& (2147483647 : Int32)) % (16 : Int32))), .val (.int near), .val (.int v132s0), .val (.int v152s0)] [(.int v132s0)]))
      have J169_146 : ∀ (v169s0 : Int32) (hv169s0 : v169s0 = (if (v132s0 = (0 : Int32)) then (0 : Int32) else (if (v152s0 = (0 : Int32)) then (0 : Int32) else (1 : Int32)))), Till p e below s (Q0 Z p1 p2 p3 h0 n0) room_1.cells room_1.slots (T138.setTop (mkF m 169 #[.val (.int p1), .val (.int p2), .val (.int p3), .val (.ref b3), .val (.int ((p2 &&& (2147483647 : Int32)) % (16 : Int32))), .val (.int near), .val (.int v132s0), .val (.int v152s0)] [(.int v169s0)])) := by
        intro v169s0 hv169s0
        show Till p e below s (Q0 Z p1 p2 p3 h0 n0) room_1.cells room_1.slots (T138.setTop (mkF m 169 #[.val (.int p1), .val (.int p2), .val (.int p3), .val (.ref b3), .val (.int ((p2 &&& (2147483647 : Int32)) % (16 : Int32))), .val (.int near), .val (.int v132s0), .val (.int v152s0)] [(.int v169s0)]))
        refine Till.retZ (w := (1 : Int32)) X140 hx hret hlk (hb hby at_169) (by decide) (by decide) (by rw [hv169s0, hv132s0, hv152s0, if_pos (own_eq p1), if_pos (own_eq near)]; decide) ?_
        exact ⟨rfl, N141⟩
      refine Till.ifc (pc' := 168) X140.here hx (hb hby at_156) (by decide) (by decide) (fun q => ?_) (fun q => ?_)
      · have hc145 := (hEq.1 q)
        show Till p e below s (Q0 Z p1 p2 p3 h0 n0) room_1.cells room_1.slots (T138.setTop (mkF m 168 #[.val (.int p1), .val (.int p2), .val (.int p3), .val (.ref b3), .val (.int ((p2 &&& (2147483647 : Int32)) % (16 : Int32))), .val (.int near), .val (.int v132s0), .val (.int v152s0)] []))
        refine Till.pre (fun _ hr => XS.iconst X140.here hx rfl (hb hby at_168) hr) ?_
        show Till p e below s (Q0 Z p1 p2 p3 h0 n0) room_1.cells room_1.slots (T138.setTop (mkF m 169 #[.val (.int p1), .val (.int p2), .val (.int p3), .val (.ref b3), .val (.int ((p2 &&& (2147483647 : Int32)) % (16 : Int32))), .val (.int near), .val (.int v132s0), .val (.int v152s0)] [(.int (0 : Int32))]))
        exact J169_146 _ (Eq.symm (if_pos hc145))
      · have hc145 := (hEq.2.1 q)
        show Till p e below s (Q0 Z p1 p2 p3 h0 n0) room_1.cells room_1.slots (T138.setTop (mkF m 159 #[.val (.int p1), .val (.int p2), .val (.int p3), .val (.ref b3), .val (.int ((p2 &&& (2147483647 : Int32)) % (16 : Int32))), .val (.int near), .val (.int v132s0), .val (.int v152s0)] []))
        refine Till.pre (fun _ hr => XS.iload X140.here hx rfl (hb hby at_159) rfl hr) ?_
        show Till p e below s (Q0 Z p1 p2 p3 h0 n0) room_1.cells room_1.slots (T138.setTop (mkF m 161 #[.val (.int p1), .val (.int p2), .val (.int p3), .val (.ref b3), .val (.int ((p2 &&& (2147483647 : Int32)) % (16 : Int32))), .val (.int near), .val (.int v132s0), .val (.int v152s0)] [(.int v152s0)]))
        refine Till.ifc (pc' := 168) X140.here hx (hb hby at_161) (by decide) (by decide) (fun q => ?_) (fun q => ?_)
        · have hc146 := (hEq.1 q)
          show Till p e below s (Q0 Z p1 p2 p3 h0 n0) room_1.cells room_1.slots (T138.setTop (mkF m 168 #[.val (.int p1), .val (.int p2), .val (.int p3), .val (.ref b3), .val (.int ((p2 &&& (2147483647 : Int32)) % (16 : Int32))), .val (.int near), .val (.int v132s0), .val (.int v152s0)] []))
          refine Till.pre (fun _ hr => XS.iconst X140.here hx rfl (hb hby at_168) hr) ?_
          show Till p e below s (Q0 Z p1 p2 p3 h0 n0) room_1.cells room_1.slots (T138.setTop (mkF m 169 #[.val (.int p1), .val (.int p2), .val (.int p3), .val (.ref b3), .val (.int ((p2 &&& (2147483647 : Int32)) % (16 : Int32))), .val (.int near), .val (.int v132s0), .val (.int v152s0)] [(.int (0 : Int32))]))
          exact J169_146 _ (Eq.symm ((if_neg hc145).trans (if_pos hc146)))
        · have hc146 := (hEq.2.1 q)
          show Till p e below s (Q0 Z p1 p2 p3 h0 n0) room_1.cells room_1.slots (T138.setTop (mkF m 164 #[.val (.int p1), .val (.int p2), .val (.int p3), .val (.ref b3), .val (.int ((p2 &&& (2147483647 : Int32)) % (16 : Int32))), .val (.int near), .val (.int v132s0), .val (.int v152s0)] []))
          refine Till.pre (fun _ hr => XS.iconst X140.here hx rfl (hb hby at_164) hr) ?_
          show Till p e below s (Q0 Z p1 p2 p3 h0 n0) room_1.cells room_1.slots (T138.setTop (mkF m 165 #[.val (.int p1), .val (.int p2), .val (.int p3), .val (.ref b3), .val (.int ((p2 &&& (2147483647 : Int32)) % (16 : Int32))), .val (.int near), .val (.int v132s0), .val (.int v152s0)] [(.int (1 : Int32))]))
          refine Till.pre (fun _ hr => XS.goto X140.here hx rfl (pc0 := 165) (pc' := 169) rfl (hb hby at_165) (by decide) (by decide) hr) ?_
          show Till p e below s (Q0 Z p1 p2 p3 h0 n0) room_1.cells room_1.slots (T138.setTop (mkF m 169 #[.val (.int p1), .val (.int p2), .val (.int p3), .val (.ref b3), .val (.int ((p2 &&& (2147483647 : Int32)) % (16 : Int32))), .val (.int near), .val (.int v132s0), .val (.int v152s0)] [(.int (1 : Int32))]))
          exact J169_146 _ (Eq.symm ((if_neg hc145).trans (if_neg hc146)))
    refine Till.icmp (pc' := 151) X140.here hx (hb hby at_144) (by decide) (by decide) (fun q => ?_) (fun q => ?_)
    · have hc143 := (hEq.2.2.1 q)
      show Till p e below s (Q0 Z p1 p2 p3 h0 n0) room_1.cells room_1.slots (T138.setTop (mkF m 151 #[.val (.int p1), .val (.int p2), .val (.int p3), .val (.ref b3), .val (.int ((p2 &&& (2147483647 : Int32)) % (16 : Int32))), .val (.int near), .val (.int v132s0), .unset] []))
      refine Till.pre (fun _ hr => XS.iconst X140.here hx rfl (hb hby at_151) hr) ?_
      show Till p e below s (Q0 Z p1 p2 p3 h0 n0) room_1.cells room_1.slots (T138.setTop (mkF m 152 #[.val (.int p1), .val (.int p2), .val (.int p3), .val (.ref b3), .val (.int ((p2 &&& (2147483647 : Int32)) % (16 : Int32))), .val (.int near), .val (.int v132s0), .unset] [(.int (0 : Int32))]))
      exact J152_143 _ (Eq.symm (if_neg hc143))
    · have hc143 := (hEq.2.2.2 q)
      show Till p e below s (Q0 Z p1 p2 p3 h0 n0) room_1.cells room_1.slots (T138.setTop (mkF m 147 #[.val (.int p1), .val (.int p2), .val (.int p3), .val (.ref b3), .val (.int ((p2 &&& (2147483647 : Int32)) % (16 : Int32))), .val (.int near), .val (.int v132s0), .unset] []))
      refine Till.pre (fun _ hr => XS.iconst X140.here hx rfl (hb hby at_147) hr) ?_
      show Till p e below s (Q0 Z p1 p2 p3 h0 n0) room_1.cells room_1.slots (T138.setTop (mkF m 148 #[.val (.int p1), .val (.int p2), .val (.int p3), .val (.ref b3), .val (.int ((p2 &&& (2147483647 : Int32)) % (16 : Int32))), .val (.int near), .val (.int v132s0), .unset] [(.int (1 : Int32))]))
      refine Till.pre (fun _ hr => XS.goto X140.here hx rfl (pc0 := 148) (pc' := 152) rfl (hb hby at_148) (by decide) (by decide) hr) ?_
      show Till p e below s (Q0 Z p1 p2 p3 h0 n0) room_1.cells room_1.slots (T138.setTop (mkF m 152 #[.val (.int p1), .val (.int p2), .val (.int p3), .val (.ref b3), .val (.int ((p2 &&& (2147483647 : Int32)) % (16 : Int32))), .val (.int near), .val (.int v132s0), .unset] [(.int (1 : Int32))]))
      exact J152_143 _ (Eq.symm (if_pos hc143))
  refine Till.icmp (pc' := 131) X128.here hx (hb hby at_124) (by decide) (by decide) (fun q => ?_) (fun q => ?_)
  · have hc131 := (hEq.2.2.1 q)
    show Till p e below s (Q0 Z p1 p2 p3 h0 n0) room_1.cells room_1.slots (T126.setTop (mkF m 131 #[.val (.int p1), .val (.int p2), .val (.int p3), .val (.ref b3), .val (.int ((p2 &&& (2147483647 : Int32)) % (16 : Int32))), .val (.int near), .unset, .unset] []))
    refine Till.pre (fun _ hr => XS.iconst X128.here hx rfl (hb hby at_131) hr) ?_
    show Till p e below s (Q0 Z p1 p2 p3 h0 n0) room_1.cells room_1.slots (T126.setTop (mkF m 132 #[.val (.int p1), .val (.int p2), .val (.int p3), .val (.ref b3), .val (.int ((p2 &&& (2147483647 : Int32)) % (16 : Int32))), .val (.int near), .unset, .unset] [(.int (0 : Int32))]))
    exact J132_131 _ (Eq.symm (if_neg hc131))
  · have hc131 := (hEq.2.2.2 q)
    show Till p e below s (Q0 Z p1 p2 p3 h0 n0) room_1.cells room_1.slots (T126.setTop (mkF m 127 #[.val (.int p1), .val (.int p2), .val (.int p3), .val (.ref b3), .val (.int ((p2 &&& (2147483647 : Int32)) % (16 : Int32))), .val (.int near), .unset, .unset] []))
    refine Till.pre (fun _ hr => XS.iconst X128.here hx rfl (hb hby at_127) hr) ?_
    show Till p e below s (Q0 Z p1 p2 p3 h0 n0) room_1.cells room_1.slots (T126.setTop (mkF m 128 #[.val (.int p1), .val (.int p2), .val (.int p3), .val (.ref b3), .val (.int ((p2 &&& (2147483647 : Int32)) % (16 : Int32))), .val (.int near), .unset, .unset] [(.int (1 : Int32))]))
    refine Till.pre (fun _ hr => XS.goto X128.here hx rfl (pc0 := 128) (pc' := 132) rfl (hb hby at_128) (by decide) (by decide) hr) ?_
    show Till p e below s (Q0 Z p1 p2 p3 h0 n0) room_1.cells room_1.slots (T126.setTop (mkF m 132 #[.val (.int p1), .val (.int p2), .val (.int p3), .val (.ref b3), .val (.int ((p2 &&& (2147483647 : Int32)) % (16 : Int32))), .val (.int near), .unset, .unset] [(.int (1 : Int32))]))
    exact J132_131 _ (Eq.symm (if_pos hc131))
set_option maxRecDepth 65536 in
set_option maxHeartbeats 40000000 in
theorem comes_1 {Post : Tables → Env → Array Value → State → Outcome → State → Prop} (hpost : ∀ tb e args s v u, (limb_1_1.after args s (.returned v) u = true ∧ limb_1_2.after args s (.returned v) u = true ∧ True) → FrameEnd s (.returned v) u (Jvm.fieldLocs frame_1_writes args s ++ Jvm.arrayLocs frame_1_arrays args s ++ Jvm.staticLocs frame_1_statics s) 16 128 → Post tb e args s (.returned v) u) :
    ArmFor flags0 classFile x code maxLocals ret World_1 tables_1 room_1 Calls_1 rest_1 Pre_1 Post := by
  intro l hfl _ _ p e ha hc hk s m args below hf hA hF happ hP
  obtain ⟨hcalls, hrest, hpre⟩ := hP
  obtain ⟨-, -, -, hnamed, -, -, -, hat⟩ := (Spec.applies_iff hf).mp happ
  obtain ⟨hg, hn⟩ := and_e (Cond.before_iff.mp (show (Jvm.Cond.and given_1 narrow_1).before args s = true from hpre))
  obtain ⟨h1, hg⟩ := and_e hg
  obtain ⟨k0, hg⟩ := and_e hg
  obtain ⟨k1, hg⟩ := and_e hg
  have k2 := hg
  obtain ⟨w0, w1, w2, rfl⟩ : ∃ w0 w1 w2 : Value, args = #[w0, w1, w2] := by
    have hs : args.size = 3 := by simpa [Cond.value, given_1] using h1
    obtain ⟨L⟩ := args
    match L, hs with
    | [w0, w1, w2], _ => exact ⟨w0, w1, w2, rfl⟩
  have hw := fun d (hd : d ∈ tables_1) => atoms_spec (ws := Jvm.Cond.code x code maxLocals ret :: tables_1) hat d (List.mem_cons_of_mem _ hd)
  obtain ⟨i0, ei0⟩ := is_v k0
  obtain rfl : w0 = (.int i0) := Option.some.inj ei0
  obtain ⟨i1, ei1⟩ := is_v k1
  obtain rfl : w1 = (.int i1) := Option.some.inj ei1
  obtain ⟨i2, ei2⟩ := is_v k2
  obtain rfl : w2 = (.int i2) := Option.some.inj ei2
  obtain ⟨n, o, h1, h2, h3, _, L, rfl, ⟨rfl, N⟩, hq⟩ := rm0 l s _ hw i0 i1 i2 s.heap s.heap.size (Nat.le_refl _) tables_1 p e ha hc hk s m _ below hf ((Spec.applies_iff_loose hf).mp happ).1 ⟨rfl, State.Warmed39.refl s, rfl⟩ trivial
  refine ⟨n, _, h1, h2, h3, hpost _ _ _ _ _ _ ⟨Cond.after_iff.mpr rfl, Cond.after_iff.mpr (eq_i res_at (Term.int_eval (1)) rfl), trivial⟩ ⟨hq.1, hq.2.1, (hq.2.2.sift fun y hy => Or.inr (N y hy)).mono (by decide) (by decide)⟩⟩
theorem main_1_1 : Claimed_1_1 := comes_1 fun _ _ _ _ _ _ h hF => ⟨h.1, hF⟩
theorem main_1_2 : Claimed_1_2 := comes_1 fun _ _ _ _ _ _ h hF => ⟨h.2.1, hF⟩
end Jvm.Pilot.@@N@@
namespace Jvm.Pilot.@@N@@
open Jvm Jvm.ClassFile Sem Op Lib Jvm.Free Jvm.Stand Jvm.Pilot.@@N@@.Jvm.D
/-! MADE BY PROGRAM (witnessworld.py) out of the Statement's table words and the real class files: 9 classes; the members and pool entries that the words name. The judged class is class 1, her method 2. -/
namespace start1
open Jvm.ClassFile
def u (s : String) : CpInfo := .utf8 (stringToUtf16 s)
/-- a pool by its gaps: so many unusable entries, then the entry; so many at the end -/
def gap : Nat → List CpInfo → List CpInfo
  | 0, r => r
  | n + 1, r => .unusable :: gap n r
def poolList (es : List (Nat × CpInfo)) (last : Nat) : List CpInfo := es.foldr (fun e r => gap e.1 (e.2 :: r)) (gap last [])
def pool (es : List (Nat × CpInfo)) (last : Nat) : Array CpInfo := ⟨poolList es last⟩
def fileOf (pool : Array CpInfo) (this : Nat) (attrs : Array Attribute := #[]) (ms : Array MethodInfo := #[]) (fl : Nat := 33) (sup : Nat := 0) (ifs : Array Nat := #[]) (fds : Array FieldInfo := #[]) : ClassFile where
  minorVersion := 0
  majorVersion := 65
  constantPool := pool
  accessFlags := fl
  thisClass := this
  superClass := sup
  interfaces := ifs
  fields := fds
  methods := ms
  attributes := attrs
def plain (name : String) (sup : Option ClassId) : Class where
  name := name
  kind := .ordinary
  loader := none
  accessFlags := 33
  super := sup
  interfaces := #[]
  cf := none
  fields := #[]
  methods := #[]
  instanceTypes := #[]
  staticTypes := #[]
  resolved := #[]
  callSites := []
  init := .initialized
  statics := none
  mirror := none

def pool0 : Array CpInfo := pool [(5, u "<init>"), (0, u "()V"), (1, .class_ 10), (1, u "java/lang/Object")] 113

def k0m0 : Method := { name := "<init>", desc := "()V", sig := { parameters := [], returnType := none }, accessFlags := 1, code := none }
/-- java/lang/Object -/
def k0 : Class := { plain "java/lang/Object" none with
  accessFlags := 33
  interfaces := #[]
  cf := some (fileOf pool0 8 #[] #[{ accessFlags := 1, nameIndex := 5, descriptorIndex := 6, attributes := #[] }] 33 0 #[] #[])
  fields := #[]
  methods := #[k0m0]
  instanceTypes := #[]
  staticTypes := #[]
  resolved := Array.replicate 124 none
  statics := none }

def pool1 : Array CpInfo := pool [(2, .class_ 4), (1, u "java/lang/Object"), (0, u "<init>"), (0, u "()V"), (0, .integer 1114111), (0, .integer 55296), (0, .integer 57343), (0, .integer 65534), (0, .integer 65535), (0, .integer 55295), (0, .integer 57344), (0, .integer 65533), (0, .integer 65536), (2, .integer 2147483648), (0, .integer 2147483647), (0, .methodref 21 22), (0, .class_ 23), (0, .nameAndType 24 25), (0, u "com/example/wolfville/wolfville/xml/XmlCharacters"), (0, u "isChar"), (0, u "(I)Z"), (0, .methodref 27 28), (0, .class_ 29), (0, .nameAndType 30 25), (0, u "com/example/wolfville/wolfville/xml/XmlCharactersIsCharPinLaw"), (0, u "ref"), (3, u "law"), (0, u "(III)Z")] 4

def k1m0 : Method := { name := "<init>", desc := "()V", sig := { parameters := [], returnType := none }, accessFlags := 2, code := none }
def k1c1 : Code := { maxStack := 2, maxLocals := 1, code := method_2_code, exceptionTable := #[], attributes := #[] }
def k1m1 : Method := { name := "ref", desc := "(I)Z", sig := { parameters := [.int], returnType := some .boolean }, accessFlags := 10, code := some k1c1 }
def k1c2 : Code := { maxStack := 4, maxLocals := 8, code := code, exceptionTable := #[], attributes := #[] }
def k1m2 : Method := { name := "law", desc := "(III)Z", sig := { parameters := [.int, .int, .int], returnType := some .boolean }, accessFlags := 9, code := some k1c2 }
/-- com/example/wolfville/wolfville/xml/XmlCharactersIsCharPinLaw -/
def k1 : Class := { plain "com/example/wolfville/wolfville/xml/XmlCharactersIsCharPinLaw" (some 0) with
  accessFlags := 49
  interfaces := #[]
  cf := some (fileOf pool1 27 #[] #[{ accessFlags := 2, nameIndex := 5, descriptorIndex := 6, attributes := #[] }, { accessFlags := 10, nameIndex := 30, descriptorIndex := 25, attributes := #[] }, { accessFlags := 9, nameIndex := 34, descriptorIndex := 35, attributes := #[] }] 49 2 #[] #[])
  fields := #[]
  methods := #[k1m0, k1m1, k1m2]
  instanceTypes := #[]
  staticTypes := #[]
  resolved := Array.replicate 40 none
  statics := none }

def pool2 : Array CpInfo := pool [(2, .class_ 4), (1, u "java/lang/Object"), (0, u "<init>"), (0, u "()V"), (0, .integer 55295), (0, .integer 57344), (0, .integer 65533), (0, .integer 65536), (0, .integer 1114111), (1, .class_ 15), (1, u "com/example/wolfville/wolfville/xml/XmlCharacters"), (0, u "NAME_START_RANGES"), (0, u "[I"), (7, u "(I)Z"), (2, u "NAME_ONLY_RANGES"), (40, u "PREDEFINED_ENTITIES"), (0, u "Ljava/util/Map;"), (42, .class_ 114), (0, u "com/example/wolfville/wolfville/xml/XmlCharacters$SpaceCollapse"), (59, u "isChar")] 50

def k2m0 : Method := { name := "<init>", desc := "()V", sig := { parameters := [], returnType := none }, accessFlags := 2, code := none }
def k2c1 : Code := { maxStack := 2, maxLocals := 1, code := prog_208_method_2_code, exceptionTable := #[], attributes := #[] }
def k2m1 : Method := { name := "isChar", desc := "(I)Z", sig := { parameters := [.int], returnType := some .boolean }, accessFlags := 9, code := some k2c1 }
/-- com/example/wolfville/wolfville/xml/XmlCharacters -/
def k2 : Class := { plain "com/example/wolfville/wolfville/xml/XmlCharacters" (some 0) with
  accessFlags := 49
  interfaces := #[]
  cf := some (fileOf pool2 13 #[.nestMembers #[113]] #[{ accessFlags := 2, nameIndex := 5, descriptorIndex := 6, attributes := #[] }, { accessFlags := 9, nameIndex := 174, descriptorIndex := 25, attributes := #[] }] 49 2 #[] #[{ accessFlags := 26, nameIndex := 16, descriptorIndex := 17, attributes := #[] }, { accessFlags := 26, nameIndex := 28, descriptorIndex := 17, attributes := #[] }, { accessFlags := 26, nameIndex := 69, descriptorIndex := 70, attributes := #[] }])
  fields := #[{ name := "NAME_START_RANGES", type := (.array .int), accessFlags := 26, slot := 0, constantValue := 0 }, { name := "NAME_ONLY_RANGES", type := (.array .int), accessFlags := 26, slot := 1, constantValue := 0 }, { name := "PREDEFINED_ENTITIES", type := (.object "java/util/Map"), accessFlags := 26, slot := 2, constantValue := 0 }]
  methods := #[k2m0, k2m1]
  instanceTypes := #[]
  staticTypes := #[(.array .int), (.array .int), (.object "java/util/Map")]
  resolved := Array.replicate 225 none
  statics := none }

def pool3 : Array CpInfo := pool [(1, u "java/lang/Cloneable"), (0, .class_ 1), (0, u "java/lang/Object"), (0, .class_ 3)] 3

/-- java/lang/Cloneable -/
def k3 : Class := { plain "java/lang/Cloneable" (some 0) with
  accessFlags := 1537
  interfaces := #[]
  cf := some (fileOf pool3 2 #[] #[] 1537 4 #[] #[])
  fields := #[]
  methods := #[]
  instanceTypes := #[]
  staticTypes := #[]
  resolved := Array.replicate 8 none
  statics := none }

def pool4 : Array CpInfo := pool [(1, u "java/io/Serializable"), (0, .class_ 1), (0, u "java/lang/Object"), (0, .class_ 3)] 3

/-- java/io/Serializable -/
def k4 : Class := { plain "java/io/Serializable" (some 0) with
  accessFlags := 1537
  interfaces := #[]
  cf := some (fileOf pool4 2 #[] #[] 1537 4 #[] #[])
  fields := #[]
  methods := #[]
  instanceTypes := #[]
  staticTypes := #[]
  resolved := Array.replicate 8 none
  statics := none }

/-- the primitive byte -/
def k5 : Class := { plain "byte" none with kind := .primitive 'B', accessFlags := 0x411 }
/-- [B -/
def k6 : Class := { plain "[B" (some 0) with kind := .array 5 .byte, interfaces := #[3, 4], accessFlags := 1041 }

/-- the primitive int -/
def k7 : Class := { plain "int" none with kind := .primitive 'I', accessFlags := 0x411 }
/-- [I -/
def k8 : Class := { plain "[I" (some 0) with kind := .array 7 .int, interfaces := #[3, 4], accessFlags := 1041 }

def heap : Heap := #[]
def classes : Array Class := #[k0, k1, k2, k3, k4, k5, k6, k7, k8]
def interned : List (Array UInt16 × Addr) := []
def slotsUsed : Nat := 0
def theMethod : MethodId := ⟨1, 2⟩
def args0 : Array Value := #[.int 5, .int 5, .int 5]
def aboutOver (below : List Frame) : State where
  vm := { classes := classes, interned := interned.toArray }
  heap := heap
  slotsUsed := slotsUsed
  threads := #[{ frames := .invoking theMethod args0 :: below }]
def below0 : List Frame := [.native { method := ⟨0, 0⟩, args := #[] }]
def about1 : State := aboutOver below0
def p0 : Program := .bare "" "" ""
def e0 : Env := launch0.env 0 0 0
theorem w_frames : about1.frames = Frame.invoking theMethod args0 :: below0 := rfl
set_option maxRecDepth 65536 in
theorem w_args : argsFit about1.vm theMethod args0 = true := by decide +kernel
set_option maxRecDepth 65536 in
theorem w_heap : heapFits about1 = true := by decide +kernel
set_option maxRecDepth 65536 in
theorem w_runnable : about1.curStatus? = some .runnable := by decide +kernel
set_option maxRecDepth 65536 in
theorem w_alone : about1.alone = true := by decide +kernel
set_option maxRecDepth 65536 in
theorem w_named : about1.methodNamed? x = some theMethod := by decide +kernel
set_option maxRecDepth 65536 in
theorem w_hears : about1.hears theMethod below0 = true := by decide +kernel
set_option maxRecDepth 65536 in
theorem w_ripe : about1.ripe theMethod args0 below0 = true := by decide +kernel
theorem w_running : about1.status = .running := rfl
set_option maxRecDepth 65536 in
theorem w_room : about1.hasRoom e0.platform room_1 = true :=
  launch0.hasRoom_least _ room_1 (by decide +kernel) (by decide +kernel) (by decide +kernel) (by decide +kernel) (by decide +kernel) (by decide +kernel)
theorem allAtoms_all (ts : List Jvm.Cond) (a : Array Jvm.Value) (st : Jvm.State) : (allAtoms ts).before a st = ts.all (fun c => c.before a st) := by
  induction ts with
  | nil => rfl
  | cons c t ih =>
    show (Jvm.Cond.and c (allAtoms t)).before a st = _
    rw [Jvm.Cond.before_and, ih, List.all_cons]
def words1 : List Jvm.Cond := Jvm.Cond.code x code maxLocals ret :: tables_1
/-- a 'code' word, met by the world's own term for the bytes: nothing is compared byte by byte -/
theorem code_word {y : MethodName} {bytes : ByteArray} {mx : Nat} {rt : Option FieldType} {a : Array Value} {s : State} {m : MethodId} {meth : Method} {c : Code} (h1 : s.methodNamed? y = some m) (h2 : s.vm.method? m = some meth) (h3 : meth.code = some c) (h4 : c.code = bytes)
    (h5 : (c.maxLocals == mx && c.exceptionTable.isEmpty && decide (c.maxStack ≤ mostOperands) && decide (meth.sig.returnType = rt) && !meth.locks && decide (parseMethodDescriptor y.desc = some meth.sig)) = true) : (Jvm.Cond.code y bytes mx rt).before a s = true := by
  simp only [Bool.and_eq_true, beq_iff_eq, Bool.not_eq_true', decide_eq_true_eq] at h5
  obtain ⟨⟨⟨⟨⟨g1, g2⟩, g3⟩, g4⟩, g5⟩, g6⟩ := h5
  simp [Cond.before, Cond.holds, Cond.value, h1, h2, h3, h4, g1, g2, g3, g4, g5, g6]
def isCode : Jvm.Cond → Bool
  | .code _ _ _ _ => true
  | _ => false
theorem all_split {L : List Jvm.Cond} {P : Jvm.Cond → Bool} (h1 : L.all (fun c => isCode c || P c) = true) (h2 : ∀ c ∈ L.filter isCode, P c = true) : L.all P = true := by
  refine List.all_eq_true.mpr fun c hc => ?_
  have h := List.all_eq_true.mp h1 c hc
  rcases Bool.eq_false_or_eq_true (isCode c) with hi | hi
  · exact h2 c (List.mem_filter.mpr ⟨hc, hi⟩)
  · simpa [hi] using h
set_option maxRecDepth 65536 in
theorem w_c0 : (Jvm.Cond.code x code maxLocals ret).before args0 about1 = true := code_word (m := ⟨1, 2⟩) (meth := k1m2) (c := k1c2) (by decide +kernel) rfl rfl rfl (by decide +kernel)
set_option maxRecDepth 65536 in
theorem w_c1 : (Jvm.Cond.code ({ cls := "com/example/wolfville/wolfville/xml/XmlCharacters", name := "isChar", desc := "(I)Z" } : Jvm.MethodName) prog_208_method_2_code (1 : Nat) (Option.some Jvm.ClassFile.FieldType.boolean)).before args0 about1 = true := code_word (m := ⟨2, 1⟩) (meth := k2m1) (c := k2c1) (by decide +kernel) rfl rfl rfl (by decide +kernel)
set_option maxRecDepth 65536 in
theorem w_c2 : (Jvm.Cond.code ({ cls := "com/example/wolfville/wolfville/xml/XmlCharactersIsCharPinLaw", name := "ref", desc := "(I)Z" } : Jvm.MethodName) method_2_code (1 : Nat) (Option.some Jvm.ClassFile.FieldType.boolean)).before args0 about1 = true := code_word (m := ⟨1, 1⟩) (meth := k1m1) (c := k1c1) (by decide +kernel) rfl rfl rfl (by decide +kernel)
def codes1 : List Jvm.Cond := [Jvm.Cond.code x code maxLocals ret, Jvm.Cond.code ({ cls := "com/example/wolfville/wolfville/xml/XmlCharacters", name := "isChar", desc := "(I)Z" } : Jvm.MethodName) prog_208_method_2_code (1 : Nat) (Option.some Jvm.ClassFile.FieldType.boolean), Jvm.Cond.code ({ cls := "com/example/wolfville/wolfville/xml/XmlCharactersIsCharPinLaw", name := "ref", desc := "(I)Z" } : Jvm.MethodName) method_2_code (1 : Nat) (Option.some Jvm.ClassFile.FieldType.boolean)]
set_option maxRecDepth 65536 in
theorem codes_eq : words1.filter isCode = codes1 := rfl
theorem w_codes : ∀ c ∈ words1.filter isCode, c.before args0 about1 = true := by
  rw [codes_eq]
  intro c hc
  simp only [codes1, List.mem_cons, List.not_mem_nil, or_false] at hc
  rcases hc with rfl | rfl | rfl
  · exact w_c0
  · exact w_c1
  · exact w_c2
set_option maxRecDepth 65536 in
theorem w_t1 : (words1.take 24).all (fun c => isCode c || c.before args0 about1) = true := by decide +kernel
set_option maxRecDepth 65536 in
theorem w_t2 : (words1.drop 24).all (fun c => isCode c || c.before args0 about1) = true := by decide +kernel
theorem w_tables : (allAtoms (Jvm.Cond.code x code maxLocals ret :: tables_1)).before args0 about1 = true := by
  rw [allAtoms_all]
  show words1.all (fun c => c.before args0 about1) = true
  refine all_split ?_ w_codes
  rw [← List.take_append_drop 24 words1, List.all_append, w_t1, w_t2]
  rfl
set_option maxRecDepth 65536 in
theorem w_case : (Jvm.Cond.and given_1 narrow_1).before args0 about1 = true := by decide +kernel
theorem w_applies : (headSpec (Jvm.Cond.code x code maxLocals ret :: tables_1) room_1).applies x e0.platform about1 = true :=
  (Spec.applies_iff w_frames).mpr ⟨w_running, w_runnable, w_alone, w_named, w_hears, w_ripe, w_room, w_tables⟩
theorem atStart : AtStart classFile x code maxLocals ret World_1 tables_1 room_1 Calls_1 rest_1 Pre_1 launch0 p0 e0 about1 theMethod args0 below0 :=
  ⟨lists_1, trivial, launch0.admits_env _ _ _, launch0.least_env, fairChoices_fair.cas, fairChoices_fair.clock, w_frames, w_args, w_heap, w_applies, trivial, trivial, w_case⟩
end start1
theorem witness_1 : WitnessClaimed_1 := ⟨start1.p0, start1.e0, start1.about1, start1.theMethod, start1.args0, start1.below0, start1.atStart⟩
end Jvm.Pilot.@@N@@
