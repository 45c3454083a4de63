import JvmDerived
import JvmDerived.Pilot.@@N@@Statement
import JvmDerived.Pilot.@@N@@Code
set_option linter.unusedVariables false
set_option linter.unusedSimpArgs false
@@BLOCK:NumsL.lean.txt@@
namespace Jvm.Pilot.@@N@@
open Jvm Jvm.ClassFile Sem Op Lib Jvm.Free Jvm.Stand Jvm.LawKit Jvm.RoadKit Bundle Jvm.Pilot.@@N@@.Jvm.D
/-! ## A. The run goes on: a walk in steps, its end left open -/
section Base
variable {p : Program} {l : Launch} {e : Env} {R : Room} {s : State} {m : MethodId} {args : Array Value} {below : List Frame} {meth : Method} {c : Code} {T T' : State} {locs : List Loc} {cells slots : Nat} {Z : State} {a0 : Array Value} {F : State → Prop} {g g' : JFrame} {n0 : Nat} {h h' : Heap} {a b : Addr} {C n d : String} {v w : Value} {sl : Nat}
/-- the run from T with the frame g on top comes to a state of which F holds -/
def Rn (p : Program) (e : Env) (below : List Frame) (F : State → Prop) (T : State) (g : JFrame) : Prop := ∃ U, Steps p.tables e below (T.setTop g) U ∧ F U
theorem Rn.go (st : ∀ t, Steps p.tables e below (T'.setTop g') t → Steps p.tables e below (T.setTop g) t) (k : Rn p e below F T' g') : Rn p e below F T g := by
  obtain ⟨U, h1, h2⟩ := k; exact ⟨U, st _ h1, h2⟩
theorem Rn.to (st : Steps p.tables e below (T.setTop g) (T'.setTop g')) (k : Rn p e below F T' g') : Rn p e below F T g := by
  obtain ⟨U, h1, h2⟩ := k; exact ⟨U, st.trans h1, h2⟩
theorem own_lcW (x y : Int64) : lcmpW x y = if x > y then 1 else if x = y then 0 else -1 := rfl
theorem own_nat (x : Int32) : x.toNatClampNeg = x.toInt.toNat := rfl
theorem own_remI {x y : Int32} {k : Int} (hy : y.toInt = k) (hx : 0 ≤ x.toInt) : (x % y).toInt = x.toInt % k := by rw [Jvm.Kit.i32_rem_nonneg hx, hy]
theorem own_irem {g : JFrame} {target : State} (h : At T m c below) (hx : p.tables.exec = Jvm.exec) (hg : g.method = m) {x y : Int32} {rest : List Value} (hd : decode c.code g.pc = .ok (.irem, 1)) (hs : g.stack = .int y :: .int x :: rest) (hy : y ≠ 0)
    (hr : Steps p.tables e below (T.setTop { g with pc := g.pc + 1, stack := .int (x % y) :: rest }) target) : Steps p.tables e below (T.setTop g) target := by
  have q : x - x / y * y = x % y := irem_eq_mod x y
  exact XS.irem h hx hg hd hs hy (by rw [q]; exact hr)
/-! ## B. What the heap holds: a list of the objects and arrays that the law has made -/
abbrev Itm : Type := (String × List (String × String × Value)) ⊕ (FieldType × Int32 × List Value)
abbrev ob (a : Addr) (C : String) (fs : List (String × String × Value)) : Addr × Itm := (a, .inl (C, fs))
abbrev ar (a : Addr) (ty : FieldType) (n : Int32) (vs : List Value) : Addr × Itm := (a, .inr (ty, n, vs))
abbrev ari (a : Addr) (ty : FieldType) (n : Int32) (xs : List Int32) : Addr × Itm := ar a ty n (xs.map Value.int)
abbrev arj (a : Addr) (n : Int32) (xs : List Int64) : Addr × Itm := ar a .long n (xs.map Value.long)
def Obj (Z : State) (h : Heap) (a : Addr) (C : String) (fs : List (String × String × Value)) : Prop := Exa Z h a C ∧ (∀ f ∈ fs, Fld Z h a C f.1 f.2.1 f.2.2) ∧ (fs.map fun f => Jvm.RoadKit.slotOf Z C f.1 f.2.1).Nodup
def Ary (Z : State) (h : Heap) (a : Addr) (ty : FieldType) (n : Int32) (vs : List Value) : Prop := (∃ k, Arv Z h a k ty n vs (defaultValue ty) ∧ ∀ C, ty = .object C → Ovr Z k C) ∧ vs.length = n.toNatClampNeg
def itm (Z : State) (h : Heap) (x : Addr × Itm) : Prop := match x.2 with
  | .inl o => Obj Z h x.1 o.1 o.2
  | .inr o => Ary Z h x.1 o.1 o.2.1 o.2.2
/-- made by the law, or an array of no places (which nobody can write) -/
def Frs (n0 : Nat) (x : Addr × Itm) : Prop := n0 ≤ x.1 ∨ ∃ ty n, x.2 = .inr (ty, n, [])
def Hp (Z : State) (n0 : Nat) (h : Heap) (D : List (Addr × Itm)) : Prop := Old Z n0 h ∧ (∀ x ∈ D, Frs n0 x ∧ itm Z h x) ∧ (D.map (·.1)).Nodup
variable {fs : List (String × String × Value)} {vs : List Value} {ty : FieldType} {z : Int32} {x : Addr × Itm} {D : List (Addr × Itm)} {I J : Itm} {i j : Nat}
theorem map_same {α β : Type} (f : α → β) (L : List α) (i : Nat) (x y : α) (h : L[i]? = some x) (q : f y = f x) : (L.set i y).map f = L.map f := by
  apply List.ext_getElem?
  intro k
  rw [List.getElem?_map, List.getElem?_map, List.getElem?_set]
  by_cases e : i = k
  · subst e
    rw [if_pos rfl, if_pos (List.getElem?_eq_some_iff.mp h).1, h]; simp [q]
  · rw [if_neg e]
theorem Obj.lt (O : Obj Z h a C fs) : a < h.size := O.1.lt
theorem Ary.lt (O : Ary Z h a ty z vs) : a < h.size := by obtain ⟨⟨k, V, -⟩, -⟩ := O; exact V.lt
theorem itm.lt (O : itm Z h x) : x.1 < h.size := by
  obtain ⟨a, I⟩ := x
  cases I with
  | inl o => exact Obj.lt (show Obj Z h a o.1 o.2 from O)
  | inr o => exact Ary.lt (show Ary Z h a o.1 o.2.1 o.2.2 from O)
theorem itm.ext (E : Ext h h') (O : itm Z h x) : itm Z h' x := by
  obtain ⟨a, I⟩ := x
  cases I with
  | inl o =>
    have O' : Obj Z h a o.1 o.2 := O
    exact (show Obj Z h' a o.1 o.2 from ⟨O'.1.ext E, fun f hf => (O'.2.1 f hf).ext E, O'.2.2⟩)
  | inr o =>
    have O' : Ary Z h a o.1 o.2.1 o.2.2 := O
    obtain ⟨⟨k, V, u⟩, q⟩ := O'
    exact (show Ary Z h' a o.1 o.2.1 o.2.2 from ⟨⟨k, V.ext E, u⟩, q⟩)
theorem itm.other (W : Wr h h' b sl v) (q : x.1 ≠ b) (O : itm Z h x) : itm Z h' x := by
  obtain ⟨a, I⟩ := x
  cases I with
  | inl o =>
    have O' : Obj Z h a o.1 o.2 := O
    exact (show Obj Z h' a o.1 o.2 from ⟨O'.1.wr W, fun f hf => (O'.2.1 f hf).other W (Or.inl q), O'.2.2⟩)
  | inr o =>
    have O' : Ary Z h a o.1 o.2.1 o.2.2 := O
    obtain ⟨⟨k, V, u⟩, r⟩ := O'
    exact (show Ary Z h' a o.1 o.2.1 o.2.2 from ⟨⟨k, V.other W q, u⟩, r⟩)
theorem Obj.put (hj : fs[j]? = some (n, d, w)) (W : Wr h h' a (Jvm.RoadKit.slotOf Z C n d) v) (O : Obj Z h a C fs) : Obj Z h' a C (fs.set j (n, d, v)) := by
  have hjl : j < fs.length := (List.getElem?_eq_some_iff.mp hj).1
  refine ⟨O.1.wr W, fun f hf => ?_, ?_⟩
  · obtain ⟨i, hi⟩ := List.mem_iff_getElem?.mp hf
    by_cases e : j = i
    · subst e
      rw [List.getElem?_set_self hjl] at hi
      cases hi
      exact (O.2.1 _ (List.mem_of_getElem? hj)).same W
    · rw [List.getElem?_set_ne e] at hi
      refine (O.2.1 f (List.mem_of_getElem? hi)).other W (Or.inr fun q => e ?_)
      have hil : i < fs.length := (List.getElem?_eq_some_iff.mp hi).1
      refine ((List.getElem?_inj (i := i) (j := j) (by simpa using hil) O.2.2).mp ?_).symm
      rw [List.getElem?_map, List.getElem?_map, hi, hj]
      simp [q]
  · rw [map_same _ fs j (n, d, w) (n, d, v) hj rfl]; exact O.2.2
theorem Ary.put {k : Int32} (hk : ¬ k < 0) (hl : k.toNatClampNeg < vs.length) (hv : fits ty v = true) (W : Wr h h' a k.toNatClampNeg v) (O : Ary Z h a ty z vs) : Ary Z h' a ty z (vs.set k.toNatClampNeg v) := by
  obtain ⟨⟨kc, ⟨cl, A, q1, S, q3, H, G⟩, u⟩, q⟩ := O
  exact ⟨⟨kc, Arv.set A q1 S q3 H G hv W _ rfl hl, u⟩, by rw [List.length_set]; exact q⟩
theorem Frs.obj (q : Frs n0 (ob a C fs)) : n0 ≤ a := q.elim id fun ⟨_, _, r⟩ => by cases r
theorem Frs.arr {k : Nat} (q : Frs n0 (ar a ty z vs)) (hl : k < vs.length) : n0 ≤ a := q.elim id fun ⟨_, _, r⟩ => by cases r; cases hl
theorem Hp.get (H : Hp Z n0 h D) (hi : D[i]? = some x) : Frs n0 x ∧ itm Z h x := H.2.1 _ (List.mem_of_getElem? hi)
theorem Hp.obj (H : Hp Z n0 h D) (hi : D[i]? = some (ob a C fs)) : Obj Z h a C fs := (H.get hi).2
theorem Hp.ary (H : Hp Z n0 h D) (hi : D[i]? = some (ar a ty z vs)) : Ary Z h a ty z vs := (H.get hi).2
theorem Hp.fld (H : Hp Z n0 h D) (hi : D[i]? = some (ob a C fs)) (hj : fs[j]? = some (n, d, v)) : Fld Z h a C n d v := (H.obj hi).2.1 _ (List.mem_of_getElem? hj)
theorem Hp.exa (H : Hp Z n0 h D) (hi : D[i]? = some (ob a C fs)) : Exa Z h a C := (H.obj hi).1
theorem Hp.upd (H : Hp Z n0 h D) (hi : D[i]? = some (a, I)) (hfr : n0 ≤ a) (W : Wr h h' a sl v) (q : itm Z h (a, I) → itm Z h' (a, J)) : Hp Z n0 h' (D.set i (a, J)) := by
  have hil : i < D.length := (List.getElem?_eq_some_iff.mp hi).1
  refine ⟨H.1.wr W hfr, fun x hx => ?_, ?_⟩
  · obtain ⟨k, hk⟩ := List.mem_iff_getElem?.mp hx
    by_cases e : i = k
    · subst e
      rw [List.getElem?_set_self hil] at hk
      cases hk
      exact ⟨Or.inl hfr, q (H.get hi).2⟩
    · rw [List.getElem?_set_ne e] at hk
      refine ⟨(H.get hk).1, (H.get hk).2.other W fun r => e ?_⟩
      refine (List.getElem?_inj (i := i) (j := k) (by simpa using hil) H.2.2).mp ?_
      rw [List.getElem?_map, List.getElem?_map, hi, hk]
      simp [r]
  · rw [map_same _ D i (a, I) (a, J) hi rfl]; exact H.2.2
theorem Hp.new (H : Hp Z n0 h D) (E : Ext h h') (q : itm Z h' (h.size, I)) : Hp Z n0 h' (D ++ [(h.size, I)]) := by
  have hsz : n0 ≤ h.size := by rw [← H.1.1]; exact H.1.2.1
  refine ⟨H.1.ext E, fun x hx => ?_, ?_⟩
  · rcases List.mem_append.mp hx with r | r
    · exact ⟨(H.2.1 x r).1, (H.2.1 x r).2.ext E⟩
    · cases List.mem_singleton.mp r; exact ⟨Or.inl hsz, q⟩
  · rw [List.map_append, List.nodup_append]
    refine ⟨H.2.2, by simp, fun y hy z hz => ?_⟩
    obtain ⟨x, hx, rfl⟩ := List.mem_map.mp hy
    have : z = h.size := by simpa using hz
    rw [this]
    exact Nat.ne_of_lt (H.2.1 x hx).2.lt
theorem Hp.nil (Z : State) : Hp Z Z.heap.size Z.heap [] := ⟨Old.start Z, (fun _ q => by cases q), List.nodup_nil⟩
theorem Hp.ext (H : Hp Z n0 h D) (E : Ext h h') : Hp Z n0 h' D := ⟨H.1.ext E, fun x hx => ⟨(H.2.1 x hx).1, (H.2.1 x hx).2.ext E⟩, H.2.2⟩
/-- a walk stands at T, has made so many cells and slots, has written nothing old, and its heap holds D -/
def On (p : Program) (l : Launch) (e : Env) (R : Room) (s : State) (m : MethodId) (args : Array Value) (below : List Frame) (meth : Method) (c : Code) (Z : State) (n0 : Nat) (T : State) (cells slots : Nat) (D : List (Addr × Itm)) : Prop := ∃ locs, Stand p l e R s m args below meth c T locs cells slots ∧ Fr n0 locs ∧ Hp Z n0 T.heap D
theorem On.here (Y : On p l e R s m args below meth c Z n0 T cells slots D) : At T m c below := by obtain ⟨_, X, -⟩ := Y; exact X.here
/-- what is known of the heap may be forgotten -/
theorem On.weak {D D' : List (Addr × Itm)} (Y : On p l e R s m args below meth c Z n0 T cells slots D) (q : D'.Sublist D) : On p l e R s m args below meth c Z n0 T cells slots D' := by
  obtain ⟨locs, X, N, H⟩ := Y
  exact ⟨locs, X, N, H.1, fun x hx => H.2.1 x (q.subset hx), H.2.2.sublist (q.map _)⟩
/-! ## C. One law a step -/
theorem On.getf (Y : On p l e R s m args below meth c Z n0 T cells slots D) (hx : p.tables.exec = Jvm.exec) (hZ : Z.Warmed39 s.vm) {own : String} {index : Nat} (hown : s.vm.findClass own = some m.cls) (w : (Cond.fieldLink own index C n d).before a0 Z = true) (hi : D[i]? = some (ob a C fs)) (hj : fs[j]? = some (n, d, v))
    {g : JFrame} (hg : g.method = m) {rest : List Value} (hs : g.stack = .ref a :: rest) (hd : decode c.code g.pc = .ok (.getfield index, 3)) (k : ∀ T', On p l e R s m args below meth c Z n0 T' cells slots D → Rn p e below F T' { g with pc := g.pc + 3, stack := v :: rest }) : Rn p e below F T g := by
  obtain ⟨locs, X, N, H⟩ := Y
  obtain ⟨T', X', e', st⟩ := getF X hx hZ hown (host := "") (Or.inl w) Via.refl rfl (H.fld hi hj) hg hs hd
  exact Rn.go st (k T' ⟨locs, X', N, by rw [e']; exact H⟩)
theorem On.putf (Y : On p l e R s m args below meth c Z n0 T cells slots D) (hx : p.tables.exec = Jvm.exec) (hZ : Z.Warmed39 s.vm) {own : String} {index kk : Nat} (hown : s.vm.findClass own = some m.cls) (wl : (Cond.fieldLink own index C n d).before a0 Z = true) (hi : D[i]? = some (ob a C fs)) (hj : fs[j]? = some (n, d, w))
    (L : (Cond.lays C C n d).before a0 Z = true ∨ ((Cond.laysFinal C C n d).before a0 Z = true ∧ own = C ∧ meth.name = "<init>")) (wi : (Cond.instantiable C kk).before a0 Z = true) (hty : parseFieldDescriptor d = some ty) {v v' : Value} (hn : narrow ty v = v') (hf : fits ty v' = true)
    {g : JFrame} (hg : g.method = m) {rest : List Value} (hs : g.stack = v :: .ref a :: rest) (hd : decode c.code g.pc = .ok (.putfield index, 3)) (k : ∀ T', On p l e R s m args below meth c Z n0 T' cells slots (D.set i (ob a C (fs.set j (n, d, v')))) → Rn p e below F T' { g with pc := g.pc + 3, stack := rest }) : Rn p e below F T g := by
  obtain ⟨locs, X, N, H⟩ := Y
  obtain ⟨T', h', X', e', W, st⟩ := putFN X hx hZ hown wl Via.refl rfl (H.fld hi hj) (H.exa hi) L wi hty hn hf hg hs hd
  have hfr := (H.get hi).1.obj
  refine Rn.go st (k T' ⟨_, X', Fr.snoc X' N hfr, ?_⟩)
  rw [e']
  exact H.upd hi hfr W fun O => Obj.put hj W O
theorem On.newo (Y : On p l e R s m args below meth c Z n0 T cells slots D) (hx : p.tables.exec = Jvm.exec) (hZ : Z.Warmed39 s.vm) {own : String} {index k : Nat} (hown : s.vm.findClass own = some m.cls) (w : (Cond.classLink own index C).before a0 Z = true) (wi : (Cond.instantiable C k).before a0 Z = true) (wz : (Cond.initialized C).before a0 Z = true)
    (fs : List (String × String × Value)) (hl : ∀ f ∈ fs, Laid Z a0 C C f.1 f.2.1 ∧ ∃ ty, parseFieldDescriptor f.2.1 = some ty ∧ f.2.2 = defaultValue ty) (hn : (fs.map (·.1)).Nodup)
    {g : JFrame} (hg : g.method = m) (hd : decode c.code g.pc = .ok (.new index, 3)) (hc : cells + 1 ≤ R.cells) (hs : slots + k ≤ R.slots)
    (kk : ∀ T' a, On p l e R s m args below meth c Z n0 T' (cells + 1) (slots + k) (D ++ [ob a C fs]) → Rn p e below F T' { g with pc := g.pc + 3, stack := .ref a :: g.stack }) : Rn p e below F T g := by
  obtain ⟨locs, X, N, H⟩ := Y
  obtain ⟨T', h', X', e', E, A, Df, -, st⟩ := newO X hx hZ hown w wi wz rfl hg hd hc hs
  refine Rn.go st (kk T' _ ⟨_, X', N, ?_⟩)
  rw [e']
  refine H.new E (show Obj Z h' _ C fs from ⟨A, fun f hf => ?_, ?_⟩)
  · obtain ⟨L, ty, h1, h2⟩ := hl f hf
    rw [h2]; exact Df L h1
  · rw [List.nodup_iff_pairwise_ne, List.pairwise_map] at hn ⊢
    refine List.Pairwise.imp_of_mem (fun {x y} hx hy q => ?_) hn
    obtain ⟨L, ty, h1, -⟩ := hl x hx
    obtain ⟨L', ty', h1', -⟩ := hl y hy
    exact slot_ne L L' q h1 h1'
theorem On.newp (Y : On p l e R s m args below meth c Z n0 T cells slots D) (hx : p.tables.exec = Jvm.exec) (hZ : Z.Warmed39 s.vm) {aty : ArrayType} (w : (Cond.arrayClass (newarray.typeOf aty)).before a0 Z = true) {g : JFrame} (hg : g.method = m) (hd : decode c.code g.pc = .ok (.newarray aty, 2)) {z : Int32} {rest : List Value} (hs : g.stack = .int z :: rest)
    (hn : ¬ z < 0) {cap N : Nat} (hN : z.toNatClampNeg = N) (hcap : N ≤ cap) (hb : cap * 8 ≤ 536870912) (hc : cells + 1 ≤ R.cells) (hl : slots + cap ≤ R.slots) {dv : Value} (hdv : defaultValue (newarray.typeOf aty) = dv)
    (k : ∀ T' a, On p l e R s m args below meth c Z n0 T' (cells + 1) (slots + cap) (D ++ [ar a (newarray.typeOf aty) z (List.replicate N dv)]) → Rn p e below F T' { g with pc := g.pc + 2, stack := .ref a :: rest }) : Rn p e below F T g := by
  obtain ⟨locs, X, Nl, H⟩ := Y
  subst hN hdv
  obtain ⟨T', h', cA, X', e', E, A, st⟩ := newP X hx hZ w rfl hg hd hs hn hcap hb hc hl
  refine Rn.go st (k T' _ ⟨_, X', Nl, ?_⟩)
  rw [e']
  exact H.new E (show Ary Z h' _ _ z _ from ⟨⟨_, (Arv.new A hn).pad (pad_rep [] _ _), fun C hC => by cases aty <;> cases hC⟩, by simp⟩)
theorem On.newr (Y : On p l e R s m args below meth c Z n0 T cells slots D) (hx : p.tables.exec = Jvm.exec) (hZ : Z.Warmed39 s.vm) {own : String} {index : Nat} (hown : s.vm.findClass own = some m.cls) (w1 : (Cond.classLink own index C).before a0 Z = true) (w2 : (Cond.arrayOver (.object C)).before a0 Z = true) {g : JFrame} (hg : g.method = m) (hd : decode c.code g.pc = .ok (.anewarray index, 3)) {z : Int32} {rest : List Value} (hs : g.stack = .int z :: rest)
    (hn : ¬ z < 0) {cap N : Nat} (hN : z.toNatClampNeg = N) (hcap : N ≤ cap) (hb : cap * 8 ≤ 536870912) (hc : cells + 1 ≤ R.cells) (hl : slots + cap ≤ R.slots)
    (k : ∀ T' a, On p l e R s m args below meth c Z n0 T' (cells + 1) (slots + cap) (D ++ [ar a (.object C) z (List.replicate N .null)]) → Rn p e below F T' { g with pc := g.pc + 3, stack := .ref a :: rest }) : Rn p e below F T g := by
  obtain ⟨locs, X, Nl, H⟩ := Y
  subst hN
  obtain ⟨T', h', cA, X', e', E, A, O, st⟩ := newR X hx hZ hown w1 w2 rfl hg hd hs hn hcap hb hc hl
  refine Rn.go st (k T' _ ⟨_, X', Nl, ?_⟩)
  rw [e']
  exact H.new E (show Ary Z h' _ _ z _ from ⟨⟨_, (Arv.new A hn).pad (pad_rep [] _ _), fun C' hC => by cases hC; exact O⟩, by simp⟩)
theorem On.isto (Y : On p l e R s m args below meth c Z n0 T cells slots D) (hx : p.tables.exec = Jvm.exec) (hZ : Z.Warmed39 s.vm) {xs : List Int32} (hi : D[i]? = some (ari a .int z xs)) {k x : Int32} (hk : ¬ k < 0) (hl : k.toNatClampNeg < xs.length)
    {g : JFrame} (hg : g.method = m) {rest : List Value} (hs : g.stack = .int x :: .int k :: .ref a :: rest) (hd : decode c.code g.pc = .ok (.iastore, 1))
    (kk : ∀ T', On p l e R s m args below meth c Z n0 T' cells slots (D.set i (ari a .int z (xs.set k.toNatClampNeg x))) → Rn p e below F T' { g with pc := g.pc + 1, stack := rest }) : Rn p e below F T g := by
  obtain ⟨locs, X, N, H⟩ := Y
  obtain ⟨⟨kc, ⟨cl, A, q1, S, q3, Hh, G⟩, -⟩, q⟩ := H.ary hi
  have hl' : k.toNatClampNeg < (xs.map Value.int).length := by simpa using hl
  obtain ⟨T', h', X', e', W, st⟩ := stI X hx hZ rfl A (fun r => r.elim hk fun r => absurd hl' (by rw [q, ← S]; exact Nat.not_lt.mpr r)) hg hs hd
  have hfr := (H.get hi).1.arr hl'
  refine Rn.go st (kk T' ⟨_, X', Fr.snoc X' N hfr, ?_⟩)
  rw [e']
  refine H.upd hi hfr W fun O => ?_
  have := Ary.put hk hl' rfl W O
  rw [← List.map_set] at this
  exact this
theorem On.bsto (Y : On p l e R s m args below meth c Z n0 T cells slots D) (hx : p.tables.exec = Jvm.exec) (hZ : Z.Warmed39 s.vm) {xs : List Int32} (hi : D[i]? = some (ari a .byte z xs)) {k x : Int32} (hk : ¬ k < 0) (hl : k.toNatClampNeg < xs.length)
    {g : JFrame} (hg : g.method = m) {rest : List Value} (hs : g.stack = .int x :: .int k :: .ref a :: rest) (hd : decode c.code g.pc = .ok (.bastore, 1))
    (kk : ∀ T', On p l e R s m args below meth c Z n0 T' cells slots (D.set i (ari a .byte z (xs.set k.toNatClampNeg x.toInt8.toInt32))) → Rn p e below F T' { g with pc := g.pc + 1, stack := rest }) : Rn p e below F T g := by
  obtain ⟨locs, X, N, H⟩ := Y
  obtain ⟨⟨kc, ⟨cl, A, q1, S, q3, Hh, G⟩, -⟩, q⟩ := H.ary hi
  have hl' : k.toNatClampNeg < (xs.map Value.int).length := by simpa using hl
  obtain ⟨T', h', X', e', W, st⟩ := stB X hx hZ rfl A (fun r => r.elim hk fun r => absurd hl' (by rw [q, ← S]; exact Nat.not_lt.mpr r)) hg hs hd
  have hfr := (H.get hi).1.arr hl'
  refine Rn.go st (kk T' ⟨_, X', Fr.snoc X' N hfr, ?_⟩)
  rw [e']
  refine H.upd hi hfr W fun O => ?_
  have := Ary.put hk hl' (fits_nar_byte _) W O
  rw [← List.map_set] at this
  exact this
theorem On.zsto (Y : On p l e R s m args below meth c Z n0 T cells slots D) (hx : p.tables.exec = Jvm.exec) (hZ : Z.Warmed39 s.vm) {xs : List Int32} (hi : D[i]? = some (ari a .boolean z xs)) {k x : Int32} (hk : ¬ k < 0) (hl : k.toNatClampNeg < xs.length)
    {g : JFrame} (hg : g.method = m) {rest : List Value} (hs : g.stack = .int x :: .int k :: .ref a :: rest) (hd : decode c.code g.pc = .ok (.bastore, 1))
    (kk : ∀ T', On p l e R s m args below meth c Z n0 T' cells slots (D.set i (ari a .boolean z (xs.set k.toNatClampNeg (x &&& 1)))) → Rn p e below F T' { g with pc := g.pc + 1, stack := rest }) : Rn p e below F T g := by
  obtain ⟨locs, X, N, H⟩ := Y
  obtain ⟨⟨kc, ⟨cl, A, q1, S, q3, Hh, G⟩, -⟩, q⟩ := H.ary hi
  have hl' : k.toNatClampNeg < (xs.map Value.int).length := by simpa using hl
  obtain ⟨T', h', X', e', W, st⟩ := stZ X hx hZ rfl A (fun r => r.elim hk fun r => absurd hl' (by rw [q, ← S]; exact Nat.not_lt.mpr r)) hg hs hd
  have hfr := (H.get hi).1.arr hl'
  refine Rn.go st (kk T' ⟨_, X', Fr.snoc X' N hfr, ?_⟩)
  rw [e']
  refine H.upd hi hfr W fun O => ?_
  have := Ary.put hk hl' (fits_nar_bool _) W O
  rw [← List.map_set] at this
  exact this
theorem On.jsto (Y : On p l e R s m args below meth c Z n0 T cells slots D) (hx : p.tables.exec = Jvm.exec) (hZ : Z.Warmed39 s.vm) {xs : List Int64} (hi : D[i]? = some (arj a z xs)) {k : Int32} {x : Int64} (hk : ¬ k < 0) (hl : k.toNatClampNeg < xs.length)
    {g : JFrame} (hg : g.method = m) {rest : List Value} (hs : g.stack = .long x :: .int k :: .ref a :: rest) (hd : decode c.code g.pc = .ok (.lastore, 1))
    (kk : ∀ T', On p l e R s m args below meth c Z n0 T' cells slots (D.set i (arj a z (xs.set k.toNatClampNeg x))) → Rn p e below F T' { g with pc := g.pc + 1, stack := rest }) : Rn p e below F T g := by
  obtain ⟨locs, X, N, H⟩ := Y
  obtain ⟨⟨kc, ⟨cl, A, q1, S, q3, Hh, G⟩, -⟩, q⟩ := H.ary hi
  have hl' : k.toNatClampNeg < (xs.map Value.long).length := by simpa using hl
  obtain ⟨T', h', X', e', W, st⟩ := stJ X hx hZ rfl A (fun r => r.elim hk fun r => absurd hl' (by rw [q, ← S]; exact Nat.not_lt.mpr r)) hg hs hd
  have hfr := (H.get hi).1.arr hl'
  refine Rn.go st (kk T' ⟨_, X', Fr.snoc X' N hfr, ?_⟩)
  rw [e']
  refine H.upd hi hfr W fun O => ?_
  have := Ary.put hk hl' rfl W O
  rw [← List.map_set] at this
  exact this
/-- the cell of an array, opened for a load -/
theorem Ary.at (O : Ary Z h a ty z vs) {k : Int32} (hk : ¬ k < 0) (hv : vs[k.toNatClampNeg]? = some v) : ∃ cl, Arr Z h a cl ty ∧ ¬ (k < 0 ∨ cl.slots.size ≤ k.toNatClampNeg) ∧ cl.slots[k.toNatClampNeg]? = some v := by
  obtain ⟨⟨kc, ⟨cl, A, q1, S, q3, H, G⟩, -⟩, q⟩ := O
  have hl := (List.getElem?_eq_some_iff.mp hv).1
  have hl2 : k.toNatClampNeg < cl.slots.size := by rw [S, ← q]; exact hl
  exact ⟨cl, A, fun r => r.elim hk (Nat.not_le.mpr hl2), by rw [H _ hl2, List.getD_eq_getElem?_getD, hv]; rfl⟩
theorem On.ild (Y : On p l e R s m args below meth c Z n0 T cells slots D) (hx : p.tables.exec = Jvm.exec) (hZ : Z.Warmed39 s.vm) {xs : List Int32} (hi : D[i]? = some (ari a .int z xs)) {k x : Int32} (hk : ¬ k < 0) (hv : xs[k.toNatClampNeg]? = some x)
    {g : JFrame} (hg : g.method = m) {rest : List Value} (hs : g.stack = .int k :: .ref a :: rest) (hd : decode c.code g.pc = .ok (.iaload, 1))
    (kk : Rn p e below F T { g with pc := g.pc + 1, stack := .int x :: rest }) : Rn p e below F T g := by
  obtain ⟨locs, X, N, H⟩ := Y
  obtain ⟨cl, A, h1, h2⟩ := (H.ary hi).at (v := .int x) hk (by simp [List.getElem?_map, hv])
  exact Rn.go (fun t kt => X.iaload hx A.1 (State.isArrayOf_alike hZ.alike A.2.1) A.2.2 h1 h2 hg hs hd t kt) kk
theorem On.bld (Y : On p l e R s m args below meth c Z n0 T cells slots D) (hx : p.tables.exec = Jvm.exec) (hZ : Z.Warmed39 s.vm) {xs : List Int32} (hi : D[i]? = some (ari a .byte z xs)) {k x : Int32} (hk : ¬ k < 0) (hv : xs[k.toNatClampNeg]? = some x)
    {g : JFrame} (hg : g.method = m) {rest : List Value} (hs : g.stack = .int k :: .ref a :: rest) (hd : decode c.code g.pc = .ok (.baload, 1))
    (kk : Rn p e below F T { g with pc := g.pc + 1, stack := .int x :: rest }) : Rn p e below F T g := by
  obtain ⟨locs, X, N, H⟩ := Y
  obtain ⟨cl, A, h1, h2⟩ := (H.ary hi).at (v := .int x) hk (by simp [List.getElem?_map, hv])
  exact Rn.go (fun t kt => X.baloadBytes hx A.1 (State.isArrayOf_alike hZ.alike A.2.1) A.2.2 h1 h2 hg hs hd t kt) kk
theorem On.zld (Y : On p l e R s m args below meth c Z n0 T cells slots D) (hx : p.tables.exec = Jvm.exec) (hZ : Z.Warmed39 s.vm) {xs : List Int32} (hi : D[i]? = some (ari a .boolean z xs)) {k x : Int32} (hk : ¬ k < 0) (hv : xs[k.toNatClampNeg]? = some x)
    {g : JFrame} (hg : g.method = m) {rest : List Value} (hs : g.stack = .int k :: .ref a :: rest) (hd : decode c.code g.pc = .ok (.baload, 1))
    (kk : Rn p e below F T { g with pc := g.pc + 1, stack := .int x :: rest }) : Rn p e below F T g := by
  obtain ⟨locs, X, N, H⟩ := Y
  obtain ⟨cl, A, h1, h2⟩ := (H.ary hi).at (v := .int x) hk (by simp [List.getElem?_map, hv])
  exact Rn.go (fun t kt => X.baloadBooleans hx A.1 (State.isArrayOf_alike hZ.alike A.2.1) A.2.2 h1 h2 hg hs hd t kt) kk
theorem On.jld (Y : On p l e R s m args below meth c Z n0 T cells slots D) (hx : p.tables.exec = Jvm.exec) (hZ : Z.Warmed39 s.vm) {xs : List Int64} (hi : D[i]? = some (arj a z xs)) {k : Int32} {x : Int64} (hk : ¬ k < 0) (hv : xs[k.toNatClampNeg]? = some x)
    {g : JFrame} (hg : g.method = m) {rest : List Value} (hs : g.stack = .int k :: .ref a :: rest) (hd : decode c.code g.pc = .ok (.laload, 1))
    (kk : Rn p e below F T { g with pc := g.pc + 1, stack := .long x :: rest }) : Rn p e below F T g := by
  obtain ⟨locs, X, N, H⟩ := Y
  obtain ⟨cl, A, h1, h2⟩ := (H.ary hi).at (v := .long x) hk (by simp [List.getElem?_map, hv])
  exact Rn.go (fun t kt => X.laload hx A.1 (State.isArrayOf_alike hZ.alike A.2.1) A.2.2 h1 h2 hg hs hd t kt) kk
theorem On.alen (Y : On p l e R s m args below meth c Z n0 T cells slots D) (hx : p.tables.exec = Jvm.exec) (hZ : Z.Warmed39 s.vm) (hi : D[i]? = some (ar a ty z vs))
    {g : JFrame} (hg : g.method = m) {rest : List Value} (hs : g.stack = .ref a :: rest) (hd : decode c.code g.pc = .ok (.arraylength, 1))
    (kk : Rn p e below F T { g with pc := g.pc + 1, stack := .int z :: rest }) : Rn p e below F T g := by
  obtain ⟨locs, X, N, H⟩ := Y
  obtain ⟨⟨kc, ⟨cl, A, q1, S, q3, Hh, G⟩, -⟩, q⟩ := H.ary hi
  refine Rn.go (fun t kt => X.arraylength hx A.1 (State.isArrayOf_alike hZ.alike A.2.1) hg hs hd t kt) ?_
  rw [len_of S q3]; exact kk
theorem On.ldcI (Y : On p l e R s m args below meth c Z n0 T cells slots D) (hx : p.tables.exec = Jvm.exec) (hZ : Z.Warmed39 s.vm) {own : String} {index : Nat} {x : Int32} (hown : s.vm.findClass own = some m.cls) (w : (Cond.constant own index x).before a0 Z = true)
    {g : JFrame} (hg : g.method = m) (hd : decode c.code g.pc = .ok (.ldc index, 2)) (kk : Rn p e below F T { g with pc := g.pc + 2, stack := .int x :: g.stack }) : Rn p e below F T g := by
  obtain ⟨locs, X, N, H⟩ := Y
  exact Rn.go (X.ldcInt hx hown (mvT hZ w) hg hd) kk
theorem On.ldcJ (Y : On p l e R s m args below meth c Z n0 T cells slots D) (hx : p.tables.exec = Jvm.exec) (hZ : Z.Warmed39 s.vm) {own : String} {index : Nat} {x : Int64} (hown : s.vm.findClass own = some m.cls) (w : (Cond.constantLong own index x).before a0 Z = true)
    {g : JFrame} (hg : g.method = m) (hd : decode c.code g.pc = .ok (.ldc2_w index, 3)) (kk : Rn p e below F T { g with pc := g.pc + 3, stack := .long x :: g.stack }) : Rn p e below F T g := by
  obtain ⟨locs, X, N, H⟩ := Y
  exact Rn.go (X.ldc2Long hx hown (mvT hZ w) hg hd) kk
theorem On.sldcI (Y : On p l e R s m args below meth c Z n0 T cells slots D) (hx : p.tables.exec = Jvm.exec) (hZ : Z.Warmed39 s.vm) {own : String} {index : Nat} {x : Int32} (hown : s.vm.findClass own = some m.cls) (w : (Cond.constant own index x).before a0 Z = true)
    {g : JFrame} (hg : g.method = m) (hd : decode c.code g.pc = .ok (.ldc index, 2)) : ∀ t, Steps p.tables e below (T.setTop { g with pc := g.pc + 2, stack := .int x :: g.stack }) t → Steps p.tables e below (T.setTop g) t := by
  obtain ⟨locs, X, N, H⟩ := Y
  exact X.ldcInt hx hown (mvT hZ w) hg hd
theorem On.sldcJ (Y : On p l e R s m args below meth c Z n0 T cells slots D) (hx : p.tables.exec = Jvm.exec) (hZ : Z.Warmed39 s.vm) {own : String} {index : Nat} {x : Int64} (hown : s.vm.findClass own = some m.cls) (w : (Cond.constantLong own index x).before a0 Z = true)
    {g : JFrame} (hg : g.method = m) (hd : decode c.code g.pc = .ok (.ldc2_w index, 3)) : ∀ t, Steps p.tables e below (T.setTop { g with pc := g.pc + 3, stack := .long x :: g.stack }) t → Steps p.tables e below (T.setTop g) t := by
  obtain ⟨locs, X, N, H⟩ := Y
  exact X.ldc2Long hx hown (mvT hZ w) hg hd
theorem On.ini (Y : On p l e R s m args below meth c Z n0 T cells slots D) (hx : p.tables.exec = Jvm.exec) (hZ : Z.Warmed39 s.vm) {own : String} {idx : Nat} (hown : s.vm.findClass own = some m.cls) (w1 : (Cond.methodLink own idx Lib.objectInit).before a0 Z = true) (w2 : (Cond.instanceMethod Lib.objectInit).before a0 Z = true)
    (w3 : (Cond.code Lib.objectInit ⟨#[0xb1]⟩ 1 none).before a0 Z = true) {g : JFrame} (hg : g.method = m) (hsize : g.locals.size = c.maxLocals) {a : Addr} {rest : List Value} (hs : g.stack = .ref a :: rest) (hd : decode c.code g.pc = .ok (.invokespecial idx, 3))
    (hf : 1 ≤ R.frames) {W : Nat} (hW : 2 * g.monitorRoom + (rest.map fun v => v.category).sum ≤ W) (hl : W + 12 ≤ R.locals)
    (k : ∀ T', On p l e R s m args below meth c Z n0 T' cells slots D → Rn p e below F T' { g with pc := g.pc + 3, stack := rest }) : Rn p e below F T g := by
  obtain ⟨locs, X, N, H⟩ := Y
  obtain ⟨T', X', e', st⟩ := initO X hx hZ hown w1 w2 w3 rfl hg hsize hs hd hf hW hl
  exact Rn.go st (k T' ⟨locs, X', N, by rw [e']; exact H⟩)
/-! ## D. A method's contract: from a heap that holds D, with these arguments, it returns v and leaves a heap that holds D', where P v D' -/
def QP (Z : State) (n0 : Nat) (P : Option Value → List (Addr × Itm) → Prop) (v : Option Value) (h : Heap) (L : List Loc) : Prop := ∃ D', P v D' ∧ Fr n0 L ∧ Hp Z n0 h D'
def Con (l : Launch) (Z : State) (n0 : Nat) (y : MethodName) (bytes : ByteArray) (maxL : Nat) (ret : Option FieldType) (rm : Room) (as : Array Value) (D : List (Addr × Itm)) (P : Option Value → List (Addr × Itm) → Prop) : Prop :=
  ∀ (ws : List Cond) (h0 : Heap), Hp Z n0 h0 D → MetFree l y (head1 (Cond.code y bytes maxL ret :: ws) rm) (fun a U => a = as ∧ Z.Warmed39 U.vm ∧ U.heap = h0) (fun _ _ _ _ _ => True) (fun _ U o U' => ∃ v L, o = .returned v ∧ QP Z n0 P v U'.heap L ∧ FrameEnd U o U' L rm.cells rm.slots)
def Cx (p : Program) (s : State) (m : MethodId) (meth : Method) (c : Code) (Z : State) (y : MethodName) (bytes : ByteArray) (maxL : Nat) (ret : Option FieldType) : Prop :=
  p.tables.exec = Jvm.exec ∧ c.code = bytes ∧ c.maxLocals = maxL ∧ s.vm.findClass y.cls = some m.cls ∧ meth.name = y.name ∧ meth.sig.returnType = ret ∧ meth.locks = false ∧ Z.Warmed39 s.vm
def Fi (Z : State) (n0 : Nat) (below : List Frame) (s : State) (kc ks : Nat) (P : Option Value → List (Addr × Itm) → Prop) (U : State) : Prop := ∃ o, U.status = .running ∧ Ended U below o ∧ ∃ v L, o = .returned v ∧ QP Z n0 P v U.heap L ∧ FrameEnd s o U L kc ks
variable {y : MethodName} {bytes : ByteArray} {maxL : Nat} {ret : Option FieldType} {rm : Room} {as : Array Value} {P : Option Value → List (Addr × Itm) → Prop} {kc ks : Nat}
theorem Con.of (hp : plainFor y = true) (body : ∀ {p : Program} {e : Env} {s : State} {m : MethodId} {below : List Frame} {meth : Method} {c : Code} {T : State}, Cx p s m meth c Z y bytes maxL ret → On p l e rm s m as below meth c Z n0 T 0 0 D → Rn p e below (Fi Z n0 below s rm.cells rm.slots P) T (entryFrame m as maxL)) :
    Con l Z n0 y bytes maxL ret rm as D P := by
  intro ws h0 H
  refine MetFree.of_bodySF hp hisR ?_
  intro p e s m args below meth c s₁ Bd hml0 hP hK
  obtain ⟨rfl, hZ, hh⟩ := hP
  have X0 : Stand p l e rm s m args below meth c s₁ [] 0 0 := Stand.of_body Bd
  have e0 : s₁.heap = h0 := by rw [← hh, Bd.state]; rfl
  obtain ⟨U, h1, o, h2, h3, h4⟩ := body ⟨Bd.exec, Bd.bytes, hml0, findClass_of_methodNamed Bd.named, (name_of_methodNamed Bd.named Bd.method).1, Bd.returns, Bd.notSynchronized, hZ⟩ ⟨[], X0, Fr.nil n0, by rw [e0]; exact H⟩
  exact ⟨U, o, h1, h2, h3, h4⟩
theorem On.out (Y : On p l e R s m args below meth c Z n0 T cells slots D) {v : Option Value} (hv : meth.sig.returnType = none → v = none) (hlk : meth.locks = false) (hc : cells ≤ kc) (hs : slots ≤ ks) (hP : P v D)
    (st : ∀ locs fs, Stand p l e R s m args below meth c T locs cells slots → (∀ (f : JFrame) (acts : List Action), f.method = m → f.locked = none → f.entered = [] → (doReturn e (T.setTop f) acts v).1 = T.setFrames fs) → Steps p.tables e below (T.setTop g) (T.setFrames fs)) : Rn p e below (Fi Z n0 below s kc ks P) T g := by
  obtain ⟨locs, X, N, H⟩ := Y
  obtain ⟨fs, hr, hrun, hended, hW, hsame⟩ := X.leave hv hlk
  exact ⟨_, st locs fs X hr, _, hrun, hended, _, _, rfl, ⟨D, hP, N, H⟩, ⟨_, rfl⟩, hW, hsame.mono hc hs⟩
theorem On.retv (Y : On p l e R s m args below meth c Z n0 T cells slots D) (hx : p.tables.exec = Jvm.exec) (hret : meth.sig.returnType = none) (hlk : meth.locks = false) {pc : Nat} {Ls : Array Slot} (hd : decode c.code pc = .ok (.return_, 1)) (hc : cells ≤ kc) (hs : slots ≤ ks) (hP : P none D) : Rn p e below (Fi Z n0 below s kc ks P) T (mkF m pc Ls []) :=
  Y.out (fun _ => rfl) hlk hc hs hP fun locs fs X hr => X.returnOut hx hret hd hr
theorem On.reti (Y : On p l e R s m args below meth c Z n0 T cells slots D) (hx : p.tables.exec = Jvm.exec) (hret : meth.sig.returnType = some .int) (hlk : meth.locks = false) {pc : Nat} {Ls : Array Slot} {z : Int32} {rest : List Value} (hd : decode c.code pc = .ok (.ireturn, 1)) (hc : cells ≤ kc) (hs : slots ≤ ks) (hP : P (some (.int z)) D) : Rn p e below (Fi Z n0 below s kc ks P) T (mkF m pc Ls (.int z :: rest)) :=
  Y.out (fun q => by rw [hret] at q; cases q) hlk hc hs hP fun locs fs X hr => retOut X hx hret rfl (Or.inl ⟨rfl, Or.inl rfl, _, rfl⟩) hd hr
theorem On.retn (Y : On p l e R s m args below meth c Z n0 T cells slots D) (hx : p.tables.exec = Jvm.exec) {t : FieldType} (hret : meth.sig.returnType = some t) (ht : t = .boolean ∨ t = .byte ∨ t = .char ∨ t = .short) (hlk : meth.locks = false) {pc : Nat} {Ls : Array Slot} {z z' : Int32} (hz : nar t z = z') {rest : List Value} (hd : decode c.code pc = .ok (.ireturn, 1)) (hc : cells ≤ kc) (hs : slots ≤ ks) (hP : P (some (.int z')) D) : Rn p e below (Fi Z n0 below s kc ks P) T (mkF m pc Ls (.int z :: rest)) := by
  subst hz
  exact Y.out (fun q => by rw [hret] at q; cases q) hlk hc hs hP fun locs fs X hr => retN X hx hret ht hd hr
theorem On.retj (Y : On p l e R s m args below meth c Z n0 T cells slots D) (hx : p.tables.exec = Jvm.exec) (hret : meth.sig.returnType = some .long) (hlk : meth.locks = false) {pc : Nat} {Ls : Array Slot} {z : Int64} {rest : List Value} (hd : decode c.code pc = .ok (.lreturn, 1)) (hc : cells ≤ kc) (hs : slots ≤ ks) (hP : P (some (.long z)) D) : Rn p e below (Fi Z n0 below s kc ks P) T (mkF m pc Ls (.long z :: rest)) :=
  Y.out (fun q => by rw [hret] at q; cases q) hlk hc hs hP fun locs fs X hr => retOut X hx hret rfl (Or.inr (Or.inl ⟨rfl, rfl, _, rfl⟩)) hd hr
theorem On.reta (Y : On p l e R s m args below meth c Z n0 T cells slots D) (hx : p.tables.exec = Jvm.exec) {t : FieldType} (hret : meth.sig.returnType = some t) (ht : t.isReference = true) (hlk : meth.locks = false) {pc : Nat} {Ls : Array Slot} {z : Value} (hz : z.isRef = true) (hn : narrow t z = z) {rest : List Value} (hd : decode c.code pc = .ok (.areturn, 1)) (hc : cells ≤ kc) (hs : slots ≤ ks) (hP : P (some z) D) : Rn p e below (Fi Z n0 below s kc ks P) T (mkF m pc Ls (z :: rest)) :=
  Y.out (fun q => by rw [hret] at q; cases q) hlk hc hs hP fun locs fs X hr => retOut X hx hret hn (Or.inr (Or.inr (Or.inr (Or.inr ⟨rfl, ht, hz⟩)))) hd hr
/-! ## E. Calls -/
theorem On.special (Y : On p l e R s m args below meth c Z n0 T cells slots D) (hx : p.tables.exec = Jvm.exec) (hZ : Z.Warmed39 s.vm) {own : String} {index : Nat} (hy1 : y.name = "<init>") (hown : s.vm.findClass own = some m.cls) (w1 : (Cond.methodLink own index y).before a0 Z = true) (w2 : (Cond.instanceMethod y).before a0 Z = true) (w3 : (Cond.code y bytes maxL none).before a0 Z = true) (w4 : (Cond.initialized y.cls).before a0 Z = true)
    (hy : y.cls ≠ "java/lang/invoke/MethodHandle" ∧ y.cls ≠ "java/lang/invoke/VarHandle") {a : Addr} {argsL rest : List Value} (K : Con l Z n0 y bytes maxL none rm (.ref a :: argsL).toArray D P)
    {W : Nat} (hf : rm.frames + 1 ≤ R.frames) (hl : W + (maxL + 11) + rm.locals ≤ R.locals) (hc : cells + rm.cells ≤ R.cells) (hs : slots + rm.slots ≤ R.slots)
    {g : JFrame} (hg : g.method = m) (hsize : g.locals.size = c.maxLocals) (hlen : ∀ sig, parseMethodDescriptor y.desc = some sig → argsL.length = sig.parameters.length) (hstack : g.stack = argsL.reverse ++ .ref a :: rest) (hW : 2 * g.monitorRoom + (rest.map fun v => v.category).sum ≤ W) (hd : decode c.code g.pc = .ok (.invokespecial index, 3))
    (k : ∀ T' v D', P v D' → On p l e R s m args below meth c Z n0 T' (cells + rm.cells) (slots + rm.slots) D' → Rn p e below F T' { g with pc := g.pc + 3, stack := v.toList ++ rest }) : Rn p e below F T g := by
  obtain ⟨locs, X, N, H⟩ := Y
  obtain ⟨v, _, ⟨T', L', k', n'⟩, -, X', ⟨Lc, hQ, l', y', z'⟩, st⟩ := X.specialBack hx hy1 hown (mvT hZ w1) (mvT hZ w2) (mvT hZ w3) hy (backOf (W := W) (K [] T.heap H) hZ w3 w4 hf hl) hg hsize (Steps.refl _) (a := a) (argsL := argsL) (rest := rest) hlen hstack hW hd (fun _ _ => ⟨rfl, rfl, hc, hs⟩)
  dsimp only [Pt.U, Pt.locs, Pt.cells, Pt.slots] at X' l' y' z' st hQ
  subst l' y' z'
  obtain ⟨D', hP, N', H'⟩ := hQ
  exact Rn.to st (k T' v D' hP ⟨_, X', Fr.app N N', H'⟩)
theorem On.virtual (Y : On p l e R s m args below meth c Z n0 T cells slots D) (hx : p.tables.exec = Jvm.exec) (hZ : Z.Warmed39 s.vm) {own : String} {index : Nat} (hown : s.vm.findClass own = some m.cls) (w1 : (Cond.methodLink own index y).before a0 Z = true) (w2 : (Cond.declares y).before a0 Z = true) (w3 : (Cond.instanceMethod y).before a0 Z = true) (w4 : (Cond.selects C y y).before a0 Z = true) (w5 : (Cond.code y bytes maxL ret).before a0 Z = true) (w6 : (Cond.initialized y.cls).before a0 Z = true)
    (hy : y.cls ≠ "java/lang/invoke/MethodHandle" ∧ y.cls ≠ "java/lang/invoke/VarHandle") {a : Addr} {argsL rest : List Value} (hi : D[i]? = some (ob a C fs)) (K : Con l Z n0 y bytes maxL ret rm (.ref a :: argsL).toArray D P)
    {W : Nat} (hf : rm.frames + 1 ≤ R.frames) (hl : W + (maxL + 11) + rm.locals ≤ R.locals) (hc : cells + rm.cells ≤ R.cells) (hs : slots + rm.slots ≤ R.slots)
    {g : JFrame} (hg : g.method = m) (hsize : g.locals.size = c.maxLocals) (hlen : ∀ sig, parseMethodDescriptor y.desc = some sig → argsL.length = sig.parameters.length) (hstack : g.stack = argsL.reverse ++ .ref a :: rest) (hW : 2 * g.monitorRoom + (rest.map fun v => v.category).sum ≤ W) (hd : decode c.code g.pc = .ok (.invokevirtual index, 3))
    (k : ∀ T' v D', P v D' → On p l e R s m args below meth c Z n0 T' (cells + rm.cells) (slots + rm.slots) D' → Rn p e below F T' { g with pc := g.pc + 3, stack := v.toList ++ rest }) : Rn p e below F T g := by
  obtain ⟨locs, X, N, H⟩ := Y
  obtain ⟨cq, kq, qa, qb, qc⟩ := isOf hZ rfl (H.exa hi)
  obtain ⟨v, _, ⟨T', L', k', n'⟩, -, X', ⟨Lc, hQ, l', y', z'⟩, st⟩ := X.virtualBack hx (y := y) (z := y) hown (mvT hZ w1) (mvT hZ w2) (notFace_of_selects (args := #[]) (mvT hZ w4)) (mvT hZ w4) (mvT hZ w3) hy (backOf (W := W) (K [] T.heap H) hZ w5 w6 hf hl) qa qc hg hsize (Steps.refl _) (argsL := argsL) (rest := rest) hlen hstack hW hd (fun _ _ => ⟨rfl, rfl, hc, hs⟩)
  dsimp only [Pt.U, Pt.locs, Pt.cells, Pt.slots] at X' l' y' z' st hQ
  subst l' y' z'
  obtain ⟨D', hP, N', H'⟩ := hQ
  exact Rn.to st (k T' v D' hP ⟨_, X', Fr.app N N', H'⟩)
theorem On.static (Y : On p l e R s m args below meth c Z n0 T cells slots D) (hx : p.tables.exec = Jvm.exec) (hZ : Z.Warmed39 s.vm) {own : String} {index : Nat} (hown : s.vm.findClass own = some m.cls) (w1 : (Cond.methodLink own index y).before a0 Z = true) (w2 : (Cond.static y).before a0 Z = true) (w3 : (Cond.code y bytes maxL ret).before a0 Z = true) (w4 : (Cond.initialized y.cls).before a0 Z = true)
    (hy : y.cls ≠ "java/lang/invoke/MethodHandle" ∧ y.cls ≠ "java/lang/invoke/VarHandle") {argsL rest : List Value} (K : Con l Z n0 y bytes maxL ret rm argsL.toArray D P)
    {W : Nat} (hf : rm.frames + 1 ≤ R.frames) (hl : W + (maxL + 11) + rm.locals ≤ R.locals) (hc : cells + rm.cells ≤ R.cells) (hs : slots + rm.slots ≤ R.slots)
    {g : JFrame} (hg : g.method = m) (hsize : g.locals.size = c.maxLocals) (hlen : ∀ sig, parseMethodDescriptor y.desc = some sig → argsL.length = sig.parameters.length) (hstack : g.stack = argsL.reverse ++ rest) (hW : 2 * g.monitorRoom + (rest.map fun v => v.category).sum ≤ W) (hd : decode c.code g.pc = .ok (.invokestatic index, 3))
    (k : ∀ T' v D', P v D' → On p l e R s m args below meth c Z n0 T' (cells + rm.cells) (slots + rm.slots) D' → Rn p e below F T' { g with pc := g.pc + 3, stack := v.toList ++ rest }) : Rn p e below F T g := by
  obtain ⟨locs, X, N, H⟩ := Y
  obtain ⟨v, _, ⟨T', L', k', n'⟩, -, X', ⟨Lc, hQ, l', y', z'⟩, st⟩ := Jvm.LawKit.callS X hx hown (mvT hZ w1) (mvT hZ w2) (mvT hZ w4) (mvT hZ w3) hy (backOf (W := W) (K [] T.heap H) hZ w3 w4 hf hl) hg hsize (argsL := argsL) (rest := rest) hlen hstack hW hd (fun _ _ => ⟨rfl, rfl, hc, hs⟩)
  dsimp only [Pt.U, Pt.locs, Pt.cells, Pt.slots] at X' l' y' z' st hQ
  subst l' y' z'
  obtain ⟨D', hP, N', H'⟩ := hQ
  exact Rn.go st (k T' v D' hP ⟨_, X', Fr.app N N', H'⟩)
theorem On.priv (Y : On p l e R s m args below meth c Z n0 T cells slots D) (hx : p.tables.exec = Jvm.exec) (hZ : Z.Warmed39 s.vm) {own : String} {index kk : Nat} (hown : s.vm.findClass own = some m.cls) (w1 : (Cond.methodLink own index y).before a0 Z = true) (w2 : (Cond.instanceMethod y).before a0 Z = true) (w3 : (Cond.privateMethod y).before a0 Z = true) (wi : (Cond.instantiable y.cls kk).before a0 Z = true) (w4 : (Cond.code y bytes maxL ret).before a0 Z = true) (w5 : (Cond.initialized y.cls).before a0 Z = true)
    (hy : y.cls ≠ "java/lang/invoke/MethodHandle" ∧ y.cls ≠ "java/lang/invoke/VarHandle") {a : Addr} {argsL rest : List Value} (hi : D[i]? = some (ob a C fs)) (K : Con l Z n0 y bytes maxL ret rm (.ref a :: argsL).toArray D P)
    {W : Nat} (hf : rm.frames + 1 ≤ R.frames) (hl : W + (maxL + 11) + rm.locals ≤ R.locals) (hc : cells + rm.cells ≤ R.cells) (hs : slots + rm.slots ≤ R.slots)
    {g : JFrame} (hg : g.method = m) (hsize : g.locals.size = c.maxLocals) (hlen : ∀ sig, parseMethodDescriptor y.desc = some sig → argsL.length = sig.parameters.length) (hstack : g.stack = argsL.reverse ++ .ref a :: rest) (hW : 2 * g.monitorRoom + (rest.map fun v => v.category).sum ≤ W) (hd : decode c.code g.pc = .ok (.invokevirtual index, 3))
    (k : ∀ T' v D', P v D' → On p l e R s m args below meth c Z n0 T' (cells + rm.cells) (slots + rm.slots) D' → Rn p e below F T' { g with pc := g.pc + 3, stack := v.toList ++ rest }) : Rn p e below F T g := by
  obtain ⟨locs, X, N, H⟩ := Y
  have hp : s.PrivateAt y := Cond.privateMethod_at (mvP hZ w3 (args := #[]))
  have wi' : (Cond.instantiable y.cls kk).before args s = true := mvT hZ wi
  obtain ⟨cc, kc, i1, i2, -, i4, -⟩ := Cond.instantiable_spec wi'
  have hsel : (Cond.selects y.cls y y).before args s = true := selects_self_of_private i1 i2 (by simp at i4; exact i4.1) hp (mvT hZ w2) hy
  obtain ⟨cq, q, q'⟩ := (H.exa hi).cell
  obtain ⟨v, _, ⟨T', L', k', n'⟩, -, X', ⟨Lc, hQ, l', y', z'⟩, st⟩ := X.privateBack hx (y := y) hown (mvT hZ w1) (mvT hZ w2) hsel hp (mvT hZ w4) hy (backOf (W := W) (K [] T.heap H) hZ w4 w5 hf hl) hg hsize (Steps.refl _) (a := a) q q' (argsL := argsL) (rest := rest) hlen hstack hW hd (fun _ _ => ⟨rfl, rfl, hc, hs⟩)
  dsimp only [Pt.U, Pt.locs, Pt.cells, Pt.slots] at X' l' y' z' st hQ
  subst l' y' z'
  obtain ⟨D', hP, N', H'⟩ := hQ
  exact Rn.to st (k T' v D' hP ⟨_, X', Fr.app N N', H'⟩)
theorem On.insY (Y : On p l e R s m args below meth c Z n0 T cells slots D) (hx : p.tables.exec = Jvm.exec) (hZ : Z.Warmed39 s.vm) {own : String} {index : Nat} (hown : s.vm.findClass own = some m.cls) (w : (Cond.classLink own index C).before a0 Z = true) (hi : D[i]? = some (ob a C fs))
    {g : JFrame} (hg : g.method = m) {rest : List Value} (hs : g.stack = .ref a :: rest) (hd : decode c.code g.pc = .ok (.instanceof index, 3)) (k : ∀ T', On p l e R s m args below meth c Z n0 T' cells slots D → Rn p e below F T' { g with pc := g.pc + 3, stack := .int 1 :: rest }) : Rn p e below F T g := by
  obtain ⟨locs, X, N, H⟩ := Y
  obtain ⟨T', X', e', st⟩ := instY X hx hZ hown w rfl (Ins.self (H.exa hi)) hg hs hd
  exact Rn.go st (k T' ⟨locs, X', N, by rw [e']; exact H⟩)
theorem On.castS (Y : On p l e R s m args below meth c Z n0 T cells slots D) (hx : p.tables.exec = Jvm.exec) (hZ : Z.Warmed39 s.vm) {own : String} {index : Nat} (hown : s.vm.findClass own = some m.cls) (w : (Cond.classLink own index C).before a0 Z = true) (hi : D[i]? = some (ob a C fs))
    {g : JFrame} (hg : g.method = m) {rest : List Value} (hs : g.stack = .ref a :: rest) (hd : decode c.code g.pc = .ok (.checkcast index, 3)) (k : ∀ T', On p l e R s m args below meth c Z n0 T' cells slots D → Rn p e below F T' { g with pc := g.pc + 3 }) : Rn p e below F T g := by
  obtain ⟨locs, X, N, H⟩ := Y
  obtain ⟨T', X', e', st⟩ := castY X hx hZ hown w rfl (Ins.self (H.exa hi)) hg hs hd
  exact Rn.go st (k T' ⟨locs, X', N, by rw [e']; exact H⟩)
theorem On.insN (Y : On p l e R s m args below meth c Z n0 T cells slots D) (hx : p.tables.exec = Jvm.exec) (hZ : Z.Warmed39 s.vm) {own K : String} {index kk : Nat} (hown : s.vm.findClass own = some m.cls) (w : (Cond.classLink own index K).before a0 Z = true) (hi : D[i]? = some (ob a C fs)) (wi : (Cond.instantiable K kk).before a0 Z = true) {ch : List String} (hw : ∀ w ∈ Cond.chainWords (C :: ch), w.before a0 Z = true) (hn : K ∉ C :: ch)
    {g : JFrame} (hg : g.method = m) {rest : List Value} (hs : g.stack = .ref a :: rest) (hd : decode c.code g.pc = .ok (.instanceof index, 3)) (k : ∀ T', On p l e R s m args below meth c Z n0 T' cells slots D → Rn p e below F T' { g with pc := g.pc + 3, stack := .int 0 :: rest }) : Rn p e below F T g := by
  obtain ⟨locs, X, N, H⟩ := Y
  obtain ⟨cy, ky, i1, i2, i3, i4, -⟩ := Cond.instantiable_spec wi
  obtain ⟨cx, kx, j1, -⟩ := Cond.chain_head hw
  obtain ⟨T', X', e', st⟩ := instNo X hx hZ hown w rfl (H.exa hi) ⟨cx, cy, j1, i1, Vm.notAssignable_of_chain j1 i1 i2 i3 (by simp at i4; exact i4.1) hw hn⟩ hg hs hd
  exact Rn.go st (k T' ⟨locs, X', N, by rw [e']; exact H⟩)
theorem On.insNull (Y : On p l e R s m args below meth c Z n0 T cells slots D) (hx : p.tables.exec = Jvm.exec) {index : Nat}
    {g : JFrame} (hg : g.method = m) {rest : List Value} (hs : g.stack = .null :: rest) (hd : decode c.code g.pc = .ok (.instanceof index, 3)) (k : Rn p e below F T { g with pc := g.pc + 3, stack := .int 0 :: rest }) : Rn p e below F T g := by
  obtain ⟨locs, X, N, H⟩ := Y
  exact Rn.go (fun t kt => X.instanceofNull hx hg hs hd t kt) k
end Base
/-! ## F. The words, the instructions, the names -/
abbrev own_C0 : String := "com/example/vistrace/vistrace/history/Interval"
abbrev own_F0 (v0 v1 : Value) : List (String × String × Value) := [("start", "J", v0), ("end", "J", v1)]
theorem w0 {Z : State} {a0 : Array Value} (hw : ∀ d ∈ tables_1, d.before a0 Z = true) : (Jvm.Cond.methodLink "com/example/vistrace/vistrace/history/IntervalIsOpenPinLaw" (7 : Nat) ({ cls := "java/lang/Math", name := "min", desc := "(JJ)J" } : Jvm.MethodName)).before a0 Z = true := hw _ (List.mem_of_getElem? (i := 0) rfl)
theorem w1 {Z : State} {a0 : Array Value} (hw : ∀ d ∈ tables_1, d.before a0 Z = true) : (Jvm.Cond.static ({ cls := "java/lang/Math", name := "min", desc := "(JJ)J" } : Jvm.MethodName)).before a0 Z = true := hw _ (List.mem_of_getElem? (i := 1) rfl)
theorem w2 {Z : State} {a0 : Array Value} (hw : ∀ d ∈ tables_1, d.before a0 Z = true) : (Jvm.Cond.initialized "java/lang/Math").before a0 Z = true := hw _ (List.mem_of_getElem? (i := 2) rfl)
theorem w3 {Z : State} {a0 : Array Value} (hw : ∀ d ∈ tables_1, d.before a0 Z = true) : (Jvm.Cond.code ({ cls := "java/lang/Math", name := "min", desc := "(JJ)J" } : Jvm.MethodName) jdk_29_method_70_code (4 : Nat) (Option.some Jvm.ClassFile.FieldType.long)).before a0 Z = true := hw _ (List.mem_of_getElem? (i := 3) rfl)
theorem w4 {Z : State} {a0 : Array Value} (hw : ∀ d ∈ tables_1, d.before a0 Z = true) : (Jvm.Cond.methodLink "com/example/vistrace/vistrace/history/IntervalIsOpenPinLaw" (13 : Nat) ({ cls := "java/lang/Math", name := "max", desc := "(JJ)J" } : Jvm.MethodName)).before a0 Z = true := hw _ (List.mem_of_getElem? (i := 4) rfl)
theorem w5 {Z : State} {a0 : Array Value} (hw : ∀ d ∈ tables_1, d.before a0 Z = true) : (Jvm.Cond.static ({ cls := "java/lang/Math", name := "max", desc := "(JJ)J" } : Jvm.MethodName)).before a0 Z = true := hw _ (List.mem_of_getElem? (i := 5) rfl)
theorem w6 {Z : State} {a0 : Array Value} (hw : ∀ d ∈ tables_1, d.before a0 Z = true) : (Jvm.Cond.code ({ cls := "java/lang/Math", name := "max", desc := "(JJ)J" } : Jvm.MethodName) jdk_29_method_66_code (4 : Nat) (Option.some Jvm.ClassFile.FieldType.long)).before a0 Z = true := hw _ (List.mem_of_getElem? (i := 6) rfl)
theorem w7 {Z : State} {a0 : Array Value} (hw : ∀ d ∈ tables_1, d.before a0 Z = true) : (Jvm.Cond.classLink "com/example/vistrace/vistrace/history/IntervalIsOpenPinLaw" (24 : Nat) "com/example/vistrace/vistrace/history/Interval").before a0 Z = true := hw _ (List.mem_of_getElem? (i := 7) rfl)
theorem w8 {Z : State} {a0 : Array Value} (hw : ∀ d ∈ tables_1, d.before a0 Z = true) : (Jvm.Cond.instantiable "com/example/vistrace/vistrace/history/Interval" (2 : Nat)).before a0 Z = true := hw _ (List.mem_of_getElem? (i := 8) rfl)
theorem w9 {Z : State} {a0 : Array Value} (hw : ∀ d ∈ tables_1, d.before a0 Z = true) : (Jvm.Cond.initialized "com/example/vistrace/vistrace/history/Interval").before a0 Z = true := hw _ (List.mem_of_getElem? (i := 9) rfl)
theorem w10 {Z : State} {a0 : Array Value} (hw : ∀ d ∈ tables_1, d.before a0 Z = true) : (Jvm.Cond.methodLink "com/example/vistrace/vistrace/history/IntervalIsOpenPinLaw" (26 : Nat) ({ cls := "com/example/vistrace/vistrace/history/Interval", name := "<init>", desc := "(JJ)V" } : Jvm.MethodName)).before a0 Z = true := hw _ (List.mem_of_getElem? (i := 10) rfl)
theorem w11 {Z : State} {a0 : Array Value} (hw : ∀ d ∈ tables_1, d.before a0 Z = true) : (Jvm.Cond.instanceMethod ({ cls := "com/example/vistrace/vistrace/history/Interval", name := "<init>", desc := "(JJ)V" } : Jvm.MethodName)).before a0 Z = true := hw _ (List.mem_of_getElem? (i := 11) rfl)
theorem w12 {Z : State} {a0 : Array Value} (hw : ∀ d ∈ tables_1, d.before a0 Z = true) : (Jvm.Cond.code ({ cls := "com/example/vistrace/vistrace/history/Interval", name := "<init>", desc := "(JJ)V" } : Jvm.MethodName) prog_18_method_1_code (5 : Nat) (Option.none : Option Jvm.ClassFile.FieldType)).before a0 Z = true := hw _ (List.mem_of_getElem? (i := 12) rfl)
theorem w13 {Z : State} {a0 : Array Value} (hw : ∀ d ∈ tables_1, d.before a0 Z = true) : (Jvm.Cond.methodLink "com/example/vistrace/vistrace/history/Interval" (3 : Nat) ({ cls := "java/lang/Record", name := "<init>", desc := "()V" } : Jvm.MethodName)).before a0 Z = true := hw _ (List.mem_of_getElem? (i := 13) rfl)
theorem w14 {Z : State} {a0 : Array Value} (hw : ∀ d ∈ tables_1, d.before a0 Z = true) : (Jvm.Cond.instanceMethod ({ cls := "java/lang/Record", name := "<init>", desc := "()V" } : Jvm.MethodName)).before a0 Z = true := hw _ (List.mem_of_getElem? (i := 14) rfl)
theorem w16 {Z : State} {a0 : Array Value} (hw : ∀ d ∈ tables_1, d.before a0 Z = true) : (Jvm.Cond.initialized "java/lang/Record").before a0 Z = true := hw _ (List.mem_of_getElem? (i := 16) rfl)
theorem w17 {Z : State} {a0 : Array Value} (hw : ∀ d ∈ tables_1, d.before a0 Z = true) : (Jvm.Cond.code ({ cls := "java/lang/Record", name := "<init>", desc := "()V" } : Jvm.MethodName) jdk_30_method_1_code (1 : Nat) (Option.none : Option Jvm.ClassFile.FieldType)).before a0 Z = true := hw _ (List.mem_of_getElem? (i := 17) rfl)
theorem w18 {Z : State} {a0 : Array Value} (hw : ∀ d ∈ tables_1, d.before a0 Z = true) : (Jvm.Cond.methodLink "java/lang/Record" (1 : Nat) ({ cls := "java/lang/Object", name := "<init>", desc := "()V" } : Jvm.MethodName)).before a0 Z = true := hw _ (List.mem_of_getElem? (i := 18) rfl)
theorem w19 {Z : State} {a0 : Array Value} (hw : ∀ d ∈ tables_1, d.before a0 Z = true) : (Jvm.Cond.instanceMethod ({ cls := "java/lang/Object", name := "<init>", desc := "()V" } : Jvm.MethodName)).before a0 Z = true := hw _ (List.mem_of_getElem? (i := 19) rfl)
theorem w20 {Z : State} {a0 : Array Value} (hw : ∀ d ∈ tables_1, d.before a0 Z = true) : (Jvm.Cond.code ({ cls := "java/lang/Object", name := "<init>", desc := "()V" } : Jvm.MethodName) object_method_1_code (1 : Nat) (Option.none : Option Jvm.ClassFile.FieldType)).before a0 Z = true := hw _ (List.mem_of_getElem? (i := 20) rfl)
theorem w21 {Z : State} {a0 : Array Value} (hw : ∀ d ∈ tables_1, d.before a0 Z = true) : (Jvm.Cond.fieldLink "com/example/vistrace/vistrace/history/Interval" (18 : Nat) "com/example/vistrace/vistrace/history/Interval" "start" "J").before a0 Z = true := hw _ (List.mem_of_getElem? (i := 21) rfl)
theorem w22 {Z : State} {a0 : Array Value} (hw : ∀ d ∈ tables_1, d.before a0 Z = true) : (Jvm.Cond.laysFinal "com/example/vistrace/vistrace/history/Interval" "com/example/vistrace/vistrace/history/Interval" "start" "J").before a0 Z = true := hw _ (List.mem_of_getElem? (i := 22) rfl)
theorem w23 {Z : State} {a0 : Array Value} (hw : ∀ d ∈ tables_1, d.before a0 Z = true) : (Jvm.Cond.fieldLink "com/example/vistrace/vistrace/history/Interval" (24 : Nat) "com/example/vistrace/vistrace/history/Interval" "end" "J").before a0 Z = true := hw _ (List.mem_of_getElem? (i := 23) rfl)
theorem w24 {Z : State} {a0 : Array Value} (hw : ∀ d ∈ tables_1, d.before a0 Z = true) : (Jvm.Cond.laysFinal "com/example/vistrace/vistrace/history/Interval" "com/example/vistrace/vistrace/history/Interval" "end" "J").before a0 Z = true := hw _ (List.mem_of_getElem? (i := 24) rfl)
theorem w25 {Z : State} {a0 : Array Value} (hw : ∀ d ∈ tables_1, d.before a0 Z = true) : (Jvm.Cond.methodLink "com/example/vistrace/vistrace/history/IntervalIsOpenPinLaw" (29 : Nat) ({ cls := "com/example/vistrace/vistrace/history/Interval", name := "isOpen", desc := "()Z" } : Jvm.MethodName)).before a0 Z = true := hw _ (List.mem_of_getElem? (i := 25) rfl)
theorem w26 {Z : State} {a0 : Array Value} (hw : ∀ d ∈ tables_1, d.before a0 Z = true) : (Jvm.Cond.declares ({ cls := "com/example/vistrace/vistrace/history/Interval", name := "isOpen", desc := "()Z" } : Jvm.MethodName)).before a0 Z = true := hw _ (List.mem_of_getElem? (i := 26) rfl)
theorem w27 {Z : State} {a0 : Array Value} (hw : ∀ d ∈ tables_1, d.before a0 Z = true) : (Jvm.Cond.instanceMethod ({ cls := "com/example/vistrace/vistrace/history/Interval", name := "isOpen", desc := "()Z" } : Jvm.MethodName)).before a0 Z = true := hw _ (List.mem_of_getElem? (i := 27) rfl)
theorem w28 {Z : State} {a0 : Array Value} (hw : ∀ d ∈ tables_1, d.before a0 Z = true) : (Jvm.Cond.selects "com/example/vistrace/vistrace/history/Interval" ({ cls := "com/example/vistrace/vistrace/history/Interval", name := "isOpen", desc := "()Z" } : Jvm.MethodName) ({ cls := "com/example/vistrace/vistrace/history/Interval", name := "isOpen", desc := "()Z" } : Jvm.MethodName)).before a0 Z = true := hw _ (List.mem_of_getElem? (i := 28) rfl)
theorem w29 {Z : State} {a0 : Array Value} (hw : ∀ d ∈ tables_1, d.before a0 Z = true) : (Jvm.Cond.code ({ cls := "com/example/vistrace/vistrace/history/Interval", name := "isOpen", desc := "()Z" } : Jvm.MethodName) prog_18_method_2_code (1 : Nat) (Option.some Jvm.ClassFile.FieldType.boolean)).before a0 Z = true := hw _ (List.mem_of_getElem? (i := 29) rfl)
theorem w30 {Z : State} {a0 : Array Value} (hw : ∀ d ∈ tables_1, d.before a0 Z = true) : (Jvm.Cond.constantLong "com/example/vistrace/vistrace/history/Interval" (27 : Nat) (9223372036854775807 : Int64)).before a0 Z = true := hw _ (List.mem_of_getElem? (i := 30) rfl)
theorem w31 {Z : State} {a0 : Array Value} (hw : ∀ d ∈ tables_1, d.before a0 Z = true) : (Jvm.Cond.constantLong "com/example/vistrace/vistrace/history/IntervalIsOpenPinLaw" (18 : Nat) (9223372036854775807 : Int64)).before a0 Z = true := hw _ (List.mem_of_getElem? (i := 31) rfl)
theorem w32 {Z : State} {a0 : Array Value} (hw : ∀ d ∈ tables_1, d.before a0 Z = true) : (Jvm.Cond.constantLong "com/example/vistrace/vistrace/history/IntervalIsOpenPinLaw" (22 : Nat) (-9223372036854775808 : Int64)).before a0 Z = true := hw _ (List.mem_of_getElem? (i := 32) rfl)
theorem w33 {Z : State} {a0 : Array Value} (hw : ∀ d ∈ tables_1, d.before a0 Z = true) : (Jvm.Cond.constantLong "com/example/vistrace/vistrace/history/IntervalIsOpenPinLaw" (20 : Nat) (9223372036854775806 : Int64)).before a0 Z = true := hw _ (List.mem_of_getElem? (i := 33) rfl)
theorem d1_0 : decode jdk_29_method_70_code 0 = .ok (.lload_n 0, 1) := by decide +kernel
theorem d1_1 : decode jdk_29_method_70_code 1 = .ok (.lload_n 2, 1) := by decide +kernel
theorem d1_2 : decode jdk_29_method_70_code 2 = .ok (.lcmp, 1) := by decide +kernel
theorem d1_3 : decode jdk_29_method_70_code 3 = .ok (.ifCond .gt 7, 3) := by decide +kernel
theorem d1_6 : decode jdk_29_method_70_code 6 = .ok (.lload_n 0, 1) := by decide +kernel
theorem d1_7 : decode jdk_29_method_70_code 7 = .ok (.goto 4, 3) := by decide +kernel
theorem d1_10 : decode jdk_29_method_70_code 10 = .ok (.lload_n 2, 1) := by decide +kernel
theorem d1_11 : decode jdk_29_method_70_code 11 = .ok (.lreturn, 1) := by decide +kernel
theorem d2_0 : decode jdk_29_method_66_code 0 = .ok (.lload_n 0, 1) := by decide +kernel
theorem d2_1 : decode jdk_29_method_66_code 1 = .ok (.lload_n 2, 1) := by decide +kernel
theorem d2_2 : decode jdk_29_method_66_code 2 = .ok (.lcmp, 1) := by decide +kernel
theorem d2_3 : decode jdk_29_method_66_code 3 = .ok (.ifCond .lt 7, 3) := by decide +kernel
theorem d2_6 : decode jdk_29_method_66_code 6 = .ok (.lload_n 0, 1) := by decide +kernel
theorem d2_7 : decode jdk_29_method_66_code 7 = .ok (.goto 4, 3) := by decide +kernel
theorem d2_10 : decode jdk_29_method_66_code 10 = .ok (.lload_n 2, 1) := by decide +kernel
theorem d2_11 : decode jdk_29_method_66_code 11 = .ok (.lreturn, 1) := by decide +kernel
theorem d3_0 : decode prog_18_method_1_code 0 = .ok (.aload_n 0, 1) := by decide +kernel
theorem d3_1 : decode prog_18_method_1_code 1 = .ok (.invokespecial 3, 3) := by decide +kernel
theorem d3_4 : decode prog_18_method_1_code 4 = .ok (.lload_n 3, 1) := by decide +kernel
theorem d3_5 : decode prog_18_method_1_code 5 = .ok (.lload_n 1, 1) := by decide +kernel
theorem d3_6 : decode prog_18_method_1_code 6 = .ok (.lcmp, 1) := by decide +kernel
theorem d3_7 : decode prog_18_method_1_code 7 = .ok (.ifCond .gt 18, 3) := by decide +kernel
theorem d3_25 : decode prog_18_method_1_code 25 = .ok (.aload_n 0, 1) := by decide +kernel
theorem d3_26 : decode prog_18_method_1_code 26 = .ok (.lload_n 1, 1) := by decide +kernel
theorem d3_27 : decode prog_18_method_1_code 27 = .ok (.putfield 18, 3) := by decide +kernel
theorem d3_30 : decode prog_18_method_1_code 30 = .ok (.aload_n 0, 1) := by decide +kernel
theorem d3_31 : decode prog_18_method_1_code 31 = .ok (.lload_n 3, 1) := by decide +kernel
theorem d3_32 : decode prog_18_method_1_code 32 = .ok (.putfield 24, 3) := by decide +kernel
theorem d3_35 : decode prog_18_method_1_code 35 = .ok (.return_, 1) := by decide +kernel
theorem d4_0 : decode jdk_30_method_1_code 0 = .ok (.aload_n 0, 1) := by decide +kernel
theorem d4_1 : decode jdk_30_method_1_code 1 = .ok (.invokespecial 1, 3) := by decide +kernel
theorem d4_4 : decode jdk_30_method_1_code 4 = .ok (.return_, 1) := by decide +kernel
theorem d6_0 : decode prog_18_method_2_code 0 = .ok (.aload_n 0, 1) := by decide +kernel
theorem d6_1 : decode prog_18_method_2_code 1 = .ok (.getfield 24, 3) := by decide +kernel
theorem d6_4 : decode prog_18_method_2_code 4 = .ok (.ldc2_w 27, 3) := by decide +kernel
theorem d6_7 : decode prog_18_method_2_code 7 = .ok (.lcmp, 1) := by decide +kernel
theorem d6_8 : decode prog_18_method_2_code 8 = .ok (.ifCond .ne 7, 3) := by decide +kernel
theorem d6_11 : decode prog_18_method_2_code 11 = .ok (.iconst 1, 1) := by decide +kernel
theorem d6_12 : decode prog_18_method_2_code 12 = .ok (.goto 4, 3) := by decide +kernel
theorem d6_15 : decode prog_18_method_2_code 15 = .ok (.iconst 0, 1) := by decide +kernel
theorem d6_16 : decode prog_18_method_2_code 16 = .ok (.ireturn, 1) := by decide +kernel
theorem pd0 : parseMethodDescriptor "()V" = some ⟨[], none⟩ := by decide +kernel
theorem pd1 : parseMethodDescriptor "(JJ)J" = some ⟨[.long, .long], some .long⟩ := by decide +kernel
theorem pd2 : parseMethodDescriptor "(JJ)V" = some ⟨[.long, .long], none⟩ := by decide +kernel
theorem pd3 : parseMethodDescriptor "()Z" = some ⟨[], some .boolean⟩ := by decide +kernel
theorem pn0 : plainName "java/lang/Record" = true := by first | (simp [plainName, overriddenIn]; done) | decide +kernel
theorem pn1 : plainName "com/example/vistrace/vistrace/history/Interval" = true := by first | (simp [plainName, overriddenIn]; done) | decide +kernel
theorem pn2 : plainName "com/example/vistrace/vistrace/history/IntervalIsOpenPinLaw" = true := by first | (simp [plainName, overriddenIn]; done) | decide +kernel
theorem own_lay_0 {Z : State} {a0 : Array Value} (hw : ∀ d ∈ tables_1, d.before a0 Z = true) : ∀ f ∈ ([("start", "J", (.long (0 : Int64))), ("end", "J", (.long (0 : Int64)))] : List (String × String × Value)), Laid Z a0 "com/example/vistrace/vistrace/history/Interval" "com/example/vistrace/vistrace/history/Interval" f.1 f.2.1 ∧ ∃ ty, parseFieldDescriptor f.2.1 = some ty ∧ f.2.2 = defaultValue ty := by
  intro f hf
  simp only [List.mem_cons, List.not_mem_nil, or_false] at hf
  rcases hf with rfl | rfl
  · exact ⟨Or.inr (w22 hw), .long, by decide, rfl⟩
  · exact ⟨Or.inr (w24 hw), .long, by decide, rfl⟩
def own_min (x0 : Int64) (x1 : Int64) : Int64 := (if (0 : Int32) < (lcmpW x0 x1) then x1 else x0)
theorem ef_rm1 (m : MethodId) (x0 : Int64) (x1 : Int64) : entryFrame m #[(.long x0), (.long x1)] 4 = (mkF m 0 #[.val (.long x0), .second, .val (.long x1), .second] []) := by first | (simp [entryFrame, mkF, argsToLocals, Value.category]; done) | rfl
set_option maxRecDepth 65536 in
set_option maxHeartbeats 40000000 in
theorem rm1 (l : Launch) (Z : State) (a0 : Array Value) (hw : ∀ d ∈ tables_1, d.before a0 Z = true) (n0 : Nat) (x0 : Int64) (x1 : Int64) (Dr : List (Addr × Itm)) :
    Con l Z n0 (⟨"java/lang/Math", "min", "(JJ)J"⟩ : MethodName) jdk_29_method_70_code 4 (some .long) ({ frames := 0, cells := 0, slots := 0, locals := 0 } : Room) #[(.long x0), (.long x1)] Dr (fun v D' => v = some (.long (own_min x0 x1)) ∧ D' = Dr) := by
  refine Con.of (Jvm.Free.JP.mathPlain rfl (by decide +kernel)) ?_
  intro p e s m below meth c T cx Y
  obtain ⟨hx, hby, hml, hown, hnm, hret, hlk, hZ⟩ := cx
  rw [ef_rm1]
  generalize hF : Fi Z n0 below s _ _ _ = F
  refine Rn.go (T' := T) (g' := (mkF m 3 #[.val (.long x0), .second, .val (.long x1), .second] [(.int (lcmpW x0 x1))])) (fun t k => ?_) ?_
  · show Steps p.tables e below (T.setTop (mkF m 0 #[.val (.long x0), .second, .val (.long x1), .second] [])) t
    refine XS.lloadN Y.here hx rfl (hb hby d1_0) rfl ?_
    show Steps p.tables e below (T.setTop (mkF m 1 #[.val (.long x0), .second, .val (.long x1), .second] [(.long x0)])) t
    refine XS.lloadN Y.here hx rfl (hb hby d1_1) rfl ?_
    show Steps p.tables e below (T.setTop (mkF m 2 #[.val (.long x0), .second, .val (.long x1), .second] [(.long x1), (.long x0)])) t
    refine XS.lcmp Y.here hx rfl (hb hby d1_2) rfl ?_
    show Steps p.tables e below (T.setTop (mkF m 3 #[.val (.long x0), .second, .val (.long x1), .second] [(.int (lcmpW x0 x1))])) t
    exact k
  by_cases hc3 : (0 : Int32) < (lcmpW x0 x1)
  · refine Rn.go (T' := T) (g' := (mkF m 10 #[.val (.long x0), .second, .val (.long x1), .second] [])) (fun t k => XS.ifYes Y.here hx rfl (pc0 := 3) (pc' := 10) rfl (hb hby d1_3) rfl ((if0 _ _).trans (tlt hc3).2.2.1) (by decide) (by decide) k) ?_
    refine Rn.go (T' := T) (g' := (mkF m 11 #[.val (.long x0), .second, .val (.long x1), .second] [(.long x1)])) (fun t k => ?_) ?_
    · show Steps p.tables e below (T.setTop (mkF m 10 #[.val (.long x0), .second, .val (.long x1), .second] [])) t
      refine XS.lloadN Y.here hx rfl (hb hby d1_10) rfl ?_
      show Steps p.tables e below (T.setTop (mkF m 11 #[.val (.long x0), .second, .val (.long x1), .second] [(.long x1)])) t
      exact k
    rw [← hF]; exact On.retj Y hx hret hlk (hb hby d1_11) (by decide) (by decide) ⟨by unfold own_min; rw [if_pos hc3], rfl⟩
  · refine Rn.go (T' := T) (g' := (mkF m 6 #[.val (.long x0), .second, .val (.long x1), .second] [])) (fun t k => XS.ifNo Y.here hx rfl (hb hby d1_3) rfl ((if0 _ _).trans (flt hc3).2.2.1) k) ?_
    refine Rn.go (T' := T) (g' := (mkF m 11 #[.val (.long x0), .second, .val (.long x1), .second] [(.long x0)])) (fun t k => ?_) ?_
    · show Steps p.tables e below (T.setTop (mkF m 6 #[.val (.long x0), .second, .val (.long x1), .second] [])) t
      refine XS.lloadN Y.here hx rfl (hb hby d1_6) rfl ?_
      show Steps p.tables e below (T.setTop (mkF m 7 #[.val (.long x0), .second, .val (.long x1), .second] [(.long x0)])) t
      refine XS.goto Y.here hx rfl (pc0 := 7) (pc' := 11) rfl (hb hby d1_7) (by decide) (by decide) ?_
      show Steps p.tables e below (T.setTop (mkF m 11 #[.val (.long x0), .second, .val (.long x1), .second] [(.long x0)])) t
      exact k
    rw [← hF]; exact On.retj Y hx hret hlk (hb hby d1_11) (by decide) (by decide) ⟨by unfold own_min; rw [if_neg hc3], rfl⟩
def own_max (x0 : Int64) (x1 : Int64) : Int64 := (if (lcmpW x0 x1) < (0 : Int32) then x1 else x0)
theorem ef_rm2 (m : MethodId) (x0 : Int64) (x1 : Int64) : entryFrame m #[(.long x0), (.long x1)] 4 = (mkF m 0 #[.val (.long x0), .second, .val (.long x1), .second] []) := by first | (simp [entryFrame, mkF, argsToLocals, Value.category]; done) | rfl
set_option maxRecDepth 65536 in
set_option maxHeartbeats 40000000 in
theorem rm2 (l : Launch) (Z : State) (a0 : Array Value) (hw : ∀ d ∈ tables_1, d.before a0 Z = true) (n0 : Nat) (x0 : Int64) (x1 : Int64) (Dr : List (Addr × Itm)) :
    Con l Z n0 (⟨"java/lang/Math", "max", "(JJ)J"⟩ : MethodName) jdk_29_method_66_code 4 (some .long) ({ frames := 0, cells := 0, slots := 0, locals := 0 } : Room) #[(.long x0), (.long x1)] Dr (fun v D' => v = some (.long (own_max x0 x1)) ∧ D' = Dr) := by
  refine Con.of (Jvm.Free.JP.mathPlain rfl (by decide +kernel)) ?_
  intro p e s m below meth c T cx Y
  obtain ⟨hx, hby, hml, hown, hnm, hret, hlk, hZ⟩ := cx
  rw [ef_rm2]
  generalize hF : Fi Z n0 below s _ _ _ = F
  refine Rn.go (T' := T) (g' := (mkF m 3 #[.val (.long x0), .second, .val (.long x1), .second] [(.int (lcmpW x0 x1))])) (fun t k => ?_) ?_
  · show Steps p.tables e below (T.setTop (mkF m 0 #[.val (.long x0), .second, .val (.long x1), .second] [])) t
    refine XS.lloadN Y.here hx rfl (hb hby d2_0) rfl ?_
    show Steps p.tables e below (T.setTop (mkF m 1 #[.val (.long x0), .second, .val (.long x1), .second] [(.long x0)])) t
    refine XS.lloadN Y.here hx rfl (hb hby d2_1) rfl ?_
    show Steps p.tables e below (T.setTop (mkF m 2 #[.val (.long x0), .second, .val (.long x1), .second] [(.long x1), (.long x0)])) t
    refine XS.lcmp Y.here hx rfl (hb hby d2_2) rfl ?_
    show Steps p.tables e below (T.setTop (mkF m 3 #[.val (.long x0), .second, .val (.long x1), .second] [(.int (lcmpW x0 x1))])) t
    exact k
  by_cases hc3 : (lcmpW x0 x1) < (0 : Int32)
  · refine Rn.go (T' := T) (g' := (mkF m 10 #[.val (.long x0), .second, .val (.long x1), .second] [])) (fun t k => XS.ifYes Y.here hx rfl (pc0 := 3) (pc' := 10) rfl (hb hby d2_3) rfl ((if0 _ _).trans (tlt hc3).1) (by decide) (by decide) k) ?_
    refine Rn.go (T' := T) (g' := (mkF m 11 #[.val (.long x0), .second, .val (.long x1), .second] [(.long x1)])) (fun t k => ?_) ?_
    · show Steps p.tables e below (T.setTop (mkF m 10 #[.val (.long x0), .second, .val (.long x1), .second] [])) t
      refine XS.lloadN Y.here hx rfl (hb hby d2_10) rfl ?_
      show Steps p.tables e below (T.setTop (mkF m 11 #[.val (.long x0), .second, .val (.long x1), .second] [(.long x1)])) t
      exact k
    rw [← hF]; exact On.retj Y hx hret hlk (hb hby d2_11) (by decide) (by decide) ⟨by unfold own_max; rw [if_pos hc3], rfl⟩
  · refine Rn.go (T' := T) (g' := (mkF m 6 #[.val (.long x0), .second, .val (.long x1), .second] [])) (fun t k => XS.ifNo Y.here hx rfl (hb hby d2_3) rfl ((if0 _ _).trans (flt hc3).1) k) ?_
    refine Rn.go (T' := T) (g' := (mkF m 11 #[.val (.long x0), .second, .val (.long x1), .second] [(.long x0)])) (fun t k => ?_) ?_
    · show Steps p.tables e below (T.setTop (mkF m 6 #[.val (.long x0), .second, .val (.long x1), .second] [])) t
      refine XS.lloadN Y.here hx rfl (hb hby d2_6) rfl ?_
      show Steps p.tables e below (T.setTop (mkF m 7 #[.val (.long x0), .second, .val (.long x1), .second] [(.long x0)])) t
      refine XS.goto Y.here hx rfl (pc0 := 7) (pc' := 11) rfl (hb hby d2_7) (by decide) (by decide) ?_
      show Steps p.tables e below (T.setTop (mkF m 11 #[.val (.long x0), .second, .val (.long x1), .second] [(.long x0)])) t
      exact k
    rw [← hF]; exact On.retj Y hx hret hlk (hb hby d2_11) (by decide) (by decide) ⟨by unfold own_max; rw [if_neg hc3], rfl⟩
theorem ef_rm4 (m : MethodId) (a : Addr) : entryFrame m #[(.ref a)] 1 = (mkF m 0 #[.val (.ref a)] []) := by first | (simp [entryFrame, mkF, argsToLocals, Value.category]; done) | rfl
set_option maxRecDepth 65536 in
set_option maxHeartbeats 40000000 in
theorem rm4 (l : Launch) (Z : State) (a0 : Array Value) (hw : ∀ d ∈ tables_1, d.before a0 Z = true) (n0 : Nat) (a : Addr) (Dr : List (Addr × Itm)) :
    Con l Z n0 (⟨"java/lang/Record", "<init>", "()V"⟩ : MethodName) jdk_30_method_1_code 1 none ({ frames := 1, cells := 0, slots := 0, locals := 12 } : Room) #[(.ref a)] Dr (fun v D' => v = none ∧ D' = Dr) := by
  refine Con.of (plainFor_of_name pn0) ?_
  intro p e s m below meth c T cx Y
  obtain ⟨hx, hby, hml, hown, hnm, hret, hlk, hZ⟩ := cx
  rw [ef_rm4]
  generalize hF : Fi Z n0 below s _ _ _ = F
  refine Rn.go (T' := T) (g' := (mkF m 1 #[.val (.ref a)] [(.ref a)])) (fun t k => ?_) ?_
  · show Steps p.tables e below (T.setTop (mkF m 0 #[.val (.ref a)] [])) t
    refine XS.aloadN Y.here hx rfl (hb hby d4_0) rfl rfl ?_
    show Steps p.tables e below (T.setTop (mkF m 1 #[.val (.ref a)] [(.ref a)])) t
    exact k
  refine On.ini Y hx hZ hown (w18 hw) (w19 hw) (w20 hw) (g := (mkF m 1 #[.val (.ref a)] [(.ref a)])) rfl (by rw [hml]; rfl) rfl (hb hby d4_1) (by decide) (W := 0) (by show 2 * 0 + _ ≤ _; exact Nat.le_of_eq rfl) (by decide) fun T1 Y2 => ?_
  show Rn p e below F T1 (mkF m 4 #[.val (.ref a)] [])
  rw [← hF]; exact On.retv Y2 hx hret hlk (hb hby d4_4) (by decide) (by decide) ⟨rfl, rfl⟩
theorem ef_rm3 (m : MethodId) (a : Addr) (x0 : Int64) (x1 : Int64) : entryFrame m #[(.ref a), (.long x0), (.long x1)] 5 = (mkF m 0 #[.val (.ref a), .val (.long x0), .second, .val (.long x1), .second] []) := by first | (simp [entryFrame, mkF, argsToLocals, Value.category]; done) | rfl
set_option maxRecDepth 65536 in
set_option maxHeartbeats 40000000 in
theorem rm3 (l : Launch) (Z : State) (a0 : Array Value) (hw : ∀ d ∈ tables_1, d.before a0 Z = true) (n0 : Nat) (a : Addr) (x0 : Int64) (x1 : Int64) (Dr : List (Addr × Itm)) (h7 : (0 : Int32) < (lcmpW x1 x0)) :
    Con l Z n0 (⟨"com/example/vistrace/vistrace/history/Interval", "<init>", "(JJ)V"⟩ : MethodName) prog_18_method_1_code 5 none ({ frames := 2, cells := 0, slots := 0, locals := 24 } : Room) #[(.ref a), (.long x0), (.long x1)] ((ob a own_C0 (own_F0 (.long (0 : Int64)) (.long (0 : Int64)))) :: Dr) (fun v D' => v = none ∧ D' = ((ob a own_C0 (own_F0 (.long x0) (.long x1))) :: Dr)) := by
  refine Con.of (plainFor_of_name pn1) ?_
  intro p e s m below meth c T cx Y
  obtain ⟨hx, hby, hml, hown, hnm, hret, hlk, hZ⟩ := cx
  rw [ef_rm3]
  generalize hF : Fi Z n0 below s _ _ _ = F
  refine Rn.go (T' := T) (g' := (mkF m 1 #[.val (.ref a), .val (.long x0), .second, .val (.long x1), .second] [(.ref a)])) (fun t k => ?_) ?_
  · show Steps p.tables e below (T.setTop (mkF m 0 #[.val (.ref a), .val (.long x0), .second, .val (.long x1), .second] [])) t
    refine XS.aloadN Y.here hx rfl (hb hby d3_0) rfl rfl ?_
    show Steps p.tables e below (T.setTop (mkF m 1 #[.val (.ref a), .val (.long x0), .second, .val (.long x1), .second] [(.ref a)])) t
    exact k
  refine On.special Y hx hZ (y := (⟨"java/lang/Record", "<init>", "()V"⟩ : MethodName)) rfl hown (w13 hw) (w14 hw) (w17 hw) (w16 hw) (by decide) (a := a) (argsL := []) (rest := []) (rm4 l Z a0 hw n0 a ((ob a own_C0 (own_F0 (.long (0 : Int64)) (.long (0 : Int64)))) :: Dr)) (W := 0) (by decide) (by decide) (by decide) (by decide) (g := (mkF m 1 #[.val (.ref a), .val (.long x0), .second, .val (.long x1), .second] [(.ref a)])) rfl (by rw [hml]; rfl) (lenOf pd0 rfl) rfl (by show 2 * 0 + _ ≤ _; exact Nat.le_of_eq rfl) (hb hby d3_1) ?_
  intro T1 u3 D4 hp5 Y2
  obtain ⟨rfl, rfl⟩ := hp5
  replace Y2 : On p l e _ s m _ below meth c Z n0 T1 0 0 ((ob a own_C0 (own_F0 (.long (0 : Int64)) (.long (0 : Int64)))) :: Dr) := Y2
  show Rn p e below F T1 (mkF m 4 #[.val (.ref a), .val (.long x0), .second, .val (.long x1), .second] [])
  refine Rn.go (T' := T1) (g' := (mkF m 7 #[.val (.ref a), .val (.long x0), .second, .val (.long x1), .second] [(.int (lcmpW x1 x0))])) (fun t k => ?_) ?_
  · show Steps p.tables e below (T1.setTop (mkF m 4 #[.val (.ref a), .val (.long x0), .second, .val (.long x1), .second] [])) t
    refine XS.lloadN Y2.here hx rfl (hb hby d3_4) rfl ?_
    show Steps p.tables e below (T1.setTop (mkF m 5 #[.val (.ref a), .val (.long x0), .second, .val (.long x1), .second] [(.long x1)])) t
    refine XS.lloadN Y2.here hx rfl (hb hby d3_5) rfl ?_
    show Steps p.tables e below (T1.setTop (mkF m 6 #[.val (.ref a), .val (.long x0), .second, .val (.long x1), .second] [(.long x0), (.long x1)])) t
    refine XS.lcmp Y2.here hx rfl (hb hby d3_6) rfl ?_
    show Steps p.tables e below (T1.setTop (mkF m 7 #[.val (.ref a), .val (.long x0), .second, .val (.long x1), .second] [(.int (lcmpW x1 x0))])) t
    exact k
  refine Rn.go (T' := T1) (g' := (mkF m 25 #[.val (.ref a), .val (.long x0), .second, .val (.long x1), .second] [])) (fun t k => XS.ifYes Y2.here hx rfl (pc0 := 7) (pc' := 25) rfl (hb hby d3_7) rfl ((if0 _ _).trans (tlt h7).2.2.1) (by decide) (by decide) k) ?_
  refine Rn.go (T' := T1) (g' := (mkF m 27 #[.val (.ref a), .val (.long x0), .second, .val (.long x1), .second] [(.long x0), (.ref a)])) (fun t k => ?_) ?_
  · show Steps p.tables e below (T1.setTop (mkF m 25 #[.val (.ref a), .val (.long x0), .second, .val (.long x1), .second] [])) t
    refine XS.aloadN Y2.here hx rfl (hb hby d3_25) rfl rfl ?_
    show Steps p.tables e below (T1.setTop (mkF m 26 #[.val (.ref a), .val (.long x0), .second, .val (.long x1), .second] [(.ref a)])) t
    refine XS.lloadN Y2.here hx rfl (hb hby d3_26) rfl ?_
    show Steps p.tables e below (T1.setTop (mkF m 27 #[.val (.ref a), .val (.long x0), .second, .val (.long x1), .second] [(.long x0), (.ref a)])) t
    exact k
  refine On.putf Y2 hx hZ hown (w21 hw) (i := 0) (j := 0) rfl rfl (Or.inr ⟨(w22 hw), rfl, hnm⟩) (w8 hw) (ty := .long) (by decide) (v' := (.long x0)) rfl rfl (g := (mkF m 27 #[.val (.ref a), .val (.long x0), .second, .val (.long x1), .second] [(.long x0), (.ref a)])) rfl rfl (hb hby d3_27) fun T6 Y7 => ?_
  replace Y7 : On p l e _ s m _ below meth c Z n0 T6 0 0 ((ob a own_C0 (own_F0 (.long x0) (.long (0 : Int64)))) :: Dr) := Y7
  show Rn p e below F T6 (mkF m 30 #[.val (.ref a), .val (.long x0), .second, .val (.long x1), .second] [])
  refine Rn.go (T' := T6) (g' := (mkF m 32 #[.val (.ref a), .val (.long x0), .second, .val (.long x1), .second] [(.long x1), (.ref a)])) (fun t k => ?_) ?_
  · show Steps p.tables e below (T6.setTop (mkF m 30 #[.val (.ref a), .val (.long x0), .second, .val (.long x1), .second] [])) t
    refine XS.aloadN Y7.here hx rfl (hb hby d3_30) rfl rfl ?_
    show Steps p.tables e below (T6.setTop (mkF m 31 #[.val (.ref a), .val (.long x0), .second, .val (.long x1), .second] [(.ref a)])) t
    refine XS.lloadN Y7.here hx rfl (hb hby d3_31) rfl ?_
    show Steps p.tables e below (T6.setTop (mkF m 32 #[.val (.ref a), .val (.long x0), .second, .val (.long x1), .second] [(.long x1), (.ref a)])) t
    exact k
  refine On.putf Y7 hx hZ hown (w23 hw) (i := 0) (j := 1) rfl rfl (Or.inr ⟨(w24 hw), rfl, hnm⟩) (w8 hw) (ty := .long) (by decide) (v' := (.long x1)) rfl rfl (g := (mkF m 32 #[.val (.ref a), .val (.long x0), .second, .val (.long x1), .second] [(.long x1), (.ref a)])) rfl rfl (hb hby d3_32) fun T8 Y9 => ?_
  replace Y9 : On p l e _ s m _ below meth c Z n0 T8 0 0 ((ob a own_C0 (own_F0 (.long x0) (.long x1))) :: Dr) := Y9
  show Rn p e below F T8 (mkF m 35 #[.val (.ref a), .val (.long x0), .second, .val (.long x1), .second] [])
  rw [← hF]; exact On.retv Y9 hx hret hlk (hb hby d3_35) (by decide) (by decide) ⟨rfl, rfl⟩
theorem ef_rm6 (m : MethodId) (a : Addr) : entryFrame m #[(.ref a)] 1 = (mkF m 0 #[.val (.ref a)] []) := by first | (simp [entryFrame, mkF, argsToLocals, Value.category]; done) | rfl
set_option maxRecDepth 65536 in
set_option maxHeartbeats 40000000 in
theorem rm6 (l : Launch) (Z : State) (a0 : Array Value) (hw : ∀ d ∈ tables_1, d.before a0 Z = true) (n0 : Nat) (a : Addr) (x0 : Int64) (x1 : Int64) (Dr : List (Addr × Itm)) :
    Con l Z n0 (⟨"com/example/vistrace/vistrace/history/Interval", "isOpen", "()Z"⟩ : MethodName) prog_18_method_2_code 1 (some .boolean) ({ frames := 0, cells := 0, slots := 0, locals := 0 } : Room) #[(.ref a)] ((ob a own_C0 (own_F0 (.long x0) (.long x1))) :: Dr) (fun v D' => v = some (.int (if (lcmpW x1 (9223372036854775807 : Int64)) = (0 : Int32) then (1 : Int32) else (0 : Int32))) ∧ D' = ((ob a own_C0 (own_F0 (.long x0) (.long x1))) :: Dr)) := by
  refine Con.of (plainFor_of_name pn1) ?_
  intro p e s m below meth c T cx Y
  obtain ⟨hx, hby, hml, hown, hnm, hret, hlk, hZ⟩ := cx
  rw [ef_rm6]
  generalize hF : Fi Z n0 below s _ _ _ = F
  refine Rn.go (T' := T) (g' := (mkF m 1 #[.val (.ref a)] [(.ref a)])) (fun t k => ?_) ?_
  · show Steps p.tables e below (T.setTop (mkF m 0 #[.val (.ref a)] [])) t
    refine XS.aloadN Y.here hx rfl (hb hby d6_0) rfl rfl ?_
    show Steps p.tables e below (T.setTop (mkF m 1 #[.val (.ref a)] [(.ref a)])) t
    exact k
  refine On.getf Y hx hZ hown (w23 hw) (i := 0) (j := 1) rfl rfl (g := (mkF m 1 #[.val (.ref a)] [(.ref a)])) rfl rfl (hb hby d6_1) fun T1 Y2 => ?_
  show Rn p e below F T1 (mkF m 4 #[.val (.ref a)] [(.long x1)])
  refine Rn.go (T' := T1) (g' := (mkF m 8 #[.val (.ref a)] [(.int (lcmpW x1 (9223372036854775807 : Int64)))])) (fun t k => ?_) ?_
  · show Steps p.tables e below (T1.setTop (mkF m 4 #[.val (.ref a)] [(.long x1)])) t
    refine On.sldcJ Y2 hx hZ hown (w30 hw) (g := (mkF m 4 #[.val (.ref a)] [(.long x1)])) rfl (hb hby d6_4) _ ?_
    show Steps p.tables e below (T1.setTop (mkF m 7 #[.val (.ref a)] [(.long (9223372036854775807 : Int64)), (.long x1)])) t
    refine XS.lcmp Y2.here hx rfl (hb hby d6_7) rfl ?_
    show Steps p.tables e below (T1.setTop (mkF m 8 #[.val (.ref a)] [(.int (lcmpW x1 (9223372036854775807 : Int64)))])) t
    exact k
  by_cases hc8 : (lcmpW x1 (9223372036854775807 : Int64)) = (0 : Int32)
  · refine Rn.go (T' := T1) (g' := (mkF m 11 #[.val (.ref a)] [])) (fun t k => XS.ifNo Y2.here hx rfl (hb hby d6_8) rfl ((if0 _ _).trans (teq hc8).2) k) ?_
    refine Rn.go (T' := T1) (g' := (mkF m 16 #[.val (.ref a)] [(.int (1 : Int32))])) (fun t k => ?_) ?_
    · show Steps p.tables e below (T1.setTop (mkF m 11 #[.val (.ref a)] [])) t
      refine XS.iconst Y2.here hx rfl (hb hby d6_11) ?_
      show Steps p.tables e below (T1.setTop (mkF m 12 #[.val (.ref a)] [(.int (1 : Int32))])) t
      refine XS.goto Y2.here hx rfl (pc0 := 12) (pc' := 16) rfl (hb hby d6_12) (by decide) (by decide) ?_
      show Steps p.tables e below (T1.setTop (mkF m 16 #[.val (.ref a)] [(.int (1 : Int32))])) t
      exact k
    rw [← hF]; exact On.retn Y2 hx hret (by simp) hlk (z' := (1 : Int32)) (by decide) (hb hby d6_16) (by decide) (by decide) ⟨by rw [if_pos hc8], rfl⟩
  · refine Rn.go (T' := T1) (g' := (mkF m 15 #[.val (.ref a)] [])) (fun t k => XS.ifYes Y2.here hx rfl (pc0 := 8) (pc' := 15) rfl (hb hby d6_8) rfl ((if0 _ _).trans (feq hc8).2) (by decide) (by decide) k) ?_
    refine Rn.go (T' := T1) (g' := (mkF m 16 #[.val (.ref a)] [(.int (0 : Int32))])) (fun t k => ?_) ?_
    · show Steps p.tables e below (T1.setTop (mkF m 15 #[.val (.ref a)] [])) t
      refine XS.iconst Y2.here hx rfl (hb hby d6_15) ?_
      show Steps p.tables e below (T1.setTop (mkF m 16 #[.val (.ref a)] [(.int (0 : Int32))])) t
      exact k
    rw [← hF]; exact On.retn Y2 hx hret (by simp) hlk (z' := (0 : Int32)) (by decide) (hb hby d6_16) (by decide) (by decide) ⟨by rw [if_neg hc8], rfl⟩
theorem own_c0 (x y : Int64) : lcmpW x y = (0 : Int32) ↔ x = y := by
  rw [own_lcW]
  by_cases h1 : x > y
  · rw [if_pos h1]
    constructor
    · intro h; exact absurd h (by decide)
    · intro h; rw [gt_iff_lt, Int64.lt_iff_toInt_lt, h] at h1; omega
  · rw [if_neg h1]
    by_cases h2 : x = y
    · rw [if_pos h2]; exact ⟨fun _ => h2, fun _ => rfl⟩
    · rw [if_neg h2]; exact ⟨fun h => absurd h (by decide), fun h => absurd h h2⟩
theorem own_c1 (x y : Int64) : (0 : Int32) < lcmpW x y ↔ y < x := by
  rw [own_lcW]
  by_cases h1 : x > y
  · rw [if_pos h1]; exact ⟨fun _ => h1, fun _ => by decide⟩
  · rw [if_neg h1]
    by_cases h2 : x = y
    · rw [if_pos h2]; exact ⟨fun h => absurd h (by decide), fun h => absurd h h1⟩
    · rw [if_neg h2]; exact ⟨fun h => absurd h (by decide), fun h => absurd h h1⟩
theorem own_c2 (x y : Int64) : lcmpW x y < (0 : Int32) ↔ x < y := by
  rw [own_lcW]
  by_cases h1 : x > y
  · rw [if_pos h1]
    refine ⟨fun h => absurd h (by decide), fun h => ?_⟩
    rw [gt_iff_lt, Int64.lt_iff_toInt_lt] at h1; rw [Int64.lt_iff_toInt_lt] at h; omega
  · rw [if_neg h1]
    by_cases h2 : x = y
    · rw [if_pos h2]
      refine ⟨fun h => absurd h (by decide), fun h => ?_⟩
      rw [h2, Int64.lt_iff_toInt_lt] at h; omega
    · rw [if_neg h2]
      refine ⟨fun _ => ?_, fun _ => by decide⟩
      rw [gt_iff_lt, Int64.lt_iff_toInt_lt] at h1; rw [Int64.lt_iff_toInt_lt]
      have : x.toInt ≠ y.toInt := fun q => h2 (Int64.toInt_inj.mp q)
      omega
theorem own_mx : (9223372036854775807 : Int64).toInt = 9223372036854775807 := by decide
theorem own_mn : (-9223372036854775808 : Int64).toInt = -9223372036854775808 := by decide
theorem own_1 : (1 : Int64).toInt = 1 := by decide
theorem own_up {x : Int64} (h : ¬ x = 9223372036854775807) : (x + 1).toInt = x.toInt + 1 := by
  have h1 := x.toInt_lt; have h2 := x.le_toInt
  have h3 : x.toInt ≠ 9223372036854775807 := fun q => h (Int64.toInt_inj.mp (q.trans own_mx.symm))
  rw [Jvm.Kit.i64_add (by rw [own_1]; omega) (by rw [own_1]; omega), own_1]
theorem own_down {x : Int64} (h : ¬ x = -9223372036854775808) : (x - 1).toInt = x.toInt - 1 := by
  have h1 := x.toInt_lt; have h2 := x.le_toInt
  have h3 : x.toInt ≠ -9223372036854775808 := fun q => h (Int64.toInt_inj.mp (q.trans own_mn.symm))
  rw [Jvm.Kit.i64_sub (by rw [own_1]; omega) (by rw [own_1]; omega), own_1]
theorem own_open {x : Int64} {r v : Int32} (h1 : r = (if (lcmpW x (9223372036854775807 : Int64)) = (0 : Int32) then (1 : Int32) else (0 : Int32))) (h2 : v = (if (lcmpW (x + (1 : Int64)) x) < (0 : Int32) then (1 : Int32) else (0 : Int32))) : r = v := by
  rw [h1, h2]
  by_cases q : x = 9223372036854775807
  · subst q; decide
  · have e1 : ¬ (lcmpW x (9223372036854775807 : Int64)) = (0 : Int32) := fun z => q ((own_c0 _ _).mp z)
    have e2 : ¬ (lcmpW (x + (1 : Int64)) x) < (0 : Int32) := fun z => by
      have := (own_c2 _ _).mp z
      rw [Int64.lt_iff_toInt_lt, own_up q] at this; omega
    rw [if_neg e1, if_neg e2]
theorem own_pB {r : Int64} (h : ¬ (lcmpW r (9223372036854775807 : Int64)) = (0 : Int32)) : (0 : Int32) < lcmpW (9223372036854775807 : Int64) r := by
  rw [own_c1, Int64.lt_iff_toInt_lt, own_mx]
  have h1 := r.toInt_lt
  have : r.toInt ≠ 9223372036854775807 := fun q => h ((own_c0 _ _).mpr (Int64.toInt_inj.mp (q.trans own_mx.symm)))
  omega
theorem own_pC {x y r q : Int64} (h1 : r = own_min x y) (h2 : q = own_max x y) (h : ¬ (lcmpW r q) = (0 : Int32)) : (0 : Int32) < lcmpW q r := by
  rw [own_c0] at h
  rw [own_c1]
  unfold own_min at h1; unfold own_max at h2
  simp only [own_c1, own_c2] at h1 h2
  have hn : r.toInt ≠ q.toInt := fun z => h (Int64.toInt_inj.mp z)
  rw [Int64.lt_iff_toInt_lt]
  by_cases z1 : y < x
  · have z1' := z1; rw [Int64.lt_iff_toInt_lt] at z1'
    have z2 : ¬ x < y := by rw [Int64.lt_iff_toInt_lt]; omega
    rw [if_pos z1] at h1; rw [if_neg z2] at h2; subst h1 h2; omega
  · have z1' := z1; rw [Int64.lt_iff_toInt_lt] at z1'
    rw [if_neg z1] at h1
    by_cases z2 : x < y
    · rw [if_pos z2] at h2; subst h1 h2; omega
    · have z2' := z2; rw [Int64.lt_iff_toInt_lt] at z2'
      rw [if_neg z2] at h2; subst h1 h2; omega
theorem own_pD {q : Int64} (h : ¬ (lcmpW q (-9223372036854775808 : Int64)) = (0 : Int32)) : (0 : Int32) < lcmpW q (q - (1 : Int64)) := by
  rw [own_c0] at h
  rw [own_c1, Int64.lt_iff_toInt_lt, own_down h]; omega
theorem own_pE {r q : Int64} (h1 : (lcmpW r q) = (0 : Int32)) (h2 : (lcmpW q (-9223372036854775808 : Int64)) = (0 : Int32)) : (0 : Int32) < lcmpW (r + (1 : Int64)) r := by
  rw [own_c0] at h1 h2
  subst h1 h2; decide
theorem ef_rm0 (m : MethodId) (p0 : Int64) (p1 : Int64) (p2 : Int32) : entryFrame m #[(.long p0), (.long p1), (.int p2)] maxLocals = (mkF m 0 #[.val (.long p0), .second, .val (.long p1), .second, .val (.int p2), .unset, .unset, .unset, .unset, .unset, .unset] []) := by first | (simp [entryFrame, mkF, argsToLocals, Value.category, maxLocals]; done) | rfl
set_option maxRecDepth 65536 in
set_option maxHeartbeats 40000000 in
theorem rm0 (l : Launch) (Z : State) (a0 : Array Value) (hw : ∀ d ∈ tables_1, d.before a0 Z = true) (n0 : Nat) (p0 : Int64) (p1 : Int64) (p2 : Int32) :
    Con l Z n0 x code maxLocals ret room_1 #[(.long p0), (.long p1), (.int p2)] [] (fun v _ => v = some (.int 1)) := by
  refine Con.of (plainFor_of_name pn2) ?_
  intro p e s m below meth c T cx Y
  obtain ⟨hx, hby, hml, hown, hnm, hret, hlk, hZ⟩ := cx
  rw [ef_rm0]
  generalize hF : Fi Z n0 below s _ _ _ = F
  refine Rn.go (T' := T) (g' := (mkF m 2 #[.val (.long p0), .second, .val (.long p1), .second, .val (.int p2), .unset, .unset, .unset, .unset, .unset, .unset] [(.long p1), (.long p0)])) (fun t k => ?_) ?_
  · show Steps p.tables e below (T.setTop (mkF m 0 #[.val (.long p0), .second, .val (.long p1), .second, .val (.int p2), .unset, .unset, .unset, .unset, .unset, .unset] [])) t
    refine XS.lloadN Y.here hx rfl (hb hby at_0) rfl ?_
    show Steps p.tables e below (T.setTop (mkF m 1 #[.val (.long p0), .second, .val (.long p1), .second, .val (.int p2), .unset, .unset, .unset, .unset, .unset, .unset] [(.long p0)])) t
    refine XS.lloadN Y.here hx rfl (hb hby at_1) rfl ?_
    show Steps p.tables e below (T.setTop (mkF m 2 #[.val (.long p0), .second, .val (.long p1), .second, .val (.int p2), .unset, .unset, .unset, .unset, .unset, .unset] [(.long p1), (.long p0)])) t
    exact k
  refine On.static Y hx hZ (y := (⟨"java/lang/Math", "min", "(JJ)J"⟩ : MethodName)) hown (w0 hw) (w1 hw) (w3 hw) (w2 hw) (by decide) (argsL := [(.long p0), (.long p1)]) (rest := []) (rm1 l Z a0 hw n0 p0 p1 []) (W := 0) (by decide) (by decide) (by decide) (by decide) (g := (mkF m 2 #[.val (.long p0), .second, .val (.long p1), .second, .val (.int p2), .unset, .unset, .unset, .unset, .unset, .unset] [(.long p1), (.long p0)])) rfl (by rw [hml]; rfl) (lenOf pd1 rfl) rfl (by show 2 * 0 + _ ≤ _; exact Nat.le_of_eq rfl) (hb hby at_2) ?_
  intro T1 u3 D4 hp5 Y2
  obtain ⟨r2, hr2, rfl, rfl⟩ : ∃ z : Int64, z = (own_min p0 p1) ∧ u3 = some (.long z) ∧ D4 = _ := ⟨_, rfl, hp5.1, hp5.2⟩
  replace Y2 : On p l e _ s m _ below meth c Z n0 T1 0 0 [] := Y2
  show Rn p e below F T1 (mkF m 5 #[.val (.long p0), .second, .val (.long p1), .second, .val (.int p2), .unset, .unset, .unset, .unset, .unset, .unset] [(.long r2)])
  refine Rn.go (T' := T1) (g' := (mkF m 9 #[.val (.long p0), .second, .val (.long p1), .second, .val (.int p2), .val (.long r2), .second, .unset, .unset, .unset, .unset] [(.long p1), (.long p0)])) (fun t k => ?_) ?_
  · show Steps p.tables e below (T1.setTop (mkF m 5 #[.val (.long p0), .second, .val (.long p1), .second, .val (.int p2), .unset, .unset, .unset, .unset, .unset, .unset] [(.long r2)])) t
    refine XS.lstore Y2.here hx rfl (hb hby at_5) rfl (l' := #[.val (.long p0), .second, .val (.long p1), .second, .val (.int p2), .val (.long r2), .second, .unset, .unset, .unset, .unset]) rfl ?_
    show Steps p.tables e below (T1.setTop (mkF m 7 #[.val (.long p0), .second, .val (.long p1), .second, .val (.int p2), .val (.long r2), .second, .unset, .unset, .unset, .unset] [])) t
    refine XS.lloadN Y2.here hx rfl (hb hby at_7) rfl ?_
    show Steps p.tables e below (T1.setTop (mkF m 8 #[.val (.long p0), .second, .val (.long p1), .second, .val (.int p2), .val (.long r2), .second, .unset, .unset, .unset, .unset] [(.long p0)])) t
    refine XS.lloadN Y2.here hx rfl (hb hby at_8) rfl ?_
    show Steps p.tables e below (T1.setTop (mkF m 9 #[.val (.long p0), .second, .val (.long p1), .second, .val (.int p2), .val (.long r2), .second, .unset, .unset, .unset, .unset] [(.long p1), (.long p0)])) t
    exact k
  refine On.static Y2 hx hZ (y := (⟨"java/lang/Math", "max", "(JJ)J"⟩ : MethodName)) hown (w4 hw) (w5 hw) (w6 hw) (w2 hw) (by decide) (argsL := [(.long p0), (.long p1)]) (rest := []) (rm2 l Z a0 hw n0 p0 p1 []) (W := 0) (by decide) (by decide) (by decide) (by decide) (g := (mkF m 9 #[.val (.long p0), .second, .val (.long p1), .second, .val (.int p2), .val (.long r2), .second, .unset, .unset, .unset, .unset] [(.long p1), (.long p0)])) rfl (by rw [hml]; rfl) (lenOf pd1 rfl) rfl (by show 2 * 0 + _ ≤ _; exact Nat.le_of_eq rfl) (hb hby at_9) ?_
  intro T6 u8 D9 hp10 Y7
  obtain ⟨r9, hr9, rfl, rfl⟩ : ∃ z : Int64, z = (own_max p0 p1) ∧ u8 = some (.long z) ∧ D9 = _ := ⟨_, rfl, hp10.1, hp10.2⟩
  replace Y7 : On p l e _ s m _ below meth c Z n0 T6 0 0 [] := Y7
  show Rn p e below F T6 (mkF m 12 #[.val (.long p0), .second, .val (.long p1), .second, .val (.int p2), .val (.long r2), .second, .unset, .unset, .unset, .unset] [(.long r9)])
  refine Rn.go (T' := T6) (g' := (mkF m 18 #[.val (.long p0), .second, .val (.long p1), .second, .val (.int p2), .val (.long r2), .second, .val (.long r9), .second, .unset, .unset] [(.int (p2 &&& (1 : Int32)))])) (fun t k => ?_) ?_
  · show Steps p.tables e below (T6.setTop (mkF m 12 #[.val (.long p0), .second, .val (.long p1), .second, .val (.int p2), .val (.long r2), .second, .unset, .unset, .unset, .unset] [(.long r9)])) t
    refine XS.lstore Y7.here hx rfl (hb hby at_12) rfl (l' := #[.val (.long p0), .second, .val (.long p1), .second, .val (.int p2), .val (.long r2), .second, .val (.long r9), .second, .unset, .unset]) rfl ?_
    show Steps p.tables e below (T6.setTop (mkF m 14 #[.val (.long p0), .second, .val (.long p1), .second, .val (.int p2), .val (.long r2), .second, .val (.long r9), .second, .unset, .unset] [])) t
    refine XS.iload Y7.here hx rfl (hb hby at_14) rfl ?_
    show Steps p.tables e below (T6.setTop (mkF m 16 #[.val (.long p0), .second, .val (.long p1), .second, .val (.int p2), .val (.long r2), .second, .val (.long r9), .second, .unset, .unset] [(.int p2)])) t
    refine XS.iconst Y7.here hx rfl (hb hby at_16) ?_
    show Steps p.tables e below (T6.setTop (mkF m 17 #[.val (.long p0), .second, .val (.long p1), .second, .val (.int p2), .val (.long r2), .second, .val (.long r9), .second, .unset, .unset] [(.int (1 : Int32)), (.int p2)])) t
    refine XS.iand Y7.here hx rfl (hb hby at_17) rfl ?_
    show Steps p.tables e below (T6.setTop (mkF m 18 #[.val (.long p0), .second, .val (.long p1), .second, .val (.int p2), .val (.long r2), .second, .val (.long r9), .second, .unset, .unset] [(.int (p2 &&& (1 : Int32)))])) t
    exact k
  by_cases hc18 : (p2 &&& (1 : Int32)) = (0 : Int32)
  · refine Rn.go (T' := T6) (g' := (mkF m 43 #[.val (.long p0), .second, .val (.long p1), .second, .val (.int p2), .val (.long r2), .second, .val (.long r9), .second, .unset, .unset] [])) (fun t k => XS.ifYes Y7.here hx rfl (pc0 := 18) (pc' := 43) rfl (hb hby at_18) rfl ((if0 _ _).trans (teq hc18).1) (by decide) (by decide) k) ?_
    refine Rn.go (T' := T6) (g' := (mkF m 48 #[.val (.long p0), .second, .val (.long p1), .second, .val (.int p2), .val (.long r2), .second, .val (.long r9), .second, .unset, .unset] [(.int (lcmpW r2 r9))])) (fun t k => ?_) ?_
    · show Steps p.tables e below (T6.setTop (mkF m 43 #[.val (.long p0), .second, .val (.long p1), .second, .val (.int p2), .val (.long r2), .second, .val (.long r9), .second, .unset, .unset] [])) t
      refine XS.lload Y7.here hx rfl (hb hby at_43) rfl ?_
      show Steps p.tables e below (T6.setTop (mkF m 45 #[.val (.long p0), .second, .val (.long p1), .second, .val (.int p2), .val (.long r2), .second, .val (.long r9), .second, .unset, .unset] [(.long r2)])) t
      refine XS.lload Y7.here hx rfl (hb hby at_45) rfl ?_
      show Steps p.tables e below (T6.setTop (mkF m 47 #[.val (.long p0), .second, .val (.long p1), .second, .val (.int p2), .val (.long r2), .second, .val (.long r9), .second, .unset, .unset] [(.long r9), (.long r2)])) t
      refine XS.lcmp Y7.here hx rfl (hb hby at_47) rfl ?_
      show Steps p.tables e below (T6.setTop (mkF m 48 #[.val (.long p0), .second, .val (.long p1), .second, .val (.int p2), .val (.long r2), .second, .val (.long r9), .second, .unset, .unset] [(.int (lcmpW r2 r9))])) t
      exact k
    by_cases hc48 : (lcmpW r2 r9) = (0 : Int32)
    · refine Rn.go (T' := T6) (g' := (mkF m 51 #[.val (.long p0), .second, .val (.long p1), .second, .val (.int p2), .val (.long r2), .second, .val (.long r9), .second, .unset, .unset] [])) (fun t k => XS.ifNo Y7.here hx rfl (hb hby at_48) rfl ((if0 _ _).trans (teq hc48).2) k) ?_
      refine Rn.go (T' := T6) (g' := (mkF m 57 #[.val (.long p0), .second, .val (.long p1), .second, .val (.int p2), .val (.long r2), .second, .val (.long r9), .second, .unset, .unset] [(.int (lcmpW r9 (-9223372036854775808 : Int64)))])) (fun t k => ?_) ?_
      · show Steps p.tables e below (T6.setTop (mkF m 51 #[.val (.long p0), .second, .val (.long p1), .second, .val (.int p2), .val (.long r2), .second, .val (.long r9), .second, .unset, .unset] [])) t
        refine XS.lload Y7.here hx rfl (hb hby at_51) rfl ?_
        show Steps p.tables e below (T6.setTop (mkF m 53 #[.val (.long p0), .second, .val (.long p1), .second, .val (.int p2), .val (.long r2), .second, .val (.long r9), .second, .unset, .unset] [(.long r9)])) t
        refine On.sldcJ Y7 hx hZ hown (w32 hw) (g := (mkF m 53 #[.val (.long p0), .second, .val (.long p1), .second, .val (.int p2), .val (.long r2), .second, .val (.long r9), .second, .unset, .unset] [(.long r9)])) rfl (hb hby at_53) _ ?_
        show Steps p.tables e below (T6.setTop (mkF m 56 #[.val (.long p0), .second, .val (.long p1), .second, .val (.int p2), .val (.long r2), .second, .val (.long r9), .second, .unset, .unset] [(.long (-9223372036854775808 : Int64)), (.long r9)])) t
        refine XS.lcmp Y7.here hx rfl (hb hby at_56) rfl ?_
        show Steps p.tables e below (T6.setTop (mkF m 57 #[.val (.long p0), .second, .val (.long p1), .second, .val (.int p2), .val (.long r2), .second, .val (.long r9), .second, .unset, .unset] [(.int (lcmpW r9 (-9223372036854775808 : Int64)))])) t
        exact k
      by_cases hc57 : (lcmpW r9 (-9223372036854775808 : Int64)) = (0 : Int32)
      · refine Rn.go (T' := T6) (g' := (mkF m 69 #[.val (.long p0), .second, .val (.long p1), .second, .val (.int p2), .val (.long r2), .second, .val (.long r9), .second, .unset, .unset] [])) (fun t k => XS.ifYes Y7.here hx rfl (pc0 := 57) (pc' := 69) rfl (hb hby at_57) rfl ((if0 _ _).trans (teq hc57).1) (by decide) (by decide) k) ?_
        refine Rn.go (T' := T6) (g' := (mkF m 75 #[.val (.long p0), .second, .val (.long p1), .second, .val (.int p2), .val (.long r2), .second, .val (.long (r2 + (1 : Int64))), .second, .unset, .unset] [])) (fun t k => ?_) ?_
        · show Steps p.tables e below (T6.setTop (mkF m 69 #[.val (.long p0), .second, .val (.long p1), .second, .val (.int p2), .val (.long r2), .second, .val (.long r9), .second, .unset, .unset] [])) t
          refine XS.lload Y7.here hx rfl (hb hby at_69) rfl ?_
          show Steps p.tables e below (T6.setTop (mkF m 71 #[.val (.long p0), .second, .val (.long p1), .second, .val (.int p2), .val (.long r2), .second, .val (.long r9), .second, .unset, .unset] [(.long r2)])) t
          refine XS.lconst Y7.here hx rfl (hb hby at_71) ?_
          show Steps p.tables e below (T6.setTop (mkF m 72 #[.val (.long p0), .second, .val (.long p1), .second, .val (.int p2), .val (.long r2), .second, .val (.long r9), .second, .unset, .unset] [(.long (1 : Int64)), (.long r2)])) t
          refine XS.ladd Y7.here hx rfl (hb hby at_72) rfl ?_
          show Steps p.tables e below (T6.setTop (mkF m 73 #[.val (.long p0), .second, .val (.long p1), .second, .val (.int p2), .val (.long r2), .second, .val (.long r9), .second, .unset, .unset] [(.long (r2 + (1 : Int64)))])) t
          refine XS.lstore Y7.here hx rfl (hb hby at_73) rfl (l' := #[.val (.long p0), .second, .val (.long p1), .second, .val (.int p2), .val (.long r2), .second, .val (.long (r2 + (1 : Int64))), .second, .unset, .unset]) rfl ?_
          show Steps p.tables e below (T6.setTop (mkF m 75 #[.val (.long p0), .second, .val (.long p1), .second, .val (.int p2), .val (.long r2), .second, .val (.long (r2 + (1 : Int64))), .second, .unset, .unset] [])) t
          exact k
        refine On.newo Y7 hx hZ hown (w7 hw) (w8 hw) (w9 hw) _ (own_lay_0 hw) (by decide) (g := (mkF m 75 #[.val (.long p0), .second, .val (.long p1), .second, .val (.int p2), .val (.long r2), .second, .val (.long (r2 + (1 : Int64))), .second, .unset, .unset] [])) rfl (hb hby at_75) (by decide) (by decide) fun T11 a13 Y12 => ?_
        replace Y12 : On p l e _ s m _ below meth c Z n0 T11 1 2 [ob a13 own_C0 (own_F0 (.long (0 : Int64)) (.long (0 : Int64)))] := Y12
        show Rn p e below F T11 (mkF m 78 #[.val (.long p0), .second, .val (.long p1), .second, .val (.int p2), .val (.long r2), .second, .val (.long (r2 + (1 : Int64))), .second, .unset, .unset] [(.ref a13)])
        refine Rn.go (T' := T11) (g' := (mkF m 83 #[.val (.long p0), .second, .val (.long p1), .second, .val (.int p2), .val (.long r2), .second, .val (.long (r2 + (1 : Int64))), .second, .unset, .unset] [(.long (r2 + (1 : Int64))), (.long r2), (.ref a13), (.ref a13)])) (fun t k => ?_) ?_
        · show Steps p.tables e below (T11.setTop (mkF m 78 #[.val (.long p0), .second, .val (.long p1), .second, .val (.int p2), .val (.long r2), .second, .val (.long (r2 + (1 : Int64))), .second, .unset, .unset] [(.ref a13)])) t
          refine XS.dup Y12.here hx rfl (hb hby at_78) rfl rfl ?_
          show Steps p.tables e below (T11.setTop (mkF m 79 #[.val (.long p0), .second, .val (.long p1), .second, .val (.int p2), .val (.long r2), .second, .val (.long (r2 + (1 : Int64))), .second, .unset, .unset] [(.ref a13), (.ref a13)])) t
          refine XS.lload Y12.here hx rfl (hb hby at_79) rfl ?_
          show Steps p.tables e below (T11.setTop (mkF m 81 #[.val (.long p0), .second, .val (.long p1), .second, .val (.int p2), .val (.long r2), .second, .val (.long (r2 + (1 : Int64))), .second, .unset, .unset] [(.long r2), (.ref a13), (.ref a13)])) t
          refine XS.lload Y12.here hx rfl (hb hby at_81) rfl ?_
          show Steps p.tables e below (T11.setTop (mkF m 83 #[.val (.long p0), .second, .val (.long p1), .second, .val (.int p2), .val (.long r2), .second, .val (.long (r2 + (1 : Int64))), .second, .unset, .unset] [(.long (r2 + (1 : Int64))), (.long r2), (.ref a13), (.ref a13)])) t
          exact k
        refine On.special Y12 hx hZ (y := (⟨"com/example/vistrace/vistrace/history/Interval", "<init>", "(JJ)V"⟩ : MethodName)) rfl hown (w10 hw) (w11 hw) (w12 hw) (w9 hw) (by decide) (a := a13) (argsL := [(.long r2), (.long (r2 + (1 : Int64)))]) (rest := [(.ref a13)]) (rm3 l Z a0 hw n0 a13 r2 (r2 + (1 : Int64)) [] (own_pE hc48 hc57)) (W := 1) (by decide) (by decide) (by decide) (by decide) (g := (mkF m 83 #[.val (.long p0), .second, .val (.long p1), .second, .val (.int p2), .val (.long r2), .second, .val (.long (r2 + (1 : Int64))), .second, .unset, .unset] [(.long (r2 + (1 : Int64))), (.long r2), (.ref a13), (.ref a13)])) rfl (by rw [hml]; rfl) (lenOf pd2 rfl) rfl (by show 2 * 0 + _ ≤ _; exact Nat.le_of_eq rfl) (hb hby at_83) ?_
        intro T14 u16 D17 hp18 Y15
        obtain ⟨rfl, rfl⟩ := hp18
        replace Y15 : On p l e _ s m _ below meth c Z n0 T14 1 2 [ob a13 own_C0 (own_F0 (.long r2) (.long (r2 + (1 : Int64))))] := Y15
        show Rn p e below F T14 (mkF m 86 #[.val (.long p0), .second, .val (.long p1), .second, .val (.int p2), .val (.long r2), .second, .val (.long (r2 + (1 : Int64))), .second, .unset, .unset] [(.ref a13)])
        refine Rn.go (T' := T14) (g' := (mkF m 95 #[.val (.long p0), .second, .val (.long p1), .second, .val (.int p2), .val (.long r2), .second, .val (.long (r2 + (1 : Int64))), .second, .val (.ref a13), .unset] [(.int (lcmpW ((r2 + (1 : Int64)) + (1 : Int64)) (r2 + (1 : Int64))))])) (fun t k => ?_) ?_
        · show Steps p.tables e below (T14.setTop (mkF m 86 #[.val (.long p0), .second, .val (.long p1), .second, .val (.int p2), .val (.long r2), .second, .val (.long (r2 + (1 : Int64))), .second, .unset, .unset] [(.ref a13)])) t
          refine XS.astore Y15.here hx rfl (hb hby at_86) rfl rfl (l' := #[.val (.long p0), .second, .val (.long p1), .second, .val (.int p2), .val (.long r2), .second, .val (.long (r2 + (1 : Int64))), .second, .val (.ref a13), .unset]) rfl ?_
          show Steps p.tables e below (T14.setTop (mkF m 88 #[.val (.long p0), .second, .val (.long p1), .second, .val (.int p2), .val (.long r2), .second, .val (.long (r2 + (1 : Int64))), .second, .val (.ref a13), .unset] [])) t
          refine XS.lload Y15.here hx rfl (hb hby at_88) rfl ?_
          show Steps p.tables e below (T14.setTop (mkF m 90 #[.val (.long p0), .second, .val (.long p1), .second, .val (.int p2), .val (.long r2), .second, .val (.long (r2 + (1 : Int64))), .second, .val (.ref a13), .unset] [(.long (r2 + (1 : Int64)))])) t
          refine XS.lconst Y15.here hx rfl (hb hby at_90) ?_
          show Steps p.tables e below (T14.setTop (mkF m 91 #[.val (.long p0), .second, .val (.long p1), .second, .val (.int p2), .val (.long r2), .second, .val (.long (r2 + (1 : Int64))), .second, .val (.ref a13), .unset] [(.long (1 : Int64)), (.long (r2 + (1 : Int64)))])) t
          refine XS.ladd Y15.here hx rfl (hb hby at_91) rfl ?_
          show Steps p.tables e below (T14.setTop (mkF m 92 #[.val (.long p0), .second, .val (.long p1), .second, .val (.int p2), .val (.long r2), .second, .val (.long (r2 + (1 : Int64))), .second, .val (.ref a13), .unset] [(.long ((r2 + (1 : Int64)) + (1 : Int64)))])) t
          refine XS.lload Y15.here hx rfl (hb hby at_92) rfl ?_
          show Steps p.tables e below (T14.setTop (mkF m 94 #[.val (.long p0), .second, .val (.long p1), .second, .val (.int p2), .val (.long r2), .second, .val (.long (r2 + (1 : Int64))), .second, .val (.ref a13), .unset] [(.long (r2 + (1 : Int64))), (.long ((r2 + (1 : Int64)) + (1 : Int64)))])) t
          refine XS.lcmp Y15.here hx rfl (hb hby at_94) rfl ?_
          show Steps p.tables e below (T14.setTop (mkF m 95 #[.val (.long p0), .second, .val (.long p1), .second, .val (.int p2), .val (.long r2), .second, .val (.long (r2 + (1 : Int64))), .second, .val (.ref a13), .unset] [(.int (lcmpW ((r2 + (1 : Int64)) + (1 : Int64)) (r2 + (1 : Int64))))])) t
          exact k
        obtain ⟨v103, hv103⟩ : ∃ z : Int32, z = (if (lcmpW ((r2 + (1 : Int64)) + (1 : Int64)) (r2 + (1 : Int64))) < (0 : Int32) then (1 : Int32) else (0 : Int32)) := ⟨_, rfl⟩
        refine Rn.go (T' := T14) (g' := (mkF m 103 #[.val (.long p0), .second, .val (.long p1), .second, .val (.int p2), .val (.long r2), .second, .val (.long (r2 + (1 : Int64))), .second, .val (.ref a13), .unset] [(.int v103)])) (fun t k => ?_) ?_
        · show Steps p.tables e below (T14.setTop (mkF m 95 #[.val (.long p0), .second, .val (.long p1), .second, .val (.int p2), .val (.long r2), .second, .val (.long (r2 + (1 : Int64))), .second, .val (.ref a13), .unset] [(.int (lcmpW ((r2 + (1 : Int64)) + (1 : Int64)) (r2 + (1 : Int64))))])) t
          by_cases hc95 : (lcmpW ((r2 + (1 : Int64)) + (1 : Int64)) (r2 + (1 : Int64))) < (0 : Int32)
          · refine XS.ifNo Y15.here hx rfl (hb hby at_95) rfl ((if0 _ _).trans (tlt hc95).2.1) ?_
            show Steps p.tables e below (T14.setTop (mkF m 98 #[.val (.long p0), .second, .val (.long p1), .second, .val (.int p2), .val (.long r2), .second, .val (.long (r2 + (1 : Int64))), .second, .val (.ref a13), .unset] [])) t
            refine XS.iconst Y15.here hx rfl (hb hby at_98) ?_
            show Steps p.tables e below (T14.setTop (mkF m 99 #[.val (.long p0), .second, .val (.long p1), .second, .val (.int p2), .val (.long r2), .second, .val (.long (r2 + (1 : Int64))), .second, .val (.ref a13), .unset] [(.int (1 : Int32))])) t
            refine XS.goto Y15.here hx rfl (pc0 := 99) (pc' := 103) rfl (hb hby at_99) (by decide) (by decide) ?_
            show Steps p.tables e below (T14.setTop (mkF m 103 #[.val (.long p0), .second, .val (.long p1), .second, .val (.int p2), .val (.long r2), .second, .val (.long (r2 + (1 : Int64))), .second, .val (.ref a13), .unset] [(.int (1 : Int32))])) t
            rw [hv103, if_pos hc95] at k
            exact k
          · refine XS.ifYes Y15.here hx rfl (pc0 := 95) (pc' := 102) rfl (hb hby at_95) rfl ((if0 _ _).trans (flt hc95).2.1) (by decide) (by decide) ?_
            show Steps p.tables e below (T14.setTop (mkF m 102 #[.val (.long p0), .second, .val (.long p1), .second, .val (.int p2), .val (.long r2), .second, .val (.long (r2 + (1 : Int64))), .second, .val (.ref a13), .unset] [])) t
            refine XS.iconst Y15.here hx rfl (hb hby at_102) ?_
            show Steps p.tables e below (T14.setTop (mkF m 103 #[.val (.long p0), .second, .val (.long p1), .second, .val (.int p2), .val (.long r2), .second, .val (.long (r2 + (1 : Int64))), .second, .val (.ref a13), .unset] [(.int (0 : Int32))])) t
            rw [hv103, if_neg hc95] at k
            exact k
        refine Rn.go (T' := T14) (g' := (mkF m 107 #[.val (.long p0), .second, .val (.long p1), .second, .val (.int p2), .val (.long r2), .second, .val (.long (r2 + (1 : Int64))), .second, .val (.ref a13), .val (.int v103)] [(.ref a13)])) (fun t k => ?_) ?_
        · show Steps p.tables e below (T14.setTop (mkF m 103 #[.val (.long p0), .second, .val (.long p1), .second, .val (.int p2), .val (.long r2), .second, .val (.long (r2 + (1 : Int64))), .second, .val (.ref a13), .unset] [(.int v103)])) t
          refine XS.istore Y15.here hx rfl (hb hby at_103) rfl (l' := #[.val (.long p0), .second, .val (.long p1), .second, .val (.int p2), .val (.long r2), .second, .val (.long (r2 + (1 : Int64))), .second, .val (.ref a13), .val (.int v103)]) rfl ?_
          show Steps p.tables e below (T14.setTop (mkF m 105 #[.val (.long p0), .second, .val (.long p1), .second, .val (.int p2), .val (.long r2), .second, .val (.long (r2 + (1 : Int64))), .second, .val (.ref a13), .val (.int v103)] [])) t
          refine XS.aload Y15.here hx rfl (hb hby at_105) rfl rfl ?_
          show Steps p.tables e below (T14.setTop (mkF m 107 #[.val (.long p0), .second, .val (.long p1), .second, .val (.int p2), .val (.long r2), .second, .val (.long (r2 + (1 : Int64))), .second, .val (.ref a13), .val (.int v103)] [(.ref a13)])) t
          exact k
        refine On.virtual Y15 hx hZ (y := (⟨"com/example/vistrace/vistrace/history/Interval", "isOpen", "()Z"⟩ : MethodName)) (C := "com/example/vistrace/vistrace/history/Interval") hown (w25 hw) (w26 hw) (w27 hw) (w28 hw) (w29 hw) (w9 hw) (by decide) (a := a13) (argsL := []) (rest := []) (i := 0) rfl (rm6 l Z a0 hw n0 a13 r2 (r2 + (1 : Int64)) []) (W := 0) (by decide) (by decide) (by decide) (by decide) (g := (mkF m 107 #[.val (.long p0), .second, .val (.long p1), .second, .val (.int p2), .val (.long r2), .second, .val (.long (r2 + (1 : Int64))), .second, .val (.ref a13), .val (.int v103)] [(.ref a13)])) rfl (by rw [hml]; rfl) (lenOf pd3 rfl) rfl (by show 2 * 0 + _ ≤ _; exact Nat.le_of_eq rfl) (hb hby at_107) ?_
        intro T19 u21 D22 hp23 Y20
        obtain ⟨r107, hr107, rfl, rfl⟩ : ∃ z : Int32, z = (if (lcmpW (r2 + (1 : Int64)) (9223372036854775807 : Int64)) = (0 : Int32) then (1 : Int32) else (0 : Int32)) ∧ u21 = some (.int z) ∧ D22 = _ := ⟨_, rfl, hp23.1, hp23.2⟩
        replace Y20 : On p l e _ s m _ below meth c Z n0 T19 1 2 [ob a13 own_C0 (own_F0 (.long r2) (.long (r2 + (1 : Int64))))] := Y20
        show Rn p e below F T19 (mkF m 110 #[.val (.long p0), .second, .val (.long p1), .second, .val (.int p2), .val (.long r2), .second, .val (.long (r2 + (1 : Int64))), .second, .val (.ref a13), .val (.int v103)] [(.int r107)])
        refine Rn.go (T' := T19) (g' := (mkF m 112 #[.val (.long p0), .second, .val (.long p1), .second, .val (.int p2), .val (.long r2), .second, .val (.long (r2 + (1 : Int64))), .second, .val (.ref a13), .val (.int v103)] [(.int v103), (.int r107)])) (fun t k => ?_) ?_
        · show Steps p.tables e below (T19.setTop (mkF m 110 #[.val (.long p0), .second, .val (.long p1), .second, .val (.int p2), .val (.long r2), .second, .val (.long (r2 + (1 : Int64))), .second, .val (.ref a13), .val (.int v103)] [(.int r107)])) t
          refine XS.iload Y20.here hx rfl (hb hby at_110) rfl ?_
          show Steps p.tables e below (T19.setTop (mkF m 112 #[.val (.long p0), .second, .val (.long p1), .second, .val (.int p2), .val (.long r2), .second, .val (.long (r2 + (1 : Int64))), .second, .val (.ref a13), .val (.int v103)] [(.int v103), (.int r107)])) t
          exact k
        refine Rn.go (T' := T19) (g' := (mkF m 115 #[.val (.long p0), .second, .val (.long p1), .second, .val (.int p2), .val (.long r2), .second, .val (.long (r2 + (1 : Int64))), .second, .val (.ref a13), .val (.int v103)] [])) (fun t k => XS.icmpNo Y20.here hx rfl (hb hby at_112) rfl (teq (own_open hr107 hv103)).2 k) ?_
        refine Rn.go (T' := T19) (g' := (mkF m 120 #[.val (.long p0), .second, .val (.long p1), .second, .val (.int p2), .val (.long r2), .second, .val (.long (r2 + (1 : Int64))), .second, .val (.ref a13), .val (.int v103)] [(.int (1 : Int32))])) (fun t k => ?_) ?_
        · show Steps p.tables e below (T19.setTop (mkF m 115 #[.val (.long p0), .second, .val (.long p1), .second, .val (.int p2), .val (.long r2), .second, .val (.long (r2 + (1 : Int64))), .second, .val (.ref a13), .val (.int v103)] [])) t
          refine XS.iconst Y20.here hx rfl (hb hby at_115) ?_
          show Steps p.tables e below (T19.setTop (mkF m 116 #[.val (.long p0), .second, .val (.long p1), .second, .val (.int p2), .val (.long r2), .second, .val (.long (r2 + (1 : Int64))), .second, .val (.ref a13), .val (.int v103)] [(.int (1 : Int32))])) t
          refine XS.goto Y20.here hx rfl (pc0 := 116) (pc' := 120) rfl (hb hby at_116) (by decide) (by decide) ?_
          show Steps p.tables e below (T19.setTop (mkF m 120 #[.val (.long p0), .second, .val (.long p1), .second, .val (.int p2), .val (.long r2), .second, .val (.long (r2 + (1 : Int64))), .second, .val (.ref a13), .val (.int v103)] [(.int (1 : Int32))])) t
          exact k
        rw [← hF]; exact On.retn Y20 hx hret (by simp) hlk (z' := (1 : Int32)) (by decide) (hb hby at_120) (by decide) (by decide) rfl
      · refine Rn.go (T' := T6) (g' := (mkF m 60 #[.val (.long p0), .second, .val (.long p1), .second, .val (.int p2), .val (.long r2), .second, .val (.long r9), .second, .unset, .unset] [])) (fun t k => XS.ifNo Y7.here hx rfl (hb hby at_57) rfl ((if0 _ _).trans (feq hc57).1) k) ?_
        refine Rn.go (T' := T6) (g' := (mkF m 75 #[.val (.long p0), .second, .val (.long p1), .second, .val (.int p2), .val (.long (r9 - (1 : Int64))), .second, .val (.long r9), .second, .unset, .unset] [])) (fun t k => ?_) ?_
        · show Steps p.tables e below (T6.setTop (mkF m 60 #[.val (.long p0), .second, .val (.long p1), .second, .val (.int p2), .val (.long r2), .second, .val (.long r9), .second, .unset, .unset] [])) t
          refine XS.lload Y7.here hx rfl (hb hby at_60) rfl ?_
          show Steps p.tables e below (T6.setTop (mkF m 62 #[.val (.long p0), .second, .val (.long p1), .second, .val (.int p2), .val (.long r2), .second, .val (.long r9), .second, .unset, .unset] [(.long r9)])) t
          refine XS.lconst Y7.here hx rfl (hb hby at_62) ?_
          show Steps p.tables e below (T6.setTop (mkF m 63 #[.val (.long p0), .second, .val (.long p1), .second, .val (.int p2), .val (.long r2), .second, .val (.long r9), .second, .unset, .unset] [(.long (1 : Int64)), (.long r9)])) t
          refine XS.lsub Y7.here hx rfl (hb hby at_63) rfl ?_
          show Steps p.tables e below (T6.setTop (mkF m 64 #[.val (.long p0), .second, .val (.long p1), .second, .val (.int p2), .val (.long r2), .second, .val (.long r9), .second, .unset, .unset] [(.long (r9 - (1 : Int64)))])) t
          refine XS.lstore Y7.here hx rfl (hb hby at_64) rfl (l' := #[.val (.long p0), .second, .val (.long p1), .second, .val (.int p2), .val (.long (r9 - (1 : Int64))), .second, .val (.long r9), .second, .unset, .unset]) rfl ?_
          show Steps p.tables e below (T6.setTop (mkF m 66 #[.val (.long p0), .second, .val (.long p1), .second, .val (.int p2), .val (.long (r9 - (1 : Int64))), .second, .val (.long r9), .second, .unset, .unset] [])) t
          refine XS.goto Y7.here hx rfl (pc0 := 66) (pc' := 75) rfl (hb hby at_66) (by decide) (by decide) ?_
          show Steps p.tables e below (T6.setTop (mkF m 75 #[.val (.long p0), .second, .val (.long p1), .second, .val (.int p2), .val (.long (r9 - (1 : Int64))), .second, .val (.long r9), .second, .unset, .unset] [])) t
          exact k
        refine On.newo Y7 hx hZ hown (w7 hw) (w8 hw) (w9 hw) _ (own_lay_0 hw) (by decide) (g := (mkF m 75 #[.val (.long p0), .second, .val (.long p1), .second, .val (.int p2), .val (.long (r9 - (1 : Int64))), .second, .val (.long r9), .second, .unset, .unset] [])) rfl (hb hby at_75) (by decide) (by decide) fun T24 a26 Y25 => ?_
        replace Y25 : On p l e _ s m _ below meth c Z n0 T24 1 2 [ob a26 own_C0 (own_F0 (.long (0 : Int64)) (.long (0 : Int64)))] := Y25
        show Rn p e below F T24 (mkF m 78 #[.val (.long p0), .second, .val (.long p1), .second, .val (.int p2), .val (.long (r9 - (1 : Int64))), .second, .val (.long r9), .second, .unset, .unset] [(.ref a26)])
        refine Rn.go (T' := T24) (g' := (mkF m 83 #[.val (.long p0), .second, .val (.long p1), .second, .val (.int p2), .val (.long (r9 - (1 : Int64))), .second, .val (.long r9), .second, .unset, .unset] [(.long r9), (.long (r9 - (1 : Int64))), (.ref a26), (.ref a26)])) (fun t k => ?_) ?_
        · show Steps p.tables e below (T24.setTop (mkF m 78 #[.val (.long p0), .second, .val (.long p1), .second, .val (.int p2), .val (.long (r9 - (1 : Int64))), .second, .val (.long r9), .second, .unset, .unset] [(.ref a26)])) t
          refine XS.dup Y25.here hx rfl (hb hby at_78) rfl rfl ?_
          show Steps p.tables e below (T24.setTop (mkF m 79 #[.val (.long p0), .second, .val (.long p1), .second, .val (.int p2), .val (.long (r9 - (1 : Int64))), .second, .val (.long r9), .second, .unset, .unset] [(.ref a26), (.ref a26)])) t
          refine XS.lload Y25.here hx rfl (hb hby at_79) rfl ?_
          show Steps p.tables e below (T24.setTop (mkF m 81 #[.val (.long p0), .second, .val (.long p1), .second, .val (.int p2), .val (.long (r9 - (1 : Int64))), .second, .val (.long r9), .second, .unset, .unset] [(.long (r9 - (1 : Int64))), (.ref a26), (.ref a26)])) t
          refine XS.lload Y25.here hx rfl (hb hby at_81) rfl ?_
          show Steps p.tables e below (T24.setTop (mkF m 83 #[.val (.long p0), .second, .val (.long p1), .second, .val (.int p2), .val (.long (r9 - (1 : Int64))), .second, .val (.long r9), .second, .unset, .unset] [(.long r9), (.long (r9 - (1 : Int64))), (.ref a26), (.ref a26)])) t
          exact k
        refine On.special Y25 hx hZ (y := (⟨"com/example/vistrace/vistrace/history/Interval", "<init>", "(JJ)V"⟩ : MethodName)) rfl hown (w10 hw) (w11 hw) (w12 hw) (w9 hw) (by decide) (a := a26) (argsL := [(.long (r9 - (1 : Int64))), (.long r9)]) (rest := [(.ref a26)]) (rm3 l Z a0 hw n0 a26 (r9 - (1 : Int64)) r9 [] (own_pD hc57)) (W := 1) (by decide) (by decide) (by decide) (by decide) (g := (mkF m 83 #[.val (.long p0), .second, .val (.long p1), .second, .val (.int p2), .val (.long (r9 - (1 : Int64))), .second, .val (.long r9), .second, .unset, .unset] [(.long r9), (.long (r9 - (1 : Int64))), (.ref a26), (.ref a26)])) rfl (by rw [hml]; rfl) (lenOf pd2 rfl) rfl (by show 2 * 0 + _ ≤ _; exact Nat.le_of_eq rfl) (hb hby at_83) ?_
        intro T27 u29 D30 hp31 Y28
        obtain ⟨rfl, rfl⟩ := hp31
        replace Y28 : On p l e _ s m _ below meth c Z n0 T27 1 2 [ob a26 own_C0 (own_F0 (.long (r9 - (1 : Int64))) (.long r9))] := Y28
        show Rn p e below F T27 (mkF m 86 #[.val (.long p0), .second, .val (.long p1), .second, .val (.int p2), .val (.long (r9 - (1 : Int64))), .second, .val (.long r9), .second, .unset, .unset] [(.ref a26)])
        refine Rn.go (T' := T27) (g' := (mkF m 95 #[.val (.long p0), .second, .val (.long p1), .second, .val (.int p2), .val (.long (r9 - (1 : Int64))), .second, .val (.long r9), .second, .val (.ref a26), .unset] [(.int (lcmpW (r9 + (1 : Int64)) r9))])) (fun t k => ?_) ?_
        · show Steps p.tables e below (T27.setTop (mkF m 86 #[.val (.long p0), .second, .val (.long p1), .second, .val (.int p2), .val (.long (r9 - (1 : Int64))), .second, .val (.long r9), .second, .unset, .unset] [(.ref a26)])) t
          refine XS.astore Y28.here hx rfl (hb hby at_86) rfl rfl (l' := #[.val (.long p0), .second, .val (.long p1), .second, .val (.int p2), .val (.long (r9 - (1 : Int64))), .second, .val (.long r9), .second, .val (.ref a26), .unset]) rfl ?_
          show Steps p.tables e below (T27.setTop (mkF m 88 #[.val (.long p0), .second, .val (.long p1), .second, .val (.int p2), .val (.long (r9 - (1 : Int64))), .second, .val (.long r9), .second, .val (.ref a26), .unset] [])) t
          refine XS.lload Y28.here hx rfl (hb hby at_88) rfl ?_
          show Steps p.tables e below (T27.setTop (mkF m 90 #[.val (.long p0), .second, .val (.long p1), .second, .val (.int p2), .val (.long (r9 - (1 : Int64))), .second, .val (.long r9), .second, .val (.ref a26), .unset] [(.long r9)])) t
          refine XS.lconst Y28.here hx rfl (hb hby at_90) ?_
          show Steps p.tables e below (T27.setTop (mkF m 91 #[.val (.long p0), .second, .val (.long p1), .second, .val (.int p2), .val (.long (r9 - (1 : Int64))), .second, .val (.long r9), .second, .val (.ref a26), .unset] [(.long (1 : Int64)), (.long r9)])) t
          refine XS.ladd Y28.here hx rfl (hb hby at_91) rfl ?_
          show Steps p.tables e below (T27.setTop (mkF m 92 #[.val (.long p0), .second, .val (.long p1), .second, .val (.int p2), .val (.long (r9 - (1 : Int64))), .second, .val (.long r9), .second, .val (.ref a26), .unset] [(.long (r9 + (1 : Int64)))])) t
          refine XS.lload Y28.here hx rfl (hb hby at_92) rfl ?_
          show Steps p.tables e below (T27.setTop (mkF m 94 #[.val (.long p0), .second, .val (.long p1), .second, .val (.int p2), .val (.long (r9 - (1 : Int64))), .second, .val (.long r9), .second, .val (.ref a26), .unset] [(.long r9), (.long (r9 + (1 : Int64)))])) t
          refine XS.lcmp Y28.here hx rfl (hb hby at_94) rfl ?_
          show Steps p.tables e below (T27.setTop (mkF m 95 #[.val (.long p0), .second, .val (.long p1), .second, .val (.int p2), .val (.long (r9 - (1 : Int64))), .second, .val (.long r9), .second, .val (.ref a26), .unset] [(.int (lcmpW (r9 + (1 : Int64)) r9))])) t
          exact k
        obtain ⟨v103, hv103⟩ : ∃ z : Int32, z = (if (lcmpW (r9 + (1 : Int64)) r9) < (0 : Int32) then (1 : Int32) else (0 : Int32)) := ⟨_, rfl⟩
        refine Rn.go (T' := T27) (g' := (mkF m 103 #[.val (.long p0), .second, .val (.long p1), .second, .val (.int p2), .val (.long (r9 - (1 : Int64))), .second, .val (.long r9), .second, .val (.ref a26), .unset] [(.int v103)])) (fun t k => ?_) ?_
        · show Steps p.tables e below (T27.setTop (mkF m 95 #[.val (.long p0), .second, .val (.long p1), .second, .val (.int p2), .val (.long (r9 - (1 : Int64))), .second, .val (.long r9), .second, .val (.ref a26), .unset] [(.int (lcmpW (r9 + (1 : Int64)) r9))])) t
          by_cases hc95 : (lcmpW (r9 + (1 : Int64)) r9) < (0 : Int32)
          · refine XS.ifNo Y28.here hx rfl (hb hby at_95) rfl ((if0 _ _).trans (tlt hc95).2.1) ?_
            show Steps p.tables e below (T27.setTop (mkF m 98 #[.val (.long p0), .second, .val (.long p1), .second, .val (.int p2), .val (.long (r9 - (1 : Int64))), .second, .val (.long r9), .second, .val (.ref a26), .unset] [])) t
            refine XS.iconst Y28.here hx rfl (hb hby at_98) ?_
            show Steps p.tables e below (T27.setTop (mkF m 99 #[.val (.long p0), .second, .val (.long p1), .second, .val (.int p2), .val (.long (r9 - (1 : Int64))), .second, .val (.long r9), .second, .val (.ref a26), .unset] [(.int (1 : Int32))])) t
            refine XS.goto Y28.here hx rfl (pc0 := 99) (pc' := 103) rfl (hb hby at_99) (by decide) (by decide) ?_
            show Steps p.tables e below (T27.setTop (mkF m 103 #[.val (.long p0), .second, .val (.long p1), .second, .val (.int p2), .val (.long (r9 - (1 : Int64))), .second, .val (.long r9), .second, .val (.ref a26), .unset] [(.int (1 : Int32))])) t
            rw [hv103, if_pos hc95] at k
            exact k
          · refine XS.ifYes Y28.here hx rfl (pc0 := 95) (pc' := 102) rfl (hb hby at_95) rfl ((if0 _ _).trans (flt hc95).2.1) (by decide) (by decide) ?_
            show Steps p.tables e below (T27.setTop (mkF m 102 #[.val (.long p0), .second, .val (.long p1), .second, .val (.int p2), .val (.long (r9 - (1 : Int64))), .second, .val (.long r9), .second, .val (.ref a26), .unset] [])) t
            refine XS.iconst Y28.here hx rfl (hb hby at_102) ?_
            show Steps p.tables e below (T27.setTop (mkF m 103 #[.val (.long p0), .second, .val (.long p1), .second, .val (.int p2), .val (.long (r9 - (1 : Int64))), .second, .val (.long r9), .second, .val (.ref a26), .unset] [(.int (0 : Int32))])) t
            rw [hv103, if_neg hc95] at k
            exact k
        refine Rn.go (T' := T27) (g' := (mkF m 107 #[.val (.long p0), .second, .val (.long p1), .second, .val (.int p2), .val (.long (r9 - (1 : Int64))), .second, .val (.long r9), .second, .val (.ref a26), .val (.int v103)] [(.ref a26)])) (fun t k => ?_) ?_
        · show Steps p.tables e below (T27.setTop (mkF m 103 #[.val (.long p0), .second, .val (.long p1), .second, .val (.int p2), .val (.long (r9 - (1 : Int64))), .second, .val (.long r9), .second, .val (.ref a26), .unset] [(.int v103)])) t
          refine XS.istore Y28.here hx rfl (hb hby at_103) rfl (l' := #[.val (.long p0), .second, .val (.long p1), .second, .val (.int p2), .val (.long (r9 - (1 : Int64))), .second, .val (.long r9), .second, .val (.ref a26), .val (.int v103)]) rfl ?_
          show Steps p.tables e below (T27.setTop (mkF m 105 #[.val (.long p0), .second, .val (.long p1), .second, .val (.int p2), .val (.long (r9 - (1 : Int64))), .second, .val (.long r9), .second, .val (.ref a26), .val (.int v103)] [])) t
          refine XS.aload Y28.here hx rfl (hb hby at_105) rfl rfl ?_
          show Steps p.tables e below (T27.setTop (mkF m 107 #[.val (.long p0), .second, .val (.long p1), .second, .val (.int p2), .val (.long (r9 - (1 : Int64))), .second, .val (.long r9), .second, .val (.ref a26), .val (.int v103)] [(.ref a26)])) t
          exact k
        refine On.virtual Y28 hx hZ (y := (⟨"com/example/vistrace/vistrace/history/Interval", "isOpen", "()Z"⟩ : MethodName)) (C := "com/example/vistrace/vistrace/history/Interval") hown (w25 hw) (w26 hw) (w27 hw) (w28 hw) (w29 hw) (w9 hw) (by decide) (a := a26) (argsL := []) (rest := []) (i := 0) rfl (rm6 l Z a0 hw n0 a26 (r9 - (1 : Int64)) r9 []) (W := 0) (by decide) (by decide) (by decide) (by decide) (g := (mkF m 107 #[.val (.long p0), .second, .val (.long p1), .second, .val (.int p2), .val (.long (r9 - (1 : Int64))), .second, .val (.long r9), .second, .val (.ref a26), .val (.int v103)] [(.ref a26)])) rfl (by rw [hml]; rfl) (lenOf pd3 rfl) rfl (by show 2 * 0 + _ ≤ _; exact Nat.le_of_eq rfl) (hb hby at_107) ?_
        intro T32 u34 D35 hp36 Y33
        obtain ⟨r107, hr107, rfl, rfl⟩ : ∃ z : Int32, z = (if (lcmpW r9 (9223372036854775807 : Int64)) = (0 : Int32) then (1 : Int32) else (0 : Int32)) ∧ u34 = some (.int z) ∧ D35 = _ := ⟨_, rfl, hp36.1, hp36.2⟩
        replace Y33 : On p l e _ s m _ below meth c Z n0 T32 1 2 [ob a26 own_C0 (own_F0 (.long (r9 - (1 : Int64))) (.long r9))] := Y33
        show Rn p e below F T32 (mkF m 110 #[.val (.long p0), .second, .val (.long p1), .second, .val (.int p2), .val (.long (r9 - (1 : Int64))), .second, .val (.long r9), .second, .val (.ref a26), .val (.int v103)] [(.int r107)])
        refine Rn.go (T' := T32) (g' := (mkF m 112 #[.val (.long p0), .second, .val (.long p1), .second, .val (.int p2), .val (.long (r9 - (1 : Int64))), .second, .val (.long r9), .second, .val (.ref a26), .val (.int v103)] [(.int v103), (.int r107)])) (fun t k => ?_) ?_
        · show Steps p.tables e below (T32.setTop (mkF m 110 #[.val (.long p0), .second, .val (.long p1), .second, .val (.int p2), .val (.long (r9 - (1 : Int64))), .second, .val (.long r9), .second, .val (.ref a26), .val (.int v103)] [(.int r107)])) t
          refine XS.iload Y33.here hx rfl (hb hby at_110) rfl ?_
          show Steps p.tables e below (T32.setTop (mkF m 112 #[.val (.long p0), .second, .val (.long p1), .second, .val (.int p2), .val (.long (r9 - (1 : Int64))), .second, .val (.long r9), .second, .val (.ref a26), .val (.int v103)] [(.int v103), (.int r107)])) t
          exact k
        refine Rn.go (T' := T32) (g' := (mkF m 115 #[.val (.long p0), .second, .val (.long p1), .second, .val (.int p2), .val (.long (r9 - (1 : Int64))), .second, .val (.long r9), .second, .val (.ref a26), .val (.int v103)] [])) (fun t k => XS.icmpNo Y33.here hx rfl (hb hby at_112) rfl (teq (own_open hr107 hv103)).2 k) ?_
        refine Rn.go (T' := T32) (g' := (mkF m 120 #[.val (.long p0), .second, .val (.long p1), .second, .val (.int p2), .val (.long (r9 - (1 : Int64))), .second, .val (.long r9), .second, .val (.ref a26), .val (.int v103)] [(.int (1 : Int32))])) (fun t k => ?_) ?_
        · show Steps p.tables e below (T32.setTop (mkF m 115 #[.val (.long p0), .second, .val (.long p1), .second, .val (.int p2), .val (.long (r9 - (1 : Int64))), .second, .val (.long r9), .second, .val (.ref a26), .val (.int v103)] [])) t
          refine XS.iconst Y33.here hx rfl (hb hby at_115) ?_
          show Steps p.tables e below (T32.setTop (mkF m 116 #[.val (.long p0), .second, .val (.long p1), .second, .val (.int p2), .val (.long (r9 - (1 : Int64))), .second, .val (.long r9), .second, .val (.ref a26), .val (.int v103)] [(.int (1 : Int32))])) t
          refine XS.goto Y33.here hx rfl (pc0 := 116) (pc' := 120) rfl (hb hby at_116) (by decide) (by decide) ?_
          show Steps p.tables e below (T32.setTop (mkF m 120 #[.val (.long p0), .second, .val (.long p1), .second, .val (.int p2), .val (.long (r9 - (1 : Int64))), .second, .val (.long r9), .second, .val (.ref a26), .val (.int v103)] [(.int (1 : Int32))])) t
          exact k
        rw [← hF]; exact On.retn Y33 hx hret (by simp) hlk (z' := (1 : Int32)) (by decide) (hb hby at_120) (by decide) (by decide) rfl
    · refine Rn.go (T' := T6) (g' := (mkF m 75 #[.val (.long p0), .second, .val (.long p1), .second, .val (.int p2), .val (.long r2), .second, .val (.long r9), .second, .unset, .unset] [])) (fun t k => XS.ifYes Y7.here hx rfl (pc0 := 48) (pc' := 75) rfl (hb hby at_48) rfl ((if0 _ _).trans (feq hc48).2) (by decide) (by decide) k) ?_
      refine On.newo Y7 hx hZ hown (w7 hw) (w8 hw) (w9 hw) _ (own_lay_0 hw) (by decide) (g := (mkF m 75 #[.val (.long p0), .second, .val (.long p1), .second, .val (.int p2), .val (.long r2), .second, .val (.long r9), .second, .unset, .unset] [])) rfl (hb hby at_75) (by decide) (by decide) fun T37 a39 Y38 => ?_
      replace Y38 : On p l e _ s m _ below meth c Z n0 T37 1 2 [ob a39 own_C0 (own_F0 (.long (0 : Int64)) (.long (0 : Int64)))] := Y38
      show Rn p e below F T37 (mkF m 78 #[.val (.long p0), .second, .val (.long p1), .second, .val (.int p2), .val (.long r2), .second, .val (.long r9), .second, .unset, .unset] [(.ref a39)])
      refine Rn.go (T' := T37) (g' := (mkF m 83 #[.val (.long p0), .second, .val (.long p1), .second, .val (.int p2), .val (.long r2), .second, .val (.long r9), .second, .unset, .unset] [(.long r9), (.long r2), (.ref a39), (.ref a39)])) (fun t k => ?_) ?_
      · show Steps p.tables e below (T37.setTop (mkF m 78 #[.val (.long p0), .second, .val (.long p1), .second, .val (.int p2), .val (.long r2), .second, .val (.long r9), .second, .unset, .unset] [(.ref a39)])) t
        refine XS.dup Y38.here hx rfl (hb hby at_78) rfl rfl ?_
        show Steps p.tables e below (T37.setTop (mkF m 79 #[.val (.long p0), .second, .val (.long p1), .second, .val (.int p2), .val (.long r2), .second, .val (.long r9), .second, .unset, .unset] [(.ref a39), (.ref a39)])) t
        refine XS.lload Y38.here hx rfl (hb hby at_79) rfl ?_
        show Steps p.tables e below (T37.setTop (mkF m 81 #[.val (.long p0), .second, .val (.long p1), .second, .val (.int p2), .val (.long r2), .second, .val (.long r9), .second, .unset, .unset] [(.long r2), (.ref a39), (.ref a39)])) t
        refine XS.lload Y38.here hx rfl (hb hby at_81) rfl ?_
        show Steps p.tables e below (T37.setTop (mkF m 83 #[.val (.long p0), .second, .val (.long p1), .second, .val (.int p2), .val (.long r2), .second, .val (.long r9), .second, .unset, .unset] [(.long r9), (.long r2), (.ref a39), (.ref a39)])) t
        exact k
      refine On.special Y38 hx hZ (y := (⟨"com/example/vistrace/vistrace/history/Interval", "<init>", "(JJ)V"⟩ : MethodName)) rfl hown (w10 hw) (w11 hw) (w12 hw) (w9 hw) (by decide) (a := a39) (argsL := [(.long r2), (.long r9)]) (rest := [(.ref a39)]) (rm3 l Z a0 hw n0 a39 r2 r9 [] (own_pC hr2 hr9 hc48)) (W := 1) (by decide) (by decide) (by decide) (by decide) (g := (mkF m 83 #[.val (.long p0), .second, .val (.long p1), .second, .val (.int p2), .val (.long r2), .second, .val (.long r9), .second, .unset, .unset] [(.long r9), (.long r2), (.ref a39), (.ref a39)])) rfl (by rw [hml]; rfl) (lenOf pd2 rfl) rfl (by show 2 * 0 + _ ≤ _; exact Nat.le_of_eq rfl) (hb hby at_83) ?_
      intro T40 u42 D43 hp44 Y41
      obtain ⟨rfl, rfl⟩ := hp44
      replace Y41 : On p l e _ s m _ below meth c Z n0 T40 1 2 [ob a39 own_C0 (own_F0 (.long r2) (.long r9))] := Y41
      show Rn p e below F T40 (mkF m 86 #[.val (.long p0), .second, .val (.long p1), .second, .val (.int p2), .val (.long r2), .second, .val (.long r9), .second, .unset, .unset] [(.ref a39)])
      refine Rn.go (T' := T40) (g' := (mkF m 95 #[.val (.long p0), .second, .val (.long p1), .second, .val (.int p2), .val (.long r2), .second, .val (.long r9), .second, .val (.ref a39), .unset] [(.int (lcmpW (r9 + (1 : Int64)) r9))])) (fun t k => ?_) ?_
      · show Steps p.tables e below (T40.setTop (mkF m 86 #[.val (.long p0), .second, .val (.long p1), .second, .val (.int p2), .val (.long r2), .second, .val (.long r9), .second, .unset, .unset] [(.ref a39)])) t
        refine XS.astore Y41.here hx rfl (hb hby at_86) rfl rfl (l' := #[.val (.long p0), .second, .val (.long p1), .second, .val (.int p2), .val (.long r2), .second, .val (.long r9), .second, .val (.ref a39), .unset]) rfl ?_
        show Steps p.tables e below (T40.setTop (mkF m 88 #[.val (.long p0), .second, .val (.long p1), .second, .val (.int p2), .val (.long r2), .second, .val (.long r9), .second, .val (.ref a39), .unset] [])) t
        refine XS.lload Y41.here hx rfl (hb hby at_88) rfl ?_
        show Steps p.tables e below (T40.setTop (mkF m 90 #[.val (.long p0), .second, .val (.long p1), .second, .val (.int p2), .val (.long r2), .second, .val (.long r9), .second, .val (.ref a39), .unset] [(.long r9)])) t
        refine XS.lconst Y41.here hx rfl (hb hby at_90) ?_
        show Steps p.tables e below (T40.setTop (mkF m 91 #[.val (.long p0), .second, .val (.long p1), .second, .val (.int p2), .val (.long r2), .second, .val (.long r9), .second, .val (.ref a39), .unset] [(.long (1 : Int64)), (.long r9)])) t
        refine XS.ladd Y41.here hx rfl (hb hby at_91) rfl ?_
        show Steps p.tables e below (T40.setTop (mkF m 92 #[.val (.long p0), .second, .val (.long p1), .second, .val (.int p2), .val (.long r2), .second, .val (.long r9), .second, .val (.ref a39), .unset] [(.long (r9 + (1 : Int64)))])) t
        refine XS.lload Y41.here hx rfl (hb hby at_92) rfl ?_
        show Steps p.tables e below (T40.setTop (mkF m 94 #[.val (.long p0), .second, .val (.long p1), .second, .val (.int p2), .val (.long r2), .second, .val (.long r9), .second, .val (.ref a39), .unset] [(.long r9), (.long (r9 + (1 : Int64)))])) t
        refine XS.lcmp Y41.here hx rfl (hb hby at_94) rfl ?_
        show Steps p.tables e below (T40.setTop (mkF m 95 #[.val (.long p0), .second, .val (.long p1), .second, .val (.int p2), .val (.long r2), .second, .val (.long r9), .second, .val (.ref a39), .unset] [(.int (lcmpW (r9 + (1 : Int64)) r9))])) t
        exact k
      obtain ⟨v103, hv103⟩ : ∃ z : Int32, z = (if (lcmpW (r9 + (1 : Int64)) r9) < (0 : Int32) then (1 : Int32) else (0 : Int32)) := ⟨_, rfl⟩
      refine Rn.go (T' := T40) (g' := (mkF m 103 #[.val (.long p0), .second, .val (.long p1), .second, .val (.int p2), .val (.long r2), .second, .val (.long r9), .second, .val (.ref a39), .unset] [(.int v103)])) (fun t k => ?_) ?_
      · show Steps p.tables e below (T40.setTop (mkF m 95 #[.val (.long p0), .second, .val (.long p1), .second, .val (.int p2), .val (.long r2), .second, .val (.long r9), .second, .val (.ref a39), .unset] [(.int (lcmpW (r9 + (1 : Int64)) r9))])) t
        by_cases hc95 : (lcmpW (r9 + (1 : Int64)) r9) < (0 : Int32)
        · refine XS.ifNo Y41.here hx rfl (hb hby at_95) rfl ((if0 _ _).trans (tlt hc95).2.1) ?_
          show Steps p.tables e below (T40.setTop (mkF m 98 #[.val (.long p0), .second, .val (.long p1), .second, .val (.int p2), .val (.long r2), .second, .val (.long r9), .second, .val (.ref a39), .unset] [])) t
          refine XS.iconst Y41.here hx rfl (hb hby at_98) ?_
          show Steps p.tables e below (T40.setTop (mkF m 99 #[.val (.long p0), .second, .val (.long p1), .second, .val (.int p2), .val (.long r2), .second, .val (.long r9), .second, .val (.ref a39), .unset] [(.int (1 : Int32))])) t
          refine XS.goto Y41.here hx rfl (pc0 := 99) (pc' := 103) rfl (hb hby at_99) (by decide) (by decide) ?_
          show Steps p.tables e below (T40.setTop (mkF m 103 #[.val (.long p0), .second, .val (.long p1), .second, .val (.int p2), .val (.long r2), .second, .val (.long r9), .second, .val (.ref a39), .unset] [(.int (1 : Int32))])) t
          rw [hv103, if_pos hc95] at k
          exact k
        · refine XS.ifYes Y41.here hx rfl (pc0 := 95) (pc' := 102) rfl (hb hby at_95) rfl ((if0 _ _).trans (flt hc95).2.1) (by decide) (by decide) ?_
          show Steps p.tables e below (T40.setTop (mkF m 102 #[.val (.long p0), .second, .val (.long p1), .second, .val (.int p2), .val (.long r2), .second, .val (.long r9), .second, .val (.ref a39), .unset] [])) t
          refine XS.iconst Y41.here hx rfl (hb hby at_102) ?_
          show Steps p.tables e below (T40.setTop (mkF m 103 #[.val (.long p0), .second, .val (.long p1), .second, .val (.int p2), .val (.long r2), .second, .val (.long r9), .second, .val (.ref a39), .unset] [(.int (0 : Int32))])) t
          rw [hv103, if_neg hc95] at k
          exact k
      refine Rn.go (T' := T40) (g' := (mkF m 107 #[.val (.long p0), .second, .val (.long p1), .second, .val (.int p2), .val (.long r2), .second, .val (.long r9), .second, .val (.ref a39), .val (.int v103)] [(.ref a39)])) (fun t k => ?_) ?_
      · show Steps p.tables e below (T40.setTop (mkF m 103 #[.val (.long p0), .second, .val (.long p1), .second, .val (.int p2), .val (.long r2), .second, .val (.long r9), .second, .val (.ref a39), .unset] [(.int v103)])) t
        refine XS.istore Y41.here hx rfl (hb hby at_103) rfl (l' := #[.val (.long p0), .second, .val (.long p1), .second, .val (.int p2), .val (.long r2), .second, .val (.long r9), .second, .val (.ref a39), .val (.int v103)]) rfl ?_
        show Steps p.tables e below (T40.setTop (mkF m 105 #[.val (.long p0), .second, .val (.long p1), .second, .val (.int p2), .val (.long r2), .second, .val (.long r9), .second, .val (.ref a39), .val (.int v103)] [])) t
        refine XS.aload Y41.here hx rfl (hb hby at_105) rfl rfl ?_
        show Steps p.tables e below (T40.setTop (mkF m 107 #[.val (.long p0), .second, .val (.long p1), .second, .val (.int p2), .val (.long r2), .second, .val (.long r9), .second, .val (.ref a39), .val (.int v103)] [(.ref a39)])) t
        exact k
      refine On.virtual Y41 hx hZ (y := (⟨"com/example/vistrace/vistrace/history/Interval", "isOpen", "()Z"⟩ : MethodName)) (C := "com/example/vistrace/vistrace/history/Interval") hown (w25 hw) (w26 hw) (w27 hw) (w28 hw) (w29 hw) (w9 hw) (by decide) (a := a39) (argsL := []) (rest := []) (i := 0) rfl (rm6 l Z a0 hw n0 a39 r2 r9 []) (W := 0) (by decide) (by decide) (by decide) (by decide) (g := (mkF m 107 #[.val (.long p0), .second, .val (.long p1), .second, .val (.int p2), .val (.long r2), .second, .val (.long r9), .second, .val (.ref a39), .val (.int v103)] [(.ref a39)])) rfl (by rw [hml]; rfl) (lenOf pd3 rfl) rfl (by show 2 * 0 + _ ≤ _; exact Nat.le_of_eq rfl) (hb hby at_107) ?_
      intro T45 u47 D48 hp49 Y46
      obtain ⟨r107, hr107, rfl, rfl⟩ : ∃ z : Int32, z = (if (lcmpW r9 (9223372036854775807 : Int64)) = (0 : Int32) then (1 : Int32) else (0 : Int32)) ∧ u47 = some (.int z) ∧ D48 = _ := ⟨_, rfl, hp49.1, hp49.2⟩
      replace Y46 : On p l e _ s m _ below meth c Z n0 T45 1 2 [ob a39 own_C0 (own_F0 (.long r2) (.long r9))] := Y46
      show Rn p e below F T45 (mkF m 110 #[.val (.long p0), .second, .val (.long p1), .second, .val (.int p2), .val (.long r2), .second, .val (.long r9), .second, .val (.ref a39), .val (.int v103)] [(.int r107)])
      refine Rn.go (T' := T45) (g' := (mkF m 112 #[.val (.long p0), .second, .val (.long p1), .second, .val (.int p2), .val (.long r2), .second, .val (.long r9), .second, .val (.ref a39), .val (.int v103)] [(.int v103), (.int r107)])) (fun t k => ?_) ?_
      · show Steps p.tables e below (T45.setTop (mkF m 110 #[.val (.long p0), .second, .val (.long p1), .second, .val (.int p2), .val (.long r2), .second, .val (.long r9), .second, .val (.ref a39), .val (.int v103)] [(.int r107)])) t
        refine XS.iload Y46.here hx rfl (hb hby at_110) rfl ?_
        show Steps p.tables e below (T45.setTop (mkF m 112 #[.val (.long p0), .second, .val (.long p1), .second, .val (.int p2), .val (.long r2), .second, .val (.long r9), .second, .val (.ref a39), .val (.int v103)] [(.int v103), (.int r107)])) t
        exact k
      refine Rn.go (T' := T45) (g' := (mkF m 115 #[.val (.long p0), .second, .val (.long p1), .second, .val (.int p2), .val (.long r2), .second, .val (.long r9), .second, .val (.ref a39), .val (.int v103)] [])) (fun t k => XS.icmpNo Y46.here hx rfl (hb hby at_112) rfl (teq (own_open hr107 hv103)).2 k) ?_
      refine Rn.go (T' := T45) (g' := (mkF m 120 #[.val (.long p0), .second, .val (.long p1), .second, .val (.int p2), .val (.long r2), .second, .val (.long r9), .second, .val (.ref a39), .val (.int v103)] [(.int (1 : Int32))])) (fun t k => ?_) ?_
      · show Steps p.tables e below (T45.setTop (mkF m 115 #[.val (.long p0), .second, .val (.long p1), .second, .val (.int p2), .val (.long r2), .second, .val (.long r9), .second, .val (.ref a39), .val (.int v103)] [])) t
        refine XS.iconst Y46.here hx rfl (hb hby at_115) ?_
        show Steps p.tables e below (T45.setTop (mkF m 116 #[.val (.long p0), .second, .val (.long p1), .second, .val (.int p2), .val (.long r2), .second, .val (.long r9), .second, .val (.ref a39), .val (.int v103)] [(.int (1 : Int32))])) t
        refine XS.goto Y46.here hx rfl (pc0 := 116) (pc' := 120) rfl (hb hby at_116) (by decide) (by decide) ?_
        show Steps p.tables e below (T45.setTop (mkF m 120 #[.val (.long p0), .second, .val (.long p1), .second, .val (.int p2), .val (.long r2), .second, .val (.long r9), .second, .val (.ref a39), .val (.int v103)] [(.int (1 : Int32))])) t
        exact k
      rw [← hF]; exact On.retn Y46 hx hret (by simp) hlk (z' := (1 : Int32)) (by decide) (hb hby at_120) (by decide) (by decide) rfl
  · refine Rn.go (T' := T6) (g' := (mkF m 21 #[.val (.long p0), .second, .val (.long p1), .second, .val (.int p2), .val (.long r2), .second, .val (.long r9), .second, .unset, .unset] [])) (fun t k => XS.ifNo Y7.here hx rfl (hb hby at_18) rfl ((if0 _ _).trans (feq hc18).1) k) ?_
    refine Rn.go (T' := T6) (g' := (mkF m 32 #[.val (.long p0), .second, .val (.long p1), .second, .val (.int p2), .val (.long r2), .second, .val (.long (9223372036854775807 : Int64)), .second, .unset, .unset] [(.int (lcmpW r2 (9223372036854775807 : Int64)))])) (fun t k => ?_) ?_
    · show Steps p.tables e below (T6.setTop (mkF m 21 #[.val (.long p0), .second, .val (.long p1), .second, .val (.int p2), .val (.long r2), .second, .val (.long r9), .second, .unset, .unset] [])) t
      refine On.sldcJ Y7 hx hZ hown (w31 hw) (g := (mkF m 21 #[.val (.long p0), .second, .val (.long p1), .second, .val (.int p2), .val (.long r2), .second, .val (.long r9), .second, .unset, .unset] [])) rfl (hb hby at_21) _ ?_
      show Steps p.tables e below (T6.setTop (mkF m 24 #[.val (.long p0), .second, .val (.long p1), .second, .val (.int p2), .val (.long r2), .second, .val (.long r9), .second, .unset, .unset] [(.long (9223372036854775807 : Int64))])) t
      refine XS.lstore Y7.here hx rfl (hb hby at_24) rfl (l' := #[.val (.long p0), .second, .val (.long p1), .second, .val (.int p2), .val (.long r2), .second, .val (.long (9223372036854775807 : Int64)), .second, .unset, .unset]) rfl ?_
      show Steps p.tables e below (T6.setTop (mkF m 26 #[.val (.long p0), .second, .val (.long p1), .second, .val (.int p2), .val (.long r2), .second, .val (.long (9223372036854775807 : Int64)), .second, .unset, .unset] [])) t
      refine XS.lload Y7.here hx rfl (hb hby at_26) rfl ?_
      show Steps p.tables e below (T6.setTop (mkF m 28 #[.val (.long p0), .second, .val (.long p1), .second, .val (.int p2), .val (.long r2), .second, .val (.long (9223372036854775807 : Int64)), .second, .unset, .unset] [(.long r2)])) t
      refine On.sldcJ Y7 hx hZ hown (w31 hw) (g := (mkF m 28 #[.val (.long p0), .second, .val (.long p1), .second, .val (.int p2), .val (.long r2), .second, .val (.long (9223372036854775807 : Int64)), .second, .unset, .unset] [(.long r2)])) rfl (hb hby at_28) _ ?_
      show Steps p.tables e below (T6.setTop (mkF m 31 #[.val (.long p0), .second, .val (.long p1), .second, .val (.int p2), .val (.long r2), .second, .val (.long (9223372036854775807 : Int64)), .second, .unset, .unset] [(.long (9223372036854775807 : Int64)), (.long r2)])) t
      refine XS.lcmp Y7.here hx rfl (hb hby at_31) rfl ?_
      show Steps p.tables e below (T6.setTop (mkF m 32 #[.val (.long p0), .second, .val (.long p1), .second, .val (.int p2), .val (.long r2), .second, .val (.long (9223372036854775807 : Int64)), .second, .unset, .unset] [(.int (lcmpW r2 (9223372036854775807 : Int64)))])) t
      exact k
    by_cases hc32 : (lcmpW r2 (9223372036854775807 : Int64)) = (0 : Int32)
    · refine Rn.go (T' := T6) (g' := (mkF m 35 #[.val (.long p0), .second, .val (.long p1), .second, .val (.int p2), .val (.long r2), .second, .val (.long (9223372036854775807 : Int64)), .second, .unset, .unset] [])) (fun t k => XS.ifNo Y7.here hx rfl (hb hby at_32) rfl ((if0 _ _).trans (teq hc32).2) k) ?_
      refine Rn.go (T' := T6) (g' := (mkF m 75 #[.val (.long p0), .second, .val (.long p1), .second, .val (.int p2), .val (.long (9223372036854775806 : Int64)), .second, .val (.long (9223372036854775807 : Int64)), .second, .unset, .unset] [])) (fun t k => ?_) ?_
      · show Steps p.tables e below (T6.setTop (mkF m 35 #[.val (.long p0), .second, .val (.long p1), .second, .val (.int p2), .val (.long r2), .second, .val (.long (9223372036854775807 : Int64)), .second, .unset, .unset] [])) t
        refine On.sldcJ Y7 hx hZ hown (w33 hw) (g := (mkF m 35 #[.val (.long p0), .second, .val (.long p1), .second, .val (.int p2), .val (.long r2), .second, .val (.long (9223372036854775807 : Int64)), .second, .unset, .unset] [])) rfl (hb hby at_35) _ ?_
        show Steps p.tables e below (T6.setTop (mkF m 38 #[.val (.long p0), .second, .val (.long p1), .second, .val (.int p2), .val (.long r2), .second, .val (.long (9223372036854775807 : Int64)), .second, .unset, .unset] [(.long (9223372036854775806 : Int64))])) t
        refine XS.lstore Y7.here hx rfl (hb hby at_38) rfl (l' := #[.val (.long p0), .second, .val (.long p1), .second, .val (.int p2), .val (.long (9223372036854775806 : Int64)), .second, .val (.long (9223372036854775807 : Int64)), .second, .unset, .unset]) rfl ?_
        show Steps p.tables e below (T6.setTop (mkF m 40 #[.val (.long p0), .second, .val (.long p1), .second, .val (.int p2), .val (.long (9223372036854775806 : Int64)), .second, .val (.long (9223372036854775807 : Int64)), .second, .unset, .unset] [])) t
        refine XS.goto Y7.here hx rfl (pc0 := 40) (pc' := 75) rfl (hb hby at_40) (by decide) (by decide) ?_
        show Steps p.tables e below (T6.setTop (mkF m 75 #[.val (.long p0), .second, .val (.long p1), .second, .val (.int p2), .val (.long (9223372036854775806 : Int64)), .second, .val (.long (9223372036854775807 : Int64)), .second, .unset, .unset] [])) t
        exact k
      refine On.newo Y7 hx hZ hown (w7 hw) (w8 hw) (w9 hw) _ (own_lay_0 hw) (by decide) (g := (mkF m 75 #[.val (.long p0), .second, .val (.long p1), .second, .val (.int p2), .val (.long (9223372036854775806 : Int64)), .second, .val (.long (9223372036854775807 : Int64)), .second, .unset, .unset] [])) rfl (hb hby at_75) (by decide) (by decide) fun T50 a52 Y51 => ?_
      replace Y51 : On p l e _ s m _ below meth c Z n0 T50 1 2 [ob a52 own_C0 (own_F0 (.long (0 : Int64)) (.long (0 : Int64)))] := Y51
      show Rn p e below F T50 (mkF m 78 #[.val (.long p0), .second, .val (.long p1), .second, .val (.int p2), .val (.long (9223372036854775806 : Int64)), .second, .val (.long (9223372036854775807 : Int64)), .second, .unset, .unset] [(.ref a52)])
      refine Rn.go (T' := T50) (g' := (mkF m 83 #[.val (.long p0), .second, .val (.long p1), .second, .val (.int p2), .val (.long (9223372036854775806 : Int64)), .second, .val (.long (9223372036854775807 : Int64)), .second, .unset, .unset] [(.long (9223372036854775807 : Int64)), (.long (9223372036854775806 : Int64)), (.ref a52), (.ref a52)])) (fun t k => ?_) ?_
      · show Steps p.tables e below (T50.setTop (mkF m 78 #[.val (.long p0), .second, .val (.long p1), .second, .val (.int p2), .val (.long (9223372036854775806 : Int64)), .second, .val (.long (9223372036854775807 : Int64)), .second, .unset, .unset] [(.ref a52)])) t
        refine XS.dup Y51.here hx rfl (hb hby at_78) rfl rfl ?_
        show Steps p.tables e below (T50.setTop (mkF m 79 #[.val (.long p0), .second, .val (.long p1), .second, .val (.int p2), .val (.long (9223372036854775806 : Int64)), .second, .val (.long (9223372036854775807 : Int64)), .second, .unset, .unset] [(.ref a52), (.ref a52)])) t
        refine XS.lload Y51.here hx rfl (hb hby at_79) rfl ?_
        show Steps p.tables e below (T50.setTop (mkF m 81 #[.val (.long p0), .second, .val (.long p1), .second, .val (.int p2), .val (.long (9223372036854775806 : Int64)), .second, .val (.long (9223372036854775807 : Int64)), .second, .unset, .unset] [(.long (9223372036854775806 : Int64)), (.ref a52), (.ref a52)])) t
        refine XS.lload Y51.here hx rfl (hb hby at_81) rfl ?_
        show Steps p.tables e below (T50.setTop (mkF m 83 #[.val (.long p0), .second, .val (.long p1), .second, .val (.int p2), .val (.long (9223372036854775806 : Int64)), .second, .val (.long (9223372036854775807 : Int64)), .second, .unset, .unset] [(.long (9223372036854775807 : Int64)), (.long (9223372036854775806 : Int64)), (.ref a52), (.ref a52)])) t
        exact k
      refine On.special Y51 hx hZ (y := (⟨"com/example/vistrace/vistrace/history/Interval", "<init>", "(JJ)V"⟩ : MethodName)) rfl hown (w10 hw) (w11 hw) (w12 hw) (w9 hw) (by decide) (a := a52) (argsL := [(.long (9223372036854775806 : Int64)), (.long (9223372036854775807 : Int64))]) (rest := [(.ref a52)]) (rm3 l Z a0 hw n0 a52 (9223372036854775806 : Int64) (9223372036854775807 : Int64) [] (by decide)) (W := 1) (by decide) (by decide) (by decide) (by decide) (g := (mkF m 83 #[.val (.long p0), .second, .val (.long p1), .second, .val (.int p2), .val (.long (9223372036854775806 : Int64)), .second, .val (.long (9223372036854775807 : Int64)), .second, .unset, .unset] [(.long (9223372036854775807 : Int64)), (.long (9223372036854775806 : Int64)), (.ref a52), (.ref a52)])) rfl (by rw [hml]; rfl) (lenOf pd2 rfl) rfl (by show 2 * 0 + _ ≤ _; exact Nat.le_of_eq rfl) (hb hby at_83) ?_
      intro T53 u55 D56 hp57 Y54
      obtain ⟨rfl, rfl⟩ := hp57
      replace Y54 : On p l e _ s m _ below meth c Z n0 T53 1 2 [ob a52 own_C0 (own_F0 (.long (9223372036854775806 : Int64)) (.long (9223372036854775807 : Int64)))] := Y54
      show Rn p e below F T53 (mkF m 86 #[.val (.long p0), .second, .val (.long p1), .second, .val (.int p2), .val (.long (9223372036854775806 : Int64)), .second, .val (.long (9223372036854775807 : Int64)), .second, .unset, .unset] [(.ref a52)])
      refine Rn.go (T' := T53) (g' := (mkF m 95 #[.val (.long p0), .second, .val (.long p1), .second, .val (.int p2), .val (.long (9223372036854775806 : Int64)), .second, .val (.long (9223372036854775807 : Int64)), .second, .val (.ref a52), .unset] [(.int (lcmpW (-9223372036854775808 : Int64) (9223372036854775807 : Int64)))])) (fun t k => ?_) ?_
      · show Steps p.tables e below (T53.setTop (mkF m 86 #[.val (.long p0), .second, .val (.long p1), .second, .val (.int p2), .val (.long (9223372036854775806 : Int64)), .second, .val (.long (9223372036854775807 : Int64)), .second, .unset, .unset] [(.ref a52)])) t
        refine XS.astore Y54.here hx rfl (hb hby at_86) rfl rfl (l' := #[.val (.long p0), .second, .val (.long p1), .second, .val (.int p2), .val (.long (9223372036854775806 : Int64)), .second, .val (.long (9223372036854775807 : Int64)), .second, .val (.ref a52), .unset]) rfl ?_
        show Steps p.tables e below (T53.setTop (mkF m 88 #[.val (.long p0), .second, .val (.long p1), .second, .val (.int p2), .val (.long (9223372036854775806 : Int64)), .second, .val (.long (9223372036854775807 : Int64)), .second, .val (.ref a52), .unset] [])) t
        refine XS.lload Y54.here hx rfl (hb hby at_88) rfl ?_
        show Steps p.tables e below (T53.setTop (mkF m 90 #[.val (.long p0), .second, .val (.long p1), .second, .val (.int p2), .val (.long (9223372036854775806 : Int64)), .second, .val (.long (9223372036854775807 : Int64)), .second, .val (.ref a52), .unset] [(.long (9223372036854775807 : Int64))])) t
        refine XS.lconst Y54.here hx rfl (hb hby at_90) ?_
        show Steps p.tables e below (T53.setTop (mkF m 91 #[.val (.long p0), .second, .val (.long p1), .second, .val (.int p2), .val (.long (9223372036854775806 : Int64)), .second, .val (.long (9223372036854775807 : Int64)), .second, .val (.ref a52), .unset] [(.long (1 : Int64)), (.long (9223372036854775807 : Int64))])) t
        refine XS.ladd Y54.here hx rfl (hb hby at_91) rfl ?_
        show Steps p.tables e below (T53.setTop (mkF m 92 #[.val (.long p0), .second, .val (.long p1), .second, .val (.int p2), .val (.long (9223372036854775806 : Int64)), .second, .val (.long (9223372036854775807 : Int64)), .second, .val (.ref a52), .unset] [(.long (-9223372036854775808 : Int64))])) t
        refine XS.lload Y54.here hx rfl (hb hby at_92) rfl ?_
        show Steps p.tables e below (T53.setTop (mkF m 94 #[.val (.long p0), .second, .val (.long p1), .second, .val (.int p2), .val (.long (9223372036854775806 : Int64)), .second, .val (.long (9223372036854775807 : Int64)), .second, .val (.ref a52), .unset] [(.long (9223372036854775807 : Int64)), (.long (-9223372036854775808 : Int64))])) t
        refine XS.lcmp Y54.here hx rfl (hb hby at_94) rfl ?_
        show Steps p.tables e below (T53.setTop (mkF m 95 #[.val (.long p0), .second, .val (.long p1), .second, .val (.int p2), .val (.long (9223372036854775806 : Int64)), .second, .val (.long (9223372036854775807 : Int64)), .second, .val (.ref a52), .unset] [(.int (lcmpW (-9223372036854775808 : Int64) (9223372036854775807 : Int64)))])) t
        exact k
      obtain ⟨v103, hv103⟩ : ∃ z : Int32, z = (if (lcmpW (-9223372036854775808 : Int64) (9223372036854775807 : Int64)) < (0 : Int32) then (1 : Int32) else (0 : Int32)) := ⟨_, rfl⟩
      refine Rn.go (T' := T53) (g' := (mkF m 103 #[.val (.long p0), .second, .val (.long p1), .second, .val (.int p2), .val (.long (9223372036854775806 : Int64)), .second, .val (.long (9223372036854775807 : Int64)), .second, .val (.ref a52), .unset] [(.int v103)])) (fun t k => ?_) ?_
      · show Steps p.tables e below (T53.setTop (mkF m 95 #[.val (.long p0), .second, .val (.long p1), .second, .val (.int p2), .val (.long (9223372036854775806 : Int64)), .second, .val (.long (9223372036854775807 : Int64)), .second, .val (.ref a52), .unset] [(.int (lcmpW (-9223372036854775808 : Int64) (9223372036854775807 : Int64)))])) t
        by_cases hc95 : (lcmpW (-9223372036854775808 : Int64) (9223372036854775807 : Int64)) < (0 : Int32)
        · refine XS.ifNo Y54.here hx rfl (hb hby at_95) rfl ((if0 _ _).trans (tlt hc95).2.1) ?_
          show Steps p.tables e below (T53.setTop (mkF m 98 #[.val (.long p0), .second, .val (.long p1), .second, .val (.int p2), .val (.long (9223372036854775806 : Int64)), .second, .val (.long (9223372036854775807 : Int64)), .second, .val (.ref a52), .unset] [])) t
          refine XS.iconst Y54.here hx rfl (hb hby at_98) ?_
          show Steps p.tables e below (T53.setTop (mkF m 99 #[.val (.long p0), .second, .val (.long p1), .second, .val (.int p2), .val (.long (9223372036854775806 : Int64)), .second, .val (.long (9223372036854775807 : Int64)), .second, .val (.ref a52), .unset] [(.int (1 : Int32))])) t
          refine XS.goto Y54.here hx rfl (pc0 := 99) (pc' := 103) rfl (hb hby at_99) (by decide) (by decide) ?_
          show Steps p.tables e below (T53.setTop (mkF m 103 #[.val (.long p0), .second, .val (.long p1), .second, .val (.int p2), .val (.long (9223372036854775806 : Int64)), .second, .val (.long (9223372036854775807 : Int64)), .second, .val (.ref a52), .unset] [(.int (1 : Int32))])) t
          rw [hv103, if_pos hc95] at k
          exact k
        · refine XS.ifYes Y54.here hx rfl (pc0 := 95) (pc' := 102) rfl (hb hby at_95) rfl ((if0 _ _).trans (flt hc95).2.1) (by decide) (by decide) ?_
          show Steps p.tables e below (T53.setTop (mkF m 102 #[.val (.long p0), .second, .val (.long p1), .second, .val (.int p2), .val (.long (9223372036854775806 : Int64)), .second, .val (.long (9223372036854775807 : Int64)), .second, .val (.ref a52), .unset] [])) t
          refine XS.iconst Y54.here hx rfl (hb hby at_102) ?_
          show Steps p.tables e below (T53.setTop (mkF m 103 #[.val (.long p0), .second, .val (.long p1), .second, .val (.int p2), .val (.long (9223372036854775806 : Int64)), .second, .val (.long (9223372036854775807 : Int64)), .second, .val (.ref a52), .unset] [(.int (0 : Int32))])) t
          rw [hv103, if_neg hc95] at k
          exact k
      refine Rn.go (T' := T53) (g' := (mkF m 107 #[.val (.long p0), .second, .val (.long p1), .second, .val (.int p2), .val (.long (9223372036854775806 : Int64)), .second, .val (.long (9223372036854775807 : Int64)), .second, .val (.ref a52), .val (.int v103)] [(.ref a52)])) (fun t k => ?_) ?_
      · show Steps p.tables e below (T53.setTop (mkF m 103 #[.val (.long p0), .second, .val (.long p1), .second, .val (.int p2), .val (.long (9223372036854775806 : Int64)), .second, .val (.long (9223372036854775807 : Int64)), .second, .val (.ref a52), .unset] [(.int v103)])) t
        refine XS.istore Y54.here hx rfl (hb hby at_103) rfl (l' := #[.val (.long p0), .second, .val (.long p1), .second, .val (.int p2), .val (.long (9223372036854775806 : Int64)), .second, .val (.long (9223372036854775807 : Int64)), .second, .val (.ref a52), .val (.int v103)]) rfl ?_
        show Steps p.tables e below (T53.setTop (mkF m 105 #[.val (.long p0), .second, .val (.long p1), .second, .val (.int p2), .val (.long (9223372036854775806 : Int64)), .second, .val (.long (9223372036854775807 : Int64)), .second, .val (.ref a52), .val (.int v103)] [])) t
        refine XS.aload Y54.here hx rfl (hb hby at_105) rfl rfl ?_
        show Steps p.tables e below (T53.setTop (mkF m 107 #[.val (.long p0), .second, .val (.long p1), .second, .val (.int p2), .val (.long (9223372036854775806 : Int64)), .second, .val (.long (9223372036854775807 : Int64)), .second, .val (.ref a52), .val (.int v103)] [(.ref a52)])) t
        exact k
      refine On.virtual Y54 hx hZ (y := (⟨"com/example/vistrace/vistrace/history/Interval", "isOpen", "()Z"⟩ : MethodName)) (C := "com/example/vistrace/vistrace/history/Interval") hown (w25 hw) (w26 hw) (w27 hw) (w28 hw) (w29 hw) (w9 hw) (by decide) (a := a52) (argsL := []) (rest := []) (i := 0) rfl (rm6 l Z a0 hw n0 a52 (9223372036854775806 : Int64) (9223372036854775807 : Int64) []) (W := 0) (by decide) (by decide) (by decide) (by decide) (g := (mkF m 107 #[.val (.long p0), .second, .val (.long p1), .second, .val (.int p2), .val (.long (9223372036854775806 : Int64)), .second, .val (.long (9223372036854775807 : Int64)), .second, .val (.ref a52), .val (.int v103)] [(.ref a52)])) rfl (by rw [hml]; rfl) (lenOf pd3 rfl) rfl (by show 2 * 0 + _ ≤ _; exact Nat.le_of_eq rfl) (hb hby at_107) ?_
      intro T58 u60 D61 hp62 Y59
      obtain ⟨r107, hr107, rfl, rfl⟩ : ∃ z : Int32, z = (if (lcmpW (9223372036854775807 : Int64) (9223372036854775807 : Int64)) = (0 : Int32) then (1 : Int32) else (0 : Int32)) ∧ u60 = some (.int z) ∧ D61 = _ := ⟨_, rfl, hp62.1, hp62.2⟩
      replace Y59 : On p l e _ s m _ below meth c Z n0 T58 1 2 [ob a52 own_C0 (own_F0 (.long (9223372036854775806 : Int64)) (.long (9223372036854775807 : Int64)))] := Y59
      show Rn p e below F T58 (mkF m 110 #[.val (.long p0), .second, .val (.long p1), .second, .val (.int p2), .val (.long (9223372036854775806 : Int64)), .second, .val (.long (9223372036854775807 : Int64)), .second, .val (.ref a52), .val (.int v103)] [(.int r107)])
      refine Rn.go (T' := T58) (g' := (mkF m 112 #[.val (.long p0), .second, .val (.long p1), .second, .val (.int p2), .val (.long (9223372036854775806 : Int64)), .second, .val (.long (9223372036854775807 : Int64)), .second, .val (.ref a52), .val (.int v103)] [(.int v103), (.int r107)])) (fun t k => ?_) ?_
      · show Steps p.tables e below (T58.setTop (mkF m 110 #[.val (.long p0), .second, .val (.long p1), .second, .val (.int p2), .val (.long (9223372036854775806 : Int64)), .second, .val (.long (9223372036854775807 : Int64)), .second, .val (.ref a52), .val (.int v103)] [(.int r107)])) t
        refine XS.iload Y59.here hx rfl (hb hby at_110) rfl ?_
        show Steps p.tables e below (T58.setTop (mkF m 112 #[.val (.long p0), .second, .val (.long p1), .second, .val (.int p2), .val (.long (9223372036854775806 : Int64)), .second, .val (.long (9223372036854775807 : Int64)), .second, .val (.ref a52), .val (.int v103)] [(.int v103), (.int r107)])) t
        exact k
      refine Rn.go (T' := T58) (g' := (mkF m 115 #[.val (.long p0), .second, .val (.long p1), .second, .val (.int p2), .val (.long (9223372036854775806 : Int64)), .second, .val (.long (9223372036854775807 : Int64)), .second, .val (.ref a52), .val (.int v103)] [])) (fun t k => XS.icmpNo Y59.here hx rfl (hb hby at_112) rfl (teq (own_open hr107 hv103)).2 k) ?_
      refine Rn.go (T' := T58) (g' := (mkF m 120 #[.val (.long p0), .second, .val (.long p1), .second, .val (.int p2), .val (.long (9223372036854775806 : Int64)), .second, .val (.long (9223372036854775807 : Int64)), .second, .val (.ref a52), .val (.int v103)] [(.int (1 : Int32))])) (fun t k => ?_) ?_
      · show Steps p.tables e below (T58.setTop (mkF m 115 #[.val (.long p0), .second, .val (.long p1), .second, .val (.int p2), .val (.long (9223372036854775806 : Int64)), .second, .val (.long (9223372036854775807 : Int64)), .second, .val (.ref a52), .val (.int v103)] [])) t
        refine XS.iconst Y59.here hx rfl (hb hby at_115) ?_
        show Steps p.tables e below (T58.setTop (mkF m 116 #[.val (.long p0), .second, .val (.long p1), .second, .val (.int p2), .val (.long (9223372036854775806 : Int64)), .second, .val (.long (9223372036854775807 : Int64)), .second, .val (.ref a52), .val (.int v103)] [(.int (1 : Int32))])) t
        refine XS.goto Y59.here hx rfl (pc0 := 116) (pc' := 120) rfl (hb hby at_116) (by decide) (by decide) ?_
        show Steps p.tables e below (T58.setTop (mkF m 120 #[.val (.long p0), .second, .val (.long p1), .second, .val (.int p2), .val (.long (9223372036854775806 : Int64)), .second, .val (.long (9223372036854775807 : Int64)), .second, .val (.ref a52), .val (.int v103)] [(.int (1 : Int32))])) t
        exact k
      rw [← hF]; exact On.retn Y59 hx hret (by simp) hlk (z' := (1 : Int32)) (by decide) (hb hby at_120) (by decide) (by decide) rfl
    · refine Rn.go (T' := T6) (g' := (mkF m 75 #[.val (.long p0), .second, .val (.long p1), .second, .val (.int p2), .val (.long r2), .second, .val (.long (9223372036854775807 : Int64)), .second, .unset, .unset] [])) (fun t k => XS.ifYes Y7.here hx rfl (pc0 := 32) (pc' := 75) rfl (hb hby at_32) rfl ((if0 _ _).trans (feq hc32).2) (by decide) (by decide) k) ?_
      refine On.newo Y7 hx hZ hown (w7 hw) (w8 hw) (w9 hw) _ (own_lay_0 hw) (by decide) (g := (mkF m 75 #[.val (.long p0), .second, .val (.long p1), .second, .val (.int p2), .val (.long r2), .second, .val (.long (9223372036854775807 : Int64)), .second, .unset, .unset] [])) rfl (hb hby at_75) (by decide) (by decide) fun T63 a65 Y64 => ?_
      replace Y64 : On p l e _ s m _ below meth c Z n0 T63 1 2 [ob a65 own_C0 (own_F0 (.long (0 : Int64)) (.long (0 : Int64)))] := Y64
      show Rn p e below F T63 (mkF m 78 #[.val (.long p0), .second, .val (.long p1), .second, .val (.int p2), .val (.long r2), .second, .val (.long (9223372036854775807 : Int64)), .second, .unset, .unset] [(.ref a65)])
      refine Rn.go (T' := T63) (g' := (mkF m 83 #[.val (.long p0), .second, .val (.long p1), .second, .val (.int p2), .val (.long r2), .second, .val (.long (9223372036854775807 : Int64)), .second, .unset, .unset] [(.long (9223372036854775807 : Int64)), (.long r2), (.ref a65), (.ref a65)])) (fun t k => ?_) ?_
      · show Steps p.tables e below (T63.setTop (mkF m 78 #[.val (.long p0), .second, .val (.long p1), .second, .val (.int p2), .val (.long r2), .second, .val (.long (9223372036854775807 : Int64)), .second, .unset, .unset] [(.ref a65)])) t
        refine XS.dup Y64.here hx rfl (hb hby at_78) rfl rfl ?_
        show Steps p.tables e below (T63.setTop (mkF m 79 #[.val (.long p0), .second, .val (.long p1), .second, .val (.int p2), .val (.long r2), .second, .val (.long (9223372036854775807 : Int64)), .second, .unset, .unset] [(.ref a65), (.ref a65)])) t
        refine XS.lload Y64.here hx rfl (hb hby at_79) rfl ?_
        show Steps p.tables e below (T63.setTop (mkF m 81 #[.val (.long p0), .second, .val (.long p1), .second, .val (.int p2), .val (.long r2), .second, .val (.long (9223372036854775807 : Int64)), .second, .unset, .unset] [(.long r2), (.ref a65), (.ref a65)])) t
        refine XS.lload Y64.here hx rfl (hb hby at_81) rfl ?_
        show Steps p.tables e below (T63.setTop (mkF m 83 #[.val (.long p0), .second, .val (.long p1), .second, .val (.int p2), .val (.long r2), .second, .val (.long (9223372036854775807 : Int64)), .second, .unset, .unset] [(.long (9223372036854775807 : Int64)), (.long r2), (.ref a65), (.ref a65)])) t
        exact k
      refine On.special Y64 hx hZ (y := (⟨"com/example/vistrace/vistrace/history/Interval", "<init>", "(JJ)V"⟩ : MethodName)) rfl hown (w10 hw) (w11 hw) (w12 hw) (w9 hw) (by decide) (a := a65) (argsL := [(.long r2), (.long (9223372036854775807 : Int64))]) (rest := [(.ref a65)]) (rm3 l Z a0 hw n0 a65 r2 (9223372036854775807 : Int64) [] (own_pB hc32)) (W := 1) (by decide) (by decide) (by decide) (by decide) (g := (mkF m 83 #[.val (.long p0), .second, .val (.long p1), .second, .val (.int p2), .val (.long r2), .second, .val (.long (9223372036854775807 : Int64)), .second, .unset, .unset] [(.long (9223372036854775807 : Int64)), (.long r2), (.ref a65), (.ref a65)])) rfl (by rw [hml]; rfl) (lenOf pd2 rfl) rfl (by show 2 * 0 + _ ≤ _; exact Nat.le_of_eq rfl) (hb hby at_83) ?_
      intro T66 u68 D69 hp70 Y67
      obtain ⟨rfl, rfl⟩ := hp70
      replace Y67 : On p l e _ s m _ below meth c Z n0 T66 1 2 [ob a65 own_C0 (own_F0 (.long r2) (.long (9223372036854775807 : Int64)))] := Y67
      show Rn p e below F T66 (mkF m 86 #[.val (.long p0), .second, .val (.long p1), .second, .val (.int p2), .val (.long r2), .second, .val (.long (9223372036854775807 : Int64)), .second, .unset, .unset] [(.ref a65)])
      refine Rn.go (T' := T66) (g' := (mkF m 95 #[.val (.long p0), .second, .val (.long p1), .second, .val (.int p2), .val (.long r2), .second, .val (.long (9223372036854775807 : Int64)), .second, .val (.ref a65), .unset] [(.int (lcmpW (-9223372036854775808 : Int64) (9223372036854775807 : Int64)))])) (fun t k => ?_) ?_
      · show Steps p.tables e below (T66.setTop (mkF m 86 #[.val (.long p0), .second, .val (.long p1), .second, .val (.int p2), .val (.long r2), .second, .val (.long (9223372036854775807 : Int64)), .second, .unset, .unset] [(.ref a65)])) t
        refine XS.astore Y67.here hx rfl (hb hby at_86) rfl rfl (l' := #[.val (.long p0), .second, .val (.long p1), .second, .val (.int p2), .val (.long r2), .second, .val (.long (9223372036854775807 : Int64)), .second, .val (.ref a65), .unset]) rfl ?_
        show Steps p.tables e below (T66.setTop (mkF m 88 #[.val (.long p0), .second, .val (.long p1), .second, .val (.int p2), .val (.long r2), .second, .val (.long (9223372036854775807 : Int64)), .second, .val (.ref a65), .unset] [])) t
        refine XS.lload Y67.here hx rfl (hb hby at_88) rfl ?_
        show Steps p.tables e below (T66.setTop (mkF m 90 #[.val (.long p0), .second, .val (.long p1), .second, .val (.int p2), .val (.long r2), .second, .val (.long (9223372036854775807 : Int64)), .second, .val (.ref a65), .unset] [(.long (9223372036854775807 : Int64))])) t
        refine XS.lconst Y67.here hx rfl (hb hby at_90) ?_
        show Steps p.tables e below (T66.setTop (mkF m 91 #[.val (.long p0), .second, .val (.long p1), .second, .val (.int p2), .val (.long r2), .second, .val (.long (9223372036854775807 : Int64)), .second, .val (.ref a65), .unset] [(.long (1 : Int64)), (.long (9223372036854775807 : Int64))])) t
        refine XS.ladd Y67.here hx rfl (hb hby at_91) rfl ?_
        show Steps p.tables e below (T66.setTop (mkF m 92 #[.val (.long p0), .second, .val (.long p1), .second, .val (.int p2), .val (.long r2), .second, .val (.long (9223372036854775807 : Int64)), .second, .val (.ref a65), .unset] [(.long (-9223372036854775808 : Int64))])) t
        refine XS.lload Y67.here hx rfl (hb hby at_92) rfl ?_
        show Steps p.tables e below (T66.setTop (mkF m 94 #[.val (.long p0), .second, .val (.long p1), .second, .val (.int p2), .val (.long r2), .second, .val (.long (9223372036854775807 : Int64)), .second, .val (.ref a65), .unset] [(.long (9223372036854775807 : Int64)), (.long (-9223372036854775808 : Int64))])) t
        refine XS.lcmp Y67.here hx rfl (hb hby at_94) rfl ?_
        show Steps p.tables e below (T66.setTop (mkF m 95 #[.val (.long p0), .second, .val (.long p1), .second, .val (.int p2), .val (.long r2), .second, .val (.long (9223372036854775807 : Int64)), .second, .val (.ref a65), .unset] [(.int (lcmpW (-9223372036854775808 : Int64) (9223372036854775807 : Int64)))])) t
        exact k
      obtain ⟨v103, hv103⟩ : ∃ z : Int32, z = (if (lcmpW (-9223372036854775808 : Int64) (9223372036854775807 : Int64)) < (0 : Int32) then (1 : Int32) else (0 : Int32)) := ⟨_, rfl⟩
      refine Rn.go (T' := T66) (g' := (mkF m 103 #[.val (.long p0), .second, .val (.long p1), .second, .val (.int p2), .val (.long r2), .second, .val (.long (9223372036854775807 : Int64)), .second, .val (.ref a65), .unset] [(.int v103)])) (fun t k => ?_) ?_
      · show Steps p.tables e below (T66.setTop (mkF m 95 #[.val (.long p0), .second, .val (.long p1), .second, .val (.int p2), .val (.long r2), .second, .val (.long (9223372036854775807 : Int64)), .second, .val (.ref a65), .unset] [(.int (lcmpW (-9223372036854775808 : Int64) (9223372036854775807 : Int64)))])) t
        by_cases hc95 : (lcmpW (-9223372036854775808 : Int64) (9223372036854775807 : Int64)) < (0 : Int32)
        · refine XS.ifNo Y67.here hx rfl (hb hby at_95) rfl ((if0 _ _).trans (tlt hc95).2.1) ?_
          show Steps p.tables e below (T66.setTop (mkF m 98 #[.val (.long p0), .second, .val (.long p1), .second, .val (.int p2), .val (.long r2), .second, .val (.long (9223372036854775807 : Int64)), .second, .val (.ref a65), .unset] [])) t
          refine XS.iconst Y67.here hx rfl (hb hby at_98) ?_
          show Steps p.tables e below (T66.setTop (mkF m 99 #[.val (.long p0), .second, .val (.long p1), .second, .val (.int p2), .val (.long r2), .second, .val (.long (9223372036854775807 : Int64)), .second, .val (.ref a65), .unset] [(.int (1 : Int32))])) t
          refine XS.goto Y67.here hx rfl (pc0 := 99) (pc' := 103) rfl (hb hby at_99) (by decide) (by decide) ?_
          show Steps p.tables e below (T66.setTop (mkF m 103 #[.val (.long p0), .second, .val (.long p1), .second, .val (.int p2), .val (.long r2), .second, .val (.long (9223372036854775807 : Int64)), .second, .val (.ref a65), .unset] [(.int (1 : Int32))])) t
          rw [hv103, if_pos hc95] at k
          exact k
        · refine XS.ifYes Y67.here hx rfl (pc0 := 95) (pc' := 102) rfl (hb hby at_95) rfl ((if0 _ _).trans (flt hc95).2.1) (by decide) (by decide) ?_
          show Steps p.tables e below (T66.setTop (mkF m 102 #[.val (.long p0), .second, .val (.long p1), .second, .val (.int p2), .val (.long r2), .second, .val (.long (9223372036854775807 : Int64)), .second, .val (.ref a65), .unset] [])) t
          refine XS.iconst Y67.here hx rfl (hb hby at_102) ?_
          show Steps p.tables e below (T66.setTop (mkF m 103 #[.val (.long p0), .second, .val (.long p1), .second, .val (.int p2), .val (.long r2), .second, .val (.long (9223372036854775807 : Int64)), .second, .val (.ref a65), .unset] [(.int (0 : Int32))])) t
          rw [hv103, if_neg hc95] at k
          exact k
      refine Rn.go (T' := T66) (g' := (mkF m 107 #[.val (.long p0), .second, .val (.long p1), .second, .val (.int p2), .val (.long r2), .second, .val (.long (9223372036854775807 : Int64)), .second, .val (.ref a65), .val (.int v103)] [(.ref a65)])) (fun t k => ?_) ?_
      · show Steps p.tables e below (T66.setTop (mkF m 103 #[.val (.long p0), .second, .val (.long p1), .second, .val (.int p2), .val (.long r2), .second, .val (.long (9223372036854775807 : Int64)), .second, .val (.ref a65), .unset] [(.int v103)])) t
        refine XS.istore Y67.here hx rfl (hb hby at_103) rfl (l' := #[.val (.long p0), .second, .val (.long p1), .second, .val (.int p2), .val (.long r2), .second, .val (.long (9223372036854775807 : Int64)), .second, .val (.ref a65), .val (.int v103)]) rfl ?_
        show Steps p.tables e below (T66.setTop (mkF m 105 #[.val (.long p0), .second, .val (.long p1), .second, .val (.int p2), .val (.long r2), .second, .val (.long (9223372036854775807 : Int64)), .second, .val (.ref a65), .val (.int v103)] [])) t
        refine XS.aload Y67.here hx rfl (hb hby at_105) rfl rfl ?_
        show Steps p.tables e below (T66.setTop (mkF m 107 #[.val (.long p0), .second, .val (.long p1), .second, .val (.int p2), .val (.long r2), .second, .val (.long (9223372036854775807 : Int64)), .second, .val (.ref a65), .val (.int v103)] [(.ref a65)])) t
        exact k
      refine On.virtual Y67 hx hZ (y := (⟨"com/example/vistrace/vistrace/history/Interval", "isOpen", "()Z"⟩ : MethodName)) (C := "com/example/vistrace/vistrace/history/Interval") hown (w25 hw) (w26 hw) (w27 hw) (w28 hw) (w29 hw) (w9 hw) (by decide) (a := a65) (argsL := []) (rest := []) (i := 0) rfl (rm6 l Z a0 hw n0 a65 r2 (9223372036854775807 : Int64) []) (W := 0) (by decide) (by decide) (by decide) (by decide) (g := (mkF m 107 #[.val (.long p0), .second, .val (.long p1), .second, .val (.int p2), .val (.long r2), .second, .val (.long (9223372036854775807 : Int64)), .second, .val (.ref a65), .val (.int v103)] [(.ref a65)])) rfl (by rw [hml]; rfl) (lenOf pd3 rfl) rfl (by show 2 * 0 + _ ≤ _; exact Nat.le_of_eq rfl) (hb hby at_107) ?_
      intro T71 u73 D74 hp75 Y72
      obtain ⟨r107, hr107, rfl, rfl⟩ : ∃ z : Int32, z = (if (lcmpW (9223372036854775807 : Int64) (9223372036854775807 : Int64)) = (0 : Int32) then (1 : Int32) else (0 : Int32)) ∧ u73 = some (.int z) ∧ D74 = _ := ⟨_, rfl, hp75.1, hp75.2⟩
      replace Y72 : On p l e _ s m _ below meth c Z n0 T71 1 2 [ob a65 own_C0 (own_F0 (.long r2) (.long (9223372036854775807 : Int64)))] := Y72
      show Rn p e below F T71 (mkF m 110 #[.val (.long p0), .second, .val (.long p1), .second, .val (.int p2), .val (.long r2), .second, .val (.long (9223372036854775807 : Int64)), .second, .val (.ref a65), .val (.int v103)] [(.int r107)])
      refine Rn.go (T' := T71) (g' := (mkF m 112 #[.val (.long p0), .second, .val (.long p1), .second, .val (.int p2), .val (.long r2), .second, .val (.long (9223372036854775807 : Int64)), .second, .val (.ref a65), .val (.int v103)] [(.int v103), (.int r107)])) (fun t k => ?_) ?_
      · show Steps p.tables e below (T71.setTop (mkF m 110 #[.val (.long p0), .second, .val (.long p1), .second, .val (.int p2), .val (.long r2), .second, .val (.long (9223372036854775807 : Int64)), .second, .val (.ref a65), .val (.int v103)] [(.int r107)])) t
        refine XS.iload Y72.here hx rfl (hb hby at_110) rfl ?_
        show Steps p.tables e below (T71.setTop (mkF m 112 #[.val (.long p0), .second, .val (.long p1), .second, .val (.int p2), .val (.long r2), .second, .val (.long (9223372036854775807 : Int64)), .second, .val (.ref a65), .val (.int v103)] [(.int v103), (.int r107)])) t
        exact k
      refine Rn.go (T' := T71) (g' := (mkF m 115 #[.val (.long p0), .second, .val (.long p1), .second, .val (.int p2), .val (.long r2), .second, .val (.long (9223372036854775807 : Int64)), .second, .val (.ref a65), .val (.int v103)] [])) (fun t k => XS.icmpNo Y72.here hx rfl (hb hby at_112) rfl (teq (own_open hr107 hv103)).2 k) ?_
      refine Rn.go (T' := T71) (g' := (mkF m 120 #[.val (.long p0), .second, .val (.long p1), .second, .val (.int p2), .val (.long r2), .second, .val (.long (9223372036854775807 : Int64)), .second, .val (.ref a65), .val (.int v103)] [(.int (1 : Int32))])) (fun t k => ?_) ?_
      · show Steps p.tables e below (T71.setTop (mkF m 115 #[.val (.long p0), .second, .val (.long p1), .second, .val (.int p2), .val (.long r2), .second, .val (.long (9223372036854775807 : Int64)), .second, .val (.ref a65), .val (.int v103)] [])) t
        refine XS.iconst Y72.here hx rfl (hb hby at_115) ?_
        show Steps p.tables e below (T71.setTop (mkF m 116 #[.val (.long p0), .second, .val (.long p1), .second, .val (.int p2), .val (.long r2), .second, .val (.long (9223372036854775807 : Int64)), .second, .val (.ref a65), .val (.int v103)] [(.int (1 : Int32))])) t
        refine XS.goto Y72.here hx rfl (pc0 := 116) (pc' := 120) rfl (hb hby at_116) (by decide) (by decide) ?_
        show Steps p.tables e below (T71.setTop (mkF m 120 #[.val (.long p0), .second, .val (.long p1), .second, .val (.int p2), .val (.long r2), .second, .val (.long (9223372036854775807 : Int64)), .second, .val (.ref a65), .val (.int v103)] [(.int (1 : Int32))])) t
        exact k
      rw [← hF]; exact On.retn Y72 hx hret (by simp) hlk (z' := (1 : Int32)) (by decide) (hb hby at_120) (by decide) (by decide) rfl
set_option maxRecDepth 65536 in
set_option maxHeartbeats 40000000 in
theorem comes_1 {Post : Tables → Env → Array Value → State → Outcome → State → Prop} (hpost : ∀ tb e args s v u, (limb_1_1.after args s (.returned v) u = true ∧ limb_1_2.after args s (.returned v) u = true ∧ True) → FrameEnd s (.returned v) u (Jvm.fieldLocs frame_1_writes args s ++ Jvm.arrayLocs frame_1_arrays args s ++ Jvm.staticLocs frame_1_statics s) 16 128 → Post tb e args s (.returned v) u) :
    ArmFor flags0 classFile x code maxLocals ret World_1 tables_1 room_1 Calls_1 rest_1 Pre_1 Post := by
  intro l hfl _ _ p e ha hc hk s m args below hf hA hF happ hP
  obtain ⟨hcalls, hrest, hpre⟩ := hP
  obtain ⟨-, -, -, hnamed, -, -, -, hat⟩ := (Spec.applies_iff hf).mp happ
  obtain ⟨hg, hn⟩ := and_e (Cond.before_iff.mp (show (Jvm.Cond.and given_1 narrow_1).before args s = true from hpre))
  obtain ⟨g1, g2⟩ := and_e hg
  obtain ⟨g3, g4⟩ := and_e g2
  obtain ⟨g5, g6⟩ := and_e g4
  obtain ⟨w0, w1, w2, rfl⟩ : ∃ w0 w1 w2 : Value, args = #[w0, w1, w2] := by
    have hs : args.size = 3 := by simpa [Cond.value, given_1] using g1
    obtain ⟨L⟩ := args
    match L, hs with
    | [w0, w1, w2], _ => exact ⟨w0, w1, w2, rfl⟩
  have hw := fun d (hd : d ∈ tables_1) => atoms_spec (ws := Jvm.Cond.code x code maxLocals ret :: tables_1) hat d (List.mem_cons_of_mem _ hd)
  obtain ⟨i0, ei0⟩ := isL_v g3
  obtain rfl : w0 = (.long i0) := Option.some.inj ei0
  obtain ⟨i1, ei1⟩ := isL_v g5
  obtain rfl : w1 = (.long i1) := Option.some.inj ei1
  obtain ⟨i2, ei2⟩ := is_v g6
  obtain rfl : w2 = (.int i2) := Option.some.inj ei2
  obtain ⟨n, o, h1, h2, h3, _, L, rfl, ⟨D', rfl, N, -⟩, hq⟩ := rm0 l s _ hw s.heap.size i0 i1 i2 tables_1 s.heap (Hp.nil s) p e ha hc hk s m _ below hf ((Spec.applies_iff_loose hf).mp happ).1 ⟨rfl, State.Warmed39.refl s, rfl⟩ trivial
  refine ⟨n, _, h1, h2, h3, hpost _ _ _ _ _ _ ⟨Cond.after_iff.mpr rfl, Cond.after_iff.mpr (eq_i res_at (Term.int_eval (1)) rfl), trivial⟩ ⟨hq.1, hq.2.1, (hq.2.2.sift fun y hy => Or.inr (N y hy)).mono (by decide) (by decide)⟩⟩
theorem main_1_1 : Claimed_1_1 := comes_1 fun _ _ _ _ _ _ h hF => ⟨h.1, hF⟩
theorem main_1_2 : Claimed_1_2 := comes_1 fun _ _ _ _ _ _ h hF => ⟨h.2.1, hF⟩
end Jvm.Pilot.@@N@@
namespace Jvm.Pilot.@@N@@
open Jvm Jvm.ClassFile Sem Op Lib Jvm.Free Jvm.Stand Jvm.Pilot.@@N@@.Jvm.D
/-! MADE BY PROGRAM (witnessworld.py) out of the Statement's table words and the real class files: 11 classes; the members and pool entries that the words name. The judged class is class 1, her method 1. -/
namespace start1
open Jvm.ClassFile
def u (s : String) : CpInfo := .utf8 (stringToUtf16 s)
/-- a pool by its gaps: so many unusable entries, then the entry; so many at the end -/
def gap : Nat → List CpInfo → List CpInfo
  | 0, r => r
  | n + 1, r => .unusable :: gap n r
def poolList (es : List (Nat × CpInfo)) (last : Nat) : List CpInfo := es.foldr (fun e r => gap e.1 (e.2 :: r)) (gap last [])
def pool (es : List (Nat × CpInfo)) (last : Nat) : Array CpInfo := ⟨poolList es last⟩
def fileOf (pool : Array CpInfo) (this : Nat) (attrs : Array Attribute := #[]) (ms : Array MethodInfo := #[]) (fl : Nat := 33) (sup : Nat := 0) (ifs : Array Nat := #[]) (fds : Array FieldInfo := #[]) : ClassFile where
  minorVersion := 0
  majorVersion := 65
  constantPool := pool
  accessFlags := fl
  thisClass := this
  superClass := sup
  interfaces := ifs
  fields := fds
  methods := ms
  attributes := attrs
def plain (name : String) (sup : Option ClassId) : Class where
  name := name
  kind := .ordinary
  loader := none
  accessFlags := 33
  super := sup
  interfaces := #[]
  cf := none
  fields := #[]
  methods := #[]
  instanceTypes := #[]
  staticTypes := #[]
  resolved := #[]
  callSites := []
  init := .initialized
  statics := none
  mirror := none

def pool0 : Array CpInfo := pool [(5, u "<init>"), (0, u "()V"), (1, .class_ 10), (1, u "java/lang/Object")] 113

def k0c0 : Code := { maxStack := 0, maxLocals := 1, code := object_method_1_code, exceptionTable := #[], attributes := #[] }
def k0m0 : Method := { name := "<init>", desc := "()V", sig := { parameters := [], returnType := none }, accessFlags := 1, code := some k0c0 }
/-- java/lang/Object -/
def k0 : Class := { plain "java/lang/Object" none with
  accessFlags := 33
  interfaces := #[]
  cf := some (fileOf pool0 8 #[] #[{ accessFlags := 1, nameIndex := 5, descriptorIndex := 6, attributes := #[] }] 33 0 #[] #[])
  fields := #[]
  methods := #[k0m0]
  instanceTypes := #[]
  staticTypes := #[]
  resolved := Array.replicate 124 none
  statics := none }

def pool1 : Array CpInfo := pool [(2, .class_ 4), (1, u "java/lang/Object"), (0, u "<init>"), (0, u "()V"), (0, .methodref 8 9), (0, .class_ 10), (0, .nameAndType 11 12), (0, u "java/lang/Math"), (0, u "min"), (0, u "(JJ)J"), (0, .methodref 8 14), (0, .nameAndType 15 12), (0, u "max"), (2, .long 9223372036854775807), (1, .long 9223372036854775806), (1, .long 9223372036854775808), (1, .class_ 25), (0, u "com/example/vistrace/vistrace/history/Interval"), (0, .methodref 24 27), (0, .nameAndType 5 28), (0, u "(JJ)V"), (0, .methodref 24 30), (0, .nameAndType 31 32), (0, u "isOpen"), (0, u "()Z"), (0, .class_ 34), (0, u "com/example/vistrace/vistrace/history/IntervalIsOpenPinLaw"), (2, u "law"), (0, u "(JJI)Z")] 3

def k1m0 : Method := { name := "<init>", desc := "()V", sig := { parameters := [], returnType := none }, accessFlags := 1, code := none }
def k1c1 : Code := { maxStack := 6, maxLocals := 11, code := code, exceptionTable := #[], attributes := #[] }
def k1m1 : Method := { name := "law", desc := "(JJI)Z", sig := { parameters := [.long, .long, .int], returnType := some .boolean }, accessFlags := 9, code := some k1c1 }
/-- com/example/vistrace/vistrace/history/IntervalIsOpenPinLaw -/
def k1 : Class := { plain "com/example/vistrace/vistrace/history/IntervalIsOpenPinLaw" (some 0) with
  accessFlags := 49
  interfaces := #[]
  cf := some (fileOf pool1 33 #[] #[{ accessFlags := 1, nameIndex := 5, descriptorIndex := 6, attributes := #[] }, { accessFlags := 9, nameIndex := 37, descriptorIndex := 38, attributes := #[] }] 49 2 #[] #[])
  fields := #[]
  methods := #[k1m0, k1m1]
  instanceTypes := #[]
  staticTypes := #[]
  resolved := Array.replicate 42 none
  statics := none }

def pool2 : Array CpInfo := pool [(1, .class_ 2), (0, u "java/lang/Math"), (1, .class_ 6), (1, u "java/lang/Object"), (0, u "<init>"), (0, u "()V"), (89, .class_ 100), (1, u "java/lang/Math$RandomNumberGeneratorHolder"), (20, u "(JJ)J"), (50, u "negativeZeroFloatBits"), (0, u "J"), (2, u "negativeZeroDoubleBits"), (21, u "max"), (2, u "min"), (43, u "$assertionsDisabled"), (0, u "Z"), (91, u "twoToTheDoubleScaleDown"), (0, u "D"), (4, u "twoToTheDoubleScaleUp"), (9, u "E"), (3, u "PI"), (2, u "TAU"), (2, u "DEGREES_TO_RADIANS"), (0, u "RADIANS_TO_DEGREES")] 94

def k2m0 : Method := { name := "<init>", desc := "()V", sig := { parameters := [], returnType := none }, accessFlags := 2, code := none }
def k2c1 : Code := { maxStack := 4, maxLocals := 4, code := jdk_29_method_66_code, exceptionTable := #[], attributes := #[] }
def k2m1 : Method := { name := "max", desc := "(JJ)J", sig := { parameters := [.long, .long], returnType := some .long }, accessFlags := 9, code := some k2c1 }
def k2c2 : Code := { maxStack := 4, maxLocals := 4, code := jdk_29_method_70_code, exceptionTable := #[], attributes := #[] }
def k2m2 : Method := { name := "min", desc := "(JJ)J", sig := { parameters := [.long, .long], returnType := some .long }, accessFlags := 9, code := some k2c2 }
/-- java/lang/Math -/
def k2 : Class := { plain "java/lang/Math" (some 0) with
  accessFlags := 49
  interfaces := #[]
  cf := some (fileOf pool2 1 #[.nestMembers #[98]] #[{ accessFlags := 2, nameIndex := 7, descriptorIndex := 8, attributes := #[] }, { accessFlags := 9, nameIndex := 198, descriptorIndex := 121, attributes := #[] }, { accessFlags := 9, nameIndex := 201, descriptorIndex := 121, attributes := #[] }] 49 4 #[] #[{ accessFlags := 25, nameIndex := 354, descriptorIndex := 339, attributes := #[] }, { accessFlags := 25, nameIndex := 358, descriptorIndex := 339, attributes := #[] }, { accessFlags := 25, nameIndex := 361, descriptorIndex := 339, attributes := #[] }, { accessFlags := 26, nameIndex := 364, descriptorIndex := 339, attributes := #[] }, { accessFlags := 26, nameIndex := 365, descriptorIndex := 339, attributes := #[] }, { accessFlags := 26, nameIndex := 172, descriptorIndex := 173, attributes := #[] }, { accessFlags := 26, nameIndex := 176, descriptorIndex := 173, attributes := #[] }, { accessFlags := 8, nameIndex := 344, descriptorIndex := 339, attributes := #[] }, { accessFlags := 8, nameIndex := 338, descriptorIndex := 339, attributes := #[] }, { accessFlags := 4120, nameIndex := 245, descriptorIndex := 246, attributes := #[] }])
  fields := #[{ name := "E", type := .double, accessFlags := 25, slot := 0, constantValue := 0 }, { name := "PI", type := .double, accessFlags := 25, slot := 1, constantValue := 0 }, { name := "TAU", type := .double, accessFlags := 25, slot := 2, constantValue := 0 }, { name := "DEGREES_TO_RADIANS", type := .double, accessFlags := 26, slot := 3, constantValue := 0 }, { name := "RADIANS_TO_DEGREES", type := .double, accessFlags := 26, slot := 4, constantValue := 0 }, { name := "negativeZeroFloatBits", type := .long, accessFlags := 26, slot := 5, constantValue := 0 }, { name := "negativeZeroDoubleBits", type := .long, accessFlags := 26, slot := 6, constantValue := 0 }, { name := "twoToTheDoubleScaleUp", type := .double, accessFlags := 8, slot := 7, constantValue := 0 }, { name := "twoToTheDoubleScaleDown", type := .double, accessFlags := 8, slot := 8, constantValue := 0 }, { name := "$assertionsDisabled", type := .boolean, accessFlags := 4120, slot := 9, constantValue := 0 }]
  methods := #[k2m0, k2m1, k2m2]
  instanceTypes := #[]
  staticTypes := #[.double, .double, .double, .double, .double, .long, .long, .double, .double, .boolean]
  resolved := Array.replicate 460 none
  statics := none }

def pool3 : Array CpInfo := pool [(1, .methodref 2 3), (0, .class_ 4), (0, .nameAndType 5 6), (0, u "java/lang/Object"), (0, u "<init>"), (0, u "()V"), (0, .class_ 8), (0, u "java/lang/Record")] 13

def k3c0 : Code := { maxStack := 1, maxLocals := 1, code := jdk_30_method_1_code, exceptionTable := #[], attributes := #[] }
def k3m0 : Method := { name := "<init>", desc := "()V", sig := { parameters := [], returnType := none }, accessFlags := 4, code := some k3c0 }
/-- java/lang/Record -/
def k3 : Class := { plain "java/lang/Record" (some 0) with
  accessFlags := 1057
  interfaces := #[]
  cf := some (fileOf pool3 7 #[] #[{ accessFlags := 4, nameIndex := 5, descriptorIndex := 6, attributes := #[] }] 1057 2 #[] #[])
  fields := #[]
  methods := #[k3m0]
  instanceTypes := #[]
  staticTypes := #[]
  resolved := Array.replicate 22 none
  statics := none }

def pool4 : Array CpInfo := pool [(3, .methodref 4 5), (0, .class_ 6), (0, .nameAndType 7 8), (0, u "java/lang/Record"), (0, u "<init>"), (0, u "()V"), (9, .fieldref 19 20), (0, .class_ 21), (0, .nameAndType 22 23), (0, u "com/example/vistrace/vistrace/history/Interval"), (0, u "start"), (0, u "J"), (0, .fieldref 19 25), (0, .nameAndType 26 23), (0, u "end"), (0, .long 9223372036854775807), (13, u "OPEN"), (1, u "(JJ)V"), (4, u "isOpen"), (0, u "()Z")] 33

def k4c0 : Code := { maxStack := 6, maxLocals := 5, code := prog_18_method_1_code, exceptionTable := #[], attributes := #[] }
def k4m0 : Method := { name := "<init>", desc := "(JJ)V", sig := { parameters := [.long, .long], returnType := none }, accessFlags := 1, code := some k4c0 }
def k4c1 : Code := { maxStack := 4, maxLocals := 1, code := prog_18_method_2_code, exceptionTable := #[], attributes := #[] }
def k4m1 : Method := { name := "isOpen", desc := "()Z", sig := { parameters := [], returnType := some .boolean }, accessFlags := 1, code := some k4c1 }
/-- com/example/vistrace/vistrace/history/Interval -/
def k4 : Class := { plain "com/example/vistrace/vistrace/history/Interval" (some 3) with
  accessFlags := 49
  interfaces := #[]
  cf := some (fileOf pool4 19 #[] #[{ accessFlags := 1, nameIndex := 7, descriptorIndex := 43, attributes := #[] }, { accessFlags := 1, nameIndex := 48, descriptorIndex := 49, attributes := #[] }] 49 4 #[] #[{ accessFlags := 18, nameIndex := 22, descriptorIndex := 23, attributes := #[] }, { accessFlags := 18, nameIndex := 26, descriptorIndex := 23, attributes := #[] }, { accessFlags := 25, nameIndex := 41, descriptorIndex := 23, attributes := #[] }])
  fields := #[{ name := "start", type := .long, accessFlags := 18, slot := 0, constantValue := 0 }, { name := "end", type := .long, accessFlags := 18, slot := 1, constantValue := 0 }, { name := "OPEN", type := .long, accessFlags := 25, slot := 0, constantValue := 0 }]
  methods := #[k4m0, k4m1]
  instanceTypes := #[.long, .long]
  staticTypes := #[.long]
  resolved := Array.replicate 83 none
  statics := none }

def pool5 : Array CpInfo := pool [(1, u "java/lang/Cloneable"), (0, .class_ 1), (0, u "java/lang/Object"), (0, .class_ 3)] 3

/-- java/lang/Cloneable -/
def k5 : Class := { plain "java/lang/Cloneable" (some 0) with
  accessFlags := 1537
  interfaces := #[]
  cf := some (fileOf pool5 2 #[] #[] 1537 4 #[] #[])
  fields := #[]
  methods := #[]
  instanceTypes := #[]
  staticTypes := #[]
  resolved := Array.replicate 8 none
  statics := none }

def pool6 : Array CpInfo := pool [(1, u "java/io/Serializable"), (0, .class_ 1), (0, u "java/lang/Object"), (0, .class_ 3)] 3

/-- java/io/Serializable -/
def k6 : Class := { plain "java/io/Serializable" (some 0) with
  accessFlags := 1537
  interfaces := #[]
  cf := some (fileOf pool6 2 #[] #[] 1537 4 #[] #[])
  fields := #[]
  methods := #[]
  instanceTypes := #[]
  staticTypes := #[]
  resolved := Array.replicate 8 none
  statics := none }

/-- the primitive byte -/
def k7 : Class := { plain "byte" none with kind := .primitive 'B', accessFlags := 0x411 }
/-- [B -/
def k8 : Class := { plain "[B" (some 0) with kind := .array 7 .byte, interfaces := #[5, 6], accessFlags := 1041 }

/-- the primitive int -/
def k9 : Class := { plain "int" none with kind := .primitive 'I', accessFlags := 0x411 }
/-- [I -/
def k10 : Class := { plain "[I" (some 0) with kind := .array 9 .int, interfaces := #[5, 6], accessFlags := 1041 }

def heap : Heap := #[]
def classes : Array Class := #[k0, k1, k2, k3, k4, k5, k6, k7, k8, k9, k10]
def interned : List (Array UInt16 × Addr) := []
def slotsUsed : Nat := 0
def theMethod : MethodId := ⟨1, 1⟩
def args0 : Array Value := #[.long 1, .long 2, .int 5]
def aboutOver (below : List Frame) : State where
  vm := { classes := classes, interned := interned.toArray }
  heap := heap
  slotsUsed := slotsUsed
  threads := #[{ frames := .invoking theMethod args0 :: below }]
def below0 : List Frame := [.native { method := ⟨0, 0⟩, args := #[] }]
def about1 : State := aboutOver below0
def p0 : Program := .bare "" "" ""
def e0 : Env := launch0.env 0 0 0
theorem w_frames : about1.frames = Frame.invoking theMethod args0 :: below0 := rfl
set_option maxRecDepth 65536 in
theorem w_args : argsFit about1.vm theMethod args0 = true := by decide +kernel
set_option maxRecDepth 65536 in
theorem w_heap : heapFits about1 = true := by decide +kernel
set_option maxRecDepth 65536 in
theorem w_runnable : about1.curStatus? = some .runnable := by decide +kernel
set_option maxRecDepth 65536 in
theorem w_alone : about1.alone = true := by decide +kernel
set_option maxRecDepth 65536 in
theorem w_named : about1.methodNamed? x = some theMethod := by decide +kernel
set_option maxRecDepth 65536 in
theorem w_hears : about1.hears theMethod below0 = true := by decide +kernel
set_option maxRecDepth 65536 in
theorem w_ripe : about1.ripe theMethod args0 below0 = true := by decide +kernel
theorem w_running : about1.status = .running := rfl
set_option maxRecDepth 65536 in
theorem w_room : about1.hasRoom e0.platform room_1 = true :=
  launch0.hasRoom_least _ room_1 (by decide +kernel) (by decide +kernel) (by decide +kernel) (by decide +kernel) (by decide +kernel) (by decide +kernel)
theorem allAtoms_all (ts : List Jvm.Cond) (a : Array Jvm.Value) (st : Jvm.State) : (allAtoms ts).before a st = ts.all (fun c => c.before a st) := by
  induction ts with
  | nil => rfl
  | cons c t ih =>
    show (Jvm.Cond.and c (allAtoms t)).before a st = _
    rw [Jvm.Cond.before_and, ih, List.all_cons]
def words1 : List Jvm.Cond := Jvm.Cond.code x code maxLocals ret :: tables_1
/-- a 'code' word, met by the world's own term for the bytes: nothing is compared byte by byte -/
theorem code_word {y : MethodName} {bytes : ByteArray} {mx : Nat} {rt : Option FieldType} {a : Array Value} {s : State} {m : MethodId} {meth : Method} {c : Code} (h1 : s.methodNamed? y = some m) (h2 : s.vm.method? m = some meth) (h3 : meth.code = some c) (h4 : c.code = bytes)
    (h5 : (c.maxLocals == mx && c.exceptionTable.isEmpty && decide (c.maxStack ≤ mostOperands) && decide (meth.sig.returnType = rt) && !meth.locks && decide (parseMethodDescriptor y.desc = some meth.sig)) = true) : (Jvm.Cond.code y bytes mx rt).before a s = true := by
  simp only [Bool.and_eq_true, beq_iff_eq, Bool.not_eq_true', decide_eq_true_eq] at h5
  obtain ⟨⟨⟨⟨⟨g1, g2⟩, g3⟩, g4⟩, g5⟩, g6⟩ := h5
  simp [Cond.before, Cond.holds, Cond.value, h1, h2, h3, h4, g1, g2, g3, g4, g5, g6]
def isCode : Jvm.Cond → Bool
  | .code _ _ _ _ => true
  | _ => false
theorem all_split {L : List Jvm.Cond} {P : Jvm.Cond → Bool} (h1 : L.all (fun c => isCode c || P c) = true) (h2 : ∀ c ∈ L.filter isCode, P c = true) : L.all P = true := by
  refine List.all_eq_true.mpr fun c hc => ?_
  have h := List.all_eq_true.mp h1 c hc
  rcases Bool.eq_false_or_eq_true (isCode c) with hi | hi
  · exact h2 c (List.mem_filter.mpr ⟨hc, hi⟩)
  · simpa [hi] using h
set_option maxRecDepth 65536 in
theorem w_c0 : (Jvm.Cond.code x code maxLocals ret).before args0 about1 = true := code_word (m := ⟨1, 1⟩) (meth := k1m1) (c := k1c1) (by decide +kernel) rfl rfl rfl (by decide +kernel)
set_option maxRecDepth 65536 in
theorem w_c1 : (Jvm.Cond.code ({ cls := "java/lang/Math", name := "min", desc := "(JJ)J" } : Jvm.MethodName) jdk_29_method_70_code (4 : Nat) (Option.some Jvm.ClassFile.FieldType.long)).before args0 about1 = true := code_word (m := ⟨2, 2⟩) (meth := k2m2) (c := k2c2) (by decide +kernel) rfl rfl rfl (by decide +kernel)
set_option maxRecDepth 65536 in
theorem w_c2 : (Jvm.Cond.code ({ cls := "java/lang/Math", name := "max", desc := "(JJ)J" } : Jvm.MethodName) jdk_29_method_66_code (4 : Nat) (Option.some Jvm.ClassFile.FieldType.long)).before args0 about1 = true := code_word (m := ⟨2, 1⟩) (meth := k2m1) (c := k2c1) (by decide +kernel) rfl rfl rfl (by decide +kernel)
set_option maxRecDepth 65536 in
theorem w_c3 : (Jvm.Cond.code ({ cls := "com/example/vistrace/vistrace/history/Interval", name := "<init>", desc := "(JJ)V" } : Jvm.MethodName) prog_18_method_1_code (5 : Nat) (Option.none : Option Jvm.ClassFile.FieldType)).before args0 about1 = true := code_word (m := ⟨4, 0⟩) (meth := k4m0) (c := k4c0) (by decide +kernel) rfl rfl rfl (by decide +kernel)
set_option maxRecDepth 65536 in
theorem w_c4 : (Jvm.Cond.code ({ cls := "java/lang/Record", name := "<init>", desc := "()V" } : Jvm.MethodName) jdk_30_method_1_code (1 : Nat) (Option.none : Option Jvm.ClassFile.FieldType)).before args0 about1 = true := code_word (m := ⟨3, 0⟩) (meth := k3m0) (c := k3c0) (by decide +kernel) rfl rfl rfl (by decide +kernel)
set_option maxRecDepth 65536 in
theorem w_c5 : (Jvm.Cond.code ({ cls := "java/lang/Object", name := "<init>", desc := "()V" } : Jvm.MethodName) object_method_1_code (1 : Nat) (Option.none : Option Jvm.ClassFile.FieldType)).before args0 about1 = true := code_word (m := ⟨0, 0⟩) (meth := k0m0) (c := k0c0) (by decide +kernel) rfl rfl rfl (by decide +kernel)
set_option maxRecDepth 65536 in
theorem w_c6 : (Jvm.Cond.code ({ cls := "com/example/vistrace/vistrace/history/Interval", name := "isOpen", desc := "()Z" } : Jvm.MethodName) prog_18_method_2_code (1 : Nat) (Option.some Jvm.ClassFile.FieldType.boolean)).before args0 about1 = true := code_word (m := ⟨4, 1⟩) (meth := k4m1) (c := k4c1) (by decide +kernel) rfl rfl rfl (by decide +kernel)
def codes1 : List Jvm.Cond := [Jvm.Cond.code x code maxLocals ret, Jvm.Cond.code ({ cls := "java/lang/Math", name := "min", desc := "(JJ)J" } : Jvm.MethodName) jdk_29_method_70_code (4 : Nat) (Option.some Jvm.ClassFile.FieldType.long), Jvm.Cond.code ({ cls := "java/lang/Math", name := "max", desc := "(JJ)J" } : Jvm.MethodName) jdk_29_method_66_code (4 : Nat) (Option.some Jvm.ClassFile.FieldType.long), Jvm.Cond.code ({ cls := "com/example/vistrace/vistrace/history/Interval", name := "<init>", desc := "(JJ)V" } : Jvm.MethodName) prog_18_method_1_code (5 : Nat) (Option.none : Option Jvm.ClassFile.FieldType), Jvm.Cond.code ({ cls := "java/lang/Record", name := "<init>", desc := "()V" } : Jvm.MethodName) jdk_30_method_1_code (1 : Nat) (Option.none : Option Jvm.ClassFile.FieldType), Jvm.Cond.code ({ cls := "java/lang/Object", name := "<init>", desc := "()V" } : Jvm.MethodName) object_method_1_code (1 : Nat) (Option.none : Option Jvm.ClassFile.FieldType), Jvm.Cond.code ({ cls := "com/example/vistrace/vistrace/history/Interval", name := "isOpen", desc := "()Z" } : Jvm.MethodName) prog_18_method_2_code (1 : Nat) (Option.some Jvm.ClassFile.FieldType.boolean)]
set_option maxRecDepth 65536 in
theorem codes_eq : words1.filter isCode = codes1 := rfl
theorem w_codes : ∀ c ∈ words1.filter isCode, c.before args0 about1 = true := by
  rw [codes_eq]
  intro c hc
  simp only [codes1, List.mem_cons, List.not_mem_nil, or_false] at hc
  rcases hc with rfl | rfl | rfl | rfl | rfl | rfl | rfl
  · exact w_c0
  · exact w_c1
  · exact w_c2
  · exact w_c3
  · exact w_c4
  · exact w_c5
  · exact w_c6
set_option maxRecDepth 65536 in
theorem w_t1 : (words1.take 24).all (fun c => isCode c || c.before args0 about1) = true := by decide +kernel
set_option maxRecDepth 65536 in
theorem w_t2 : (words1.drop 24).all (fun c => isCode c || c.before args0 about1) = true := by decide +kernel
theorem w_tables : (allAtoms (Jvm.Cond.code x code maxLocals ret :: tables_1)).before args0 about1 = true := by
  rw [allAtoms_all]
  show words1.all (fun c => c.before args0 about1) = true
  refine all_split ?_ w_codes
  rw [← List.take_append_drop 24 words1, List.all_append, w_t1, w_t2]
  rfl
set_option maxRecDepth 65536 in
theorem w_case : (Jvm.Cond.and given_1 narrow_1).before args0 about1 = true := by decide +kernel
theorem w_applies : (headSpec (Jvm.Cond.code x code maxLocals ret :: tables_1) room_1).applies x e0.platform about1 = true :=
  (Spec.applies_iff w_frames).mpr ⟨w_running, w_runnable, w_alone, w_named, w_hears, w_ripe, w_room, w_tables⟩
theorem atStart : AtStart classFile x code maxLocals ret World_1 tables_1 room_1 Calls_1 rest_1 Pre_1 launch0 p0 e0 about1 theMethod args0 below0 :=
  ⟨lists_1, trivial, launch0.admits_env _ _ _, launch0.least_env, fairChoices_fair.cas, fairChoices_fair.clock, w_frames, w_args, w_heap, w_applies, trivial, trivial, w_case⟩
end start1
theorem witness_1 : WitnessClaimed_1 := ⟨start1.p0, start1.e0, start1.about1, start1.theMethod, start1.args0, start1.below0, start1.atStart⟩
end Jvm.Pilot.@@N@@
