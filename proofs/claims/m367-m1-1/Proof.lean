import JvmDerived
import JvmDerived.Pilot.@@N@@Statement
import JvmDerived.Pilot.@@N@@Code
set_option linter.unusedVariables false
set_option linter.unusedSimpArgs false
@@BLOCK:NumsL.lean.txt@@
namespace Jvm.Pilot.@@N@@
open Jvm Jvm.ClassFile Sem Op Lib Jvm.Free Jvm.Stand Jvm.LawKit Jvm.RoadKit Bundle Jvm.Pilot.@@N@@.Jvm.D
/-! ## A. The run goes on: a walk in steps, its end left open -/
section Base
variable {p : Program} {l : Launch} {e : Env} {R : Room} {s : State} {m : MethodId} {args : Array Value} {below : List Frame} {meth : Method} {c : Code} {T T' : State} {locs : List Loc} {cells slots : Nat} {Z : State} {a0 : Array Value} {F : State → Prop} {g g' : JFrame} {n0 : Nat} {h h' : Heap} {a b : Addr} {C n d : String} {v w : Value} {sl : Nat}
/-- the run from T with the frame g on top comes to a state of which F holds -/
def Rn (p : Program) (e : Env) (below : List Frame) (F : State → Prop) (T : State) (g : JFrame) : Prop := ∃ U, Steps p.tables e below (T.setTop g) U ∧ F U
theorem Rn.go (st : ∀ t, Steps p.tables e below (T'.setTop g') t → Steps p.tables e below (T.setTop g) t) (k : Rn p e below F T' g') : Rn p e below F T g := by
  obtain ⟨U, h1, h2⟩ := k; exact ⟨U, st _ h1, h2⟩
theorem Rn.to (st : Steps p.tables e below (T.setTop g) (T'.setTop g')) (k : Rn p e below F T' g') : Rn p e below F T g := by
  obtain ⟨U, h1, h2⟩ := k; exact ⟨U, st.trans h1, h2⟩
theorem own_lcW (x y : Int64) : lcmpW x y = if x > y then 1 else if x = y then 0 else -1 := rfl
theorem own_nat (x : Int32) : x.toNatClampNeg = x.toInt.toNat := rfl
theorem own_remI {x y : Int32} {k : Int} (hy : y.toInt = k) (hx : 0 ≤ x.toInt) : (x % y).toInt = x.toInt % k := by rw [Jvm.Kit.i32_rem_nonneg hx, hy]
theorem own_irem {g : JFrame} {target : State} (h : At T m c below) (hx : p.tables.exec = Jvm.exec) (hg : g.method = m) {x y : Int32} {rest : List Value} (hd : decode c.code g.pc = .ok (.irem, 1)) (hs : g.stack = .int y :: .int x :: rest) (hy : y ≠ 0)
    (hr : Steps p.tables e below (T.setTop { g with pc := g.pc + 1, stack := .int (x % y) :: rest }) target) : Steps p.tables e below (T.setTop g) target := by
  have q : x - x / y * y = x % y := irem_eq_mod x y
  exact XS.irem h hx hg hd hs hy (by rw [q]; exact hr)
/-! ## B. What the heap holds: a list of the objects and arrays that the law has made -/
abbrev Itm : Type := (String × List (String × String × Value)) ⊕ (FieldType × Int32 × List Value)
abbrev ob (a : Addr) (C : String) (fs : List (String × String × Value)) : Addr × Itm := (a, .inl (C, fs))
abbrev ar (a : Addr) (ty : FieldType) (n : Int32) (vs : List Value) : Addr × Itm := (a, .inr (ty, n, vs))
abbrev ari (a : Addr) (ty : FieldType) (n : Int32) (xs : List Int32) : Addr × Itm := ar a ty n (xs.map Value.int)
abbrev arj (a : Addr) (n : Int32) (xs : List Int64) : Addr × Itm := ar a .long n (xs.map Value.long)
def Obj (Z : State) (h : Heap) (a : Addr) (C : String) (fs : List (String × String × Value)) : Prop := Exa Z h a C ∧ (∀ f ∈ fs, Fld Z h a C f.1 f.2.1 f.2.2) ∧ (fs.map fun f => Jvm.RoadKit.slotOf Z C f.1 f.2.1).Nodup
def Ary (Z : State) (h : Heap) (a : Addr) (ty : FieldType) (n : Int32) (vs : List Value) : Prop := (∃ k, Arv Z h a k ty n vs (defaultValue ty) ∧ ∀ C, ty = .object C → Ovr Z k C) ∧ vs.length = n.toNatClampNeg
def itm (Z : State) (h : Heap) (x : Addr × Itm) : Prop := match x.2 with
  | .inl o => Obj Z h x.1 o.1 o.2
  | .inr o => Ary Z h x.1 o.1 o.2.1 o.2.2
/-- made by the law, or an array of no places (which nobody can write) -/
def Frs (n0 : Nat) (x : Addr × Itm) : Prop := n0 ≤ x.1 ∨ ∃ ty n, x.2 = .inr (ty, n, [])
def Hp (Z : State) (n0 : Nat) (h : Heap) (D : List (Addr × Itm)) : Prop := Old Z n0 h ∧ (∀ x ∈ D, Frs n0 x ∧ itm Z h x) ∧ (D.map (·.1)).Nodup
variable {fs : List (String × String × Value)} {vs : List Value} {ty : FieldType} {z : Int32} {x : Addr × Itm} {D : List (Addr × Itm)} {I J : Itm} {i j : Nat}
theorem map_same {α β : Type} (f : α → β) (L : List α) (i : Nat) (x y : α) (h : L[i]? = some x) (q : f y = f x) : (L.set i y).map f = L.map f := by
  apply List.ext_getElem?
  intro k
  rw [List.getElem?_map, List.getElem?_map, List.getElem?_set]
  by_cases e : i = k
  · subst e
    rw [if_pos rfl, if_pos (List.getElem?_eq_some_iff.mp h).1, h]; simp [q]
  · rw [if_neg e]
theorem Obj.lt (O : Obj Z h a C fs) : a < h.size := O.1.lt
theorem Ary.lt (O : Ary Z h a ty z vs) : a < h.size := by obtain ⟨⟨k, V, -⟩, -⟩ := O; exact V.lt
theorem itm.lt (O : itm Z h x) : x.1 < h.size := by
  obtain ⟨a, I⟩ := x
  cases I with
  | inl o => exact Obj.lt (show Obj Z h a o.1 o.2 from O)
  | inr o => exact Ary.lt (show Ary Z h a o.1 o.2.1 o.2.2 from O)
theorem itm.ext (E : Ext h h') (O : itm Z h x) : itm Z h' x := by
  obtain ⟨a, I⟩ := x
  cases I with
  | inl o =>
    have O' : Obj Z h a o.1 o.2 := O
    exact (show Obj Z h' a o.1 o.2 from ⟨O'.1.ext E, fun f hf => (O'.2.1 f hf).ext E, O'.2.2⟩)
  | inr o =>
    have O' : Ary Z h a o.1 o.2.1 o.2.2 := O
    obtain ⟨⟨k, V, u⟩, q⟩ := O'
    exact (show Ary Z h' a o.1 o.2.1 o.2.2 from ⟨⟨k, V.ext E, u⟩, q⟩)
theorem itm.other (W : Wr h h' b sl v) (q : x.1 ≠ b) (O : itm Z h x) : itm Z h' x := by
  obtain ⟨a, I⟩ := x
  cases I with
  | inl o =>
    have O' : Obj Z h a o.1 o.2 := O
    exact (show Obj Z h' a o.1 o.2 from ⟨O'.1.wr W, fun f hf => (O'.2.1 f hf).other W (Or.inl q), O'.2.2⟩)
  | inr o =>
    have O' : Ary Z h a o.1 o.2.1 o.2.2 := O
    obtain ⟨⟨k, V, u⟩, r⟩ := O'
    exact (show Ary Z h' a o.1 o.2.1 o.2.2 from ⟨⟨k, V.other W q, u⟩, r⟩)
theorem Obj.put (hj : fs[j]? = some (n, d, w)) (W : Wr h h' a (Jvm.RoadKit.slotOf Z C n d) v) (O : Obj Z h a C fs) : Obj Z h' a C (fs.set j (n, d, v)) := by
  have hjl : j < fs.length := (List.getElem?_eq_some_iff.mp hj).1
  refine ⟨O.1.wr W, fun f hf => ?_, ?_⟩
  · obtain ⟨i, hi⟩ := List.mem_iff_getElem?.mp hf
    by_cases e : j = i
    · subst e
      rw [List.getElem?_set_self hjl] at hi
      cases hi
      exact (O.2.1 _ (List.mem_of_getElem? hj)).same W
    · rw [List.getElem?_set_ne e] at hi
      refine (O.2.1 f (List.mem_of_getElem? hi)).other W (Or.inr fun q => e ?_)
      have hil : i < fs.length := (List.getElem?_eq_some_iff.mp hi).1
      refine ((List.getElem?_inj (i := i) (j := j) (by simpa using hil) O.2.2).mp ?_).symm
      rw [List.getElem?_map, List.getElem?_map, hi, hj]
      simp [q]
  · rw [map_same _ fs j (n, d, w) (n, d, v) hj rfl]; exact O.2.2
theorem Ary.put {k : Int32} (hk : ¬ k < 0) (hl : k.toNatClampNeg < vs.length) (hv : fits ty v = true) (W : Wr h h' a k.toNatClampNeg v) (O : Ary Z h a ty z vs) : Ary Z h' a ty z (vs.set k.toNatClampNeg v) := by
  obtain ⟨⟨kc, ⟨cl, A, q1, S, q3, H, G⟩, u⟩, q⟩ := O
  exact ⟨⟨kc, Arv.set A q1 S q3 H G hv W _ rfl hl, u⟩, by rw [List.length_set]; exact q⟩
theorem Frs.obj (q : Frs n0 (ob a C fs)) : n0 ≤ a := q.elim id fun ⟨_, _, r⟩ => by cases r
theorem Frs.arr {k : Nat} (q : Frs n0 (ar a ty z vs)) (hl : k < vs.length) : n0 ≤ a := q.elim id fun ⟨_, _, r⟩ => by cases r; cases hl
theorem Hp.get (H : Hp Z n0 h D) (hi : D[i]? = some x) : Frs n0 x ∧ itm Z h x := H.2.1 _ (List.mem_of_getElem? hi)
theorem Hp.obj (H : Hp Z n0 h D) (hi : D[i]? = some (ob a C fs)) : Obj Z h a C fs := (H.get hi).2
theorem Hp.ary (H : Hp Z n0 h D) (hi : D[i]? = some (ar a ty z vs)) : Ary Z h a ty z vs := (H.get hi).2
theorem Hp.fld (H : Hp Z n0 h D) (hi : D[i]? = some (ob a C fs)) (hj : fs[j]? = some (n, d, v)) : Fld Z h a C n d v := (H.obj hi).2.1 _ (List.mem_of_getElem? hj)
theorem Hp.exa (H : Hp Z n0 h D) (hi : D[i]? = some (ob a C fs)) : Exa Z h a C := (H.obj hi).1
theorem Hp.upd (H : Hp Z n0 h D) (hi : D[i]? = some (a, I)) (hfr : n0 ≤ a) (W : Wr h h' a sl v) (q : itm Z h (a, I) → itm Z h' (a, J)) : Hp Z n0 h' (D.set i (a, J)) := by
  have hil : i < D.length := (List.getElem?_eq_some_iff.mp hi).1
  refine ⟨H.1.wr W hfr, fun x hx => ?_, ?_⟩
  · obtain ⟨k, hk⟩ := List.mem_iff_getElem?.mp hx
    by_cases e : i = k
    · subst e
      rw [List.getElem?_set_self hil] at hk
      cases hk
      exact ⟨Or.inl hfr, q (H.get hi).2⟩
    · rw [List.getElem?_set_ne e] at hk
      refine ⟨(H.get hk).1, (H.get hk).2.other W fun r => e ?_⟩
      refine (List.getElem?_inj (i := i) (j := k) (by simpa using hil) H.2.2).mp ?_
      rw [List.getElem?_map, List.getElem?_map, hi, hk]
      simp [r]
  · rw [map_same _ D i (a, I) (a, J) hi rfl]; exact H.2.2
theorem Hp.new (H : Hp Z n0 h D) (E : Ext h h') (q : itm Z h' (h.size, I)) : Hp Z n0 h' (D ++ [(h.size, I)]) := by
  have hsz : n0 ≤ h.size := by rw [← H.1.1]; exact H.1.2.1
  refine ⟨H.1.ext E, fun x hx => ?_, ?_⟩
  · rcases List.mem_append.mp hx with r | r
    · exact ⟨(H.2.1 x r).1, (H.2.1 x r).2.ext E⟩
    · cases List.mem_singleton.mp r; exact ⟨Or.inl hsz, q⟩
  · rw [List.map_append, List.nodup_append]
    refine ⟨H.2.2, by simp, fun y hy z hz => ?_⟩
    obtain ⟨x, hx, rfl⟩ := List.mem_map.mp hy
    have : z = h.size := by simpa using hz
    rw [this]
    exact Nat.ne_of_lt (H.2.1 x hx).2.lt
theorem Hp.nil (Z : State) : Hp Z Z.heap.size Z.heap [] := ⟨Old.start Z, (fun _ q => by cases q), List.nodup_nil⟩
theorem Hp.ext (H : Hp Z n0 h D) (E : Ext h h') : Hp Z n0 h' D := ⟨H.1.ext E, fun x hx => ⟨(H.2.1 x hx).1, (H.2.1 x hx).2.ext E⟩, H.2.2⟩
/-- a walk stands at T, has made so many cells and slots, has written nothing old, and its heap holds D -/
def On (p : Program) (l : Launch) (e : Env) (R : Room) (s : State) (m : MethodId) (args : Array Value) (below : List Frame) (meth : Method) (c : Code) (Z : State) (n0 : Nat) (T : State) (cells slots : Nat) (D : List (Addr × Itm)) : Prop := ∃ locs, Stand p l e R s m args below meth c T locs cells slots ∧ Fr n0 locs ∧ Hp Z n0 T.heap D
theorem On.here (Y : On p l e R s m args below meth c Z n0 T cells slots D) : At T m c below := by obtain ⟨_, X, -⟩ := Y; exact X.here
/-- what is known of the heap may be forgotten -/
theorem On.weak {D D' : List (Addr × Itm)} (Y : On p l e R s m args below meth c Z n0 T cells slots D) (q : D'.Sublist D) : On p l e R s m args below meth c Z n0 T cells slots D' := by
  obtain ⟨locs, X, N, H⟩ := Y
  exact ⟨locs, X, N, H.1, fun x hx => H.2.1 x (q.subset hx), H.2.2.sublist (q.map _)⟩
/-! ## C. One law a step -/
theorem On.getf (Y : On p l e R s m args below meth c Z n0 T cells slots D) (hx : p.tables.exec = Jvm.exec) (hZ : Z.Warmed39 s.vm) {own : String} {index : Nat} (hown : s.vm.findClass own = some m.cls) (w : (Cond.fieldLink own index C n d).before a0 Z = true) (hi : D[i]? = some (ob a C fs)) (hj : fs[j]? = some (n, d, v))
    {g : JFrame} (hg : g.method = m) {rest : List Value} (hs : g.stack = .ref a :: rest) (hd : decode c.code g.pc = .ok (.getfield index, 3)) (k : ∀ T', On p l e R s m args below meth c Z n0 T' cells slots D → Rn p e below F T' { g with pc := g.pc + 3, stack := v :: rest }) : Rn p e below F T g := by
  obtain ⟨locs, X, N, H⟩ := Y
  obtain ⟨T', X', e', st⟩ := getF X hx hZ hown (host := "") (Or.inl w) Via.refl rfl (H.fld hi hj) hg hs hd
  exact Rn.go st (k T' ⟨locs, X', N, by rw [e']; exact H⟩)
theorem On.putf (Y : On p l e R s m args below meth c Z n0 T cells slots D) (hx : p.tables.exec = Jvm.exec) (hZ : Z.Warmed39 s.vm) {own : String} {index kk : Nat} (hown : s.vm.findClass own = some m.cls) (wl : (Cond.fieldLink own index C n d).before a0 Z = true) (hi : D[i]? = some (ob a C fs)) (hj : fs[j]? = some (n, d, w))
    (L : (Cond.lays C C n d).before a0 Z = true ∨ ((Cond.laysFinal C C n d).before a0 Z = true ∧ own = C ∧ meth.name = "<init>")) (wi : (Cond.instantiable C kk).before a0 Z = true) (hty : parseFieldDescriptor d = some ty) {v v' : Value} (hn : narrow ty v = v') (hf : fits ty v' = true)
    {g : JFrame} (hg : g.method = m) {rest : List Value} (hs : g.stack = v :: .ref a :: rest) (hd : decode c.code g.pc = .ok (.putfield index, 3)) (k : ∀ T', On p l e R s m args below meth c Z n0 T' cells slots (D.set i (ob a C (fs.set j (n, d, v')))) → Rn p e below F T' { g with pc := g.pc + 3, stack := rest }) : Rn p e below F T g := by
  obtain ⟨locs, X, N, H⟩ := Y
  obtain ⟨T', h', X', e', W, st⟩ := putFN X hx hZ hown wl Via.refl rfl (H.fld hi hj) (H.exa hi) L wi hty hn hf hg hs hd
  have hfr := (H.get hi).1.obj
  refine Rn.go st (k T' ⟨_, X', Fr.snoc X' N hfr, ?_⟩)
  rw [e']
  exact H.upd hi hfr W fun O => Obj.put hj W O
theorem On.newo (Y : On p l e R s m args below meth c Z n0 T cells slots D) (hx : p.tables.exec = Jvm.exec) (hZ : Z.Warmed39 s.vm) {own : String} {index k : Nat} (hown : s.vm.findClass own = some m.cls) (w : (Cond.classLink own index C).before a0 Z = true) (wi : (Cond.instantiable C k).before a0 Z = true) (wz : (Cond.initialized C).before a0 Z = true)
    (fs : List (String × String × Value)) (hl : ∀ f ∈ fs, Laid Z a0 C C f.1 f.2.1 ∧ ∃ ty, parseFieldDescriptor f.2.1 = some ty ∧ f.2.2 = defaultValue ty) (hn : (fs.map (·.1)).Nodup)
    {g : JFrame} (hg : g.method = m) (hd : decode c.code g.pc = .ok (.new index, 3)) (hc : cells + 1 ≤ R.cells) (hs : slots + k ≤ R.slots)
    (kk : ∀ T' a, On p l e R s m args below meth c Z n0 T' (cells + 1) (slots + k) (D ++ [ob a C fs]) → Rn p e below F T' { g with pc := g.pc + 3, stack := .ref a :: g.stack }) : Rn p e below F T g := by
  obtain ⟨locs, X, N, H⟩ := Y
  obtain ⟨T', h', X', e', E, A, Df, -, st⟩ := newO X hx hZ hown w wi wz rfl hg hd hc hs
  refine Rn.go st (kk T' _ ⟨_, X', N, ?_⟩)
  rw [e']
  refine H.new E (show Obj Z h' _ C fs from ⟨A, fun f hf => ?_, ?_⟩)
  · obtain ⟨L, ty, h1, h2⟩ := hl f hf
    rw [h2]; exact Df L h1
  · rw [List.nodup_iff_pairwise_ne, List.pairwise_map] at hn ⊢
    refine List.Pairwise.imp_of_mem (fun {x y} hx hy q => ?_) hn
    obtain ⟨L, ty, h1, -⟩ := hl x hx
    obtain ⟨L', ty', h1', -⟩ := hl y hy
    exact slot_ne L L' q h1 h1'
theorem On.newp (Y : On p l e R s m args below meth c Z n0 T cells slots D) (hx : p.tables.exec = Jvm.exec) (hZ : Z.Warmed39 s.vm) {aty : ArrayType} (w : (Cond.arrayClass (newarray.typeOf aty)).before a0 Z = true) {g : JFrame} (hg : g.method = m) (hd : decode c.code g.pc = .ok (.newarray aty, 2)) {z : Int32} {rest : List Value} (hs : g.stack = .int z :: rest)
    (hn : ¬ z < 0) {cap N : Nat} (hN : z.toNatClampNeg = N) (hcap : N ≤ cap) (hb : cap * 8 ≤ 536870912) (hc : cells + 1 ≤ R.cells) (hl : slots + cap ≤ R.slots) {dv : Value} (hdv : defaultValue (newarray.typeOf aty) = dv)
    (k : ∀ T' a, On p l e R s m args below meth c Z n0 T' (cells + 1) (slots + cap) (D ++ [ar a (newarray.typeOf aty) z (List.replicate N dv)]) → Rn p e below F T' { g with pc := g.pc + 2, stack := .ref a :: rest }) : Rn p e below F T g := by
  obtain ⟨locs, X, Nl, H⟩ := Y
  subst hN hdv
  obtain ⟨T', h', cA, X', e', E, A, st⟩ := newP X hx hZ w rfl hg hd hs hn hcap hb hc hl
  refine Rn.go st (k T' _ ⟨_, X', Nl, ?_⟩)
  rw [e']
  exact H.new E (show Ary Z h' _ _ z _ from ⟨⟨_, (Arv.new A hn).pad (pad_rep [] _ _), fun C hC => by cases aty <;> cases hC⟩, by simp⟩)
theorem On.newr (Y : On p l e R s m args below meth c Z n0 T cells slots D) (hx : p.tables.exec = Jvm.exec) (hZ : Z.Warmed39 s.vm) {own : String} {index : Nat} (hown : s.vm.findClass own = some m.cls) (w1 : (Cond.classLink own index C).before a0 Z = true) (w2 : (Cond.arrayOver (.object C)).before a0 Z = true) {g : JFrame} (hg : g.method = m) (hd : decode c.code g.pc = .ok (.anewarray index, 3)) {z : Int32} {rest : List Value} (hs : g.stack = .int z :: rest)
    (hn : ¬ z < 0) {cap N : Nat} (hN : z.toNatClampNeg = N) (hcap : N ≤ cap) (hb : cap * 8 ≤ 536870912) (hc : cells + 1 ≤ R.cells) (hl : slots + cap ≤ R.slots)
    (k : ∀ T' a, On p l e R s m args below meth c Z n0 T' (cells + 1) (slots + cap) (D ++ [ar a (.object C) z (List.replicate N .null)]) → Rn p e below F T' { g with pc := g.pc + 3, stack := .ref a :: rest }) : Rn p e below F T g := by
  obtain ⟨locs, X, Nl, H⟩ := Y
  subst hN
  obtain ⟨T', h', cA, X', e', E, A, O, st⟩ := newR X hx hZ hown w1 w2 rfl hg hd hs hn hcap hb hc hl
  refine Rn.go st (k T' _ ⟨_, X', Nl, ?_⟩)
  rw [e']
  exact H.new E (show Ary Z h' _ _ z _ from ⟨⟨_, (Arv.new A hn).pad (pad_rep [] _ _), fun C' hC => by cases hC; exact O⟩, by simp⟩)
theorem On.isto (Y : On p l e R s m args below meth c Z n0 T cells slots D) (hx : p.tables.exec = Jvm.exec) (hZ : Z.Warmed39 s.vm) {xs : List Int32} (hi : D[i]? = some (ari a .int z xs)) {k x : Int32} (hk : ¬ k < 0) (hl : k.toNatClampNeg < xs.length)
    {g : JFrame} (hg : g.method = m) {rest : List Value} (hs : g.stack = .int x :: .int k :: .ref a :: rest) (hd : decode c.code g.pc = .ok (.iastore, 1))
    (kk : ∀ T', On p l e R s m args below meth c Z n0 T' cells slots (D.set i (ari a .int z (xs.set k.toNatClampNeg x))) → Rn p e below F T' { g with pc := g.pc + 1, stack := rest }) : Rn p e below F T g := by
  obtain ⟨locs, X, N, H⟩ := Y
  obtain ⟨⟨kc, ⟨cl, A, q1, S, q3, Hh, G⟩, -⟩, q⟩ := H.ary hi
  have hl' : k.toNatClampNeg < (xs.map Value.int).length := by simpa using hl
  obtain ⟨T', h', X', e', W, st⟩ := stI X hx hZ rfl A (fun r => r.elim hk fun r => absurd hl' (by rw [q, ← S]; exact Nat.not_lt.mpr r)) hg hs hd
  have hfr := (H.get hi).1.arr hl'
  refine Rn.go st (kk T' ⟨_, X', Fr.snoc X' N hfr, ?_⟩)
  rw [e']
  refine H.upd hi hfr W fun O => ?_
  have := Ary.put hk hl' rfl W O
  rw [← List.map_set] at this
  exact this
theorem On.bsto (Y : On p l e R s m args below meth c Z n0 T cells slots D) (hx : p.tables.exec = Jvm.exec) (hZ : Z.Warmed39 s.vm) {xs : List Int32} (hi : D[i]? = some (ari a .byte z xs)) {k x : Int32} (hk : ¬ k < 0) (hl : k.toNatClampNeg < xs.length)
    {g : JFrame} (hg : g.method = m) {rest : List Value} (hs : g.stack = .int x :: .int k :: .ref a :: rest) (hd : decode c.code g.pc = .ok (.bastore, 1))
    (kk : ∀ T', On p l e R s m args below meth c Z n0 T' cells slots (D.set i (ari a .byte z (xs.set k.toNatClampNeg x.toInt8.toInt32))) → Rn p e below F T' { g with pc := g.pc + 1, stack := rest }) : Rn p e below F T g := by
  obtain ⟨locs, X, N, H⟩ := Y
  obtain ⟨⟨kc, ⟨cl, A, q1, S, q3, Hh, G⟩, -⟩, q⟩ := H.ary hi
  have hl' : k.toNatClampNeg < (xs.map Value.int).length := by simpa using hl
  obtain ⟨T', h', X', e', W, st⟩ := stB X hx hZ rfl A (fun r => r.elim hk fun r => absurd hl' (by rw [q, ← S]; exact Nat.not_lt.mpr r)) hg hs hd
  have hfr := (H.get hi).1.arr hl'
  refine Rn.go st (kk T' ⟨_, X', Fr.snoc X' N hfr, ?_⟩)
  rw [e']
  refine H.upd hi hfr W fun O => ?_
  have := Ary.put hk hl' (fits_nar_byte _) W O
  rw [← List.map_set] at this
  exact this
theorem On.zsto (Y : On p l e R s m args below meth c Z n0 T cells slots D) (hx : p.tables.exec = Jvm.exec) (hZ : Z.Warmed39 s.vm) {xs : List Int32} (hi : D[i]? = some (ari a .boolean z xs)) {k x : Int32} (hk : ¬ k < 0) (hl : k.toNatClampNeg < xs.length)
    {g : JFrame} (hg : g.method = m) {rest : List Value} (hs : g.stack = .int x :: .int k :: .ref a :: rest) (hd : decode c.code g.pc = .ok (.bastore, 1))
    (kk : ∀ T', On p l e R s m args below meth c Z n0 T' cells slots (D.set i (ari a .boolean z (xs.set k.toNatClampNeg (x &&& 1)))) → Rn p e below F T' { g with pc := g.pc + 1, stack := rest }) : Rn p e below F T g := by
  obtain ⟨locs, X, N, H⟩ := Y
  obtain ⟨⟨kc, ⟨cl, A, q1, S, q3, Hh, G⟩, -⟩, q⟩ := H.ary hi
  have hl' : k.toNatClampNeg < (xs.map Value.int).length := by simpa using hl
  obtain ⟨T', h', X', e', W, st⟩ := stZ X hx hZ rfl A (fun r => r.elim hk fun r => absurd hl' (by rw [q, ← S]; exact Nat.not_lt.mpr r)) hg hs hd
  have hfr := (H.get hi).1.arr hl'
  refine Rn.go st (kk T' ⟨_, X', Fr.snoc X' N hfr, ?_⟩)
  rw [e']
  refine H.upd hi hfr W fun O => ?_
  have := Ary.put hk hl' (fits_nar_bool _) W O
  rw [← List.map_set] at this
  exact this
theorem On.jsto (Y : On p l e R s m args below meth c Z n0 T cells slots D) (hx : p.tables.exec = Jvm.exec) (hZ : Z.Warmed39 s.vm) {xs : List Int64} (hi : D[i]? = some (arj a z xs)) {k : Int32} {x : Int64} (hk : ¬ k < 0) (hl : k.toNatClampNeg < xs.length)
    {g : JFrame} (hg : g.method = m) {rest : List Value} (hs : g.stack = .long x :: .int k :: .ref a :: rest) (hd : decode c.code g.pc = .ok (.lastore, 1))
    (kk : ∀ T', On p l e R s m args below meth c Z n0 T' cells slots (D.set i (arj a z (xs.set k.toNatClampNeg x))) → Rn p e below F T' { g with pc := g.pc + 1, stack := rest }) : Rn p e below F T g := by
  obtain ⟨locs, X, N, H⟩ := Y
  obtain ⟨⟨kc, ⟨cl, A, q1, S, q3, Hh, G⟩, -⟩, q⟩ := H.ary hi
  have hl' : k.toNatClampNeg < (xs.map Value.long).length := by simpa using hl
  obtain ⟨T', h', X', e', W, st⟩ := stJ X hx hZ rfl A (fun r => r.elim hk fun r => absurd hl' (by rw [q, ← S]; exact Nat.not_lt.mpr r)) hg hs hd
  have hfr := (H.get hi).1.arr hl'
  refine Rn.go st (kk T' ⟨_, X', Fr.snoc X' N hfr, ?_⟩)
  rw [e']
  refine H.upd hi hfr W fun O => ?_
  have := Ary.put hk hl' rfl W O
  rw [← List.map_set] at this
  exact this
/-- the cell of an array, opened for a load -/
theorem Ary.at (O : Ary Z h a ty z vs) {k : Int32} (hk : ¬ k < 0) (hv : vs[k.toNatClampNeg]? = some v) : ∃ cl, Arr Z h a cl ty ∧ ¬ (k < 0 ∨ cl.slots.size ≤ k.toNatClampNeg) ∧ cl.slots[k.toNatClampNeg]? = some v := by
  obtain ⟨⟨kc, ⟨cl, A, q1, S, q3, H, G⟩, -⟩, q⟩ := O
  have hl := (List.getElem?_eq_some_iff.mp hv).1
  have hl2 : k.toNatClampNeg < cl.slots.size := by rw [S, ← q]; exact hl
  exact ⟨cl, A, fun r => r.elim hk (Nat.not_le.mpr hl2), by rw [H _ hl2, List.getD_eq_getElem?_getD, hv]; rfl⟩
theorem On.ild (Y : On p l e R s m args below meth c Z n0 T cells slots D) (hx : p.tables.exec = Jvm.exec) (hZ : Z.Warmed39 s.vm) {xs : List Int32} (hi : D[i]? = some (ari a .int z xs)) {k x : Int32} (hk : ¬ k < 0) (hv : xs[k.toNatClampNeg]? = some x)
    {g : JFrame} (hg : g.method = m) {rest : List Value} (hs : g.stack = .int k :: .ref a :: rest) (hd : decode c.code g.pc = .ok (.iaload, 1))
    (kk : Rn p e below F T { g with pc := g.pc + 1, stack := .int x :: rest }) : Rn p e below F T g := by
  obtain ⟨locs, X, N, H⟩ := Y
  obtain ⟨cl, A, h1, h2⟩ := (H.ary hi).at (v := .int x) hk (by simp [List.getElem?_map, hv])
  exact Rn.go (fun t kt => X.iaload hx A.1 (State.isArrayOf_alike hZ.alike A.2.1) A.2.2 h1 h2 hg hs hd t kt) kk
theorem On.bld (Y : On p l e R s m args below meth c Z n0 T cells slots D) (hx : p.tables.exec = Jvm.exec) (hZ : Z.Warmed39 s.vm) {xs : List Int32} (hi : D[i]? = some (ari a .byte z xs)) {k x : Int32} (hk : ¬ k < 0) (hv : xs[k.toNatClampNeg]? = some x)
    {g : JFrame} (hg : g.method = m) {rest : List Value} (hs : g.stack = .int k :: .ref a :: rest) (hd : decode c.code g.pc = .ok (.baload, 1))
    (kk : Rn p e below F T { g with pc := g.pc + 1, stack := .int x :: rest }) : Rn p e below F T g := by
  obtain ⟨locs, X, N, H⟩ := Y
  obtain ⟨cl, A, h1, h2⟩ := (H.ary hi).at (v := .int x) hk (by simp [List.getElem?_map, hv])
  exact Rn.go (fun t kt => X.baloadBytes hx A.1 (State.isArrayOf_alike hZ.alike A.2.1) A.2.2 h1 h2 hg hs hd t kt) kk
theorem On.zld (Y : On p l e R s m args below meth c Z n0 T cells slots D) (hx : p.tables.exec = Jvm.exec) (hZ : Z.Warmed39 s.vm) {xs : List Int32} (hi : D[i]? = some (ari a .boolean z xs)) {k x : Int32} (hk : ¬ k < 0) (hv : xs[k.toNatClampNeg]? = some x)
    {g : JFrame} (hg : g.method = m) {rest : List Value} (hs : g.stack = .int k :: .ref a :: rest) (hd : decode c.code g.pc = .ok (.baload, 1))
    (kk : Rn p e below F T { g with pc := g.pc + 1, stack := .int x :: rest }) : Rn p e below F T g := by
  obtain ⟨locs, X, N, H⟩ := Y
  obtain ⟨cl, A, h1, h2⟩ := (H.ary hi).at (v := .int x) hk (by simp [List.getElem?_map, hv])
  exact Rn.go (fun t kt => X.baloadBooleans hx A.1 (State.isArrayOf_alike hZ.alike A.2.1) A.2.2 h1 h2 hg hs hd t kt) kk
theorem On.jld (Y : On p l e R s m args below meth c Z n0 T cells slots D) (hx : p.tables.exec = Jvm.exec) (hZ : Z.Warmed39 s.vm) {xs : List Int64} (hi : D[i]? = some (arj a z xs)) {k : Int32} {x : Int64} (hk : ¬ k < 0) (hv : xs[k.toNatClampNeg]? = some x)
    {g : JFrame} (hg : g.method = m) {rest : List Value} (hs : g.stack = .int k :: .ref a :: rest) (hd : decode c.code g.pc = .ok (.laload, 1))
    (kk : Rn p e below F T { g with pc := g.pc + 1, stack := .long x :: rest }) : Rn p e below F T g := by
  obtain ⟨locs, X, N, H⟩ := Y
  obtain ⟨cl, A, h1, h2⟩ := (H.ary hi).at (v := .long x) hk (by simp [List.getElem?_map, hv])
  exact Rn.go (fun t kt => X.laload hx A.1 (State.isArrayOf_alike hZ.alike A.2.1) A.2.2 h1 h2 hg hs hd t kt) kk
theorem On.alen (Y : On p l e R s m args below meth c Z n0 T cells slots D) (hx : p.tables.exec = Jvm.exec) (hZ : Z.Warmed39 s.vm) (hi : D[i]? = some (ar a ty z vs))
    {g : JFrame} (hg : g.method = m) {rest : List Value} (hs : g.stack = .ref a :: rest) (hd : decode c.code g.pc = .ok (.arraylength, 1))
    (kk : Rn p e below F T { g with pc := g.pc + 1, stack := .int z :: rest }) : Rn p e below F T g := by
  obtain ⟨locs, X, N, H⟩ := Y
  obtain ⟨⟨kc, ⟨cl, A, q1, S, q3, Hh, G⟩, -⟩, q⟩ := H.ary hi
  refine Rn.go (fun t kt => X.arraylength hx A.1 (State.isArrayOf_alike hZ.alike A.2.1) hg hs hd t kt) ?_
  rw [len_of S q3]; exact kk
theorem On.ldcI (Y : On p l e R s m args below meth c Z n0 T cells slots D) (hx : p.tables.exec = Jvm.exec) (hZ : Z.Warmed39 s.vm) {own : String} {index : Nat} {x : Int32} (hown : s.vm.findClass own = some m.cls) (w : (Cond.constant own index x).before a0 Z = true)
    {g : JFrame} (hg : g.method = m) (hd : decode c.code g.pc = .ok (.ldc index, 2)) (kk : Rn p e below F T { g with pc := g.pc + 2, stack := .int x :: g.stack }) : Rn p e below F T g := by
  obtain ⟨locs, X, N, H⟩ := Y
  exact Rn.go (X.ldcInt hx hown (mvT hZ w) hg hd) kk
theorem On.ldcJ (Y : On p l e R s m args below meth c Z n0 T cells slots D) (hx : p.tables.exec = Jvm.exec) (hZ : Z.Warmed39 s.vm) {own : String} {index : Nat} {x : Int64} (hown : s.vm.findClass own = some m.cls) (w : (Cond.constantLong own index x).before a0 Z = true)
    {g : JFrame} (hg : g.method = m) (hd : decode c.code g.pc = .ok (.ldc2_w index, 3)) (kk : Rn p e below F T { g with pc := g.pc + 3, stack := .long x :: g.stack }) : Rn p e below F T g := by
  obtain ⟨locs, X, N, H⟩ := Y
  exact Rn.go (X.ldc2Long hx hown (mvT hZ w) hg hd) kk
theorem On.sldcI (Y : On p l e R s m args below meth c Z n0 T cells slots D) (hx : p.tables.exec = Jvm.exec) (hZ : Z.Warmed39 s.vm) {own : String} {index : Nat} {x : Int32} (hown : s.vm.findClass own = some m.cls) (w : (Cond.constant own index x).before a0 Z = true)
    {g : JFrame} (hg : g.method = m) (hd : decode c.code g.pc = .ok (.ldc index, 2)) : ∀ t, Steps p.tables e below (T.setTop { g with pc := g.pc + 2, stack := .int x :: g.stack }) t → Steps p.tables e below (T.setTop g) t := by
  obtain ⟨locs, X, N, H⟩ := Y
  exact X.ldcInt hx hown (mvT hZ w) hg hd
theorem On.sldcJ (Y : On p l e R s m args below meth c Z n0 T cells slots D) (hx : p.tables.exec = Jvm.exec) (hZ : Z.Warmed39 s.vm) {own : String} {index : Nat} {x : Int64} (hown : s.vm.findClass own = some m.cls) (w : (Cond.constantLong own index x).before a0 Z = true)
    {g : JFrame} (hg : g.method = m) (hd : decode c.code g.pc = .ok (.ldc2_w index, 3)) : ∀ t, Steps p.tables e below (T.setTop { g with pc := g.pc + 3, stack := .long x :: g.stack }) t → Steps p.tables e below (T.setTop g) t := by
  obtain ⟨locs, X, N, H⟩ := Y
  exact X.ldc2Long hx hown (mvT hZ w) hg hd
theorem On.ini (Y : On p l e R s m args below meth c Z n0 T cells slots D) (hx : p.tables.exec = Jvm.exec) (hZ : Z.Warmed39 s.vm) {own : String} {idx : Nat} (hown : s.vm.findClass own = some m.cls) (w1 : (Cond.methodLink own idx Lib.objectInit).before a0 Z = true) (w2 : (Cond.instanceMethod Lib.objectInit).before a0 Z = true)
    (w3 : (Cond.code Lib.objectInit ⟨#[0xb1]⟩ 1 none).before a0 Z = true) {g : JFrame} (hg : g.method = m) (hsize : g.locals.size = c.maxLocals) {a : Addr} {rest : List Value} (hs : g.stack = .ref a :: rest) (hd : decode c.code g.pc = .ok (.invokespecial idx, 3))
    (hf : 1 ≤ R.frames) {W : Nat} (hW : 2 * g.monitorRoom + (rest.map fun v => v.category).sum ≤ W) (hl : W + 12 ≤ R.locals)
    (k : ∀ T', On p l e R s m args below meth c Z n0 T' cells slots D → Rn p e below F T' { g with pc := g.pc + 3, stack := rest }) : Rn p e below F T g := by
  obtain ⟨locs, X, N, H⟩ := Y
  obtain ⟨T', X', e', st⟩ := initO X hx hZ hown w1 w2 w3 rfl hg hsize hs hd hf hW hl
  exact Rn.go st (k T' ⟨locs, X', N, by rw [e']; exact H⟩)
/-! ## D. A method's contract: from a heap that holds D, with these arguments, it returns v and leaves a heap that holds D', where P v D' -/
def QP (Z : State) (n0 : Nat) (P : Option Value → List (Addr × Itm) → Prop) (v : Option Value) (h : Heap) (L : List Loc) : Prop := ∃ D', P v D' ∧ Fr n0 L ∧ Hp Z n0 h D'
def Con (l : Launch) (Z : State) (n0 : Nat) (y : MethodName) (bytes : ByteArray) (maxL : Nat) (ret : Option FieldType) (rm : Room) (as : Array Value) (D : List (Addr × Itm)) (P : Option Value → List (Addr × Itm) → Prop) : Prop :=
  ∀ (ws : List Cond) (h0 : Heap), Hp Z n0 h0 D → MetFree l y (head1 (Cond.code y bytes maxL ret :: ws) rm) (fun a U => a = as ∧ Z.Warmed39 U.vm ∧ U.heap = h0) (fun _ _ _ _ _ => True) (fun _ U o U' => ∃ v L, o = .returned v ∧ QP Z n0 P v U'.heap L ∧ FrameEnd U o U' L rm.cells rm.slots)
def Cx (p : Program) (s : State) (m : MethodId) (meth : Method) (c : Code) (Z : State) (y : MethodName) (bytes : ByteArray) (maxL : Nat) (ret : Option FieldType) : Prop :=
  p.tables.exec = Jvm.exec ∧ c.code = bytes ∧ c.maxLocals = maxL ∧ s.vm.findClass y.cls = some m.cls ∧ meth.name = y.name ∧ meth.sig.returnType = ret ∧ meth.locks = false ∧ Z.Warmed39 s.vm
def Fi (Z : State) (n0 : Nat) (below : List Frame) (s : State) (kc ks : Nat) (P : Option Value → List (Addr × Itm) → Prop) (U : State) : Prop := ∃ o, U.status = .running ∧ Ended U below o ∧ ∃ v L, o = .returned v ∧ QP Z n0 P v U.heap L ∧ FrameEnd s o U L kc ks
variable {y : MethodName} {bytes : ByteArray} {maxL : Nat} {ret : Option FieldType} {rm : Room} {as : Array Value} {P : Option Value → List (Addr × Itm) → Prop} {kc ks : Nat}
theorem Con.of (hp : plainFor y = true) (body : ∀ {p : Program} {e : Env} {s : State} {m : MethodId} {below : List Frame} {meth : Method} {c : Code} {T : State}, Cx p s m meth c Z y bytes maxL ret → On p l e rm s m as below meth c Z n0 T 0 0 D → Rn p e below (Fi Z n0 below s rm.cells rm.slots P) T (entryFrame m as maxL)) :
    Con l Z n0 y bytes maxL ret rm as D P := by
  intro ws h0 H
  refine MetFree.of_bodySF hp hisR ?_
  intro p e s m args below meth c s₁ Bd hml0 hP hK
  obtain ⟨rfl, hZ, hh⟩ := hP
  have X0 : Stand p l e rm s m args below meth c s₁ [] 0 0 := Stand.of_body Bd
  have e0 : s₁.heap = h0 := by rw [← hh, Bd.state]; rfl
  obtain ⟨U, h1, o, h2, h3, h4⟩ := body ⟨Bd.exec, Bd.bytes, hml0, findClass_of_methodNamed Bd.named, (name_of_methodNamed Bd.named Bd.method).1, Bd.returns, Bd.notSynchronized, hZ⟩ ⟨[], X0, Fr.nil n0, by rw [e0]; exact H⟩
  exact ⟨U, o, h1, h2, h3, h4⟩
theorem On.out (Y : On p l e R s m args below meth c Z n0 T cells slots D) {v : Option Value} (hv : meth.sig.returnType = none → v = none) (hlk : meth.locks = false) (hc : cells ≤ kc) (hs : slots ≤ ks) (hP : P v D)
    (st : ∀ locs fs, Stand p l e R s m args below meth c T locs cells slots → (∀ (f : JFrame) (acts : List Action), f.method = m → f.locked = none → f.entered = [] → (doReturn e (T.setTop f) acts v).1 = T.setFrames fs) → Steps p.tables e below (T.setTop g) (T.setFrames fs)) : Rn p e below (Fi Z n0 below s kc ks P) T g := by
  obtain ⟨locs, X, N, H⟩ := Y
  obtain ⟨fs, hr, hrun, hended, hW, hsame⟩ := X.leave hv hlk
  exact ⟨_, st locs fs X hr, _, hrun, hended, _, _, rfl, ⟨D, hP, N, H⟩, ⟨_, rfl⟩, hW, hsame.mono hc hs⟩
theorem On.retv (Y : On p l e R s m args below meth c Z n0 T cells slots D) (hx : p.tables.exec = Jvm.exec) (hret : meth.sig.returnType = none) (hlk : meth.locks = false) {pc : Nat} {Ls : Array Slot} (hd : decode c.code pc = .ok (.return_, 1)) (hc : cells ≤ kc) (hs : slots ≤ ks) (hP : P none D) : Rn p e below (Fi Z n0 below s kc ks P) T (mkF m pc Ls []) :=
  Y.out (fun _ => rfl) hlk hc hs hP fun locs fs X hr => X.returnOut hx hret hd hr
theorem On.reti (Y : On p l e R s m args below meth c Z n0 T cells slots D) (hx : p.tables.exec = Jvm.exec) (hret : meth.sig.returnType = some .int) (hlk : meth.locks = false) {pc : Nat} {Ls : Array Slot} {z : Int32} {rest : List Value} (hd : decode c.code pc = .ok (.ireturn, 1)) (hc : cells ≤ kc) (hs : slots ≤ ks) (hP : P (some (.int z)) D) : Rn p e below (Fi Z n0 below s kc ks P) T (mkF m pc Ls (.int z :: rest)) :=
  Y.out (fun q => by rw [hret] at q; cases q) hlk hc hs hP fun locs fs X hr => retOut X hx hret rfl (Or.inl ⟨rfl, Or.inl rfl, _, rfl⟩) hd hr
theorem On.retn (Y : On p l e R s m args below meth c Z n0 T cells slots D) (hx : p.tables.exec = Jvm.exec) {t : FieldType} (hret : meth.sig.returnType = some t) (ht : t = .boolean ∨ t = .byte ∨ t = .char ∨ t = .short) (hlk : meth.locks = false) {pc : Nat} {Ls : Array Slot} {z z' : Int32} (hz : nar t z = z') {rest : List Value} (hd : decode c.code pc = .ok (.ireturn, 1)) (hc : cells ≤ kc) (hs : slots ≤ ks) (hP : P (some (.int z')) D) : Rn p e below (Fi Z n0 below s kc ks P) T (mkF m pc Ls (.int z :: rest)) := by
  subst hz
  exact Y.out (fun q => by rw [hret] at q; cases q) hlk hc hs hP fun locs fs X hr => retN X hx hret ht hd hr
theorem On.retj (Y : On p l e R s m args below meth c Z n0 T cells slots D) (hx : p.tables.exec = Jvm.exec) (hret : meth.sig.returnType = some .long) (hlk : meth.locks = false) {pc : Nat} {Ls : Array Slot} {z : Int64} {rest : List Value} (hd : decode c.code pc = .ok (.lreturn, 1)) (hc : cells ≤ kc) (hs : slots ≤ ks) (hP : P (some (.long z)) D) : Rn p e below (Fi Z n0 below s kc ks P) T (mkF m pc Ls (.long z :: rest)) :=
  Y.out (fun q => by rw [hret] at q; cases q) hlk hc hs hP fun locs fs X hr => retOut X hx hret rfl (Or.inr (Or.inl ⟨rfl, rfl, _, rfl⟩)) hd hr
theorem On.reta (Y : On p l e R s m args below meth c Z n0 T cells slots D) (hx : p.tables.exec = Jvm.exec) {t : FieldType} (hret : meth.sig.returnType = some t) (ht : t.isReference = true) (hlk : meth.locks = false) {pc : Nat} {Ls : Array Slot} {z : Value} (hz : z.isRef = true) (hn : narrow t z = z) {rest : List Value} (hd : decode c.code pc = .ok (.areturn, 1)) (hc : cells ≤ kc) (hs : slots ≤ ks) (hP : P (some z) D) : Rn p e below (Fi Z n0 below s kc ks P) T (mkF m pc Ls (z :: rest)) :=
  Y.out (fun q => by rw [hret] at q; cases q) hlk hc hs hP fun locs fs X hr => retOut X hx hret hn (Or.inr (Or.inr (Or.inr (Or.inr ⟨rfl, ht, hz⟩)))) hd hr
/-! ## E. Calls -/
theorem On.special (Y : On p l e R s m args below meth c Z n0 T cells slots D) (hx : p.tables.exec = Jvm.exec) (hZ : Z.Warmed39 s.vm) {own : String} {index : Nat} (hy1 : y.name = "<init>") (hown : s.vm.findClass own = some m.cls) (w1 : (Cond.methodLink own index y).before a0 Z = true) (w2 : (Cond.instanceMethod y).before a0 Z = true) (w3 : (Cond.code y bytes maxL none).before a0 Z = true) (w4 : (Cond.initialized y.cls).before a0 Z = true)
    (hy : y.cls ≠ "java/lang/invoke/MethodHandle" ∧ y.cls ≠ "java/lang/invoke/VarHandle") {a : Addr} {argsL rest : List Value} (K : Con l Z n0 y bytes maxL none rm (.ref a :: argsL).toArray D P)
    {W : Nat} (hf : rm.frames + 1 ≤ R.frames) (hl : W + (maxL + 11) + rm.locals ≤ R.locals) (hc : cells + rm.cells ≤ R.cells) (hs : slots + rm.slots ≤ R.slots)
    {g : JFrame} (hg : g.method = m) (hsize : g.locals.size = c.maxLocals) (hlen : ∀ sig, parseMethodDescriptor y.desc = some sig → argsL.length = sig.parameters.length) (hstack : g.stack = argsL.reverse ++ .ref a :: rest) (hW : 2 * g.monitorRoom + (rest.map fun v => v.category).sum ≤ W) (hd : decode c.code g.pc = .ok (.invokespecial index, 3))
    (k : ∀ T' v D', P v D' → On p l e R s m args below meth c Z n0 T' (cells + rm.cells) (slots + rm.slots) D' → Rn p e below F T' { g with pc := g.pc + 3, stack := v.toList ++ rest }) : Rn p e below F T g := by
  obtain ⟨locs, X, N, H⟩ := Y
  obtain ⟨v, _, ⟨T', L', k', n'⟩, -, X', ⟨Lc, hQ, l', y', z'⟩, st⟩ := X.specialBack hx hy1 hown (mvT hZ w1) (mvT hZ w2) (mvT hZ w3) hy (backOf (W := W) (K [] T.heap H) hZ w3 w4 hf hl) hg hsize (Steps.refl _) (a := a) (argsL := argsL) (rest := rest) hlen hstack hW hd (fun _ _ => ⟨rfl, rfl, hc, hs⟩)
  dsimp only [Pt.U, Pt.locs, Pt.cells, Pt.slots] at X' l' y' z' st hQ
  subst l' y' z'
  obtain ⟨D', hP, N', H'⟩ := hQ
  exact Rn.to st (k T' v D' hP ⟨_, X', Fr.app N N', H'⟩)
theorem On.virtual (Y : On p l e R s m args below meth c Z n0 T cells slots D) (hx : p.tables.exec = Jvm.exec) (hZ : Z.Warmed39 s.vm) {own : String} {index : Nat} (hown : s.vm.findClass own = some m.cls) (w1 : (Cond.methodLink own index y).before a0 Z = true) (w2 : (Cond.declares y).before a0 Z = true) (w3 : (Cond.instanceMethod y).before a0 Z = true) (w4 : (Cond.selects C y y).before a0 Z = true) (w5 : (Cond.code y bytes maxL ret).before a0 Z = true) (w6 : (Cond.initialized y.cls).before a0 Z = true)
    (hy : y.cls ≠ "java/lang/invoke/MethodHandle" ∧ y.cls ≠ "java/lang/invoke/VarHandle") {a : Addr} {argsL rest : List Value} (hi : D[i]? = some (ob a C fs)) (K : Con l Z n0 y bytes maxL ret rm (.ref a :: argsL).toArray D P)
    {W : Nat} (hf : rm.frames + 1 ≤ R.frames) (hl : W + (maxL + 11) + rm.locals ≤ R.locals) (hc : cells + rm.cells ≤ R.cells) (hs : slots + rm.slots ≤ R.slots)
    {g : JFrame} (hg : g.method = m) (hsize : g.locals.size = c.maxLocals) (hlen : ∀ sig, parseMethodDescriptor y.desc = some sig → argsL.length = sig.parameters.length) (hstack : g.stack = argsL.reverse ++ .ref a :: rest) (hW : 2 * g.monitorRoom + (rest.map fun v => v.category).sum ≤ W) (hd : decode c.code g.pc = .ok (.invokevirtual index, 3))
    (k : ∀ T' v D', P v D' → On p l e R s m args below meth c Z n0 T' (cells + rm.cells) (slots + rm.slots) D' → Rn p e below F T' { g with pc := g.pc + 3, stack := v.toList ++ rest }) : Rn p e below F T g := by
  obtain ⟨locs, X, N, H⟩ := Y
  obtain ⟨cq, kq, qa, qb, qc⟩ := isOf hZ rfl (H.exa hi)
  obtain ⟨v, _, ⟨T', L', k', n'⟩, -, X', ⟨Lc, hQ, l', y', z'⟩, st⟩ := X.virtualBack hx (y := y) (z := y) hown (mvT hZ w1) (mvT hZ w2) (notFace_of_selects (args := #[]) (mvT hZ w4)) (mvT hZ w4) (mvT hZ w3) hy (backOf (W := W) (K [] T.heap H) hZ w5 w6 hf hl) qa qc hg hsize (Steps.refl _) (argsL := argsL) (rest := rest) hlen hstack hW hd (fun _ _ => ⟨rfl, rfl, hc, hs⟩)
  dsimp only [Pt.U, Pt.locs, Pt.cells, Pt.slots] at X' l' y' z' st hQ
  subst l' y' z'
  obtain ⟨D', hP, N', H'⟩ := hQ
  exact Rn.to st (k T' v D' hP ⟨_, X', Fr.app N N', H'⟩)
theorem On.static (Y : On p l e R s m args below meth c Z n0 T cells slots D) (hx : p.tables.exec = Jvm.exec) (hZ : Z.Warmed39 s.vm) {own : String} {index : Nat} (hown : s.vm.findClass own = some m.cls) (w1 : (Cond.methodLink own index y).before a0 Z = true) (w2 : (Cond.static y).before a0 Z = true) (w3 : (Cond.code y bytes maxL ret).before a0 Z = true) (w4 : (Cond.initialized y.cls).before a0 Z = true)
    (hy : y.cls ≠ "java/lang/invoke/MethodHandle" ∧ y.cls ≠ "java/lang/invoke/VarHandle") {argsL rest : List Value} (K : Con l Z n0 y bytes maxL ret rm argsL.toArray D P)
    {W : Nat} (hf : rm.frames + 1 ≤ R.frames) (hl : W + (maxL + 11) + rm.locals ≤ R.locals) (hc : cells + rm.cells ≤ R.cells) (hs : slots + rm.slots ≤ R.slots)
    {g : JFrame} (hg : g.method = m) (hsize : g.locals.size = c.maxLocals) (hlen : ∀ sig, parseMethodDescriptor y.desc = some sig → argsL.length = sig.parameters.length) (hstack : g.stack = argsL.reverse ++ rest) (hW : 2 * g.monitorRoom + (rest.map fun v => v.category).sum ≤ W) (hd : decode c.code g.pc = .ok (.invokestatic index, 3))
    (k : ∀ T' v D', P v D' → On p l e R s m args below meth c Z n0 T' (cells + rm.cells) (slots + rm.slots) D' → Rn p e below F T' { g with pc := g.pc + 3, stack := v.toList ++ rest }) : Rn p e below F T g := by
  obtain ⟨locs, X, N, H⟩ := Y
  obtain ⟨v, _, ⟨T', L', k', n'⟩, -, X', ⟨Lc, hQ, l', y', z'⟩, st⟩ := Jvm.LawKit.callS X hx hown (mvT hZ w1) (mvT hZ w2) (mvT hZ w4) (mvT hZ w3) hy (backOf (W := W) (K [] T.heap H) hZ w3 w4 hf hl) hg hsize (argsL := argsL) (rest := rest) hlen hstack hW hd (fun _ _ => ⟨rfl, rfl, hc, hs⟩)
  dsimp only [Pt.U, Pt.locs, Pt.cells, Pt.slots] at X' l' y' z' st hQ
  subst l' y' z'
  obtain ⟨D', hP, N', H'⟩ := hQ
  exact Rn.go st (k T' v D' hP ⟨_, X', Fr.app N N', H'⟩)
theorem On.priv (Y : On p l e R s m args below meth c Z n0 T cells slots D) (hx : p.tables.exec = Jvm.exec) (hZ : Z.Warmed39 s.vm) {own : String} {index kk : Nat} (hown : s.vm.findClass own = some m.cls) (w1 : (Cond.methodLink own index y).before a0 Z = true) (w2 : (Cond.instanceMethod y).before a0 Z = true) (w3 : (Cond.privateMethod y).before a0 Z = true) (wi : (Cond.instantiable y.cls kk).before a0 Z = true) (w4 : (Cond.code y bytes maxL ret).before a0 Z = true) (w5 : (Cond.initialized y.cls).before a0 Z = true)
    (hy : y.cls ≠ "java/lang/invoke/MethodHandle" ∧ y.cls ≠ "java/lang/invoke/VarHandle") {a : Addr} {argsL rest : List Value} (hi : D[i]? = some (ob a C fs)) (K : Con l Z n0 y bytes maxL ret rm (.ref a :: argsL).toArray D P)
    {W : Nat} (hf : rm.frames + 1 ≤ R.frames) (hl : W + (maxL + 11) + rm.locals ≤ R.locals) (hc : cells + rm.cells ≤ R.cells) (hs : slots + rm.slots ≤ R.slots)
    {g : JFrame} (hg : g.method = m) (hsize : g.locals.size = c.maxLocals) (hlen : ∀ sig, parseMethodDescriptor y.desc = some sig → argsL.length = sig.parameters.length) (hstack : g.stack = argsL.reverse ++ .ref a :: rest) (hW : 2 * g.monitorRoom + (rest.map fun v => v.category).sum ≤ W) (hd : decode c.code g.pc = .ok (.invokevirtual index, 3))
    (k : ∀ T' v D', P v D' → On p l e R s m args below meth c Z n0 T' (cells + rm.cells) (slots + rm.slots) D' → Rn p e below F T' { g with pc := g.pc + 3, stack := v.toList ++ rest }) : Rn p e below F T g := by
  obtain ⟨locs, X, N, H⟩ := Y
  have hp : s.PrivateAt y := Cond.privateMethod_at (mvP hZ w3 (args := #[]))
  have wi' : (Cond.instantiable y.cls kk).before args s = true := mvT hZ wi
  obtain ⟨cc, kc, i1, i2, -, i4, -⟩ := Cond.instantiable_spec wi'
  have hsel : (Cond.selects y.cls y y).before args s = true := selects_self_of_private i1 i2 (by simp at i4; exact i4.1) hp (mvT hZ w2) hy
  obtain ⟨cq, q, q'⟩ := (H.exa hi).cell
  obtain ⟨v, _, ⟨T', L', k', n'⟩, -, X', ⟨Lc, hQ, l', y', z'⟩, st⟩ := X.privateBack hx (y := y) hown (mvT hZ w1) (mvT hZ w2) hsel hp (mvT hZ w4) hy (backOf (W := W) (K [] T.heap H) hZ w4 w5 hf hl) hg hsize (Steps.refl _) (a := a) q q' (argsL := argsL) (rest := rest) hlen hstack hW hd (fun _ _ => ⟨rfl, rfl, hc, hs⟩)
  dsimp only [Pt.U, Pt.locs, Pt.cells, Pt.slots] at X' l' y' z' st hQ
  subst l' y' z'
  obtain ⟨D', hP, N', H'⟩ := hQ
  exact Rn.to st (k T' v D' hP ⟨_, X', Fr.app N N', H'⟩)
theorem On.insY (Y : On p l e R s m args below meth c Z n0 T cells slots D) (hx : p.tables.exec = Jvm.exec) (hZ : Z.Warmed39 s.vm) {own : String} {index : Nat} (hown : s.vm.findClass own = some m.cls) (w : (Cond.classLink own index C).before a0 Z = true) (hi : D[i]? = some (ob a C fs))
    {g : JFrame} (hg : g.method = m) {rest : List Value} (hs : g.stack = .ref a :: rest) (hd : decode c.code g.pc = .ok (.instanceof index, 3)) (k : ∀ T', On p l e R s m args below meth c Z n0 T' cells slots D → Rn p e below F T' { g with pc := g.pc + 3, stack := .int 1 :: rest }) : Rn p e below F T g := by
  obtain ⟨locs, X, N, H⟩ := Y
  obtain ⟨T', X', e', st⟩ := instY X hx hZ hown w rfl (Ins.self (H.exa hi)) hg hs hd
  exact Rn.go st (k T' ⟨locs, X', N, by rw [e']; exact H⟩)
theorem On.castS (Y : On p l e R s m args below meth c Z n0 T cells slots D) (hx : p.tables.exec = Jvm.exec) (hZ : Z.Warmed39 s.vm) {own : String} {index : Nat} (hown : s.vm.findClass own = some m.cls) (w : (Cond.classLink own index C).before a0 Z = true) (hi : D[i]? = some (ob a C fs))
    {g : JFrame} (hg : g.method = m) {rest : List Value} (hs : g.stack = .ref a :: rest) (hd : decode c.code g.pc = .ok (.checkcast index, 3)) (k : ∀ T', On p l e R s m args below meth c Z n0 T' cells slots D → Rn p e below F T' { g with pc := g.pc + 3 }) : Rn p e below F T g := by
  obtain ⟨locs, X, N, H⟩ := Y
  obtain ⟨T', X', e', st⟩ := castY X hx hZ hown w rfl (Ins.self (H.exa hi)) hg hs hd
  exact Rn.go st (k T' ⟨locs, X', N, by rw [e']; exact H⟩)
theorem On.insN (Y : On p l e R s m args below meth c Z n0 T cells slots D) (hx : p.tables.exec = Jvm.exec) (hZ : Z.Warmed39 s.vm) {own K : String} {index kk : Nat} (hown : s.vm.findClass own = some m.cls) (w : (Cond.classLink own index K).before a0 Z = true) (hi : D[i]? = some (ob a C fs)) (wi : (Cond.instantiable K kk).before a0 Z = true) {ch : List String} (hw : ∀ w ∈ Cond.chainWords (C :: ch), w.before a0 Z = true) (hn : K ∉ C :: ch)
    {g : JFrame} (hg : g.method = m) {rest : List Value} (hs : g.stack = .ref a :: rest) (hd : decode c.code g.pc = .ok (.instanceof index, 3)) (k : ∀ T', On p l e R s m args below meth c Z n0 T' cells slots D → Rn p e below F T' { g with pc := g.pc + 3, stack := .int 0 :: rest }) : Rn p e below F T g := by
  obtain ⟨locs, X, N, H⟩ := Y
  obtain ⟨cy, ky, i1, i2, i3, i4, -⟩ := Cond.instantiable_spec wi
  obtain ⟨cx, kx, j1, -⟩ := Cond.chain_head hw
  obtain ⟨T', X', e', st⟩ := instNo X hx hZ hown w rfl (H.exa hi) ⟨cx, cy, j1, i1, Vm.notAssignable_of_chain j1 i1 i2 i3 (by simp at i4; exact i4.1) hw hn⟩ hg hs hd
  exact Rn.go st (k T' ⟨locs, X', N, by rw [e']; exact H⟩)
theorem On.insNull (Y : On p l e R s m args below meth c Z n0 T cells slots D) (hx : p.tables.exec = Jvm.exec) {index : Nat}
    {g : JFrame} (hg : g.method = m) {rest : List Value} (hs : g.stack = .null :: rest) (hd : decode c.code g.pc = .ok (.instanceof index, 3)) (k : Rn p e below F T { g with pc := g.pc + 3, stack := .int 0 :: rest }) : Rn p e below F T g := by
  obtain ⟨locs, X, N, H⟩ := Y
  exact Rn.go (fun t kt => X.instanceofNull hx hg hs hd t kt) k
end Base
theorem own_le3 {v : Int32} (h1 : 0 ≤ v.toInt) (h2 : v.toInt ≤ 3) : v = 0 ∨ v = 1 ∨ v = 2 ∨ v = 3 := by
  have : v.toInt = 0 ∨ v.toInt = 1 ∨ v.toInt = 2 ∨ v.toInt = 3 := by omega
  rcases this with h | h | h | h
  · exact Or.inl (Int32.toInt_inj.mp (h.trans rfl))
  · exact Or.inr (Or.inl (Int32.toInt_inj.mp (h.trans rfl)))
  · exact Or.inr (Or.inr (Or.inl (Int32.toInt_inj.mp (h.trans rfl))))
  · exact Or.inr (Or.inr (Or.inr (Int32.toInt_inj.mp (h.trans rfl))))
theorem own_byte (v : BitVec 32) : ((v.signExtend 8).signExtend 32).signExtend 64 &&& 255#64 = (v.setWidth 8).setWidth 64 := by
  apply BitVec.eq_of_getLsbD_eq
  intro i hi
  have e : (255#64).getLsbD i = decide (i < 8) := by
    rw [BitVec.getLsbD_ofNat, show (255 : Nat) = 2 ^ 8 - 1 from rfl, Nat.testBit_two_pow_sub_one]; simp [hi]
  rw [BitVec.getLsbD_and, e, BitVec.getLsbD_setWidth, BitVec.getLsbD_setWidth, BitVec.getLsbD_signExtend, BitVec.getLsbD_signExtend, BitVec.getLsbD_signExtend]
  by_cases q : i < 8
  · have h1 : i < 32 := by omega
    simp [q, hi, h1]
  · simp [q]
theorem own_b (y : Int32) : ((y.toInt8.toInt32.toInt8.toInt32).toInt64 &&& (255 : Int64)).toBitVec = (y.toBitVec.setWidth 8).setWidth 64 := by
  rw [Int8.toInt8_toInt32]
  exact own_byte y.toBitVec
theorem own_cat (v : BitVec 32) : ((((v.setWidth 8).setWidth 64) ||| ((((v >>> 8).setWidth 8).setWidth 64) <<< 8)) ||| ((((v >>> 16).setWidth 8).setWidth 64) <<< 16)) ||| ((((v >>> 24).setWidth 8).setWidth 64) <<< 24) = v.setWidth 64 := by
  apply BitVec.eq_of_getLsbD_eq
  intro i hi
  simp only [BitVec.getLsbD_or, BitVec.getLsbD_shiftLeft, BitVec.getLsbD_setWidth, BitVec.getLsbD_ushiftRight]
  by_cases q1 : i < 8
  · have h2 : i < 16 := by omega
    have h3 : i < 24 := by omega
    simp [q1, h2, h3, hi]
  · by_cases q2 : i < 16
    · have h3 : i < 24 := by omega
      have e : 8 + (i - 8) = i := by omega
      have e2 : i - 8 < 8 := by omega
      have e3 : i - 8 < 64 := by omega
      simp [q1, q2, h3, hi, e, e2, e3]
    · by_cases q3 : i < 24
      · have e : 16 + (i - 16) = i := by omega
        have e2 : i - 16 < 8 := by omega
        have e3 : i - 16 < 64 := by omega
        have e4 : ¬ i - 8 < 8 := by omega
        simp [q1, q2, q3, hi, e, e2, e3, e4]
      · have e : 24 + (i - 24) = i := by omega
        have e3 : i - 24 < 64 := by omega
        have e4 : ¬ i - 8 < 8 := by omega
        have e5 : ¬ i - 16 < 8 := by omega
        by_cases q4 : i < 32
        · have e2 : i - 24 < 8 := by omega
          simp [q1, q2, q3, q4, hi, e, e2, e3, e4, e5]
        · have e2 : ¬ i - 24 < 8 := by omega
          have : v.getLsbD i = false := BitVec.getLsbD_of_ge v i (by omega)
          simp [q1, q2, q3, q4, hi, e, e2, e3, e4, e5, this]
theorem own_mask (x : Int32) : (x.toInt64 &&& (4294967295 : Int64)).toBitVec = x.toBitVec.setWidth 64 := by
  show x.toBitVec.signExtend 64 &&& 4294967295#64 = _
  apply BitVec.eq_of_getLsbD_eq
  intro i hi
  have e : (4294967295#64).getLsbD i = decide (i < 32) := by
    rw [BitVec.getLsbD_ofNat, show (4294967295 : Nat) = 2 ^ 32 - 1 from rfl, Nat.testBit_two_pow_sub_one]; simp [hi]
  rw [BitVec.getLsbD_and, e, BitVec.getLsbD_setWidth, BitVec.getLsbD_signExtend]
  by_cases q : i < 32
  · simp [q, hi]
  · have : x.toBitVec.getLsbD i = false := BitVec.getLsbD_of_ge _ i (by omega)
    simp [q, this]
theorem own_sh (p0 k : Int32) {n : Nat} (h : ((k &&& 31).toUInt32.toBitVec % 32).toNat = n) : ((p0.toUInt32 >>> (k &&& 31).toUInt32).toInt32).toBitVec = p0.toBitVec >>> n := by
  show p0.toBitVec >>> ((k &&& 31).toUInt32.toBitVec % 32) = _
  rw [BitVec.ushiftRight_eq', h]
theorem own_shl (x : Int64) (k : Int32) {n : Nat} (h : (((k &&& 0x3f).toInt64.toBitVec).smod 64).toNat = n) : (x <<< (k &&& 0x3f).toInt64).toBitVec = x.toBitVec <<< n := by
  show x.toBitVec <<< (((k &&& 0x3f).toInt64.toBitVec).smod 64) = _
  rw [BitVec.shiftLeft_eq', h]
theorem own_u4 (p0 : Int32) : lcmpW ((((((p0.toInt8.toInt32).toInt8.toInt32.toInt64) &&& (255 : Int64)) ||| ((((((p0.toUInt32 >>> ((8 : Int32) &&& 31).toUInt32).toInt32).toInt8.toInt32).toInt8.toInt32.toInt64) &&& (255 : Int64)) <<< ((8 : Int32) &&& 0x3f).toInt64)) ||| ((((((p0.toUInt32 >>> ((16 : Int32) &&& 31).toUInt32).toInt32).toInt8.toInt32).toInt8.toInt32.toInt64) &&& (255 : Int64)) <<< ((16 : Int32) &&& 0x3f).toInt64)) ||| ((((((p0.toUInt32 >>> ((24 : Int32) &&& 31).toUInt32).toInt32).toInt8.toInt32).toInt8.toInt32.toInt64) &&& (255 : Int64)) <<< ((24 : Int32) &&& 0x3f).toInt64)) (p0.toInt64 &&& (4294967295 : Int64)) = (0 : Int32) := by
  have h : ((((((p0.toInt8.toInt32).toInt8.toInt32.toInt64) &&& (255 : Int64)) ||| ((((((p0.toUInt32 >>> ((8 : Int32) &&& 31).toUInt32).toInt32).toInt8.toInt32).toInt8.toInt32.toInt64) &&& (255 : Int64)) <<< ((8 : Int32) &&& 0x3f).toInt64)) ||| ((((((p0.toUInt32 >>> ((16 : Int32) &&& 31).toUInt32).toInt32).toInt8.toInt32).toInt8.toInt32.toInt64) &&& (255 : Int64)) <<< ((16 : Int32) &&& 0x3f).toInt64)) ||| ((((((p0.toUInt32 >>> ((24 : Int32) &&& 31).toUInt32).toInt32).toInt8.toInt32).toInt8.toInt32.toInt64) &&& (255 : Int64)) <<< ((24 : Int32) &&& 0x3f).toInt64)) = (p0.toInt64 &&& (4294967295 : Int64)) := by
    apply Int64.toBitVec_inj.mp
    rw [own_mask, Int64.toBitVec_or, Int64.toBitVec_or, Int64.toBitVec_or, own_shl _ 8 (n := 8) (by decide), own_shl _ 16 (n := 16) (by decide), own_shl _ 24 (n := 24) (by decide), own_b, own_b, own_b, own_b, own_sh _ 8 (n := 8) (by decide), own_sh _ 16 (n := 16) (by decide), own_sh _ 24 (n := 24) (by decide)]
    exact own_cat _
  rw [h, own_lcW]; simp
/-! ## F. The words, the instructions, the names -/
theorem w0 {Z : State} {a0 : Array Value} (hw : ∀ d ∈ tables_1, d.before a0 Z = true) : (Jvm.Cond.arrayClass Jvm.ClassFile.FieldType.byte).before a0 Z = true := hw _ (List.mem_of_getElem? (i := 0) rfl)
theorem w1 {Z : State} {a0 : Array Value} (hw : ∀ d ∈ tables_1, d.before a0 Z = true) : (Jvm.Cond.methodLink "com/example/strict_bytecode/strictbytecode/DexBufferU4PinLaw" (7 : Nat) ({ cls := "com/example/strict_bytecode/strictbytecode/DexBuffer", name := "u4", desc := "([BI)J" } : Jvm.MethodName)).before a0 Z = true := hw _ (List.mem_of_getElem? (i := 1) rfl)
theorem w2 {Z : State} {a0 : Array Value} (hw : ∀ d ∈ tables_1, d.before a0 Z = true) : (Jvm.Cond.static ({ cls := "com/example/strict_bytecode/strictbytecode/DexBuffer", name := "u4", desc := "([BI)J" } : Jvm.MethodName)).before a0 Z = true := hw _ (List.mem_of_getElem? (i := 2) rfl)
theorem w3 {Z : State} {a0 : Array Value} (hw : ∀ d ∈ tables_1, d.before a0 Z = true) : (Jvm.Cond.initialized "com/example/strict_bytecode/strictbytecode/DexBuffer").before a0 Z = true := hw _ (List.mem_of_getElem? (i := 3) rfl)
theorem w4 {Z : State} {a0 : Array Value} (hw : ∀ d ∈ tables_1, d.before a0 Z = true) : (Jvm.Cond.code ({ cls := "com/example/strict_bytecode/strictbytecode/DexBuffer", name := "u4", desc := "([BI)J" } : Jvm.MethodName) prog_32_method_10_code (2 : Nat) (Option.some Jvm.ClassFile.FieldType.long)).before a0 Z = true := hw _ (List.mem_of_getElem? (i := 4) rfl)
theorem w5 {Z : State} {a0 : Array Value} (hw : ∀ d ∈ tables_1, d.before a0 Z = true) : (Jvm.Cond.constantLong "com/example/strict_bytecode/strictbytecode/DexBuffer" (83 : Nat) (255 : Int64)).before a0 Z = true := hw _ (List.mem_of_getElem? (i := 5) rfl)
theorem w6 {Z : State} {a0 : Array Value} (hw : ∀ d ∈ tables_1, d.before a0 Z = true) : (Jvm.Cond.constantLong "com/example/strict_bytecode/strictbytecode/DexBufferU4PinLaw" (13 : Nat) (4294967295 : Int64)).before a0 Z = true := hw _ (List.mem_of_getElem? (i := 6) rfl)
theorem d1_0 : decode prog_32_method_10_code 0 = .ok (.aload_n 0, 1) := by decide +kernel
theorem d1_1 : decode prog_32_method_10_code 1 = .ok (.iload_n 1, 1) := by decide +kernel
theorem d1_2 : decode prog_32_method_10_code 2 = .ok (.baload, 1) := by decide +kernel
theorem d1_3 : decode prog_32_method_10_code 3 = .ok (.i2l, 1) := by decide +kernel
theorem d1_4 : decode prog_32_method_10_code 4 = .ok (.ldc2_w 83, 3) := by decide +kernel
theorem d1_7 : decode prog_32_method_10_code 7 = .ok (.land, 1) := by decide +kernel
theorem d1_8 : decode prog_32_method_10_code 8 = .ok (.aload_n 0, 1) := by decide +kernel
theorem d1_9 : decode prog_32_method_10_code 9 = .ok (.iload_n 1, 1) := by decide +kernel
theorem d1_10 : decode prog_32_method_10_code 10 = .ok (.iconst 1, 1) := by decide +kernel
theorem d1_11 : decode prog_32_method_10_code 11 = .ok (.iadd, 1) := by decide +kernel
theorem d1_12 : decode prog_32_method_10_code 12 = .ok (.baload, 1) := by decide +kernel
theorem d1_13 : decode prog_32_method_10_code 13 = .ok (.i2l, 1) := by decide +kernel
theorem d1_14 : decode prog_32_method_10_code 14 = .ok (.ldc2_w 83, 3) := by decide +kernel
theorem d1_17 : decode prog_32_method_10_code 17 = .ok (.land, 1) := by decide +kernel
theorem d1_18 : decode prog_32_method_10_code 18 = .ok (.bipush 8, 2) := by decide +kernel
theorem d1_20 : decode prog_32_method_10_code 20 = .ok (.lshl, 1) := by decide +kernel
theorem d1_21 : decode prog_32_method_10_code 21 = .ok (.lor, 1) := by decide +kernel
theorem d1_22 : decode prog_32_method_10_code 22 = .ok (.aload_n 0, 1) := by decide +kernel
theorem d1_23 : decode prog_32_method_10_code 23 = .ok (.iload_n 1, 1) := by decide +kernel
theorem d1_24 : decode prog_32_method_10_code 24 = .ok (.iconst 2, 1) := by decide +kernel
theorem d1_25 : decode prog_32_method_10_code 25 = .ok (.iadd, 1) := by decide +kernel
theorem d1_26 : decode prog_32_method_10_code 26 = .ok (.baload, 1) := by decide +kernel
theorem d1_27 : decode prog_32_method_10_code 27 = .ok (.i2l, 1) := by decide +kernel
theorem d1_28 : decode prog_32_method_10_code 28 = .ok (.ldc2_w 83, 3) := by decide +kernel
theorem d1_31 : decode prog_32_method_10_code 31 = .ok (.land, 1) := by decide +kernel
theorem d1_32 : decode prog_32_method_10_code 32 = .ok (.bipush 16, 2) := by decide +kernel
theorem d1_34 : decode prog_32_method_10_code 34 = .ok (.lshl, 1) := by decide +kernel
theorem d1_35 : decode prog_32_method_10_code 35 = .ok (.lor, 1) := by decide +kernel
theorem d1_36 : decode prog_32_method_10_code 36 = .ok (.aload_n 0, 1) := by decide +kernel
theorem d1_37 : decode prog_32_method_10_code 37 = .ok (.iload_n 1, 1) := by decide +kernel
theorem d1_38 : decode prog_32_method_10_code 38 = .ok (.iconst 3, 1) := by decide +kernel
theorem d1_39 : decode prog_32_method_10_code 39 = .ok (.iadd, 1) := by decide +kernel
theorem d1_40 : decode prog_32_method_10_code 40 = .ok (.baload, 1) := by decide +kernel
theorem d1_41 : decode prog_32_method_10_code 41 = .ok (.i2l, 1) := by decide +kernel
theorem d1_42 : decode prog_32_method_10_code 42 = .ok (.ldc2_w 83, 3) := by decide +kernel
theorem d1_45 : decode prog_32_method_10_code 45 = .ok (.land, 1) := by decide +kernel
theorem d1_46 : decode prog_32_method_10_code 46 = .ok (.bipush 24, 2) := by decide +kernel
theorem d1_48 : decode prog_32_method_10_code 48 = .ok (.lshl, 1) := by decide +kernel
theorem d1_49 : decode prog_32_method_10_code 49 = .ok (.lor, 1) := by decide +kernel
theorem d1_50 : decode prog_32_method_10_code 50 = .ok (.lreturn, 1) := by decide +kernel
theorem pd0 : parseMethodDescriptor "([BI)J" = some ⟨[(.array .byte), .int], some .long⟩ := by decide +kernel
theorem pn0 : plainName "com/example/strict_bytecode/strictbytecode/DexBuffer" = true := by first | (simp [plainName, overriddenIn]; done) | decide +kernel
theorem pn1 : plainName "com/example/strict_bytecode/strictbytecode/DexBufferU4PinLaw" = true := by first | (simp [plainName, overriddenIn]; done) | decide +kernel
theorem ef_rm1 (m : MethodId) (t0 : Addr) (j : Int32) : entryFrame m #[(.ref t0), (.int j)] 2 = (mkF m 0 #[.val (.ref t0), .val (.int j)] []) := by first | (simp [entryFrame, mkF, argsToLocals, Value.category]; done) | rfl
set_option maxRecDepth 65536 in
set_option maxHeartbeats 40000000 in
theorem rm1 (l : Launch) (Z : State) (a0 : Array Value) (hw : ∀ d ∈ tables_1, d.before a0 Z = true) (n0 : Nat) (t0 : Addr) (j : Int32) (z0 : Int32) (xs : List Int32) (b0 : Int32) (b1 : Int32) (b2 : Int32) (b3 : Int32) (Dr : List (Addr × Itm)) (hn0 : ¬ j < 0) (hn1 : ¬ (j + (1 : Int32)) < 0) (hn2 : ¬ (j + (2 : Int32)) < 0) (hn3 : ¬ (j + (3 : Int32)) < 0) (hv0 : xs[j.toNatClampNeg]? = some b0) (hv1 : xs[(j + (1 : Int32)).toNatClampNeg]? = some b1) (hv2 : xs[(j + (2 : Int32)).toNatClampNeg]? = some b2) (hv3 : xs[(j + (3 : Int32)).toNatClampNeg]? = some b3) :
    Con l Z n0 (⟨"com/example/strict_bytecode/strictbytecode/DexBuffer", "u4", "([BI)J"⟩ : MethodName) prog_32_method_10_code 2 (some .long) ({ frames := 0, cells := 0, slots := 0, locals := 0 } : Room) #[(.ref t0), (.int j)] ((ari t0 .byte z0 xs) :: Dr) (fun v D' => v = some (.long (((((b0.toInt64) &&& (255 : Int64)) ||| (((b1.toInt64) &&& (255 : Int64)) <<< ((8 : Int32) &&& 0x3f).toInt64)) ||| (((b2.toInt64) &&& (255 : Int64)) <<< ((16 : Int32) &&& 0x3f).toInt64)) ||| (((b3.toInt64) &&& (255 : Int64)) <<< ((24 : Int32) &&& 0x3f).toInt64))) ∧ D' = ((ari t0 .byte z0 xs) :: Dr)) := by
  refine Con.of (plainFor_of_name pn0) ?_
  intro p e s m below meth c T cx Y
  obtain ⟨hx, hby, hml, hown, hnm, hret, hlk, hZ⟩ := cx
  rw [ef_rm1]
  generalize hF : Fi Z n0 below s _ _ _ = F
  refine Rn.go (T' := T) (g' := (mkF m 2 #[.val (.ref t0), .val (.int j)] [(.int j), (.ref t0)])) (fun t k => ?_) ?_
  · show Steps p.tables e below (T.setTop (mkF m 0 #[.val (.ref t0), .val (.int j)] [])) t
    refine XS.aloadN Y.here hx rfl (hb hby d1_0) rfl rfl ?_
    show Steps p.tables e below (T.setTop (mkF m 1 #[.val (.ref t0), .val (.int j)] [(.ref t0)])) t
    refine XS.iloadN Y.here hx rfl (hb hby d1_1) rfl ?_
    show Steps p.tables e below (T.setTop (mkF m 2 #[.val (.ref t0), .val (.int j)] [(.int j), (.ref t0)])) t
    exact k
  refine On.bld Y hx hZ (i := 0) rfl (k := j) (x := b0) hn0 hv0 (g := (mkF m 2 #[.val (.ref t0), .val (.int j)] [(.int j), (.ref t0)])) rfl rfl (hb hby d1_2) ?_
  show Rn p e below F T (mkF m 3 #[.val (.ref t0), .val (.int j)] [(.int b0)])
  refine Rn.go (T' := T) (g' := (mkF m 12 #[.val (.ref t0), .val (.int j)] [(.int (j + (1 : Int32))), (.ref t0), (.long ((b0.toInt64) &&& (255 : Int64)))])) (fun t k => ?_) ?_
  · show Steps p.tables e below (T.setTop (mkF m 3 #[.val (.ref t0), .val (.int j)] [(.int b0)])) t
    refine XS.i2l Y.here hx rfl (hb hby d1_3) rfl ?_
    show Steps p.tables e below (T.setTop (mkF m 4 #[.val (.ref t0), .val (.int j)] [(.long (b0.toInt64))])) t
    refine On.sldcJ Y hx hZ hown (w5 hw) (g := (mkF m 4 #[.val (.ref t0), .val (.int j)] [(.long (b0.toInt64))])) rfl (hb hby d1_4) _ ?_
    show Steps p.tables e below (T.setTop (mkF m 7 #[.val (.ref t0), .val (.int j)] [(.long (255 : Int64)), (.long (b0.toInt64))])) t
    refine XS.land Y.here hx rfl (hb hby d1_7) rfl ?_
    show Steps p.tables e below (T.setTop (mkF m 8 #[.val (.ref t0), .val (.int j)] [(.long ((b0.toInt64) &&& (255 : Int64)))])) t
    refine XS.aloadN Y.here hx rfl (hb hby d1_8) rfl rfl ?_
    show Steps p.tables e below (T.setTop (mkF m 9 #[.val (.ref t0), .val (.int j)] [(.ref t0), (.long ((b0.toInt64) &&& (255 : Int64)))])) t
    refine XS.iloadN Y.here hx rfl (hb hby d1_9) rfl ?_
    show Steps p.tables e below (T.setTop (mkF m 10 #[.val (.ref t0), .val (.int j)] [(.int j), (.ref t0), (.long ((b0.toInt64) &&& (255 : Int64)))])) t
    refine XS.iconst Y.here hx rfl (hb hby d1_10) ?_
    show Steps p.tables e below (T.setTop (mkF m 11 #[.val (.ref t0), .val (.int j)] [(.int (1 : Int32)), (.int j), (.ref t0), (.long ((b0.toInt64) &&& (255 : Int64)))])) t
    refine XS.iadd Y.here hx rfl (hb hby d1_11) rfl ?_
    show Steps p.tables e below (T.setTop (mkF m 12 #[.val (.ref t0), .val (.int j)] [(.int (j + (1 : Int32))), (.ref t0), (.long ((b0.toInt64) &&& (255 : Int64)))])) t
    exact k
  refine On.bld Y hx hZ (i := 0) rfl (k := (j + (1 : Int32))) (x := b1) hn1 hv1 (g := (mkF m 12 #[.val (.ref t0), .val (.int j)] [(.int (j + (1 : Int32))), (.ref t0), (.long ((b0.toInt64) &&& (255 : Int64)))])) rfl rfl (hb hby d1_12) ?_
  show Rn p e below F T (mkF m 13 #[.val (.ref t0), .val (.int j)] [(.int b1), (.long ((b0.toInt64) &&& (255 : Int64)))])
  refine Rn.go (T' := T) (g' := (mkF m 26 #[.val (.ref t0), .val (.int j)] [(.int (j + (2 : Int32))), (.ref t0), (.long (((b0.toInt64) &&& (255 : Int64)) ||| (((b1.toInt64) &&& (255 : Int64)) <<< ((8 : Int32) &&& 0x3f).toInt64)))])) (fun t k => ?_) ?_
  · show Steps p.tables e below (T.setTop (mkF m 13 #[.val (.ref t0), .val (.int j)] [(.int b1), (.long ((b0.toInt64) &&& (255 : Int64)))])) t
    refine XS.i2l Y.here hx rfl (hb hby d1_13) rfl ?_
    show Steps p.tables e below (T.setTop (mkF m 14 #[.val (.ref t0), .val (.int j)] [(.long (b1.toInt64)), (.long ((b0.toInt64) &&& (255 : Int64)))])) t
    refine On.sldcJ Y hx hZ hown (w5 hw) (g := (mkF m 14 #[.val (.ref t0), .val (.int j)] [(.long (b1.toInt64)), (.long ((b0.toInt64) &&& (255 : Int64)))])) rfl (hb hby d1_14) _ ?_
    show Steps p.tables e below (T.setTop (mkF m 17 #[.val (.ref t0), .val (.int j)] [(.long (255 : Int64)), (.long (b1.toInt64)), (.long ((b0.toInt64) &&& (255 : Int64)))])) t
    refine XS.land Y.here hx rfl (hb hby d1_17) rfl ?_
    show Steps p.tables e below (T.setTop (mkF m 18 #[.val (.ref t0), .val (.int j)] [(.long ((b1.toInt64) &&& (255 : Int64))), (.long ((b0.toInt64) &&& (255 : Int64)))])) t
    refine XS.bipush Y.here hx rfl (hb hby d1_18) ?_
    show Steps p.tables e below (T.setTop (mkF m 20 #[.val (.ref t0), .val (.int j)] [(.int (8 : Int32)), (.long ((b1.toInt64) &&& (255 : Int64))), (.long ((b0.toInt64) &&& (255 : Int64)))])) t
    refine XS.lshl Y.here hx rfl (hb hby d1_20) rfl ?_
    show Steps p.tables e below (T.setTop (mkF m 21 #[.val (.ref t0), .val (.int j)] [(.long (((b1.toInt64) &&& (255 : Int64)) <<< ((8 : Int32) &&& 0x3f).toInt64)), (.long ((b0.toInt64) &&& (255 : Int64)))])) t
    refine XS.lor Y.here hx rfl (hb hby d1_21) rfl ?_
    show Steps p.tables e below (T.setTop (mkF m 22 #[.val (.ref t0), .val (.int j)] [(.long (((b0.toInt64) &&& (255 : Int64)) ||| (((b1.toInt64) &&& (255 : Int64)) <<< ((8 : Int32) &&& 0x3f).toInt64)))])) t
    refine XS.aloadN Y.here hx rfl (hb hby d1_22) rfl rfl ?_
    show Steps p.tables e below (T.setTop (mkF m 23 #[.val (.ref t0), .val (.int j)] [(.ref t0), (.long (((b0.toInt64) &&& (255 : Int64)) ||| (((b1.toInt64) &&& (255 : Int64)) <<< ((8 : Int32) &&& 0x3f).toInt64)))])) t
    refine XS.iloadN Y.here hx rfl (hb hby d1_23) rfl ?_
    show Steps p.tables e below (T.setTop (mkF m 24 #[.val (.ref t0), .val (.int j)] [(.int j), (.ref t0), (.long (((b0.toInt64) &&& (255 : Int64)) ||| (((b1.toInt64) &&& (255 : Int64)) <<< ((8 : Int32) &&& 0x3f).toInt64)))])) t
    refine XS.iconst Y.here hx rfl (hb hby d1_24) ?_
    show Steps p.tables e below (T.setTop (mkF m 25 #[.val (.ref t0), .val (.int j)] [(.int (2 : Int32)), (.int j), (.ref t0), (.long (((b0.toInt64) &&& (255 : Int64)) ||| (((b1.toInt64) &&& (255 : Int64)) <<< ((8 : Int32) &&& 0x3f).toInt64)))])) t
    refine XS.iadd Y.here hx rfl (hb hby d1_25) rfl ?_
    show Steps p.tables e below (T.setTop (mkF m 26 #[.val (.ref t0), .val (.int j)] [(.int (j + (2 : Int32))), (.ref t0), (.long (((b0.toInt64) &&& (255 : Int64)) ||| (((b1.toInt64) &&& (255 : Int64)) <<< ((8 : Int32) &&& 0x3f).toInt64)))])) t
    exact k
  refine On.bld Y hx hZ (i := 0) rfl (k := (j + (2 : Int32))) (x := b2) hn2 hv2 (g := (mkF m 26 #[.val (.ref t0), .val (.int j)] [(.int (j + (2 : Int32))), (.ref t0), (.long (((b0.toInt64) &&& (255 : Int64)) ||| (((b1.toInt64) &&& (255 : Int64)) <<< ((8 : Int32) &&& 0x3f).toInt64)))])) rfl rfl (hb hby d1_26) ?_
  show Rn p e below F T (mkF m 27 #[.val (.ref t0), .val (.int j)] [(.int b2), (.long (((b0.toInt64) &&& (255 : Int64)) ||| (((b1.toInt64) &&& (255 : Int64)) <<< ((8 : Int32) &&& 0x3f).toInt64)))])
  refine Rn.go (T' := T) (g' := (mkF m 40 #[.val (.ref t0), .val (.int j)] [(.int (j + (3 : Int32))), (.ref t0), (.long ((((b0.toInt64) &&& (255 : Int64)) ||| (((b1.toInt64) &&& (255 : Int64)) <<< ((8 : Int32) &&& 0x3f).toInt64)) ||| (((b2.toInt64) &&& (255 : Int64)) <<< ((16 : Int32) &&& 0x3f).toInt64)))])) (fun t k => ?_) ?_
  · show Steps p.tables e below (T.setTop (mkF m 27 #[.val (.ref t0), .val (.int j)] [(.int b2), (.long (((b0.toInt64) &&& (255 : Int64)) ||| (((b1.toInt64) &&& (255 : Int64)) <<< ((8 : Int32) &&& 0x3f).toInt64)))])) t
    refine XS.i2l Y.here hx rfl (hb hby d1_27) rfl ?_
    show Steps p.tables e below (T.setTop (mkF m 28 #[.val (.ref t0), .val (.int j)] [(.long (b2.toInt64)), (.long (((b0.toInt64) &&& (255 : Int64)) ||| (((b1.toInt64) &&& (255 : Int64)) <<< ((8 : Int32) &&& 0x3f).toInt64)))])) t
    refine On.sldcJ Y hx hZ hown (w5 hw) (g := (mkF m 28 #[.val (.ref t0), .val (.int j)] [(.long (b2.toInt64)), (.long (((b0.toInt64) &&& (255 : Int64)) ||| (((b1.toInt64) &&& (255 : Int64)) <<< ((8 : Int32) &&& 0x3f).toInt64)))])) rfl (hb hby d1_28) _ ?_
    show Steps p.tables e below (T.setTop (mkF m 31 #[.val (.ref t0), .val (.int j)] [(.long (255 : Int64)), (.long (b2.toInt64)), (.long (((b0.toInt64) &&& (255 : Int64)) ||| (((b1.toInt64) &&& (255 : Int64)) <<< ((8 : Int32) &&& 0x3f).toInt64)))])) t
    refine XS.land Y.here hx rfl (hb hby d1_31) rfl ?_
    show Steps p.tables e below (T.setTop (mkF m 32 #[.val (.ref t0), .val (.int j)] [(.long ((b2.toInt64) &&& (255 : Int64))), (.long (((b0.toInt64) &&& (255 : Int64)) ||| (((b1.toInt64) &&& (255 : Int64)) <<< ((8 : Int32) &&& 0x3f).toInt64)))])) t
    refine XS.bipush Y.here hx rfl (hb hby d1_32) ?_
    show Steps p.tables e below (T.setTop (mkF m 34 #[.val (.ref t0), .val (.int j)] [(.int (16 : Int32)), (.long ((b2.toInt64) &&& (255 : Int64))), (.long (((b0.toInt64) &&& (255 : Int64)) ||| (((b1.toInt64) &&& (255 : Int64)) <<< ((8 : Int32) &&& 0x3f).toInt64)))])) t
    refine XS.lshl Y.here hx rfl (hb hby d1_34) rfl ?_
    show Steps p.tables e below (T.setTop (mkF m 35 #[.val (.ref t0), .val (.int j)] [(.long (((b2.toInt64) &&& (255 : Int64)) <<< ((16 : Int32) &&& 0x3f).toInt64)), (.long (((b0.toInt64) &&& (255 : Int64)) ||| (((b1.toInt64) &&& (255 : Int64)) <<< ((8 : Int32) &&& 0x3f).toInt64)))])) t
    refine XS.lor Y.here hx rfl (hb hby d1_35) rfl ?_
    show Steps p.tables e below (T.setTop (mkF m 36 #[.val (.ref t0), .val (.int j)] [(.long ((((b0.toInt64) &&& (255 : Int64)) ||| (((b1.toInt64) &&& (255 : Int64)) <<< ((8 : Int32) &&& 0x3f).toInt64)) ||| (((b2.toInt64) &&& (255 : Int64)) <<< ((16 : Int32) &&& 0x3f).toInt64)))])) t
    refine XS.aloadN Y.here hx rfl (hb hby d1_36) rfl rfl ?_
    show Steps p.tables e below (T.setTop (mkF m 37 #[.val (.ref t0), .val (.int j)] [(.ref t0), (.long ((((b0.toInt64) &&& (255 : Int64)) ||| (((b1.toInt64) &&& (255 : Int64)) <<< ((8 : Int32) &&& 0x3f).toInt64)) ||| (((b2.toInt64) &&& (255 : Int64)) <<< ((16 : Int32) &&& 0x3f).toInt64)))])) t
    refine XS.iloadN Y.here hx rfl (hb hby d1_37) rfl ?_
    show Steps p.tables e below (T.setTop (mkF m 38 #[.val (.ref t0), .val (.int j)] [(.int j), (.ref t0), (.long ((((b0.toInt64) &&& (255 : Int64)) ||| (((b1.toInt64) &&& (255 : Int64)) <<< ((8 : Int32) &&& 0x3f).toInt64)) ||| (((b2.toInt64) &&& (255 : Int64)) <<< ((16 : Int32) &&& 0x3f).toInt64)))])) t
    refine XS.iconst Y.here hx rfl (hb hby d1_38) ?_
    show Steps p.tables e below (T.setTop (mkF m 39 #[.val (.ref t0), .val (.int j)] [(.int (3 : Int32)), (.int j), (.ref t0), (.long ((((b0.toInt64) &&& (255 : Int64)) ||| (((b1.toInt64) &&& (255 : Int64)) <<< ((8 : Int32) &&& 0x3f).toInt64)) ||| (((b2.toInt64) &&& (255 : Int64)) <<< ((16 : Int32) &&& 0x3f).toInt64)))])) t
    refine XS.iadd Y.here hx rfl (hb hby d1_39) rfl ?_
    show Steps p.tables e below (T.setTop (mkF m 40 #[.val (.ref t0), .val (.int j)] [(.int (j + (3 : Int32))), (.ref t0), (.long ((((b0.toInt64) &&& (255 : Int64)) ||| (((b1.toInt64) &&& (255 : Int64)) <<< ((8 : Int32) &&& 0x3f).toInt64)) ||| (((b2.toInt64) &&& (255 : Int64)) <<< ((16 : Int32) &&& 0x3f).toInt64)))])) t
    exact k
  refine On.bld Y hx hZ (i := 0) rfl (k := (j + (3 : Int32))) (x := b3) hn3 hv3 (g := (mkF m 40 #[.val (.ref t0), .val (.int j)] [(.int (j + (3 : Int32))), (.ref t0), (.long ((((b0.toInt64) &&& (255 : Int64)) ||| (((b1.toInt64) &&& (255 : Int64)) <<< ((8 : Int32) &&& 0x3f).toInt64)) ||| (((b2.toInt64) &&& (255 : Int64)) <<< ((16 : Int32) &&& 0x3f).toInt64)))])) rfl rfl (hb hby d1_40) ?_
  show Rn p e below F T (mkF m 41 #[.val (.ref t0), .val (.int j)] [(.int b3), (.long ((((b0.toInt64) &&& (255 : Int64)) ||| (((b1.toInt64) &&& (255 : Int64)) <<< ((8 : Int32) &&& 0x3f).toInt64)) ||| (((b2.toInt64) &&& (255 : Int64)) <<< ((16 : Int32) &&& 0x3f).toInt64)))])
  refine Rn.go (T' := T) (g' := (mkF m 50 #[.val (.ref t0), .val (.int j)] [(.long (((((b0.toInt64) &&& (255 : Int64)) ||| (((b1.toInt64) &&& (255 : Int64)) <<< ((8 : Int32) &&& 0x3f).toInt64)) ||| (((b2.toInt64) &&& (255 : Int64)) <<< ((16 : Int32) &&& 0x3f).toInt64)) ||| (((b3.toInt64) &&& (255 : Int64)) <<< ((24 : Int32) &&& 0x3f).toInt64)))])) (fun t k => ?_) ?_
  · show Steps p.tables e below (T.setTop (mkF m 41 #[.val (.ref t0), .val (.int j)] [(.int b3), (.long ((((b0.toInt64) &&& (255 : Int64)) ||| (((b1.toInt64) &&& (255 : Int64)) <<< ((8 : Int32) &&& 0x3f).toInt64)) ||| (((b2.toInt64) &&& (255 : Int64)) <<< ((16 : Int32) &&& 0x3f).toInt64)))])) t
    refine XS.i2l Y.here hx rfl (hb hby d1_41) rfl ?_
    show Steps p.tables e below (T.setTop (mkF m 42 #[.val (.ref t0), .val (.int j)] [(.long (b3.toInt64)), (.long ((((b0.toInt64) &&& (255 : Int64)) ||| (((b1.toInt64) &&& (255 : Int64)) <<< ((8 : Int32) &&& 0x3f).toInt64)) ||| (((b2.toInt64) &&& (255 : Int64)) <<< ((16 : Int32) &&& 0x3f).toInt64)))])) t
    refine On.sldcJ Y hx hZ hown (w5 hw) (g := (mkF m 42 #[.val (.ref t0), .val (.int j)] [(.long (b3.toInt64)), (.long ((((b0.toInt64) &&& (255 : Int64)) ||| (((b1.toInt64) &&& (255 : Int64)) <<< ((8 : Int32) &&& 0x3f).toInt64)) ||| (((b2.toInt64) &&& (255 : Int64)) <<< ((16 : Int32) &&& 0x3f).toInt64)))])) rfl (hb hby d1_42) _ ?_
    show Steps p.tables e below (T.setTop (mkF m 45 #[.val (.ref t0), .val (.int j)] [(.long (255 : Int64)), (.long (b3.toInt64)), (.long ((((b0.toInt64) &&& (255 : Int64)) ||| (((b1.toInt64) &&& (255 : Int64)) <<< ((8 : Int32) &&& 0x3f).toInt64)) ||| (((b2.toInt64) &&& (255 : Int64)) <<< ((16 : Int32) &&& 0x3f).toInt64)))])) t
    refine XS.land Y.here hx rfl (hb hby d1_45) rfl ?_
    show Steps p.tables e below (T.setTop (mkF m 46 #[.val (.ref t0), .val (.int j)] [(.long ((b3.toInt64) &&& (255 : Int64))), (.long ((((b0.toInt64) &&& (255 : Int64)) ||| (((b1.toInt64) &&& (255 : Int64)) <<< ((8 : Int32) &&& 0x3f).toInt64)) ||| (((b2.toInt64) &&& (255 : Int64)) <<< ((16 : Int32) &&& 0x3f).toInt64)))])) t
    refine XS.bipush Y.here hx rfl (hb hby d1_46) ?_
    show Steps p.tables e below (T.setTop (mkF m 48 #[.val (.ref t0), .val (.int j)] [(.int (24 : Int32)), (.long ((b3.toInt64) &&& (255 : Int64))), (.long ((((b0.toInt64) &&& (255 : Int64)) ||| (((b1.toInt64) &&& (255 : Int64)) <<< ((8 : Int32) &&& 0x3f).toInt64)) ||| (((b2.toInt64) &&& (255 : Int64)) <<< ((16 : Int32) &&& 0x3f).toInt64)))])) t
    refine XS.lshl Y.here hx rfl (hb hby d1_48) rfl ?_
    show Steps p.tables e below (T.setTop (mkF m 49 #[.val (.ref t0), .val (.int j)] [(.long (((b3.toInt64) &&& (255 : Int64)) <<< ((24 : Int32) &&& 0x3f).toInt64)), (.long ((((b0.toInt64) &&& (255 : Int64)) ||| (((b1.toInt64) &&& (255 : Int64)) <<< ((8 : Int32) &&& 0x3f).toInt64)) ||| (((b2.toInt64) &&& (255 : Int64)) <<< ((16 : Int32) &&& 0x3f).toInt64)))])) t
    refine XS.lor Y.here hx rfl (hb hby d1_49) rfl ?_
    show Steps p.tables e below (T.setTop (mkF m 50 #[.val (.ref t0), .val (.int j)] [(.long (((((b0.toInt64) &&& (255 : Int64)) ||| (((b1.toInt64) &&& (255 : Int64)) <<< ((8 : Int32) &&& 0x3f).toInt64)) ||| (((b2.toInt64) &&& (255 : Int64)) <<< ((16 : Int32) &&& 0x3f).toInt64)) ||| (((b3.toInt64) &&& (255 : Int64)) <<< ((24 : Int32) &&& 0x3f).toInt64)))])) t
    exact k
  rw [← hF]; exact On.retj Y hx hret hlk (hb hby d1_50) (by decide) (by decide) ⟨rfl, rfl⟩
theorem ef_rm0 (m : MethodId) (p0 : Int32) (p1 : Int32) (p2 : Int32) (p3 : Int32) : entryFrame m #[(.int p0), (.int p1), (.int p2), (.int p3)] maxLocals = (mkF m 0 #[.val (.int p0), .val (.int p1), .val (.int p2), .val (.int p3), .unset, .unset, .unset, .unset, .unset, .unset] []) := by first | (simp [entryFrame, mkF, argsToLocals, Value.category, maxLocals]; done) | rfl
set_option maxRecDepth 65536 in
set_option maxHeartbeats 40000000 in
theorem rm0 (l : Launch) (Z : State) (a0 : Array Value) (hw : ∀ d ∈ tables_1, d.before a0 Z = true) (n0 : Nat) (p0 : Int32) (p1 : Int32) (p2 : Int32) (p3 : Int32) :
    Con l Z n0 x code maxLocals ret room_1 #[(.int p0), (.int p1), (.int p2), (.int p3)] [] (fun v _ => v = some (.int 1)) := by
  refine Con.of (plainFor_of_name pn1) ?_
  intro p e s m below meth c T cx Y
  obtain ⟨hx, hby, hml, hown, hnm, hret, hlk, hZ⟩ := cx
  rw [ef_rm0]
  generalize hF : Fi Z n0 below s _ _ _ = F
  refine Rn.go (T' := T) (g' := (mkF m 2 #[.val (.int p0), .val (.int p1), .val (.int p2), .val (.int p3), .unset, .unset, .unset, .unset, .unset, .unset] [(.int (7 : Int32))])) (fun t k => ?_) ?_
  · show Steps p.tables e below (T.setTop (mkF m 0 #[.val (.int p0), .val (.int p1), .val (.int p2), .val (.int p3), .unset, .unset, .unset, .unset, .unset, .unset] [])) t
    refine XS.bipush Y.here hx rfl (hb hby at_0) ?_
    show Steps p.tables e below (T.setTop (mkF m 2 #[.val (.int p0), .val (.int p1), .val (.int p2), .val (.int p3), .unset, .unset, .unset, .unset, .unset, .unset] [(.int (7 : Int32))])) t
    exact k
  refine On.newp Y hx hZ (aty := .byte) (w0 hw) (g := (mkF m 2 #[.val (.int p0), .val (.int p1), .val (.int p2), .val (.int p3), .unset, .unset, .unset, .unset, .unset, .unset] [(.int (7 : Int32))])) rfl (hb hby at_2) rfl (by decide) (N := 7) (cap := 7) rfl (by decide) (by decide) (by decide) (by decide) (dv := (.int (0 : Int32))) rfl fun T1 a3 Y2 => ?_
  replace Y2 : On p l e _ s m _ below meth c Z n0 T1 1 7 [ari a3 .byte (7 : Int32) [(0 : Int32), (0 : Int32), (0 : Int32), (0 : Int32), (0 : Int32), (0 : Int32), (0 : Int32)]] := Y2
  show Rn p e below F T1 (mkF m 4 #[.val (.int p0), .val (.int p1), .val (.int p2), .val (.int p3), .unset, .unset, .unset, .unset, .unset, .unset] [(.ref a3)])
  refine Rn.go (T' := T1) (g' := (mkF m 11 #[.val (.int p0), .val (.int p1), .val (.int p2), .val (.int p3), .val (.ref a3), .unset, .unset, .unset, .unset, .unset] [(.int (p2.toInt8.toInt32)), (.int (0 : Int32)), (.ref a3)])) (fun t k => ?_) ?_
  · show Steps p.tables e below (T1.setTop (mkF m 4 #[.val (.int p0), .val (.int p1), .val (.int p2), .val (.int p3), .unset, .unset, .unset, .unset, .unset, .unset] [(.ref a3)])) t
    refine XS.astore Y2.here hx rfl (hb hby at_4) rfl rfl (l' := #[.val (.int p0), .val (.int p1), .val (.int p2), .val (.int p3), .val (.ref a3), .unset, .unset, .unset, .unset, .unset]) rfl ?_
    show Steps p.tables e below (T1.setTop (mkF m 6 #[.val (.int p0), .val (.int p1), .val (.int p2), .val (.int p3), .val (.ref a3), .unset, .unset, .unset, .unset, .unset] [])) t
    refine XS.aload Y2.here hx rfl (hb hby at_6) rfl rfl ?_
    show Steps p.tables e below (T1.setTop (mkF m 8 #[.val (.int p0), .val (.int p1), .val (.int p2), .val (.int p3), .val (.ref a3), .unset, .unset, .unset, .unset, .unset] [(.ref a3)])) t
    refine XS.iconst Y2.here hx rfl (hb hby at_8) ?_
    show Steps p.tables e below (T1.setTop (mkF m 9 #[.val (.int p0), .val (.int p1), .val (.int p2), .val (.int p3), .val (.ref a3), .unset, .unset, .unset, .unset, .unset] [(.int (0 : Int32)), (.ref a3)])) t
    refine XS.iloadN Y2.here hx rfl (hb hby at_9) rfl ?_
    show Steps p.tables e below (T1.setTop (mkF m 10 #[.val (.int p0), .val (.int p1), .val (.int p2), .val (.int p3), .val (.ref a3), .unset, .unset, .unset, .unset, .unset] [(.int p2), (.int (0 : Int32)), (.ref a3)])) t
    refine XS.i2b Y2.here hx rfl (hb hby at_10) rfl ?_
    show Steps p.tables e below (T1.setTop (mkF m 11 #[.val (.int p0), .val (.int p1), .val (.int p2), .val (.int p3), .val (.ref a3), .unset, .unset, .unset, .unset, .unset] [(.int (p2.toInt8.toInt32)), (.int (0 : Int32)), (.ref a3)])) t
    exact k
  refine On.bsto Y2 hx hZ (i := 0) rfl (by decide) (by show 0 < 7; decide) (g := (mkF m 11 #[.val (.int p0), .val (.int p1), .val (.int p2), .val (.int p3), .val (.ref a3), .unset, .unset, .unset, .unset, .unset] [(.int (p2.toInt8.toInt32)), (.int (0 : Int32)), (.ref a3)])) rfl rfl (hb hby at_11) fun T4 Y5 => ?_
  replace Y5 : On p l e _ s m _ below meth c Z n0 T4 1 7 [ari a3 .byte (7 : Int32) [(p2.toInt8.toInt32).toInt8.toInt32, (0 : Int32), (0 : Int32), (0 : Int32), (0 : Int32), (0 : Int32), (0 : Int32)]] := Y5
  show Rn p e below F T4 (mkF m 12 #[.val (.int p0), .val (.int p1), .val (.int p2), .val (.int p3), .val (.ref a3), .unset, .unset, .unset, .unset, .unset] [])
  refine Rn.go (T' := T4) (g' := (mkF m 20 #[.val (.int p0), .val (.int p1), .val (.int p2), .val (.int p3), .val (.ref a3), .unset, .unset, .unset, .unset, .unset] [(.int (((p2.toUInt32 >>> ((8 : Int32) &&& 31).toUInt32).toInt32).toInt8.toInt32)), (.int (1 : Int32)), (.ref a3)])) (fun t k => ?_) ?_
  · show Steps p.tables e below (T4.setTop (mkF m 12 #[.val (.int p0), .val (.int p1), .val (.int p2), .val (.int p3), .val (.ref a3), .unset, .unset, .unset, .unset, .unset] [])) t
    refine XS.aload Y5.here hx rfl (hb hby at_12) rfl rfl ?_
    show Steps p.tables e below (T4.setTop (mkF m 14 #[.val (.int p0), .val (.int p1), .val (.int p2), .val (.int p3), .val (.ref a3), .unset, .unset, .unset, .unset, .unset] [(.ref a3)])) t
    refine XS.iconst Y5.here hx rfl (hb hby at_14) ?_
    show Steps p.tables e below (T4.setTop (mkF m 15 #[.val (.int p0), .val (.int p1), .val (.int p2), .val (.int p3), .val (.ref a3), .unset, .unset, .unset, .unset, .unset] [(.int (1 : Int32)), (.ref a3)])) t
    refine XS.iloadN Y5.here hx rfl (hb hby at_15) rfl ?_
    show Steps p.tables e below (T4.setTop (mkF m 16 #[.val (.int p0), .val (.int p1), .val (.int p2), .val (.int p3), .val (.ref a3), .unset, .unset, .unset, .unset, .unset] [(.int p2), (.int (1 : Int32)), (.ref a3)])) t
    refine XS.bipush Y5.here hx rfl (hb hby at_16) ?_
    show Steps p.tables e below (T4.setTop (mkF m 18 #[.val (.int p0), .val (.int p1), .val (.int p2), .val (.int p3), .val (.ref a3), .unset, .unset, .unset, .unset, .unset] [(.int (8 : Int32)), (.int p2), (.int (1 : Int32)), (.ref a3)])) t
    refine XS.iushr Y5.here hx rfl (hb hby at_18) rfl ?_
    show Steps p.tables e below (T4.setTop (mkF m 19 #[.val (.int p0), .val (.int p1), .val (.int p2), .val (.int p3), .val (.ref a3), .unset, .unset, .unset, .unset, .unset] [(.int ((p2.toUInt32 >>> ((8 : Int32) &&& 31).toUInt32).toInt32)), (.int (1 : Int32)), (.ref a3)])) t
    refine XS.i2b Y5.here hx rfl (hb hby at_19) rfl ?_
    show Steps p.tables e below (T4.setTop (mkF m 20 #[.val (.int p0), .val (.int p1), .val (.int p2), .val (.int p3), .val (.ref a3), .unset, .unset, .unset, .unset, .unset] [(.int (((p2.toUInt32 >>> ((8 : Int32) &&& 31).toUInt32).toInt32).toInt8.toInt32)), (.int (1 : Int32)), (.ref a3)])) t
    exact k
  refine On.bsto Y5 hx hZ (i := 0) rfl (by decide) (by show 1 < 7; decide) (g := (mkF m 20 #[.val (.int p0), .val (.int p1), .val (.int p2), .val (.int p3), .val (.ref a3), .unset, .unset, .unset, .unset, .unset] [(.int (((p2.toUInt32 >>> ((8 : Int32) &&& 31).toUInt32).toInt32).toInt8.toInt32)), (.int (1 : Int32)), (.ref a3)])) rfl rfl (hb hby at_20) fun T6 Y7 => ?_
  replace Y7 : On p l e _ s m _ below meth c Z n0 T6 1 7 [ari a3 .byte (7 : Int32) [(p2.toInt8.toInt32).toInt8.toInt32, (((p2.toUInt32 >>> ((8 : Int32) &&& 31).toUInt32).toInt32).toInt8.toInt32).toInt8.toInt32, (0 : Int32), (0 : Int32), (0 : Int32), (0 : Int32), (0 : Int32)]] := Y7
  show Rn p e below F T6 (mkF m 21 #[.val (.int p0), .val (.int p1), .val (.int p2), .val (.int p3), .val (.ref a3), .unset, .unset, .unset, .unset, .unset] [])
  refine Rn.go (T' := T6) (g' := (mkF m 29 #[.val (.int p0), .val (.int p1), .val (.int p2), .val (.int p3), .val (.ref a3), .unset, .unset, .unset, .unset, .unset] [(.int (((p2.toUInt32 >>> ((16 : Int32) &&& 31).toUInt32).toInt32).toInt8.toInt32)), (.int (2 : Int32)), (.ref a3)])) (fun t k => ?_) ?_
  · show Steps p.tables e below (T6.setTop (mkF m 21 #[.val (.int p0), .val (.int p1), .val (.int p2), .val (.int p3), .val (.ref a3), .unset, .unset, .unset, .unset, .unset] [])) t
    refine XS.aload Y7.here hx rfl (hb hby at_21) rfl rfl ?_
    show Steps p.tables e below (T6.setTop (mkF m 23 #[.val (.int p0), .val (.int p1), .val (.int p2), .val (.int p3), .val (.ref a3), .unset, .unset, .unset, .unset, .unset] [(.ref a3)])) t
    refine XS.iconst Y7.here hx rfl (hb hby at_23) ?_
    show Steps p.tables e below (T6.setTop (mkF m 24 #[.val (.int p0), .val (.int p1), .val (.int p2), .val (.int p3), .val (.ref a3), .unset, .unset, .unset, .unset, .unset] [(.int (2 : Int32)), (.ref a3)])) t
    refine XS.iloadN Y7.here hx rfl (hb hby at_24) rfl ?_
    show Steps p.tables e below (T6.setTop (mkF m 25 #[.val (.int p0), .val (.int p1), .val (.int p2), .val (.int p3), .val (.ref a3), .unset, .unset, .unset, .unset, .unset] [(.int p2), (.int (2 : Int32)), (.ref a3)])) t
    refine XS.bipush Y7.here hx rfl (hb hby at_25) ?_
    show Steps p.tables e below (T6.setTop (mkF m 27 #[.val (.int p0), .val (.int p1), .val (.int p2), .val (.int p3), .val (.ref a3), .unset, .unset, .unset, .unset, .unset] [(.int (16 : Int32)), (.int p2), (.int (2 : Int32)), (.ref a3)])) t
    refine XS.iushr Y7.here hx rfl (hb hby at_27) rfl ?_
    show Steps p.tables e below (T6.setTop (mkF m 28 #[.val (.int p0), .val (.int p1), .val (.int p2), .val (.int p3), .val (.ref a3), .unset, .unset, .unset, .unset, .unset] [(.int ((p2.toUInt32 >>> ((16 : Int32) &&& 31).toUInt32).toInt32)), (.int (2 : Int32)), (.ref a3)])) t
    refine XS.i2b Y7.here hx rfl (hb hby at_28) rfl ?_
    show Steps p.tables e below (T6.setTop (mkF m 29 #[.val (.int p0), .val (.int p1), .val (.int p2), .val (.int p3), .val (.ref a3), .unset, .unset, .unset, .unset, .unset] [(.int (((p2.toUInt32 >>> ((16 : Int32) &&& 31).toUInt32).toInt32).toInt8.toInt32)), (.int (2 : Int32)), (.ref a3)])) t
    exact k
  refine On.bsto Y7 hx hZ (i := 0) rfl (by decide) (by show 2 < 7; decide) (g := (mkF m 29 #[.val (.int p0), .val (.int p1), .val (.int p2), .val (.int p3), .val (.ref a3), .unset, .unset, .unset, .unset, .unset] [(.int (((p2.toUInt32 >>> ((16 : Int32) &&& 31).toUInt32).toInt32).toInt8.toInt32)), (.int (2 : Int32)), (.ref a3)])) rfl rfl (hb hby at_29) fun T8 Y9 => ?_
  replace Y9 : On p l e _ s m _ below meth c Z n0 T8 1 7 [ari a3 .byte (7 : Int32) [(p2.toInt8.toInt32).toInt8.toInt32, (((p2.toUInt32 >>> ((8 : Int32) &&& 31).toUInt32).toInt32).toInt8.toInt32).toInt8.toInt32, (((p2.toUInt32 >>> ((16 : Int32) &&& 31).toUInt32).toInt32).toInt8.toInt32).toInt8.toInt32, (0 : Int32), (0 : Int32), (0 : Int32), (0 : Int32)]] := Y9
  show Rn p e below F T8 (mkF m 30 #[.val (.int p0), .val (.int p1), .val (.int p2), .val (.int p3), .val (.ref a3), .unset, .unset, .unset, .unset, .unset] [])
  refine Rn.go (T' := T8) (g' := (mkF m 38 #[.val (.int p0), .val (.int p1), .val (.int p2), .val (.int p3), .val (.ref a3), .unset, .unset, .unset, .unset, .unset] [(.int (((p2.toUInt32 >>> ((24 : Int32) &&& 31).toUInt32).toInt32).toInt8.toInt32)), (.int (3 : Int32)), (.ref a3)])) (fun t k => ?_) ?_
  · show Steps p.tables e below (T8.setTop (mkF m 30 #[.val (.int p0), .val (.int p1), .val (.int p2), .val (.int p3), .val (.ref a3), .unset, .unset, .unset, .unset, .unset] [])) t
    refine XS.aload Y9.here hx rfl (hb hby at_30) rfl rfl ?_
    show Steps p.tables e below (T8.setTop (mkF m 32 #[.val (.int p0), .val (.int p1), .val (.int p2), .val (.int p3), .val (.ref a3), .unset, .unset, .unset, .unset, .unset] [(.ref a3)])) t
    refine XS.iconst Y9.here hx rfl (hb hby at_32) ?_
    show Steps p.tables e below (T8.setTop (mkF m 33 #[.val (.int p0), .val (.int p1), .val (.int p2), .val (.int p3), .val (.ref a3), .unset, .unset, .unset, .unset, .unset] [(.int (3 : Int32)), (.ref a3)])) t
    refine XS.iloadN Y9.here hx rfl (hb hby at_33) rfl ?_
    show Steps p.tables e below (T8.setTop (mkF m 34 #[.val (.int p0), .val (.int p1), .val (.int p2), .val (.int p3), .val (.ref a3), .unset, .unset, .unset, .unset, .unset] [(.int p2), (.int (3 : Int32)), (.ref a3)])) t
    refine XS.bipush Y9.here hx rfl (hb hby at_34) ?_
    show Steps p.tables e below (T8.setTop (mkF m 36 #[.val (.int p0), .val (.int p1), .val (.int p2), .val (.int p3), .val (.ref a3), .unset, .unset, .unset, .unset, .unset] [(.int (24 : Int32)), (.int p2), (.int (3 : Int32)), (.ref a3)])) t
    refine XS.iushr Y9.here hx rfl (hb hby at_36) rfl ?_
    show Steps p.tables e below (T8.setTop (mkF m 37 #[.val (.int p0), .val (.int p1), .val (.int p2), .val (.int p3), .val (.ref a3), .unset, .unset, .unset, .unset, .unset] [(.int ((p2.toUInt32 >>> ((24 : Int32) &&& 31).toUInt32).toInt32)), (.int (3 : Int32)), (.ref a3)])) t
    refine XS.i2b Y9.here hx rfl (hb hby at_37) rfl ?_
    show Steps p.tables e below (T8.setTop (mkF m 38 #[.val (.int p0), .val (.int p1), .val (.int p2), .val (.int p3), .val (.ref a3), .unset, .unset, .unset, .unset, .unset] [(.int (((p2.toUInt32 >>> ((24 : Int32) &&& 31).toUInt32).toInt32).toInt8.toInt32)), (.int (3 : Int32)), (.ref a3)])) t
    exact k
  refine On.bsto Y9 hx hZ (i := 0) rfl (by decide) (by show 3 < 7; decide) (g := (mkF m 38 #[.val (.int p0), .val (.int p1), .val (.int p2), .val (.int p3), .val (.ref a3), .unset, .unset, .unset, .unset, .unset] [(.int (((p2.toUInt32 >>> ((24 : Int32) &&& 31).toUInt32).toInt32).toInt8.toInt32)), (.int (3 : Int32)), (.ref a3)])) rfl rfl (hb hby at_38) fun T10 Y11 => ?_
  replace Y11 : On p l e _ s m _ below meth c Z n0 T10 1 7 [ari a3 .byte (7 : Int32) [(p2.toInt8.toInt32).toInt8.toInt32, (((p2.toUInt32 >>> ((8 : Int32) &&& 31).toUInt32).toInt32).toInt8.toInt32).toInt8.toInt32, (((p2.toUInt32 >>> ((16 : Int32) &&& 31).toUInt32).toInt32).toInt8.toInt32).toInt8.toInt32, (((p2.toUInt32 >>> ((24 : Int32) &&& 31).toUInt32).toInt32).toInt8.toInt32).toInt8.toInt32, (0 : Int32), (0 : Int32), (0 : Int32)]] := Y11
  show Rn p e below F T10 (mkF m 39 #[.val (.int p0), .val (.int p1), .val (.int p2), .val (.int p3), .val (.ref a3), .unset, .unset, .unset, .unset, .unset] [])
  refine Rn.go (T' := T10) (g' := (mkF m 44 #[.val (.int p0), .val (.int p1), .val (.int p2), .val (.int p3), .val (.ref a3), .unset, .unset, .unset, .unset, .unset] [(.int (p3.toInt8.toInt32)), (.int (4 : Int32)), (.ref a3)])) (fun t k => ?_) ?_
  · show Steps p.tables e below (T10.setTop (mkF m 39 #[.val (.int p0), .val (.int p1), .val (.int p2), .val (.int p3), .val (.ref a3), .unset, .unset, .unset, .unset, .unset] [])) t
    refine XS.aload Y11.here hx rfl (hb hby at_39) rfl rfl ?_
    show Steps p.tables e below (T10.setTop (mkF m 41 #[.val (.int p0), .val (.int p1), .val (.int p2), .val (.int p3), .val (.ref a3), .unset, .unset, .unset, .unset, .unset] [(.ref a3)])) t
    refine XS.iconst Y11.here hx rfl (hb hby at_41) ?_
    show Steps p.tables e below (T10.setTop (mkF m 42 #[.val (.int p0), .val (.int p1), .val (.int p2), .val (.int p3), .val (.ref a3), .unset, .unset, .unset, .unset, .unset] [(.int (4 : Int32)), (.ref a3)])) t
    refine XS.iloadN Y11.here hx rfl (hb hby at_42) rfl ?_
    show Steps p.tables e below (T10.setTop (mkF m 43 #[.val (.int p0), .val (.int p1), .val (.int p2), .val (.int p3), .val (.ref a3), .unset, .unset, .unset, .unset, .unset] [(.int p3), (.int (4 : Int32)), (.ref a3)])) t
    refine XS.i2b Y11.here hx rfl (hb hby at_43) rfl ?_
    show Steps p.tables e below (T10.setTop (mkF m 44 #[.val (.int p0), .val (.int p1), .val (.int p2), .val (.int p3), .val (.ref a3), .unset, .unset, .unset, .unset, .unset] [(.int (p3.toInt8.toInt32)), (.int (4 : Int32)), (.ref a3)])) t
    exact k
  refine On.bsto Y11 hx hZ (i := 0) rfl (by decide) (by show 4 < 7; decide) (g := (mkF m 44 #[.val (.int p0), .val (.int p1), .val (.int p2), .val (.int p3), .val (.ref a3), .unset, .unset, .unset, .unset, .unset] [(.int (p3.toInt8.toInt32)), (.int (4 : Int32)), (.ref a3)])) rfl rfl (hb hby at_44) fun T12 Y13 => ?_
  replace Y13 : On p l e _ s m _ below meth c Z n0 T12 1 7 [ari a3 .byte (7 : Int32) [(p2.toInt8.toInt32).toInt8.toInt32, (((p2.toUInt32 >>> ((8 : Int32) &&& 31).toUInt32).toInt32).toInt8.toInt32).toInt8.toInt32, (((p2.toUInt32 >>> ((16 : Int32) &&& 31).toUInt32).toInt32).toInt8.toInt32).toInt8.toInt32, (((p2.toUInt32 >>> ((24 : Int32) &&& 31).toUInt32).toInt32).toInt8.toInt32).toInt8.toInt32, (p3.toInt8.toInt32).toInt8.toInt32, (0 : Int32), (0 : Int32)]] := Y13
  show Rn p e below F T12 (mkF m 45 #[.val (.int p0), .val (.int p1), .val (.int p2), .val (.int p3), .val (.ref a3), .unset, .unset, .unset, .unset, .unset] [])
  refine Rn.go (T' := T12) (g' := (mkF m 53 #[.val (.int p0), .val (.int p1), .val (.int p2), .val (.int p3), .val (.ref a3), .unset, .unset, .unset, .unset, .unset] [(.int (((p3.toUInt32 >>> ((8 : Int32) &&& 31).toUInt32).toInt32).toInt8.toInt32)), (.int (5 : Int32)), (.ref a3)])) (fun t k => ?_) ?_
  · show Steps p.tables e below (T12.setTop (mkF m 45 #[.val (.int p0), .val (.int p1), .val (.int p2), .val (.int p3), .val (.ref a3), .unset, .unset, .unset, .unset, .unset] [])) t
    refine XS.aload Y13.here hx rfl (hb hby at_45) rfl rfl ?_
    show Steps p.tables e below (T12.setTop (mkF m 47 #[.val (.int p0), .val (.int p1), .val (.int p2), .val (.int p3), .val (.ref a3), .unset, .unset, .unset, .unset, .unset] [(.ref a3)])) t
    refine XS.iconst Y13.here hx rfl (hb hby at_47) ?_
    show Steps p.tables e below (T12.setTop (mkF m 48 #[.val (.int p0), .val (.int p1), .val (.int p2), .val (.int p3), .val (.ref a3), .unset, .unset, .unset, .unset, .unset] [(.int (5 : Int32)), (.ref a3)])) t
    refine XS.iloadN Y13.here hx rfl (hb hby at_48) rfl ?_
    show Steps p.tables e below (T12.setTop (mkF m 49 #[.val (.int p0), .val (.int p1), .val (.int p2), .val (.int p3), .val (.ref a3), .unset, .unset, .unset, .unset, .unset] [(.int p3), (.int (5 : Int32)), (.ref a3)])) t
    refine XS.bipush Y13.here hx rfl (hb hby at_49) ?_
    show Steps p.tables e below (T12.setTop (mkF m 51 #[.val (.int p0), .val (.int p1), .val (.int p2), .val (.int p3), .val (.ref a3), .unset, .unset, .unset, .unset, .unset] [(.int (8 : Int32)), (.int p3), (.int (5 : Int32)), (.ref a3)])) t
    refine XS.iushr Y13.here hx rfl (hb hby at_51) rfl ?_
    show Steps p.tables e below (T12.setTop (mkF m 52 #[.val (.int p0), .val (.int p1), .val (.int p2), .val (.int p3), .val (.ref a3), .unset, .unset, .unset, .unset, .unset] [(.int ((p3.toUInt32 >>> ((8 : Int32) &&& 31).toUInt32).toInt32)), (.int (5 : Int32)), (.ref a3)])) t
    refine XS.i2b Y13.here hx rfl (hb hby at_52) rfl ?_
    show Steps p.tables e below (T12.setTop (mkF m 53 #[.val (.int p0), .val (.int p1), .val (.int p2), .val (.int p3), .val (.ref a3), .unset, .unset, .unset, .unset, .unset] [(.int (((p3.toUInt32 >>> ((8 : Int32) &&& 31).toUInt32).toInt32).toInt8.toInt32)), (.int (5 : Int32)), (.ref a3)])) t
    exact k
  refine On.bsto Y13 hx hZ (i := 0) rfl (by decide) (by show 5 < 7; decide) (g := (mkF m 53 #[.val (.int p0), .val (.int p1), .val (.int p2), .val (.int p3), .val (.ref a3), .unset, .unset, .unset, .unset, .unset] [(.int (((p3.toUInt32 >>> ((8 : Int32) &&& 31).toUInt32).toInt32).toInt8.toInt32)), (.int (5 : Int32)), (.ref a3)])) rfl rfl (hb hby at_53) fun T14 Y15 => ?_
  replace Y15 : On p l e _ s m _ below meth c Z n0 T14 1 7 [ari a3 .byte (7 : Int32) [(p2.toInt8.toInt32).toInt8.toInt32, (((p2.toUInt32 >>> ((8 : Int32) &&& 31).toUInt32).toInt32).toInt8.toInt32).toInt8.toInt32, (((p2.toUInt32 >>> ((16 : Int32) &&& 31).toUInt32).toInt32).toInt8.toInt32).toInt8.toInt32, (((p2.toUInt32 >>> ((24 : Int32) &&& 31).toUInt32).toInt32).toInt8.toInt32).toInt8.toInt32, (p3.toInt8.toInt32).toInt8.toInt32, (((p3.toUInt32 >>> ((8 : Int32) &&& 31).toUInt32).toInt32).toInt8.toInt32).toInt8.toInt32, (0 : Int32)]] := Y15
  show Rn p e below F T14 (mkF m 54 #[.val (.int p0), .val (.int p1), .val (.int p2), .val (.int p3), .val (.ref a3), .unset, .unset, .unset, .unset, .unset] [])
  refine Rn.go (T' := T14) (g' := (mkF m 63 #[.val (.int p0), .val (.int p1), .val (.int p2), .val (.int p3), .val (.ref a3), .unset, .unset, .unset, .unset, .unset] [(.int (((p3.toUInt32 >>> ((16 : Int32) &&& 31).toUInt32).toInt32).toInt8.toInt32)), (.int (6 : Int32)), (.ref a3)])) (fun t k => ?_) ?_
  · show Steps p.tables e below (T14.setTop (mkF m 54 #[.val (.int p0), .val (.int p1), .val (.int p2), .val (.int p3), .val (.ref a3), .unset, .unset, .unset, .unset, .unset] [])) t
    refine XS.aload Y15.here hx rfl (hb hby at_54) rfl rfl ?_
    show Steps p.tables e below (T14.setTop (mkF m 56 #[.val (.int p0), .val (.int p1), .val (.int p2), .val (.int p3), .val (.ref a3), .unset, .unset, .unset, .unset, .unset] [(.ref a3)])) t
    refine XS.bipush Y15.here hx rfl (hb hby at_56) ?_
    show Steps p.tables e below (T14.setTop (mkF m 58 #[.val (.int p0), .val (.int p1), .val (.int p2), .val (.int p3), .val (.ref a3), .unset, .unset, .unset, .unset, .unset] [(.int (6 : Int32)), (.ref a3)])) t
    refine XS.iloadN Y15.here hx rfl (hb hby at_58) rfl ?_
    show Steps p.tables e below (T14.setTop (mkF m 59 #[.val (.int p0), .val (.int p1), .val (.int p2), .val (.int p3), .val (.ref a3), .unset, .unset, .unset, .unset, .unset] [(.int p3), (.int (6 : Int32)), (.ref a3)])) t
    refine XS.bipush Y15.here hx rfl (hb hby at_59) ?_
    show Steps p.tables e below (T14.setTop (mkF m 61 #[.val (.int p0), .val (.int p1), .val (.int p2), .val (.int p3), .val (.ref a3), .unset, .unset, .unset, .unset, .unset] [(.int (16 : Int32)), (.int p3), (.int (6 : Int32)), (.ref a3)])) t
    refine XS.iushr Y15.here hx rfl (hb hby at_61) rfl ?_
    show Steps p.tables e below (T14.setTop (mkF m 62 #[.val (.int p0), .val (.int p1), .val (.int p2), .val (.int p3), .val (.ref a3), .unset, .unset, .unset, .unset, .unset] [(.int ((p3.toUInt32 >>> ((16 : Int32) &&& 31).toUInt32).toInt32)), (.int (6 : Int32)), (.ref a3)])) t
    refine XS.i2b Y15.here hx rfl (hb hby at_62) rfl ?_
    show Steps p.tables e below (T14.setTop (mkF m 63 #[.val (.int p0), .val (.int p1), .val (.int p2), .val (.int p3), .val (.ref a3), .unset, .unset, .unset, .unset, .unset] [(.int (((p3.toUInt32 >>> ((16 : Int32) &&& 31).toUInt32).toInt32).toInt8.toInt32)), (.int (6 : Int32)), (.ref a3)])) t
    exact k
  refine On.bsto Y15 hx hZ (i := 0) rfl (by decide) (by show 6 < 7; decide) (g := (mkF m 63 #[.val (.int p0), .val (.int p1), .val (.int p2), .val (.int p3), .val (.ref a3), .unset, .unset, .unset, .unset, .unset] [(.int (((p3.toUInt32 >>> ((16 : Int32) &&& 31).toUInt32).toInt32).toInt8.toInt32)), (.int (6 : Int32)), (.ref a3)])) rfl rfl (hb hby at_63) fun T16 Y17 => ?_
  replace Y17 : On p l e _ s m _ below meth c Z n0 T16 1 7 [ari a3 .byte (7 : Int32) [(p2.toInt8.toInt32).toInt8.toInt32, (((p2.toUInt32 >>> ((8 : Int32) &&& 31).toUInt32).toInt32).toInt8.toInt32).toInt8.toInt32, (((p2.toUInt32 >>> ((16 : Int32) &&& 31).toUInt32).toInt32).toInt8.toInt32).toInt8.toInt32, (((p2.toUInt32 >>> ((24 : Int32) &&& 31).toUInt32).toInt32).toInt8.toInt32).toInt8.toInt32, (p3.toInt8.toInt32).toInt8.toInt32, (((p3.toUInt32 >>> ((8 : Int32) &&& 31).toUInt32).toInt32).toInt8.toInt32).toInt8.toInt32, (((p3.toUInt32 >>> ((16 : Int32) &&& 31).toUInt32).toInt32).toInt8.toInt32).toInt8.toInt32]] := Y17
  show Rn p e below F T16 (mkF m 64 #[.val (.int p0), .val (.int p1), .val (.int p2), .val (.int p3), .val (.ref a3), .unset, .unset, .unset, .unset, .unset] [])
  refine Rn.go (T' := T16) (g' := (mkF m 69 #[.val (.int p0), .val (.int p1), .val (.int p2), .val (.int p3), .val (.ref a3), .val (.int (p1 &&& (3 : Int32))), .unset, .unset, .unset, .unset] [])) (fun t k => ?_) ?_
  · show Steps p.tables e below (T16.setTop (mkF m 64 #[.val (.int p0), .val (.int p1), .val (.int p2), .val (.int p3), .val (.ref a3), .unset, .unset, .unset, .unset, .unset] [])) t
    refine XS.iloadN Y17.here hx rfl (hb hby at_64) rfl ?_
    show Steps p.tables e below (T16.setTop (mkF m 65 #[.val (.int p0), .val (.int p1), .val (.int p2), .val (.int p3), .val (.ref a3), .unset, .unset, .unset, .unset, .unset] [(.int p1)])) t
    refine XS.iconst Y17.here hx rfl (hb hby at_65) ?_
    show Steps p.tables e below (T16.setTop (mkF m 66 #[.val (.int p0), .val (.int p1), .val (.int p2), .val (.int p3), .val (.ref a3), .unset, .unset, .unset, .unset, .unset] [(.int (3 : Int32)), (.int p1)])) t
    refine XS.iand Y17.here hx rfl (hb hby at_66) rfl ?_
    show Steps p.tables e below (T16.setTop (mkF m 67 #[.val (.int p0), .val (.int p1), .val (.int p2), .val (.int p3), .val (.ref a3), .unset, .unset, .unset, .unset, .unset] [(.int (p1 &&& (3 : Int32)))])) t
    refine XS.istore Y17.here hx rfl (hb hby at_67) rfl (l' := #[.val (.int p0), .val (.int p1), .val (.int p2), .val (.int p3), .val (.ref a3), .val (.int (p1 &&& (3 : Int32))), .unset, .unset, .unset, .unset]) rfl ?_
    show Steps p.tables e below (T16.setTop (mkF m 69 #[.val (.int p0), .val (.int p1), .val (.int p2), .val (.int p3), .val (.ref a3), .val (.int (p1 &&& (3 : Int32))), .unset, .unset, .unset, .unset] [])) t
    exact k
  obtain ⟨o, ho⟩ : ∃ z : Int32, z = (p1 &&& (3 : Int32)) := ⟨_, rfl⟩
  have hbo : 0 ≤ o.toInt ∧ o.toInt ≤ 3 := by rw [ho]; have h := Jvm.Kit.i32_mask p1 3 (k := 2) (by decide) (by decide); omega
  rw [← ho]
  rcases own_le3 hbo.1 hbo.2 with eo | eo | eo | eo
  · subst eo
    show Rn p e below F T16 (mkF m 69 #[.val (.int p0), .val (.int p1), .val (.int p2), .val (.int p3), .val (.ref a3), .val (.int (0 : Int32)), .unset, .unset, .unset, .unset] [])
    refine Rn.go (T' := T16) (g' := (mkF m 75 #[.val (.int p0), .val (.int p1), .val (.int p2), .val (.int p3), .val (.ref a3), .val (.int (0 : Int32)), .unset, .unset, .unset, .unset] [(.int (p0.toInt8.toInt32)), (.int (0 : Int32)), (.ref a3)])) (fun t k => ?_) ?_
    · show Steps p.tables e below (T16.setTop (mkF m 69 #[.val (.int p0), .val (.int p1), .val (.int p2), .val (.int p3), .val (.ref a3), .val (.int (0 : Int32)), .unset, .unset, .unset, .unset] [])) t
      refine XS.aload Y17.here hx rfl (hb hby at_69) rfl rfl ?_
      show Steps p.tables e below (T16.setTop (mkF m 71 #[.val (.int p0), .val (.int p1), .val (.int p2), .val (.int p3), .val (.ref a3), .val (.int (0 : Int32)), .unset, .unset, .unset, .unset] [(.ref a3)])) t
      refine XS.iload Y17.here hx rfl (hb hby at_71) rfl ?_
      show Steps p.tables e below (T16.setTop (mkF m 73 #[.val (.int p0), .val (.int p1), .val (.int p2), .val (.int p3), .val (.ref a3), .val (.int (0 : Int32)), .unset, .unset, .unset, .unset] [(.int (0 : Int32)), (.ref a3)])) t
      refine XS.iloadN Y17.here hx rfl (hb hby at_73) rfl ?_
      show Steps p.tables e below (T16.setTop (mkF m 74 #[.val (.int p0), .val (.int p1), .val (.int p2), .val (.int p3), .val (.ref a3), .val (.int (0 : Int32)), .unset, .unset, .unset, .unset] [(.int p0), (.int (0 : Int32)), (.ref a3)])) t
      refine XS.i2b Y17.here hx rfl (hb hby at_74) rfl ?_
      show Steps p.tables e below (T16.setTop (mkF m 75 #[.val (.int p0), .val (.int p1), .val (.int p2), .val (.int p3), .val (.ref a3), .val (.int (0 : Int32)), .unset, .unset, .unset, .unset] [(.int (p0.toInt8.toInt32)), (.int (0 : Int32)), (.ref a3)])) t
      exact k
    refine On.bsto Y17 hx hZ (i := 0) rfl (by decide) (by show 0 < 7; decide) (g := (mkF m 75 #[.val (.int p0), .val (.int p1), .val (.int p2), .val (.int p3), .val (.ref a3), .val (.int (0 : Int32)), .unset, .unset, .unset, .unset] [(.int (p0.toInt8.toInt32)), (.int (0 : Int32)), (.ref a3)])) rfl rfl (hb hby at_75) fun T18 Y19 => ?_
    replace Y19 : On p l e _ s m _ below meth c Z n0 T18 1 7 [ari a3 .byte (7 : Int32) [(p0.toInt8.toInt32).toInt8.toInt32, (((p2.toUInt32 >>> ((8 : Int32) &&& 31).toUInt32).toInt32).toInt8.toInt32).toInt8.toInt32, (((p2.toUInt32 >>> ((16 : Int32) &&& 31).toUInt32).toInt32).toInt8.toInt32).toInt8.toInt32, (((p2.toUInt32 >>> ((24 : Int32) &&& 31).toUInt32).toInt32).toInt8.toInt32).toInt8.toInt32, (p3.toInt8.toInt32).toInt8.toInt32, (((p3.toUInt32 >>> ((8 : Int32) &&& 31).toUInt32).toInt32).toInt8.toInt32).toInt8.toInt32, (((p3.toUInt32 >>> ((16 : Int32) &&& 31).toUInt32).toInt32).toInt8.toInt32).toInt8.toInt32]] := Y19
    show Rn p e below F T18 (mkF m 76 #[.val (.int p0), .val (.int p1), .val (.int p2), .val (.int p3), .val (.ref a3), .val (.int (0 : Int32)), .unset, .unset, .unset, .unset] [])
    refine Rn.go (T' := T18) (g' := (mkF m 87 #[.val (.int p0), .val (.int p1), .val (.int p2), .val (.int p3), .val (.ref a3), .val (.int (0 : Int32)), .unset, .unset, .unset, .unset] [(.int (((p0.toUInt32 >>> ((8 : Int32) &&& 31).toUInt32).toInt32).toInt8.toInt32)), (.int (1 : Int32)), (.ref a3)])) (fun t k => ?_) ?_
    · show Steps p.tables e below (T18.setTop (mkF m 76 #[.val (.int p0), .val (.int p1), .val (.int p2), .val (.int p3), .val (.ref a3), .val (.int (0 : Int32)), .unset, .unset, .unset, .unset] [])) t
      refine XS.aload Y19.here hx rfl (hb hby at_76) rfl rfl ?_
      show Steps p.tables e below (T18.setTop (mkF m 78 #[.val (.int p0), .val (.int p1), .val (.int p2), .val (.int p3), .val (.ref a3), .val (.int (0 : Int32)), .unset, .unset, .unset, .unset] [(.ref a3)])) t
      refine XS.iload Y19.here hx rfl (hb hby at_78) rfl ?_
      show Steps p.tables e below (T18.setTop (mkF m 80 #[.val (.int p0), .val (.int p1), .val (.int p2), .val (.int p3), .val (.ref a3), .val (.int (0 : Int32)), .unset, .unset, .unset, .unset] [(.int (0 : Int32)), (.ref a3)])) t
      refine XS.iconst Y19.here hx rfl (hb hby at_80) ?_
      show Steps p.tables e below (T18.setTop (mkF m 81 #[.val (.int p0), .val (.int p1), .val (.int p2), .val (.int p3), .val (.ref a3), .val (.int (0 : Int32)), .unset, .unset, .unset, .unset] [(.int (1 : Int32)), (.int (0 : Int32)), (.ref a3)])) t
      refine XS.iadd Y19.here hx rfl (hb hby at_81) rfl ?_
      show Steps p.tables e below (T18.setTop (mkF m 82 #[.val (.int p0), .val (.int p1), .val (.int p2), .val (.int p3), .val (.ref a3), .val (.int (0 : Int32)), .unset, .unset, .unset, .unset] [(.int (1 : Int32)), (.ref a3)])) t
      refine XS.iloadN Y19.here hx rfl (hb hby at_82) rfl ?_
      show Steps p.tables e below (T18.setTop (mkF m 83 #[.val (.int p0), .val (.int p1), .val (.int p2), .val (.int p3), .val (.ref a3), .val (.int (0 : Int32)), .unset, .unset, .unset, .unset] [(.int p0), (.int (1 : Int32)), (.ref a3)])) t
      refine XS.bipush Y19.here hx rfl (hb hby at_83) ?_
      show Steps p.tables e below (T18.setTop (mkF m 85 #[.val (.int p0), .val (.int p1), .val (.int p2), .val (.int p3), .val (.ref a3), .val (.int (0 : Int32)), .unset, .unset, .unset, .unset] [(.int (8 : Int32)), (.int p0), (.int (1 : Int32)), (.ref a3)])) t
      refine XS.iushr Y19.here hx rfl (hb hby at_85) rfl ?_
      show Steps p.tables e below (T18.setTop (mkF m 86 #[.val (.int p0), .val (.int p1), .val (.int p2), .val (.int p3), .val (.ref a3), .val (.int (0 : Int32)), .unset, .unset, .unset, .unset] [(.int ((p0.toUInt32 >>> ((8 : Int32) &&& 31).toUInt32).toInt32)), (.int (1 : Int32)), (.ref a3)])) t
      refine XS.i2b Y19.here hx rfl (hb hby at_86) rfl ?_
      show Steps p.tables e below (T18.setTop (mkF m 87 #[.val (.int p0), .val (.int p1), .val (.int p2), .val (.int p3), .val (.ref a3), .val (.int (0 : Int32)), .unset, .unset, .unset, .unset] [(.int (((p0.toUInt32 >>> ((8 : Int32) &&& 31).toUInt32).toInt32).toInt8.toInt32)), (.int (1 : Int32)), (.ref a3)])) t
      exact k
    refine On.bsto Y19 hx hZ (i := 0) rfl (by decide) (by show 1 < 7; decide) (g := (mkF m 87 #[.val (.int p0), .val (.int p1), .val (.int p2), .val (.int p3), .val (.ref a3), .val (.int (0 : Int32)), .unset, .unset, .unset, .unset] [(.int (((p0.toUInt32 >>> ((8 : Int32) &&& 31).toUInt32).toInt32).toInt8.toInt32)), (.int (1 : Int32)), (.ref a3)])) rfl rfl (hb hby at_87) fun T20 Y21 => ?_
    replace Y21 : On p l e _ s m _ below meth c Z n0 T20 1 7 [ari a3 .byte (7 : Int32) [(p0.toInt8.toInt32).toInt8.toInt32, (((p0.toUInt32 >>> ((8 : Int32) &&& 31).toUInt32).toInt32).toInt8.toInt32).toInt8.toInt32, (((p2.toUInt32 >>> ((16 : Int32) &&& 31).toUInt32).toInt32).toInt8.toInt32).toInt8.toInt32, (((p2.toUInt32 >>> ((24 : Int32) &&& 31).toUInt32).toInt32).toInt8.toInt32).toInt8.toInt32, (p3.toInt8.toInt32).toInt8.toInt32, (((p3.toUInt32 >>> ((8 : Int32) &&& 31).toUInt32).toInt32).toInt8.toInt32).toInt8.toInt32, (((p3.toUInt32 >>> ((16 : Int32) &&& 31).toUInt32).toInt32).toInt8.toInt32).toInt8.toInt32]] := Y21
    show Rn p e below F T20 (mkF m 88 #[.val (.int p0), .val (.int p1), .val (.int p2), .val (.int p3), .val (.ref a3), .val (.int (0 : Int32)), .unset, .unset, .unset, .unset] [])
    refine Rn.go (T' := T20) (g' := (mkF m 99 #[.val (.int p0), .val (.int p1), .val (.int p2), .val (.int p3), .val (.ref a3), .val (.int (0 : Int32)), .unset, .unset, .unset, .unset] [(.int (((p0.toUInt32 >>> ((16 : Int32) &&& 31).toUInt32).toInt32).toInt8.toInt32)), (.int (2 : Int32)), (.ref a3)])) (fun t k => ?_) ?_
    · show Steps p.tables e below (T20.setTop (mkF m 88 #[.val (.int p0), .val (.int p1), .val (.int p2), .val (.int p3), .val (.ref a3), .val (.int (0 : Int32)), .unset, .unset, .unset, .unset] [])) t
      refine XS.aload Y21.here hx rfl (hb hby at_88) rfl rfl ?_
      show Steps p.tables e below (T20.setTop (mkF m 90 #[.val (.int p0), .val (.int p1), .val (.int p2), .val (.int p3), .val (.ref a3), .val (.int (0 : Int32)), .unset, .unset, .unset, .unset] [(.ref a3)])) t
      refine XS.iload Y21.here hx rfl (hb hby at_90) rfl ?_
      show Steps p.tables e below (T20.setTop (mkF m 92 #[.val (.int p0), .val (.int p1), .val (.int p2), .val (.int p3), .val (.ref a3), .val (.int (0 : Int32)), .unset, .unset, .unset, .unset] [(.int (0 : Int32)), (.ref a3)])) t
      refine XS.iconst Y21.here hx rfl (hb hby at_92) ?_
      show Steps p.tables e below (T20.setTop (mkF m 93 #[.val (.int p0), .val (.int p1), .val (.int p2), .val (.int p3), .val (.ref a3), .val (.int (0 : Int32)), .unset, .unset, .unset, .unset] [(.int (2 : Int32)), (.int (0 : Int32)), (.ref a3)])) t
      refine XS.iadd Y21.here hx rfl (hb hby at_93) rfl ?_
      show Steps p.tables e below (T20.setTop (mkF m 94 #[.val (.int p0), .val (.int p1), .val (.int p2), .val (.int p3), .val (.ref a3), .val (.int (0 : Int32)), .unset, .unset, .unset, .unset] [(.int (2 : Int32)), (.ref a3)])) t
      refine XS.iloadN Y21.here hx rfl (hb hby at_94) rfl ?_
      show Steps p.tables e below (T20.setTop (mkF m 95 #[.val (.int p0), .val (.int p1), .val (.int p2), .val (.int p3), .val (.ref a3), .val (.int (0 : Int32)), .unset, .unset, .unset, .unset] [(.int p0), (.int (2 : Int32)), (.ref a3)])) t
      refine XS.bipush Y21.here hx rfl (hb hby at_95) ?_
      show Steps p.tables e below (T20.setTop (mkF m 97 #[.val (.int p0), .val (.int p1), .val (.int p2), .val (.int p3), .val (.ref a3), .val (.int (0 : Int32)), .unset, .unset, .unset, .unset] [(.int (16 : Int32)), (.int p0), (.int (2 : Int32)), (.ref a3)])) t
      refine XS.iushr Y21.here hx rfl (hb hby at_97) rfl ?_
      show Steps p.tables e below (T20.setTop (mkF m 98 #[.val (.int p0), .val (.int p1), .val (.int p2), .val (.int p3), .val (.ref a3), .val (.int (0 : Int32)), .unset, .unset, .unset, .unset] [(.int ((p0.toUInt32 >>> ((16 : Int32) &&& 31).toUInt32).toInt32)), (.int (2 : Int32)), (.ref a3)])) t
      refine XS.i2b Y21.here hx rfl (hb hby at_98) rfl ?_
      show Steps p.tables e below (T20.setTop (mkF m 99 #[.val (.int p0), .val (.int p1), .val (.int p2), .val (.int p3), .val (.ref a3), .val (.int (0 : Int32)), .unset, .unset, .unset, .unset] [(.int (((p0.toUInt32 >>> ((16 : Int32) &&& 31).toUInt32).toInt32).toInt8.toInt32)), (.int (2 : Int32)), (.ref a3)])) t
      exact k
    refine On.bsto Y21 hx hZ (i := 0) rfl (by decide) (by show 2 < 7; decide) (g := (mkF m 99 #[.val (.int p0), .val (.int p1), .val (.int p2), .val (.int p3), .val (.ref a3), .val (.int (0 : Int32)), .unset, .unset, .unset, .unset] [(.int (((p0.toUInt32 >>> ((16 : Int32) &&& 31).toUInt32).toInt32).toInt8.toInt32)), (.int (2 : Int32)), (.ref a3)])) rfl rfl (hb hby at_99) fun T22 Y23 => ?_
    replace Y23 : On p l e _ s m _ below meth c Z n0 T22 1 7 [ari a3 .byte (7 : Int32) [(p0.toInt8.toInt32).toInt8.toInt32, (((p0.toUInt32 >>> ((8 : Int32) &&& 31).toUInt32).toInt32).toInt8.toInt32).toInt8.toInt32, (((p0.toUInt32 >>> ((16 : Int32) &&& 31).toUInt32).toInt32).toInt8.toInt32).toInt8.toInt32, (((p2.toUInt32 >>> ((24 : Int32) &&& 31).toUInt32).toInt32).toInt8.toInt32).toInt8.toInt32, (p3.toInt8.toInt32).toInt8.toInt32, (((p3.toUInt32 >>> ((8 : Int32) &&& 31).toUInt32).toInt32).toInt8.toInt32).toInt8.toInt32, (((p3.toUInt32 >>> ((16 : Int32) &&& 31).toUInt32).toInt32).toInt8.toInt32).toInt8.toInt32]] := Y23
    show Rn p e below F T22 (mkF m 100 #[.val (.int p0), .val (.int p1), .val (.int p2), .val (.int p3), .val (.ref a3), .val (.int (0 : Int32)), .unset, .unset, .unset, .unset] [])
    refine Rn.go (T' := T22) (g' := (mkF m 111 #[.val (.int p0), .val (.int p1), .val (.int p2), .val (.int p3), .val (.ref a3), .val (.int (0 : Int32)), .unset, .unset, .unset, .unset] [(.int (((p0.toUInt32 >>> ((24 : Int32) &&& 31).toUInt32).toInt32).toInt8.toInt32)), (.int (3 : Int32)), (.ref a3)])) (fun t k => ?_) ?_
    · show Steps p.tables e below (T22.setTop (mkF m 100 #[.val (.int p0), .val (.int p1), .val (.int p2), .val (.int p3), .val (.ref a3), .val (.int (0 : Int32)), .unset, .unset, .unset, .unset] [])) t
      refine XS.aload Y23.here hx rfl (hb hby at_100) rfl rfl ?_
      show Steps p.tables e below (T22.setTop (mkF m 102 #[.val (.int p0), .val (.int p1), .val (.int p2), .val (.int p3), .val (.ref a3), .val (.int (0 : Int32)), .unset, .unset, .unset, .unset] [(.ref a3)])) t
      refine XS.iload Y23.here hx rfl (hb hby at_102) rfl ?_
      show Steps p.tables e below (T22.setTop (mkF m 104 #[.val (.int p0), .val (.int p1), .val (.int p2), .val (.int p3), .val (.ref a3), .val (.int (0 : Int32)), .unset, .unset, .unset, .unset] [(.int (0 : Int32)), (.ref a3)])) t
      refine XS.iconst Y23.here hx rfl (hb hby at_104) ?_
      show Steps p.tables e below (T22.setTop (mkF m 105 #[.val (.int p0), .val (.int p1), .val (.int p2), .val (.int p3), .val (.ref a3), .val (.int (0 : Int32)), .unset, .unset, .unset, .unset] [(.int (3 : Int32)), (.int (0 : Int32)), (.ref a3)])) t
      refine XS.iadd Y23.here hx rfl (hb hby at_105) rfl ?_
      show Steps p.tables e below (T22.setTop (mkF m 106 #[.val (.int p0), .val (.int p1), .val (.int p2), .val (.int p3), .val (.ref a3), .val (.int (0 : Int32)), .unset, .unset, .unset, .unset] [(.int (3 : Int32)), (.ref a3)])) t
      refine XS.iloadN Y23.here hx rfl (hb hby at_106) rfl ?_
      show Steps p.tables e below (T22.setTop (mkF m 107 #[.val (.int p0), .val (.int p1), .val (.int p2), .val (.int p3), .val (.ref a3), .val (.int (0 : Int32)), .unset, .unset, .unset, .unset] [(.int p0), (.int (3 : Int32)), (.ref a3)])) t
      refine XS.bipush Y23.here hx rfl (hb hby at_107) ?_
      show Steps p.tables e below (T22.setTop (mkF m 109 #[.val (.int p0), .val (.int p1), .val (.int p2), .val (.int p3), .val (.ref a3), .val (.int (0 : Int32)), .unset, .unset, .unset, .unset] [(.int (24 : Int32)), (.int p0), (.int (3 : Int32)), (.ref a3)])) t
      refine XS.iushr Y23.here hx rfl (hb hby at_109) rfl ?_
      show Steps p.tables e below (T22.setTop (mkF m 110 #[.val (.int p0), .val (.int p1), .val (.int p2), .val (.int p3), .val (.ref a3), .val (.int (0 : Int32)), .unset, .unset, .unset, .unset] [(.int ((p0.toUInt32 >>> ((24 : Int32) &&& 31).toUInt32).toInt32)), (.int (3 : Int32)), (.ref a3)])) t
      refine XS.i2b Y23.here hx rfl (hb hby at_110) rfl ?_
      show Steps p.tables e below (T22.setTop (mkF m 111 #[.val (.int p0), .val (.int p1), .val (.int p2), .val (.int p3), .val (.ref a3), .val (.int (0 : Int32)), .unset, .unset, .unset, .unset] [(.int (((p0.toUInt32 >>> ((24 : Int32) &&& 31).toUInt32).toInt32).toInt8.toInt32)), (.int (3 : Int32)), (.ref a3)])) t
      exact k
    refine On.bsto Y23 hx hZ (i := 0) rfl (by decide) (by show 3 < 7; decide) (g := (mkF m 111 #[.val (.int p0), .val (.int p1), .val (.int p2), .val (.int p3), .val (.ref a3), .val (.int (0 : Int32)), .unset, .unset, .unset, .unset] [(.int (((p0.toUInt32 >>> ((24 : Int32) &&& 31).toUInt32).toInt32).toInt8.toInt32)), (.int (3 : Int32)), (.ref a3)])) rfl rfl (hb hby at_111) fun T24 Y25 => ?_
    replace Y25 : On p l e _ s m _ below meth c Z n0 T24 1 7 [ari a3 .byte (7 : Int32) [(p0.toInt8.toInt32).toInt8.toInt32, (((p0.toUInt32 >>> ((8 : Int32) &&& 31).toUInt32).toInt32).toInt8.toInt32).toInt8.toInt32, (((p0.toUInt32 >>> ((16 : Int32) &&& 31).toUInt32).toInt32).toInt8.toInt32).toInt8.toInt32, (((p0.toUInt32 >>> ((24 : Int32) &&& 31).toUInt32).toInt32).toInt8.toInt32).toInt8.toInt32, (p3.toInt8.toInt32).toInt8.toInt32, (((p3.toUInt32 >>> ((8 : Int32) &&& 31).toUInt32).toInt32).toInt8.toInt32).toInt8.toInt32, (((p3.toUInt32 >>> ((16 : Int32) &&& 31).toUInt32).toInt32).toInt8.toInt32).toInt8.toInt32]] := Y25
    show Rn p e below F T24 (mkF m 112 #[.val (.int p0), .val (.int p1), .val (.int p2), .val (.int p3), .val (.ref a3), .val (.int (0 : Int32)), .unset, .unset, .unset, .unset] [])
    refine Rn.go (T' := T24) (g' := (mkF m 116 #[.val (.int p0), .val (.int p1), .val (.int p2), .val (.int p3), .val (.ref a3), .val (.int (0 : Int32)), .unset, .unset, .unset, .unset] [(.int (0 : Int32)), (.ref a3)])) (fun t k => ?_) ?_
    · show Steps p.tables e below (T24.setTop (mkF m 112 #[.val (.int p0), .val (.int p1), .val (.int p2), .val (.int p3), .val (.ref a3), .val (.int (0 : Int32)), .unset, .unset, .unset, .unset] [])) t
      refine XS.aload Y25.here hx rfl (hb hby at_112) rfl rfl ?_
      show Steps p.tables e below (T24.setTop (mkF m 114 #[.val (.int p0), .val (.int p1), .val (.int p2), .val (.int p3), .val (.ref a3), .val (.int (0 : Int32)), .unset, .unset, .unset, .unset] [(.ref a3)])) t
      refine XS.iload Y25.here hx rfl (hb hby at_114) rfl ?_
      show Steps p.tables e below (T24.setTop (mkF m 116 #[.val (.int p0), .val (.int p1), .val (.int p2), .val (.int p3), .val (.ref a3), .val (.int (0 : Int32)), .unset, .unset, .unset, .unset] [(.int (0 : Int32)), (.ref a3)])) t
      exact k
    refine On.static Y25 hx hZ (y := (⟨"com/example/strict_bytecode/strictbytecode/DexBuffer", "u4", "([BI)J"⟩ : MethodName)) hown (w1 hw) (w2 hw) (w4 hw) (w3 hw) (by decide) (argsL := [(.ref a3), (.int (0 : Int32))]) (rest := []) (rm1 l Z a0 hw n0 a3 (0 : Int32) (7 : Int32) [(p0.toInt8.toInt32).toInt8.toInt32, (((p0.toUInt32 >>> ((8 : Int32) &&& 31).toUInt32).toInt32).toInt8.toInt32).toInt8.toInt32, (((p0.toUInt32 >>> ((16 : Int32) &&& 31).toUInt32).toInt32).toInt8.toInt32).toInt8.toInt32, (((p0.toUInt32 >>> ((24 : Int32) &&& 31).toUInt32).toInt32).toInt8.toInt32).toInt8.toInt32, (p3.toInt8.toInt32).toInt8.toInt32, (((p3.toUInt32 >>> ((8 : Int32) &&& 31).toUInt32).toInt32).toInt8.toInt32).toInt8.toInt32, (((p3.toUInt32 >>> ((16 : Int32) &&& 31).toUInt32).toInt32).toInt8.toInt32).toInt8.toInt32] ((p0.toInt8.toInt32).toInt8.toInt32) ((((p0.toUInt32 >>> ((8 : Int32) &&& 31).toUInt32).toInt32).toInt8.toInt32).toInt8.toInt32) ((((p0.toUInt32 >>> ((16 : Int32) &&& 31).toUInt32).toInt32).toInt8.toInt32).toInt8.toInt32) ((((p0.toUInt32 >>> ((24 : Int32) &&& 31).toUInt32).toInt32).toInt8.toInt32).toInt8.toInt32) [] (by decide) (by decide) (by decide) (by decide) rfl rfl rfl rfl) (W := 0) (by decide) (by decide) (by decide) (by decide) (g := (mkF m 116 #[.val (.int p0), .val (.int p1), .val (.int p2), .val (.int p3), .val (.ref a3), .val (.int (0 : Int32)), .unset, .unset, .unset, .unset] [(.int (0 : Int32)), (.ref a3)])) rfl (by rw [hml]; rfl) (lenOf pd0 rfl) rfl (by show 2 * 0 + _ ≤ _; exact Nat.le_of_eq rfl) (hb hby at_116) ?_
    intro T26 u28 D29 hp30 Y27
    obtain ⟨r116, hr116, rfl, rfl⟩ : ∃ z : Int64, z = ((((((p0.toInt8.toInt32).toInt8.toInt32.toInt64) &&& (255 : Int64)) ||| ((((((p0.toUInt32 >>> ((8 : Int32) &&& 31).toUInt32).toInt32).toInt8.toInt32).toInt8.toInt32.toInt64) &&& (255 : Int64)) <<< ((8 : Int32) &&& 0x3f).toInt64)) ||| ((((((p0.toUInt32 >>> ((16 : Int32) &&& 31).toUInt32).toInt32).toInt8.toInt32).toInt8.toInt32.toInt64) &&& (255 : Int64)) <<< ((16 : Int32) &&& 0x3f).toInt64)) ||| ((((((p0.toUInt32 >>> ((24 : Int32) &&& 31).toUInt32).toInt32).toInt8.toInt32).toInt8.toInt32.toInt64) &&& (255 : Int64)) <<< ((24 : Int32) &&& 0x3f).toInt64)) ∧ u28 = some (.long z) ∧ D29 = _ := ⟨_, rfl, hp30.1, hp30.2⟩
    replace Y27 : On p l e _ s m _ below meth c Z n0 T26 1 7 [ari a3 .byte (7 : Int32) [(p0.toInt8.toInt32).toInt8.toInt32, (((p0.toUInt32 >>> ((8 : Int32) &&& 31).toUInt32).toInt32).toInt8.toInt32).toInt8.toInt32, (((p0.toUInt32 >>> ((16 : Int32) &&& 31).toUInt32).toInt32).toInt8.toInt32).toInt8.toInt32, (((p0.toUInt32 >>> ((24 : Int32) &&& 31).toUInt32).toInt32).toInt8.toInt32).toInt8.toInt32, (p3.toInt8.toInt32).toInt8.toInt32, (((p3.toUInt32 >>> ((8 : Int32) &&& 31).toUInt32).toInt32).toInt8.toInt32).toInt8.toInt32, (((p3.toUInt32 >>> ((16 : Int32) &&& 31).toUInt32).toInt32).toInt8.toInt32).toInt8.toInt32]] := Y27
    show Rn p e below F T26 (mkF m 119 #[.val (.int p0), .val (.int p1), .val (.int p2), .val (.int p3), .val (.ref a3), .val (.int (0 : Int32)), .unset, .unset, .unset, .unset] [(.long r116)])
    refine Rn.go (T' := T26) (g' := (mkF m 134 #[.val (.int p0), .val (.int p1), .val (.int p2), .val (.int p3), .val (.ref a3), .val (.int (0 : Int32)), .val (.long r116), .second, .val (.long ((p0.toInt64) &&& (4294967295 : Int64))), .second] [(.int (lcmpW r116 ((p0.toInt64) &&& (4294967295 : Int64))))])) (fun t k => ?_) ?_
    · show Steps p.tables e below (T26.setTop (mkF m 119 #[.val (.int p0), .val (.int p1), .val (.int p2), .val (.int p3), .val (.ref a3), .val (.int (0 : Int32)), .unset, .unset, .unset, .unset] [(.long r116)])) t
      refine XS.lstore Y27.here hx rfl (hb hby at_119) rfl (l' := #[.val (.int p0), .val (.int p1), .val (.int p2), .val (.int p3), .val (.ref a3), .val (.int (0 : Int32)), .val (.long r116), .second, .unset, .unset]) rfl ?_
      show Steps p.tables e below (T26.setTop (mkF m 121 #[.val (.int p0), .val (.int p1), .val (.int p2), .val (.int p3), .val (.ref a3), .val (.int (0 : Int32)), .val (.long r116), .second, .unset, .unset] [])) t
      refine XS.iloadN Y27.here hx rfl (hb hby at_121) rfl ?_
      show Steps p.tables e below (T26.setTop (mkF m 122 #[.val (.int p0), .val (.int p1), .val (.int p2), .val (.int p3), .val (.ref a3), .val (.int (0 : Int32)), .val (.long r116), .second, .unset, .unset] [(.int p0)])) t
      refine XS.i2l Y27.here hx rfl (hb hby at_122) rfl ?_
      show Steps p.tables e below (T26.setTop (mkF m 123 #[.val (.int p0), .val (.int p1), .val (.int p2), .val (.int p3), .val (.ref a3), .val (.int (0 : Int32)), .val (.long r116), .second, .unset, .unset] [(.long (p0.toInt64))])) t
      refine On.sldcJ Y27 hx hZ hown (w6 hw) (g := (mkF m 123 #[.val (.int p0), .val (.int p1), .val (.int p2), .val (.int p3), .val (.ref a3), .val (.int (0 : Int32)), .val (.long r116), .second, .unset, .unset] [(.long (p0.toInt64))])) rfl (hb hby at_123) _ ?_
      show Steps p.tables e below (T26.setTop (mkF m 126 #[.val (.int p0), .val (.int p1), .val (.int p2), .val (.int p3), .val (.ref a3), .val (.int (0 : Int32)), .val (.long r116), .second, .unset, .unset] [(.long (4294967295 : Int64)), (.long (p0.toInt64))])) t
      refine XS.land Y27.here hx rfl (hb hby at_126) rfl ?_
      show Steps p.tables e below (T26.setTop (mkF m 127 #[.val (.int p0), .val (.int p1), .val (.int p2), .val (.int p3), .val (.ref a3), .val (.int (0 : Int32)), .val (.long r116), .second, .unset, .unset] [(.long ((p0.toInt64) &&& (4294967295 : Int64)))])) t
      refine XS.lstore Y27.here hx rfl (hb hby at_127) rfl (l' := #[.val (.int p0), .val (.int p1), .val (.int p2), .val (.int p3), .val (.ref a3), .val (.int (0 : Int32)), .val (.long r116), .second, .val (.long ((p0.toInt64) &&& (4294967295 : Int64))), .second]) rfl ?_
      show Steps p.tables e below (T26.setTop (mkF m 129 #[.val (.int p0), .val (.int p1), .val (.int p2), .val (.int p3), .val (.ref a3), .val (.int (0 : Int32)), .val (.long r116), .second, .val (.long ((p0.toInt64) &&& (4294967295 : Int64))), .second] [])) t
      refine XS.lload Y27.here hx rfl (hb hby at_129) rfl ?_
      show Steps p.tables e below (T26.setTop (mkF m 131 #[.val (.int p0), .val (.int p1), .val (.int p2), .val (.int p3), .val (.ref a3), .val (.int (0 : Int32)), .val (.long r116), .second, .val (.long ((p0.toInt64) &&& (4294967295 : Int64))), .second] [(.long r116)])) t
      refine XS.lload Y27.here hx rfl (hb hby at_131) rfl ?_
      show Steps p.tables e below (T26.setTop (mkF m 133 #[.val (.int p0), .val (.int p1), .val (.int p2), .val (.int p3), .val (.ref a3), .val (.int (0 : Int32)), .val (.long r116), .second, .val (.long ((p0.toInt64) &&& (4294967295 : Int64))), .second] [(.long ((p0.toInt64) &&& (4294967295 : Int64))), (.long r116)])) t
      refine XS.lcmp Y27.here hx rfl (hb hby at_133) rfl ?_
      show Steps p.tables e below (T26.setTop (mkF m 134 #[.val (.int p0), .val (.int p1), .val (.int p2), .val (.int p3), .val (.ref a3), .val (.int (0 : Int32)), .val (.long r116), .second, .val (.long ((p0.toInt64) &&& (4294967295 : Int64))), .second] [(.int (lcmpW r116 ((p0.toInt64) &&& (4294967295 : Int64))))])) t
      exact k
    refine Rn.go (T' := T26) (g' := (mkF m 137 #[.val (.int p0), .val (.int p1), .val (.int p2), .val (.int p3), .val (.ref a3), .val (.int (0 : Int32)), .val (.long r116), .second, .val (.long ((p0.toInt64) &&& (4294967295 : Int64))), .second] [])) (fun t k => XS.ifNo Y27.here hx rfl (hb hby at_134) rfl ((if0 _ _).trans (teq (by rw [hr116]; exact own_u4 p0)).2) k) ?_
    refine Rn.go (T' := T26) (g' := (mkF m 142 #[.val (.int p0), .val (.int p1), .val (.int p2), .val (.int p3), .val (.ref a3), .val (.int (0 : Int32)), .val (.long r116), .second, .val (.long ((p0.toInt64) &&& (4294967295 : Int64))), .second] [(.int (1 : Int32))])) (fun t k => ?_) ?_
    · show Steps p.tables e below (T26.setTop (mkF m 137 #[.val (.int p0), .val (.int p1), .val (.int p2), .val (.int p3), .val (.ref a3), .val (.int (0 : Int32)), .val (.long r116), .second, .val (.long ((p0.toInt64) &&& (4294967295 : Int64))), .second] [])) t
      refine XS.iconst Y27.here hx rfl (hb hby at_137) ?_
      show Steps p.tables e below (T26.setTop (mkF m 138 #[.val (.int p0), .val (.int p1), .val (.int p2), .val (.int p3), .val (.ref a3), .val (.int (0 : Int32)), .val (.long r116), .second, .val (.long ((p0.toInt64) &&& (4294967295 : Int64))), .second] [(.int (1 : Int32))])) t
      refine XS.goto Y27.here hx rfl (pc0 := 138) (pc' := 142) rfl (hb hby at_138) (by decide) (by decide) ?_
      show Steps p.tables e below (T26.setTop (mkF m 142 #[.val (.int p0), .val (.int p1), .val (.int p2), .val (.int p3), .val (.ref a3), .val (.int (0 : Int32)), .val (.long r116), .second, .val (.long ((p0.toInt64) &&& (4294967295 : Int64))), .second] [(.int (1 : Int32))])) t
      exact k
    rw [← hF]; exact On.retn Y27 hx hret (by simp) hlk (z' := (1 : Int32)) (by decide) (hb hby at_142) (by decide) (by decide) rfl
  · subst eo
    show Rn p e below F T16 (mkF m 69 #[.val (.int p0), .val (.int p1), .val (.int p2), .val (.int p3), .val (.ref a3), .val (.int (1 : Int32)), .unset, .unset, .unset, .unset] [])
    refine Rn.go (T' := T16) (g' := (mkF m 75 #[.val (.int p0), .val (.int p1), .val (.int p2), .val (.int p3), .val (.ref a3), .val (.int (1 : Int32)), .unset, .unset, .unset, .unset] [(.int (p0.toInt8.toInt32)), (.int (1 : Int32)), (.ref a3)])) (fun t k => ?_) ?_
    · show Steps p.tables e below (T16.setTop (mkF m 69 #[.val (.int p0), .val (.int p1), .val (.int p2), .val (.int p3), .val (.ref a3), .val (.int (1 : Int32)), .unset, .unset, .unset, .unset] [])) t
      refine XS.aload Y17.here hx rfl (hb hby at_69) rfl rfl ?_
      show Steps p.tables e below (T16.setTop (mkF m 71 #[.val (.int p0), .val (.int p1), .val (.int p2), .val (.int p3), .val (.ref a3), .val (.int (1 : Int32)), .unset, .unset, .unset, .unset] [(.ref a3)])) t
      refine XS.iload Y17.here hx rfl (hb hby at_71) rfl ?_
      show Steps p.tables e below (T16.setTop (mkF m 73 #[.val (.int p0), .val (.int p1), .val (.int p2), .val (.int p3), .val (.ref a3), .val (.int (1 : Int32)), .unset, .unset, .unset, .unset] [(.int (1 : Int32)), (.ref a3)])) t
      refine XS.iloadN Y17.here hx rfl (hb hby at_73) rfl ?_
      show Steps p.tables e below (T16.setTop (mkF m 74 #[.val (.int p0), .val (.int p1), .val (.int p2), .val (.int p3), .val (.ref a3), .val (.int (1 : Int32)), .unset, .unset, .unset, .unset] [(.int p0), (.int (1 : Int32)), (.ref a3)])) t
      refine XS.i2b Y17.here hx rfl (hb hby at_74) rfl ?_
      show Steps p.tables e below (T16.setTop (mkF m 75 #[.val (.int p0), .val (.int p1), .val (.int p2), .val (.int p3), .val (.ref a3), .val (.int (1 : Int32)), .unset, .unset, .unset, .unset] [(.int (p0.toInt8.toInt32)), (.int (1 : Int32)), (.ref a3)])) t
      exact k
    refine On.bsto Y17 hx hZ (i := 0) rfl (by decide) (by show 1 < 7; decide) (g := (mkF m 75 #[.val (.int p0), .val (.int p1), .val (.int p2), .val (.int p3), .val (.ref a3), .val (.int (1 : Int32)), .unset, .unset, .unset, .unset] [(.int (p0.toInt8.toInt32)), (.int (1 : Int32)), (.ref a3)])) rfl rfl (hb hby at_75) fun T31 Y32 => ?_
    replace Y32 : On p l e _ s m _ below meth c Z n0 T31 1 7 [ari a3 .byte (7 : Int32) [(p2.toInt8.toInt32).toInt8.toInt32, (p0.toInt8.toInt32).toInt8.toInt32, (((p2.toUInt32 >>> ((16 : Int32) &&& 31).toUInt32).toInt32).toInt8.toInt32).toInt8.toInt32, (((p2.toUInt32 >>> ((24 : Int32) &&& 31).toUInt32).toInt32).toInt8.toInt32).toInt8.toInt32, (p3.toInt8.toInt32).toInt8.toInt32, (((p3.toUInt32 >>> ((8 : Int32) &&& 31).toUInt32).toInt32).toInt8.toInt32).toInt8.toInt32, (((p3.toUInt32 >>> ((16 : Int32) &&& 31).toUInt32).toInt32).toInt8.toInt32).toInt8.toInt32]] := Y32
    show Rn p e below F T31 (mkF m 76 #[.val (.int p0), .val (.int p1), .val (.int p2), .val (.int p3), .val (.ref a3), .val (.int (1 : Int32)), .unset, .unset, .unset, .unset] [])
    refine Rn.go (T' := T31) (g' := (mkF m 87 #[.val (.int p0), .val (.int p1), .val (.int p2), .val (.int p3), .val (.ref a3), .val (.int (1 : Int32)), .unset, .unset, .unset, .unset] [(.int (((p0.toUInt32 >>> ((8 : Int32) &&& 31).toUInt32).toInt32).toInt8.toInt32)), (.int (2 : Int32)), (.ref a3)])) (fun t k => ?_) ?_
    · show Steps p.tables e below (T31.setTop (mkF m 76 #[.val (.int p0), .val (.int p1), .val (.int p2), .val (.int p3), .val (.ref a3), .val (.int (1 : Int32)), .unset, .unset, .unset, .unset] [])) t
      refine XS.aload Y32.here hx rfl (hb hby at_76) rfl rfl ?_
      show Steps p.tables e below (T31.setTop (mkF m 78 #[.val (.int p0), .val (.int p1), .val (.int p2), .val (.int p3), .val (.ref a3), .val (.int (1 : Int32)), .unset, .unset, .unset, .unset] [(.ref a3)])) t
      refine XS.iload Y32.here hx rfl (hb hby at_78) rfl ?_
      show Steps p.tables e below (T31.setTop (mkF m 80 #[.val (.int p0), .val (.int p1), .val (.int p2), .val (.int p3), .val (.ref a3), .val (.int (1 : Int32)), .unset, .unset, .unset, .unset] [(.int (1 : Int32)), (.ref a3)])) t
      refine XS.iconst Y32.here hx rfl (hb hby at_80) ?_
      show Steps p.tables e below (T31.setTop (mkF m 81 #[.val (.int p0), .val (.int p1), .val (.int p2), .val (.int p3), .val (.ref a3), .val (.int (1 : Int32)), .unset, .unset, .unset, .unset] [(.int (1 : Int32)), (.int (1 : Int32)), (.ref a3)])) t
      refine XS.iadd Y32.here hx rfl (hb hby at_81) rfl ?_
      show Steps p.tables e below (T31.setTop (mkF m 82 #[.val (.int p0), .val (.int p1), .val (.int p2), .val (.int p3), .val (.ref a3), .val (.int (1 : Int32)), .unset, .unset, .unset, .unset] [(.int (2 : Int32)), (.ref a3)])) t
      refine XS.iloadN Y32.here hx rfl (hb hby at_82) rfl ?_
      show Steps p.tables e below (T31.setTop (mkF m 83 #[.val (.int p0), .val (.int p1), .val (.int p2), .val (.int p3), .val (.ref a3), .val (.int (1 : Int32)), .unset, .unset, .unset, .unset] [(.int p0), (.int (2 : Int32)), (.ref a3)])) t
      refine XS.bipush Y32.here hx rfl (hb hby at_83) ?_
      show Steps p.tables e below (T31.setTop (mkF m 85 #[.val (.int p0), .val (.int p1), .val (.int p2), .val (.int p3), .val (.ref a3), .val (.int (1 : Int32)), .unset, .unset, .unset, .unset] [(.int (8 : Int32)), (.int p0), (.int (2 : Int32)), (.ref a3)])) t
      refine XS.iushr Y32.here hx rfl (hb hby at_85) rfl ?_
      show Steps p.tables e below (T31.setTop (mkF m 86 #[.val (.int p0), .val (.int p1), .val (.int p2), .val (.int p3), .val (.ref a3), .val (.int (1 : Int32)), .unset, .unset, .unset, .unset] [(.int ((p0.toUInt32 >>> ((8 : Int32) &&& 31).toUInt32).toInt32)), (.int (2 : Int32)), (.ref a3)])) t
      refine XS.i2b Y32.here hx rfl (hb hby at_86) rfl ?_
      show Steps p.tables e below (T31.setTop (mkF m 87 #[.val (.int p0), .val (.int p1), .val (.int p2), .val (.int p3), .val (.ref a3), .val (.int (1 : Int32)), .unset, .unset, .unset, .unset] [(.int (((p0.toUInt32 >>> ((8 : Int32) &&& 31).toUInt32).toInt32).toInt8.toInt32)), (.int (2 : Int32)), (.ref a3)])) t
      exact k
    refine On.bsto Y32 hx hZ (i := 0) rfl (by decide) (by show 2 < 7; decide) (g := (mkF m 87 #[.val (.int p0), .val (.int p1), .val (.int p2), .val (.int p3), .val (.ref a3), .val (.int (1 : Int32)), .unset, .unset, .unset, .unset] [(.int (((p0.toUInt32 >>> ((8 : Int32) &&& 31).toUInt32).toInt32).toInt8.toInt32)), (.int (2 : Int32)), (.ref a3)])) rfl rfl (hb hby at_87) fun T33 Y34 => ?_
    replace Y34 : On p l e _ s m _ below meth c Z n0 T33 1 7 [ari a3 .byte (7 : Int32) [(p2.toInt8.toInt32).toInt8.toInt32, (p0.toInt8.toInt32).toInt8.toInt32, (((p0.toUInt32 >>> ((8 : Int32) &&& 31).toUInt32).toInt32).toInt8.toInt32).toInt8.toInt32, (((p2.toUInt32 >>> ((24 : Int32) &&& 31).toUInt32).toInt32).toInt8.toInt32).toInt8.toInt32, (p3.toInt8.toInt32).toInt8.toInt32, (((p3.toUInt32 >>> ((8 : Int32) &&& 31).toUInt32).toInt32).toInt8.toInt32).toInt8.toInt32, (((p3.toUInt32 >>> ((16 : Int32) &&& 31).toUInt32).toInt32).toInt8.toInt32).toInt8.toInt32]] := Y34
    show Rn p e below F T33 (mkF m 88 #[.val (.int p0), .val (.int p1), .val (.int p2), .val (.int p3), .val (.ref a3), .val (.int (1 : Int32)), .unset, .unset, .unset, .unset] [])
    refine Rn.go (T' := T33) (g' := (mkF m 99 #[.val (.int p0), .val (.int p1), .val (.int p2), .val (.int p3), .val (.ref a3), .val (.int (1 : Int32)), .unset, .unset, .unset, .unset] [(.int (((p0.toUInt32 >>> ((16 : Int32) &&& 31).toUInt32).toInt32).toInt8.toInt32)), (.int (3 : Int32)), (.ref a3)])) (fun t k => ?_) ?_
    · show Steps p.tables e below (T33.setTop (mkF m 88 #[.val (.int p0), .val (.int p1), .val (.int p2), .val (.int p3), .val (.ref a3), .val (.int (1 : Int32)), .unset, .unset, .unset, .unset] [])) t
      refine XS.aload Y34.here hx rfl (hb hby at_88) rfl rfl ?_
      show Steps p.tables e below (T33.setTop (mkF m 90 #[.val (.int p0), .val (.int p1), .val (.int p2), .val (.int p3), .val (.ref a3), .val (.int (1 : Int32)), .unset, .unset, .unset, .unset] [(.ref a3)])) t
      refine XS.iload Y34.here hx rfl (hb hby at_90) rfl ?_
      show Steps p.tables e below (T33.setTop (mkF m 92 #[.val (.int p0), .val (.int p1), .val (.int p2), .val (.int p3), .val (.ref a3), .val (.int (1 : Int32)), .unset, .unset, .unset, .unset] [(.int (1 : Int32)), (.ref a3)])) t
      refine XS.iconst Y34.here hx rfl (hb hby at_92) ?_
      show Steps p.tables e below (T33.setTop (mkF m 93 #[.val (.int p0), .val (.int p1), .val (.int p2), .val (.int p3), .val (.ref a3), .val (.int (1 : Int32)), .unset, .unset, .unset, .unset] [(.int (2 : Int32)), (.int (1 : Int32)), (.ref a3)])) t
      refine XS.iadd Y34.here hx rfl (hb hby at_93) rfl ?_
      show Steps p.tables e below (T33.setTop (mkF m 94 #[.val (.int p0), .val (.int p1), .val (.int p2), .val (.int p3), .val (.ref a3), .val (.int (1 : Int32)), .unset, .unset, .unset, .unset] [(.int (3 : Int32)), (.ref a3)])) t
      refine XS.iloadN Y34.here hx rfl (hb hby at_94) rfl ?_
      show Steps p.tables e below (T33.setTop (mkF m 95 #[.val (.int p0), .val (.int p1), .val (.int p2), .val (.int p3), .val (.ref a3), .val (.int (1 : Int32)), .unset, .unset, .unset, .unset] [(.int p0), (.int (3 : Int32)), (.ref a3)])) t
      refine XS.bipush Y34.here hx rfl (hb hby at_95) ?_
      show Steps p.tables e below (T33.setTop (mkF m 97 #[.val (.int p0), .val (.int p1), .val (.int p2), .val (.int p3), .val (.ref a3), .val (.int (1 : Int32)), .unset, .unset, .unset, .unset] [(.int (16 : Int32)), (.int p0), (.int (3 : Int32)), (.ref a3)])) t
      refine XS.iushr Y34.here hx rfl (hb hby at_97) rfl ?_
      show Steps p.tables e below (T33.setTop (mkF m 98 #[.val (.int p0), .val (.int p1), .val (.int p2), .val (.int p3), .val (.ref a3), .val (.int (1 : Int32)), .unset, .unset, .unset, .unset] [(.int ((p0.toUInt32 >>> ((16 : Int32) &&& 31).toUInt32).toInt32)), (.int (3 : Int32)), (.ref a3)])) t
      refine XS.i2b Y34.here hx rfl (hb hby at_98) rfl ?_
      show Steps p.tables e below (T33.setTop (mkF m 99 #[.val (.int p0), .val (.int p1), .val (.int p2), .val (.int p3), .val (.ref a3), .val (.int (1 : Int32)), .unset, .unset, .unset, .unset] [(.int (((p0.toUInt32 >>> ((16 : Int32) &&& 31).toUInt32).toInt32).toInt8.toInt32)), (.int (3 : Int32)), (.ref a3)])) t
      exact k
    refine On.bsto Y34 hx hZ (i := 0) rfl (by decide) (by show 3 < 7; decide) (g := (mkF m 99 #[.val (.int p0), .val (.int p1), .val (.int p2), .val (.int p3), .val (.ref a3), .val (.int (1 : Int32)), .unset, .unset, .unset, .unset] [(.int (((p0.toUInt32 >>> ((16 : Int32) &&& 31).toUInt32).toInt32).toInt8.toInt32)), (.int (3 : Int32)), (.ref a3)])) rfl rfl (hb hby at_99) fun T35 Y36 => ?_
    replace Y36 : On p l e _ s m _ below meth c Z n0 T35 1 7 [ari a3 .byte (7 : Int32) [(p2.toInt8.toInt32).toInt8.toInt32, (p0.toInt8.toInt32).toInt8.toInt32, (((p0.toUInt32 >>> ((8 : Int32) &&& 31).toUInt32).toInt32).toInt8.toInt32).toInt8.toInt32, (((p0.toUInt32 >>> ((16 : Int32) &&& 31).toUInt32).toInt32).toInt8.toInt32).toInt8.toInt32, (p3.toInt8.toInt32).toInt8.toInt32, (((p3.toUInt32 >>> ((8 : Int32) &&& 31).toUInt32).toInt32).toInt8.toInt32).toInt8.toInt32, (((p3.toUInt32 >>> ((16 : Int32) &&& 31).toUInt32).toInt32).toInt8.toInt32).toInt8.toInt32]] := Y36
    show Rn p e below F T35 (mkF m 100 #[.val (.int p0), .val (.int p1), .val (.int p2), .val (.int p3), .val (.ref a3), .val (.int (1 : Int32)), .unset, .unset, .unset, .unset] [])
    refine Rn.go (T' := T35) (g' := (mkF m 111 #[.val (.int p0), .val (.int p1), .val (.int p2), .val (.int p3), .val (.ref a3), .val (.int (1 : Int32)), .unset, .unset, .unset, .unset] [(.int (((p0.toUInt32 >>> ((24 : Int32) &&& 31).toUInt32).toInt32).toInt8.toInt32)), (.int (4 : Int32)), (.ref a3)])) (fun t k => ?_) ?_
    · show Steps p.tables e below (T35.setTop (mkF m 100 #[.val (.int p0), .val (.int p1), .val (.int p2), .val (.int p3), .val (.ref a3), .val (.int (1 : Int32)), .unset, .unset, .unset, .unset] [])) t
      refine XS.aload Y36.here hx rfl (hb hby at_100) rfl rfl ?_
      show Steps p.tables e below (T35.setTop (mkF m 102 #[.val (.int p0), .val (.int p1), .val (.int p2), .val (.int p3), .val (.ref a3), .val (.int (1 : Int32)), .unset, .unset, .unset, .unset] [(.ref a3)])) t
      refine XS.iload Y36.here hx rfl (hb hby at_102) rfl ?_
      show Steps p.tables e below (T35.setTop (mkF m 104 #[.val (.int p0), .val (.int p1), .val (.int p2), .val (.int p3), .val (.ref a3), .val (.int (1 : Int32)), .unset, .unset, .unset, .unset] [(.int (1 : Int32)), (.ref a3)])) t
      refine XS.iconst Y36.here hx rfl (hb hby at_104) ?_
      show Steps p.tables e below (T35.setTop (mkF m 105 #[.val (.int p0), .val (.int p1), .val (.int p2), .val (.int p3), .val (.ref a3), .val (.int (1 : Int32)), .unset, .unset, .unset, .unset] [(.int (3 : Int32)), (.int (1 : Int32)), (.ref a3)])) t
      refine XS.iadd Y36.here hx rfl (hb hby at_105) rfl ?_
      show Steps p.tables e below (T35.setTop (mkF m 106 #[.val (.int p0), .val (.int p1), .val (.int p2), .val (.int p3), .val (.ref a3), .val (.int (1 : Int32)), .unset, .unset, .unset, .unset] [(.int (4 : Int32)), (.ref a3)])) t
      refine XS.iloadN Y36.here hx rfl (hb hby at_106) rfl ?_
      show Steps p.tables e below (T35.setTop (mkF m 107 #[.val (.int p0), .val (.int p1), .val (.int p2), .val (.int p3), .val (.ref a3), .val (.int (1 : Int32)), .unset, .unset, .unset, .unset] [(.int p0), (.int (4 : Int32)), (.ref a3)])) t
      refine XS.bipush Y36.here hx rfl (hb hby at_107) ?_
      show Steps p.tables e below (T35.setTop (mkF m 109 #[.val (.int p0), .val (.int p1), .val (.int p2), .val (.int p3), .val (.ref a3), .val (.int (1 : Int32)), .unset, .unset, .unset, .unset] [(.int (24 : Int32)), (.int p0), (.int (4 : Int32)), (.ref a3)])) t
      refine XS.iushr Y36.here hx rfl (hb hby at_109) rfl ?_
      show Steps p.tables e below (T35.setTop (mkF m 110 #[.val (.int p0), .val (.int p1), .val (.int p2), .val (.int p3), .val (.ref a3), .val (.int (1 : Int32)), .unset, .unset, .unset, .unset] [(.int ((p0.toUInt32 >>> ((24 : Int32) &&& 31).toUInt32).toInt32)), (.int (4 : Int32)), (.ref a3)])) t
      refine XS.i2b Y36.here hx rfl (hb hby at_110) rfl ?_
      show Steps p.tables e below (T35.setTop (mkF m 111 #[.val (.int p0), .val (.int p1), .val (.int p2), .val (.int p3), .val (.ref a3), .val (.int (1 : Int32)), .unset, .unset, .unset, .unset] [(.int (((p0.toUInt32 >>> ((24 : Int32) &&& 31).toUInt32).toInt32).toInt8.toInt32)), (.int (4 : Int32)), (.ref a3)])) t
      exact k
    refine On.bsto Y36 hx hZ (i := 0) rfl (by decide) (by show 4 < 7; decide) (g := (mkF m 111 #[.val (.int p0), .val (.int p1), .val (.int p2), .val (.int p3), .val (.ref a3), .val (.int (1 : Int32)), .unset, .unset, .unset, .unset] [(.int (((p0.toUInt32 >>> ((24 : Int32) &&& 31).toUInt32).toInt32).toInt8.toInt32)), (.int (4 : Int32)), (.ref a3)])) rfl rfl (hb hby at_111) fun T37 Y38 => ?_
    replace Y38 : On p l e _ s m _ below meth c Z n0 T37 1 7 [ari a3 .byte (7 : Int32) [(p2.toInt8.toInt32).toInt8.toInt32, (p0.toInt8.toInt32).toInt8.toInt32, (((p0.toUInt32 >>> ((8 : Int32) &&& 31).toUInt32).toInt32).toInt8.toInt32).toInt8.toInt32, (((p0.toUInt32 >>> ((16 : Int32) &&& 31).toUInt32).toInt32).toInt8.toInt32).toInt8.toInt32, (((p0.toUInt32 >>> ((24 : Int32) &&& 31).toUInt32).toInt32).toInt8.toInt32).toInt8.toInt32, (((p3.toUInt32 >>> ((8 : Int32) &&& 31).toUInt32).toInt32).toInt8.toInt32).toInt8.toInt32, (((p3.toUInt32 >>> ((16 : Int32) &&& 31).toUInt32).toInt32).toInt8.toInt32).toInt8.toInt32]] := Y38
    show Rn p e below F T37 (mkF m 112 #[.val (.int p0), .val (.int p1), .val (.int p2), .val (.int p3), .val (.ref a3), .val (.int (1 : Int32)), .unset, .unset, .unset, .unset] [])
    refine Rn.go (T' := T37) (g' := (mkF m 116 #[.val (.int p0), .val (.int p1), .val (.int p2), .val (.int p3), .val (.ref a3), .val (.int (1 : Int32)), .unset, .unset, .unset, .unset] [(.int (1 : Int32)), (.ref a3)])) (fun t k => ?_) ?_
    · show Steps p.tables e below (T37.setTop (mkF m 112 #[.val (.int p0), .val (.int p1), .val (.int p2), .val (.int p3), .val (.ref a3), .val (.int (1 : Int32)), .unset, .unset, .unset, .unset] [])) t
      refine XS.aload Y38.here hx rfl (hb hby at_112) rfl rfl ?_
      show Steps p.tables e below (T37.setTop (mkF m 114 #[.val (.int p0), .val (.int p1), .val (.int p2), .val (.int p3), .val (.ref a3), .val (.int (1 : Int32)), .unset, .unset, .unset, .unset] [(.ref a3)])) t
      refine XS.iload Y38.here hx rfl (hb hby at_114) rfl ?_
      show Steps p.tables e below (T37.setTop (mkF m 116 #[.val (.int p0), .val (.int p1), .val (.int p2), .val (.int p3), .val (.ref a3), .val (.int (1 : Int32)), .unset, .unset, .unset, .unset] [(.int (1 : Int32)), (.ref a3)])) t
      exact k
    refine On.static Y38 hx hZ (y := (⟨"com/example/strict_bytecode/strictbytecode/DexBuffer", "u4", "([BI)J"⟩ : MethodName)) hown (w1 hw) (w2 hw) (w4 hw) (w3 hw) (by decide) (argsL := [(.ref a3), (.int (1 : Int32))]) (rest := []) (rm1 l Z a0 hw n0 a3 (1 : Int32) (7 : Int32) [(p2.toInt8.toInt32).toInt8.toInt32, (p0.toInt8.toInt32).toInt8.toInt32, (((p0.toUInt32 >>> ((8 : Int32) &&& 31).toUInt32).toInt32).toInt8.toInt32).toInt8.toInt32, (((p0.toUInt32 >>> ((16 : Int32) &&& 31).toUInt32).toInt32).toInt8.toInt32).toInt8.toInt32, (((p0.toUInt32 >>> ((24 : Int32) &&& 31).toUInt32).toInt32).toInt8.toInt32).toInt8.toInt32, (((p3.toUInt32 >>> ((8 : Int32) &&& 31).toUInt32).toInt32).toInt8.toInt32).toInt8.toInt32, (((p3.toUInt32 >>> ((16 : Int32) &&& 31).toUInt32).toInt32).toInt8.toInt32).toInt8.toInt32] ((p0.toInt8.toInt32).toInt8.toInt32) ((((p0.toUInt32 >>> ((8 : Int32) &&& 31).toUInt32).toInt32).toInt8.toInt32).toInt8.toInt32) ((((p0.toUInt32 >>> ((16 : Int32) &&& 31).toUInt32).toInt32).toInt8.toInt32).toInt8.toInt32) ((((p0.toUInt32 >>> ((24 : Int32) &&& 31).toUInt32).toInt32).toInt8.toInt32).toInt8.toInt32) [] (by decide) (by decide) (by decide) (by decide) rfl rfl rfl rfl) (W := 0) (by decide) (by decide) (by decide) (by decide) (g := (mkF m 116 #[.val (.int p0), .val (.int p1), .val (.int p2), .val (.int p3), .val (.ref a3), .val (.int (1 : Int32)), .unset, .unset, .unset, .unset] [(.int (1 : Int32)), (.ref a3)])) rfl (by rw [hml]; rfl) (lenOf pd0 rfl) rfl (by show 2 * 0 + _ ≤ _; exact Nat.le_of_eq rfl) (hb hby at_116) ?_
    intro T39 u41 D42 hp43 Y40
    obtain ⟨r116, hr116, rfl, rfl⟩ : ∃ z : Int64, z = ((((((p0.toInt8.toInt32).toInt8.toInt32.toInt64) &&& (255 : Int64)) ||| ((((((p0.toUInt32 >>> ((8 : Int32) &&& 31).toUInt32).toInt32).toInt8.toInt32).toInt8.toInt32.toInt64) &&& (255 : Int64)) <<< ((8 : Int32) &&& 0x3f).toInt64)) ||| ((((((p0.toUInt32 >>> ((16 : Int32) &&& 31).toUInt32).toInt32).toInt8.toInt32).toInt8.toInt32.toInt64) &&& (255 : Int64)) <<< ((16 : Int32) &&& 0x3f).toInt64)) ||| ((((((p0.toUInt32 >>> ((24 : Int32) &&& 31).toUInt32).toInt32).toInt8.toInt32).toInt8.toInt32.toInt64) &&& (255 : Int64)) <<< ((24 : Int32) &&& 0x3f).toInt64)) ∧ u41 = some (.long z) ∧ D42 = _ := ⟨_, rfl, hp43.1, hp43.2⟩
    replace Y40 : On p l e _ s m _ below meth c Z n0 T39 1 7 [ari a3 .byte (7 : Int32) [(p2.toInt8.toInt32).toInt8.toInt32, (p0.toInt8.toInt32).toInt8.toInt32, (((p0.toUInt32 >>> ((8 : Int32) &&& 31).toUInt32).toInt32).toInt8.toInt32).toInt8.toInt32, (((p0.toUInt32 >>> ((16 : Int32) &&& 31).toUInt32).toInt32).toInt8.toInt32).toInt8.toInt32, (((p0.toUInt32 >>> ((24 : Int32) &&& 31).toUInt32).toInt32).toInt8.toInt32).toInt8.toInt32, (((p3.toUInt32 >>> ((8 : Int32) &&& 31).toUInt32).toInt32).toInt8.toInt32).toInt8.toInt32, (((p3.toUInt32 >>> ((16 : Int32) &&& 31).toUInt32).toInt32).toInt8.toInt32).toInt8.toInt32]] := Y40
    show Rn p e below F T39 (mkF m 119 #[.val (.int p0), .val (.int p1), .val (.int p2), .val (.int p3), .val (.ref a3), .val (.int (1 : Int32)), .unset, .unset, .unset, .unset] [(.long r116)])
    refine Rn.go (T' := T39) (g' := (mkF m 134 #[.val (.int p0), .val (.int p1), .val (.int p2), .val (.int p3), .val (.ref a3), .val (.int (1 : Int32)), .val (.long r116), .second, .val (.long ((p0.toInt64) &&& (4294967295 : Int64))), .second] [(.int (lcmpW r116 ((p0.toInt64) &&& (4294967295 : Int64))))])) (fun t k => ?_) ?_
    · show Steps p.tables e below (T39.setTop (mkF m 119 #[.val (.int p0), .val (.int p1), .val (.int p2), .val (.int p3), .val (.ref a3), .val (.int (1 : Int32)), .unset, .unset, .unset, .unset] [(.long r116)])) t
      refine XS.lstore Y40.here hx rfl (hb hby at_119) rfl (l' := #[.val (.int p0), .val (.int p1), .val (.int p2), .val (.int p3), .val (.ref a3), .val (.int (1 : Int32)), .val (.long r116), .second, .unset, .unset]) rfl ?_
      show Steps p.tables e below (T39.setTop (mkF m 121 #[.val (.int p0), .val (.int p1), .val (.int p2), .val (.int p3), .val (.ref a3), .val (.int (1 : Int32)), .val (.long r116), .second, .unset, .unset] [])) t
      refine XS.iloadN Y40.here hx rfl (hb hby at_121) rfl ?_
      show Steps p.tables e below (T39.setTop (mkF m 122 #[.val (.int p0), .val (.int p1), .val (.int p2), .val (.int p3), .val (.ref a3), .val (.int (1 : Int32)), .val (.long r116), .second, .unset, .unset] [(.int p0)])) t
      refine XS.i2l Y40.here hx rfl (hb hby at_122) rfl ?_
      show Steps p.tables e below (T39.setTop (mkF m 123 #[.val (.int p0), .val (.int p1), .val (.int p2), .val (.int p3), .val (.ref a3), .val (.int (1 : Int32)), .val (.long r116), .second, .unset, .unset] [(.long (p0.toInt64))])) t
      refine On.sldcJ Y40 hx hZ hown (w6 hw) (g := (mkF m 123 #[.val (.int p0), .val (.int p1), .val (.int p2), .val (.int p3), .val (.ref a3), .val (.int (1 : Int32)), .val (.long r116), .second, .unset, .unset] [(.long (p0.toInt64))])) rfl (hb hby at_123) _ ?_
      show Steps p.tables e below (T39.setTop (mkF m 126 #[.val (.int p0), .val (.int p1), .val (.int p2), .val (.int p3), .val (.ref a3), .val (.int (1 : Int32)), .val (.long r116), .second, .unset, .unset] [(.long (4294967295 : Int64)), (.long (p0.toInt64))])) t
      refine XS.land Y40.here hx rfl (hb hby at_126) rfl ?_
      show Steps p.tables e below (T39.setTop (mkF m 127 #[.val (.int p0), .val (.int p1), .val (.int p2), .val (.int p3), .val (.ref a3), .val (.int (1 : Int32)), .val (.long r116), .second, .unset, .unset] [(.long ((p0.toInt64) &&& (4294967295 : Int64)))])) t
      refine XS.lstore Y40.here hx rfl (hb hby at_127) rfl (l' := #[.val (.int p0), .val (.int p1), .val (.int p2), .val (.int p3), .val (.ref a3), .val (.int (1 : Int32)), .val (.long r116), .second, .val (.long ((p0.toInt64) &&& (4294967295 : Int64))), .second]) rfl ?_
      show Steps p.tables e below (T39.setTop (mkF m 129 #[.val (.int p0), .val (.int p1), .val (.int p2), .val (.int p3), .val (.ref a3), .val (.int (1 : Int32)), .val (.long r116), .second, .val (.long ((p0.toInt64) &&& (4294967295 : Int64))), .second] [])) t
      refine XS.lload Y40.here hx rfl (hb hby at_129) rfl ?_
      show Steps p.tables e below (T39.setTop (mkF m 131 #[.val (.int p0), .val (.int p1), .val (.int p2), .val (.int p3), .val (.ref a3), .val (.int (1 : Int32)), .val (.long r116), .second, .val (.long ((p0.toInt64) &&& (4294967295 : Int64))), .second] [(.long r116)])) t
      refine XS.lload Y40.here hx rfl (hb hby at_131) rfl ?_
      show Steps p.tables e below (T39.setTop (mkF m 133 #[.val (.int p0), .val (.int p1), .val (.int p2), .val (.int p3), .val (.ref a3), .val (.int (1 : Int32)), .val (.long r116), .second, .val (.long ((p0.toInt64) &&& (4294967295 : Int64))), .second] [(.long ((p0.toInt64) &&& (4294967295 : Int64))), (.long r116)])) t
      refine XS.lcmp Y40.here hx rfl (hb hby at_133) rfl ?_
      show Steps p.tables e below (T39.setTop (mkF m 134 #[.val (.int p0), .val (.int p1), .val (.int p2), .val (.int p3), .val (.ref a3), .val (.int (1 : Int32)), .val (.long r116), .second, .val (.long ((p0.toInt64) &&& (4294967295 : Int64))), .second] [(.int (lcmpW r116 ((p0.toInt64) &&& (4294967295 : Int64))))])) t
      exact k
    refine Rn.go (T' := T39) (g' := (mkF m 137 #[.val (.int p0), .val (.int p1), .val (.int p2), .val (.int p3), .val (.ref a3), .val (.int (1 : Int32)), .val (.long r116), .second, .val (.long ((p0.toInt64) &&& (4294967295 : Int64))), .second] [])) (fun t k => XS.ifNo Y40.here hx rfl (hb hby at_134) rfl ((if0 _ _).trans (teq (by rw [hr116]; exact own_u4 p0)).2) k) ?_
    refine Rn.go (T' := T39) (g' := (mkF m 142 #[.val (.int p0), .val (.int p1), .val (.int p2), .val (.int p3), .val (.ref a3), .val (.int (1 : Int32)), .val (.long r116), .second, .val (.long ((p0.toInt64) &&& (4294967295 : Int64))), .second] [(.int (1 : Int32))])) (fun t k => ?_) ?_
    · show Steps p.tables e below (T39.setTop (mkF m 137 #[.val (.int p0), .val (.int p1), .val (.int p2), .val (.int p3), .val (.ref a3), .val (.int (1 : Int32)), .val (.long r116), .second, .val (.long ((p0.toInt64) &&& (4294967295 : Int64))), .second] [])) t
      refine XS.iconst Y40.here hx rfl (hb hby at_137) ?_
      show Steps p.tables e below (T39.setTop (mkF m 138 #[.val (.int p0), .val (.int p1), .val (.int p2), .val (.int p3), .val (.ref a3), .val (.int (1 : Int32)), .val (.long r116), .second, .val (.long ((p0.toInt64) &&& (4294967295 : Int64))), .second] [(.int (1 : Int32))])) t
      refine XS.goto Y40.here hx rfl (pc0 := 138) (pc' := 142) rfl (hb hby at_138) (by decide) (by decide) ?_
      show Steps p.tables e below (T39.setTop (mkF m 142 #[.val (.int p0), .val (.int p1), .val (.int p2), .val (.int p3), .val (.ref a3), .val (.int (1 : Int32)), .val (.long r116), .second, .val (.long ((p0.toInt64) &&& (4294967295 : Int64))), .second] [(.int (1 : Int32))])) t
      exact k
    rw [← hF]; exact On.retn Y40 hx hret (by simp) hlk (z' := (1 : Int32)) (by decide) (hb hby at_142) (by decide) (by decide) rfl
  · subst eo
    show Rn p e below F T16 (mkF m 69 #[.val (.int p0), .val (.int p1), .val (.int p2), .val (.int p3), .val (.ref a3), .val (.int (2 : Int32)), .unset, .unset, .unset, .unset] [])
    refine Rn.go (T' := T16) (g' := (mkF m 75 #[.val (.int p0), .val (.int p1), .val (.int p2), .val (.int p3), .val (.ref a3), .val (.int (2 : Int32)), .unset, .unset, .unset, .unset] [(.int (p0.toInt8.toInt32)), (.int (2 : Int32)), (.ref a3)])) (fun t k => ?_) ?_
    · show Steps p.tables e below (T16.setTop (mkF m 69 #[.val (.int p0), .val (.int p1), .val (.int p2), .val (.int p3), .val (.ref a3), .val (.int (2 : Int32)), .unset, .unset, .unset, .unset] [])) t
      refine XS.aload Y17.here hx rfl (hb hby at_69) rfl rfl ?_
      show Steps p.tables e below (T16.setTop (mkF m 71 #[.val (.int p0), .val (.int p1), .val (.int p2), .val (.int p3), .val (.ref a3), .val (.int (2 : Int32)), .unset, .unset, .unset, .unset] [(.ref a3)])) t
      refine XS.iload Y17.here hx rfl (hb hby at_71) rfl ?_
      show Steps p.tables e below (T16.setTop (mkF m 73 #[.val (.int p0), .val (.int p1), .val (.int p2), .val (.int p3), .val (.ref a3), .val (.int (2 : Int32)), .unset, .unset, .unset, .unset] [(.int (2 : Int32)), (.ref a3)])) t
      refine XS.iloadN Y17.here hx rfl (hb hby at_73) rfl ?_
      show Steps p.tables e below (T16.setTop (mkF m 74 #[.val (.int p0), .val (.int p1), .val (.int p2), .val (.int p3), .val (.ref a3), .val (.int (2 : Int32)), .unset, .unset, .unset, .unset] [(.int p0), (.int (2 : Int32)), (.ref a3)])) t
      refine XS.i2b Y17.here hx rfl (hb hby at_74) rfl ?_
      show Steps p.tables e below (T16.setTop (mkF m 75 #[.val (.int p0), .val (.int p1), .val (.int p2), .val (.int p3), .val (.ref a3), .val (.int (2 : Int32)), .unset, .unset, .unset, .unset] [(.int (p0.toInt8.toInt32)), (.int (2 : Int32)), (.ref a3)])) t
      exact k
    refine On.bsto Y17 hx hZ (i := 0) rfl (by decide) (by show 2 < 7; decide) (g := (mkF m 75 #[.val (.int p0), .val (.int p1), .val (.int p2), .val (.int p3), .val (.ref a3), .val (.int (2 : Int32)), .unset, .unset, .unset, .unset] [(.int (p0.toInt8.toInt32)), (.int (2 : Int32)), (.ref a3)])) rfl rfl (hb hby at_75) fun T44 Y45 => ?_
    replace Y45 : On p l e _ s m _ below meth c Z n0 T44 1 7 [ari a3 .byte (7 : Int32) [(p2.toInt8.toInt32).toInt8.toInt32, (((p2.toUInt32 >>> ((8 : Int32) &&& 31).toUInt32).toInt32).toInt8.toInt32).toInt8.toInt32, (p0.toInt8.toInt32).toInt8.toInt32, (((p2.toUInt32 >>> ((24 : Int32) &&& 31).toUInt32).toInt32).toInt8.toInt32).toInt8.toInt32, (p3.toInt8.toInt32).toInt8.toInt32, (((p3.toUInt32 >>> ((8 : Int32) &&& 31).toUInt32).toInt32).toInt8.toInt32).toInt8.toInt32, (((p3.toUInt32 >>> ((16 : Int32) &&& 31).toUInt32).toInt32).toInt8.toInt32).toInt8.toInt32]] := Y45
    show Rn p e below F T44 (mkF m 76 #[.val (.int p0), .val (.int p1), .val (.int p2), .val (.int p3), .val (.ref a3), .val (.int (2 : Int32)), .unset, .unset, .unset, .unset] [])
    refine Rn.go (T' := T44) (g' := (mkF m 87 #[.val (.int p0), .val (.int p1), .val (.int p2), .val (.int p3), .val (.ref a3), .val (.int (2 : Int32)), .unset, .unset, .unset, .unset] [(.int (((p0.toUInt32 >>> ((8 : Int32) &&& 31).toUInt32).toInt32).toInt8.toInt32)), (.int (3 : Int32)), (.ref a3)])) (fun t k => ?_) ?_
    · show Steps p.tables e below (T44.setTop (mkF m 76 #[.val (.int p0), .val (.int p1), .val (.int p2), .val (.int p3), .val (.ref a3), .val (.int (2 : Int32)), .unset, .unset, .unset, .unset] [])) t
      refine XS.aload Y45.here hx rfl (hb hby at_76) rfl rfl ?_
      show Steps p.tables e below (T44.setTop (mkF m 78 #[.val (.int p0), .val (.int p1), .val (.int p2), .val (.int p3), .val (.ref a3), .val (.int (2 : Int32)), .unset, .unset, .unset, .unset] [(.ref a3)])) t
      refine XS.iload Y45.here hx rfl (hb hby at_78) rfl ?_
      show Steps p.tables e below (T44.setTop (mkF m 80 #[.val (.int p0), .val (.int p1), .val (.int p2), .val (.int p3), .val (.ref a3), .val (.int (2 : Int32)), .unset, .unset, .unset, .unset] [(.int (2 : Int32)), (.ref a3)])) t
      refine XS.iconst Y45.here hx rfl (hb hby at_80) ?_
      show Steps p.tables e below (T44.setTop (mkF m 81 #[.val (.int p0), .val (.int p1), .val (.int p2), .val (.int p3), .val (.ref a3), .val (.int (2 : Int32)), .unset, .unset, .unset, .unset] [(.int (1 : Int32)), (.int (2 : Int32)), (.ref a3)])) t
      refine XS.iadd Y45.here hx rfl (hb hby at_81) rfl ?_
      show Steps p.tables e below (T44.setTop (mkF m 82 #[.val (.int p0), .val (.int p1), .val (.int p2), .val (.int p3), .val (.ref a3), .val (.int (2 : Int32)), .unset, .unset, .unset, .unset] [(.int (3 : Int32)), (.ref a3)])) t
      refine XS.iloadN Y45.here hx rfl (hb hby at_82) rfl ?_
      show Steps p.tables e below (T44.setTop (mkF m 83 #[.val (.int p0), .val (.int p1), .val (.int p2), .val (.int p3), .val (.ref a3), .val (.int (2 : Int32)), .unset, .unset, .unset, .unset] [(.int p0), (.int (3 : Int32)), (.ref a3)])) t
      refine XS.bipush Y45.here hx rfl (hb hby at_83) ?_
      show Steps p.tables e below (T44.setTop (mkF m 85 #[.val (.int p0), .val (.int p1), .val (.int p2), .val (.int p3), .val (.ref a3), .val (.int (2 : Int32)), .unset, .unset, .unset, .unset] [(.int (8 : Int32)), (.int p0), (.int (3 : Int32)), (.ref a3)])) t
      refine XS.iushr Y45.here hx rfl (hb hby at_85) rfl ?_
      show Steps p.tables e below (T44.setTop (mkF m 86 #[.val (.int p0), .val (.int p1), .val (.int p2), .val (.int p3), .val (.ref a3), .val (.int (2 : Int32)), .unset, .unset, .unset, .unset] [(.int ((p0.toUInt32 >>> ((8 : Int32) &&& 31).toUInt32).toInt32)), (.int (3 : Int32)), (.ref a3)])) t
      refine XS.i2b Y45.here hx rfl (hb hby at_86) rfl ?_
      show Steps p.tables e below (T44.setTop (mkF m 87 #[.val (.int p0), .val (.int p1), .val (.int p2), .val (.int p3), .val (.ref a3), .val (.int (2 : Int32)), .unset, .unset, .unset, .unset] [(.int (((p0.toUInt32 >>> ((8 : Int32) &&& 31).toUInt32).toInt32).toInt8.toInt32)), (.int (3 : Int32)), (.ref a3)])) t
      exact k
    refine On.bsto Y45 hx hZ (i := 0) rfl (by decide) (by show 3 < 7; decide) (g := (mkF m 87 #[.val (.int p0), .val (.int p1), .val (.int p2), .val (.int p3), .val (.ref a3), .val (.int (2 : Int32)), .unset, .unset, .unset, .unset] [(.int (((p0.toUInt32 >>> ((8 : Int32) &&& 31).toUInt32).toInt32).toInt8.toInt32)), (.int (3 : Int32)), (.ref a3)])) rfl rfl (hb hby at_87) fun T46 Y47 => ?_
    replace Y47 : On p l e _ s m _ below meth c Z n0 T46 1 7 [ari a3 .byte (7 : Int32) [(p2.toInt8.toInt32).toInt8.toInt32, (((p2.toUInt32 >>> ((8 : Int32) &&& 31).toUInt32).toInt32).toInt8.toInt32).toInt8.toInt32, (p0.toInt8.toInt32).toInt8.toInt32, (((p0.toUInt32 >>> ((8 : Int32) &&& 31).toUInt32).toInt32).toInt8.toInt32).toInt8.toInt32, (p3.toInt8.toInt32).toInt8.toInt32, (((p3.toUInt32 >>> ((8 : Int32) &&& 31).toUInt32).toInt32).toInt8.toInt32).toInt8.toInt32, (((p3.toUInt32 >>> ((16 : Int32) &&& 31).toUInt32).toInt32).toInt8.toInt32).toInt8.toInt32]] := Y47
    show Rn p e below F T46 (mkF m 88 #[.val (.int p0), .val (.int p1), .val (.int p2), .val (.int p3), .val (.ref a3), .val (.int (2 : Int32)), .unset, .unset, .unset, .unset] [])
    refine Rn.go (T' := T46) (g' := (mkF m 99 #[.val (.int p0), .val (.int p1), .val (.int p2), .val (.int p3), .val (.ref a3), .val (.int (2 : Int32)), .unset, .unset, .unset, .unset] [(.int (((p0.toUInt32 >>> ((16 : Int32) &&& 31).toUInt32).toInt32).toInt8.toInt32)), (.int (4 : Int32)), (.ref a3)])) (fun t k => ?_) ?_
    · show Steps p.tables e below (T46.setTop (mkF m 88 #[.val (.int p0), .val (.int p1), .val (.int p2), .val (.int p3), .val (.ref a3), .val (.int (2 : Int32)), .unset, .unset, .unset, .unset] [])) t
      refine XS.aload Y47.here hx rfl (hb hby at_88) rfl rfl ?_
      show Steps p.tables e below (T46.setTop (mkF m 90 #[.val (.int p0), .val (.int p1), .val (.int p2), .val (.int p3), .val (.ref a3), .val (.int (2 : Int32)), .unset, .unset, .unset, .unset] [(.ref a3)])) t
      refine XS.iload Y47.here hx rfl (hb hby at_90) rfl ?_
      show Steps p.tables e below (T46.setTop (mkF m 92 #[.val (.int p0), .val (.int p1), .val (.int p2), .val (.int p3), .val (.ref a3), .val (.int (2 : Int32)), .unset, .unset, .unset, .unset] [(.int (2 : Int32)), (.ref a3)])) t
      refine XS.iconst Y47.here hx rfl (hb hby at_92) ?_
      show Steps p.tables e below (T46.setTop (mkF m 93 #[.val (.int p0), .val (.int p1), .val (.int p2), .val (.int p3), .val (.ref a3), .val (.int (2 : Int32)), .unset, .unset, .unset, .unset] [(.int (2 : Int32)), (.int (2 : Int32)), (.ref a3)])) t
      refine XS.iadd Y47.here hx rfl (hb hby at_93) rfl ?_
      show Steps p.tables e below (T46.setTop (mkF m 94 #[.val (.int p0), .val (.int p1), .val (.int p2), .val (.int p3), .val (.ref a3), .val (.int (2 : Int32)), .unset, .unset, .unset, .unset] [(.int (4 : Int32)), (.ref a3)])) t
      refine XS.iloadN Y47.here hx rfl (hb hby at_94) rfl ?_
      show Steps p.tables e below (T46.setTop (mkF m 95 #[.val (.int p0), .val (.int p1), .val (.int p2), .val (.int p3), .val (.ref a3), .val (.int (2 : Int32)), .unset, .unset, .unset, .unset] [(.int p0), (.int (4 : Int32)), (.ref a3)])) t
      refine XS.bipush Y47.here hx rfl (hb hby at_95) ?_
      show Steps p.tables e below (T46.setTop (mkF m 97 #[.val (.int p0), .val (.int p1), .val (.int p2), .val (.int p3), .val (.ref a3), .val (.int (2 : Int32)), .unset, .unset, .unset, .unset] [(.int (16 : Int32)), (.int p0), (.int (4 : Int32)), (.ref a3)])) t
      refine XS.iushr Y47.here hx rfl (hb hby at_97) rfl ?_
      show Steps p.tables e below (T46.setTop (mkF m 98 #[.val (.int p0), .val (.int p1), .val (.int p2), .val (.int p3), .val (.ref a3), .val (.int (2 : Int32)), .unset, .unset, .unset, .unset] [(.int ((p0.toUInt32 >>> ((16 : Int32) &&& 31).toUInt32).toInt32)), (.int (4 : Int32)), (.ref a3)])) t
      refine XS.i2b Y47.here hx rfl (hb hby at_98) rfl ?_
      show Steps p.tables e below (T46.setTop (mkF m 99 #[.val (.int p0), .val (.int p1), .val (.int p2), .val (.int p3), .val (.ref a3), .val (.int (2 : Int32)), .unset, .unset, .unset, .unset] [(.int (((p0.toUInt32 >>> ((16 : Int32) &&& 31).toUInt32).toInt32).toInt8.toInt32)), (.int (4 : Int32)), (.ref a3)])) t
      exact k
    refine On.bsto Y47 hx hZ (i := 0) rfl (by decide) (by show 4 < 7; decide) (g := (mkF m 99 #[.val (.int p0), .val (.int p1), .val (.int p2), .val (.int p3), .val (.ref a3), .val (.int (2 : Int32)), .unset, .unset, .unset, .unset] [(.int (((p0.toUInt32 >>> ((16 : Int32) &&& 31).toUInt32).toInt32).toInt8.toInt32)), (.int (4 : Int32)), (.ref a3)])) rfl rfl (hb hby at_99) fun T48 Y49 => ?_
    replace Y49 : On p l e _ s m _ below meth c Z n0 T48 1 7 [ari a3 .byte (7 : Int32) [(p2.toInt8.toInt32).toInt8.toInt32, (((p2.toUInt32 >>> ((8 : Int32) &&& 31).toUInt32).toInt32).toInt8.toInt32).toInt8.toInt32, (p0.toInt8.toInt32).toInt8.toInt32, (((p0.toUInt32 >>> ((8 : Int32) &&& 31).toUInt32).toInt32).toInt8.toInt32).toInt8.toInt32, (((p0.toUInt32 >>> ((16 : Int32) &&& 31).toUInt32).toInt32).toInt8.toInt32).toInt8.toInt32, (((p3.toUInt32 >>> ((8 : Int32) &&& 31).toUInt32).toInt32).toInt8.toInt32).toInt8.toInt32, (((p3.toUInt32 >>> ((16 : Int32) &&& 31).toUInt32).toInt32).toInt8.toInt32).toInt8.toInt32]] := Y49
    show Rn p e below F T48 (mkF m 100 #[.val (.int p0), .val (.int p1), .val (.int p2), .val (.int p3), .val (.ref a3), .val (.int (2 : Int32)), .unset, .unset, .unset, .unset] [])
    refine Rn.go (T' := T48) (g' := (mkF m 111 #[.val (.int p0), .val (.int p1), .val (.int p2), .val (.int p3), .val (.ref a3), .val (.int (2 : Int32)), .unset, .unset, .unset, .unset] [(.int (((p0.toUInt32 >>> ((24 : Int32) &&& 31).toUInt32).toInt32).toInt8.toInt32)), (.int (5 : Int32)), (.ref a3)])) (fun t k => ?_) ?_
    · show Steps p.tables e below (T48.setTop (mkF m 100 #[.val (.int p0), .val (.int p1), .val (.int p2), .val (.int p3), .val (.ref a3), .val (.int (2 : Int32)), .unset, .unset, .unset, .unset] [])) t
      refine XS.aload Y49.here hx rfl (hb hby at_100) rfl rfl ?_
      show Steps p.tables e below (T48.setTop (mkF m 102 #[.val (.int p0), .val (.int p1), .val (.int p2), .val (.int p3), .val (.ref a3), .val (.int (2 : Int32)), .unset, .unset, .unset, .unset] [(.ref a3)])) t
      refine XS.iload Y49.here hx rfl (hb hby at_102) rfl ?_
      show Steps p.tables e below (T48.setTop (mkF m 104 #[.val (.int p0), .val (.int p1), .val (.int p2), .val (.int p3), .val (.ref a3), .val (.int (2 : Int32)), .unset, .unset, .unset, .unset] [(.int (2 : Int32)), (.ref a3)])) t
      refine XS.iconst Y49.here hx rfl (hb hby at_104) ?_
      show Steps p.tables e below (T48.setTop (mkF m 105 #[.val (.int p0), .val (.int p1), .val (.int p2), .val (.int p3), .val (.ref a3), .val (.int (2 : Int32)), .unset, .unset, .unset, .unset] [(.int (3 : Int32)), (.int (2 : Int32)), (.ref a3)])) t
      refine XS.iadd Y49.here hx rfl (hb hby at_105) rfl ?_
      show Steps p.tables e below (T48.setTop (mkF m 106 #[.val (.int p0), .val (.int p1), .val (.int p2), .val (.int p3), .val (.ref a3), .val (.int (2 : Int32)), .unset, .unset, .unset, .unset] [(.int (5 : Int32)), (.ref a3)])) t
      refine XS.iloadN Y49.here hx rfl (hb hby at_106) rfl ?_
      show Steps p.tables e below (T48.setTop (mkF m 107 #[.val (.int p0), .val (.int p1), .val (.int p2), .val (.int p3), .val (.ref a3), .val (.int (2 : Int32)), .unset, .unset, .unset, .unset] [(.int p0), (.int (5 : Int32)), (.ref a3)])) t
      refine XS.bipush Y49.here hx rfl (hb hby at_107) ?_
      show Steps p.tables e below (T48.setTop (mkF m 109 #[.val (.int p0), .val (.int p1), .val (.int p2), .val (.int p3), .val (.ref a3), .val (.int (2 : Int32)), .unset, .unset, .unset, .unset] [(.int (24 : Int32)), (.int p0), (.int (5 : Int32)), (.ref a3)])) t
      refine XS.iushr Y49.here hx rfl (hb hby at_109) rfl ?_
      show Steps p.tables e below (T48.setTop (mkF m 110 #[.val (.int p0), .val (.int p1), .val (.int p2), .val (.int p3), .val (.ref a3), .val (.int (2 : Int32)), .unset, .unset, .unset, .unset] [(.int ((p0.toUInt32 >>> ((24 : Int32) &&& 31).toUInt32).toInt32)), (.int (5 : Int32)), (.ref a3)])) t
      refine XS.i2b Y49.here hx rfl (hb hby at_110) rfl ?_
      show Steps p.tables e below (T48.setTop (mkF m 111 #[.val (.int p0), .val (.int p1), .val (.int p2), .val (.int p3), .val (.ref a3), .val (.int (2 : Int32)), .unset, .unset, .unset, .unset] [(.int (((p0.toUInt32 >>> ((24 : Int32) &&& 31).toUInt32).toInt32).toInt8.toInt32)), (.int (5 : Int32)), (.ref a3)])) t
      exact k
    refine On.bsto Y49 hx hZ (i := 0) rfl (by decide) (by show 5 < 7; decide) (g := (mkF m 111 #[.val (.int p0), .val (.int p1), .val (.int p2), .val (.int p3), .val (.ref a3), .val (.int (2 : Int32)), .unset, .unset, .unset, .unset] [(.int (((p0.toUInt32 >>> ((24 : Int32) &&& 31).toUInt32).toInt32).toInt8.toInt32)), (.int (5 : Int32)), (.ref a3)])) rfl rfl (hb hby at_111) fun T50 Y51 => ?_
    replace Y51 : On p l e _ s m _ below meth c Z n0 T50 1 7 [ari a3 .byte (7 : Int32) [(p2.toInt8.toInt32).toInt8.toInt32, (((p2.toUInt32 >>> ((8 : Int32) &&& 31).toUInt32).toInt32).toInt8.toInt32).toInt8.toInt32, (p0.toInt8.toInt32).toInt8.toInt32, (((p0.toUInt32 >>> ((8 : Int32) &&& 31).toUInt32).toInt32).toInt8.toInt32).toInt8.toInt32, (((p0.toUInt32 >>> ((16 : Int32) &&& 31).toUInt32).toInt32).toInt8.toInt32).toInt8.toInt32, (((p0.toUInt32 >>> ((24 : Int32) &&& 31).toUInt32).toInt32).toInt8.toInt32).toInt8.toInt32, (((p3.toUInt32 >>> ((16 : Int32) &&& 31).toUInt32).toInt32).toInt8.toInt32).toInt8.toInt32]] := Y51
    show Rn p e below F T50 (mkF m 112 #[.val (.int p0), .val (.int p1), .val (.int p2), .val (.int p3), .val (.ref a3), .val (.int (2 : Int32)), .unset, .unset, .unset, .unset] [])
    refine Rn.go (T' := T50) (g' := (mkF m 116 #[.val (.int p0), .val (.int p1), .val (.int p2), .val (.int p3), .val (.ref a3), .val (.int (2 : Int32)), .unset, .unset, .unset, .unset] [(.int (2 : Int32)), (.ref a3)])) (fun t k => ?_) ?_
    · show Steps p.tables e below (T50.setTop (mkF m 112 #[.val (.int p0), .val (.int p1), .val (.int p2), .val (.int p3), .val (.ref a3), .val (.int (2 : Int32)), .unset, .unset, .unset, .unset] [])) t
      refine XS.aload Y51.here hx rfl (hb hby at_112) rfl rfl ?_
      show Steps p.tables e below (T50.setTop (mkF m 114 #[.val (.int p0), .val (.int p1), .val (.int p2), .val (.int p3), .val (.ref a3), .val (.int (2 : Int32)), .unset, .unset, .unset, .unset] [(.ref a3)])) t
      refine XS.iload Y51.here hx rfl (hb hby at_114) rfl ?_
      show Steps p.tables e below (T50.setTop (mkF m 116 #[.val (.int p0), .val (.int p1), .val (.int p2), .val (.int p3), .val (.ref a3), .val (.int (2 : Int32)), .unset, .unset, .unset, .unset] [(.int (2 : Int32)), (.ref a3)])) t
      exact k
    refine On.static Y51 hx hZ (y := (⟨"com/example/strict_bytecode/strictbytecode/DexBuffer", "u4", "([BI)J"⟩ : MethodName)) hown (w1 hw) (w2 hw) (w4 hw) (w3 hw) (by decide) (argsL := [(.ref a3), (.int (2 : Int32))]) (rest := []) (rm1 l Z a0 hw n0 a3 (2 : Int32) (7 : Int32) [(p2.toInt8.toInt32).toInt8.toInt32, (((p2.toUInt32 >>> ((8 : Int32) &&& 31).toUInt32).toInt32).toInt8.toInt32).toInt8.toInt32, (p0.toInt8.toInt32).toInt8.toInt32, (((p0.toUInt32 >>> ((8 : Int32) &&& 31).toUInt32).toInt32).toInt8.toInt32).toInt8.toInt32, (((p0.toUInt32 >>> ((16 : Int32) &&& 31).toUInt32).toInt32).toInt8.toInt32).toInt8.toInt32, (((p0.toUInt32 >>> ((24 : Int32) &&& 31).toUInt32).toInt32).toInt8.toInt32).toInt8.toInt32, (((p3.toUInt32 >>> ((16 : Int32) &&& 31).toUInt32).toInt32).toInt8.toInt32).toInt8.toInt32] ((p0.toInt8.toInt32).toInt8.toInt32) ((((p0.toUInt32 >>> ((8 : Int32) &&& 31).toUInt32).toInt32).toInt8.toInt32).toInt8.toInt32) ((((p0.toUInt32 >>> ((16 : Int32) &&& 31).toUInt32).toInt32).toInt8.toInt32).toInt8.toInt32) ((((p0.toUInt32 >>> ((24 : Int32) &&& 31).toUInt32).toInt32).toInt8.toInt32).toInt8.toInt32) [] (by decide) (by decide) (by decide) (by decide) rfl rfl rfl rfl) (W := 0) (by decide) (by decide) (by decide) (by decide) (g := (mkF m 116 #[.val (.int p0), .val (.int p1), .val (.int p2), .val (.int p3), .val (.ref a3), .val (.int (2 : Int32)), .unset, .unset, .unset, .unset] [(.int (2 : Int32)), (.ref a3)])) rfl (by rw [hml]; rfl) (lenOf pd0 rfl) rfl (by show 2 * 0 + _ ≤ _; exact Nat.le_of_eq rfl) (hb hby at_116) ?_
    intro T52 u54 D55 hp56 Y53
    obtain ⟨r116, hr116, rfl, rfl⟩ : ∃ z : Int64, z = ((((((p0.toInt8.toInt32).toInt8.toInt32.toInt64) &&& (255 : Int64)) ||| ((((((p0.toUInt32 >>> ((8 : Int32) &&& 31).toUInt32).toInt32).toInt8.toInt32).toInt8.toInt32.toInt64) &&& (255 : Int64)) <<< ((8 : Int32) &&& 0x3f).toInt64)) ||| ((((((p0.toUInt32 >>> ((16 : Int32) &&& 31).toUInt32).toInt32).toInt8.toInt32).toInt8.toInt32.toInt64) &&& (255 : Int64)) <<< ((16 : Int32) &&& 0x3f).toInt64)) ||| ((((((p0.toUInt32 >>> ((24 : Int32) &&& 31).toUInt32).toInt32).toInt8.toInt32).toInt8.toInt32.toInt64) &&& (255 : Int64)) <<< ((24 : Int32) &&& 0x3f).toInt64)) ∧ u54 = some (.long z) ∧ D55 = _ := ⟨_, rfl, hp56.1, hp56.2⟩
    replace Y53 : On p l e _ s m _ below meth c Z n0 T52 1 7 [ari a3 .byte (7 : Int32) [(p2.toInt8.toInt32).toInt8.toInt32, (((p2.toUInt32 >>> ((8 : Int32) &&& 31).toUInt32).toInt32).toInt8.toInt32).toInt8.toInt32, (p0.toInt8.toInt32).toInt8.toInt32, (((p0.toUInt32 >>> ((8 : Int32) &&& 31).toUInt32).toInt32).toInt8.toInt32).toInt8.toInt32, (((p0.toUInt32 >>> ((16 : Int32) &&& 31).toUInt32).toInt32).toInt8.toInt32).toInt8.toInt32, (((p0.toUInt32 >>> ((24 : Int32) &&& 31).toUInt32).toInt32).toInt8.toInt32).toInt8.toInt32, (((p3.toUInt32 >>> ((16 : Int32) &&& 31).toUInt32).toInt32).toInt8.toInt32).toInt8.toInt32]] := Y53
    show Rn p e below F T52 (mkF m 119 #[.val (.int p0), .val (.int p1), .val (.int p2), .val (.int p3), .val (.ref a3), .val (.int (2 : Int32)), .unset, .unset, .unset, .unset] [(.long r116)])
    refine Rn.go (T' := T52) (g' := (mkF m 134 #[.val (.int p0), .val (.int p1), .val (.int p2), .val (.int p3), .val (.ref a3), .val (.int (2 : Int32)), .val (.long r116), .second, .val (.long ((p0.toInt64) &&& (4294967295 : Int64))), .second] [(.int (lcmpW r116 ((p0.toInt64) &&& (4294967295 : Int64))))])) (fun t k => ?_) ?_
    · show Steps p.tables e below (T52.setTop (mkF m 119 #[.val (.int p0), .val (.int p1), .val (.int p2), .val (.int p3), .val (.ref a3), .val (.int (2 : Int32)), .unset, .unset, .unset, .unset] [(.long r116)])) t
      refine XS.lstore Y53.here hx rfl (hb hby at_119) rfl (l' := #[.val (.int p0), .val (.int p1), .val (.int p2), .val (.int p3), .val (.ref a3), .val (.int (2 : Int32)), .val (.long r116), .second, .unset, .unset]) rfl ?_
      show Steps p.tables e below (T52.setTop (mkF m 121 #[.val (.int p0), .val (.int p1), .val (.int p2), .val (.int p3), .val (.ref a3), .val (.int (2 : Int32)), .val (.long r116), .second, .unset, .unset] [])) t
      refine XS.iloadN Y53.here hx rfl (hb hby at_121) rfl ?_
      show Steps p.tables e below (T52.setTop (mkF m 122 #[.val (.int p0), .val (.int p1), .val (.int p2), .val (.int p3), .val (.ref a3), .val (.int (2 : Int32)), .val (.long r116), .second, .unset, .unset] [(.int p0)])) t
      refine XS.i2l Y53.here hx rfl (hb hby at_122) rfl ?_
      show Steps p.tables e below (T52.setTop (mkF m 123 #[.val (.int p0), .val (.int p1), .val (.int p2), .val (.int p3), .val (.ref a3), .val (.int (2 : Int32)), .val (.long r116), .second, .unset, .unset] [(.long (p0.toInt64))])) t
      refine On.sldcJ Y53 hx hZ hown (w6 hw) (g := (mkF m 123 #[.val (.int p0), .val (.int p1), .val (.int p2), .val (.int p3), .val (.ref a3), .val (.int (2 : Int32)), .val (.long r116), .second, .unset, .unset] [(.long (p0.toInt64))])) rfl (hb hby at_123) _ ?_
      show Steps p.tables e below (T52.setTop (mkF m 126 #[.val (.int p0), .val (.int p1), .val (.int p2), .val (.int p3), .val (.ref a3), .val (.int (2 : Int32)), .val (.long r116), .second, .unset, .unset] [(.long (4294967295 : Int64)), (.long (p0.toInt64))])) t
      refine XS.land Y53.here hx rfl (hb hby at_126) rfl ?_
      show Steps p.tables e below (T52.setTop (mkF m 127 #[.val (.int p0), .val (.int p1), .val (.int p2), .val (.int p3), .val (.ref a3), .val (.int (2 : Int32)), .val (.long r116), .second, .unset, .unset] [(.long ((p0.toInt64) &&& (4294967295 : Int64)))])) t
      refine XS.lstore Y53.here hx rfl (hb hby at_127) rfl (l' := #[.val (.int p0), .val (.int p1), .val (.int p2), .val (.int p3), .val (.ref a3), .val (.int (2 : Int32)), .val (.long r116), .second, .val (.long ((p0.toInt64) &&& (4294967295 : Int64))), .second]) rfl ?_
      show Steps p.tables e below (T52.setTop (mkF m 129 #[.val (.int p0), .val (.int p1), .val (.int p2), .val (.int p3), .val (.ref a3), .val (.int (2 : Int32)), .val (.long r116), .second, .val (.long ((p0.toInt64) &&& (4294967295 : Int64))), .second] [])) t
      refine XS.lload Y53.here hx rfl (hb hby at_129) rfl ?_
      show Steps p.tables e below (T52.setTop (mkF m 131 #[.val (.int p0), .val (.int p1), .val (.int p2), .val (.int p3), .val (.ref a3), .val (.int (2 : Int32)), .val (.long r116), .second, .val (.long ((p0.toInt64) &&& (4294967295 : Int64))), .second] [(.long r116)])) t
      refine XS.lload Y53.here hx rfl (hb hby at_131) rfl ?_
      show Steps p.tables e below (T52.setTop (mkF m 133 #[.val (.int p0), .val (.int p1), .val (.int p2), .val (.int p3), .val (.ref a3), .val (.int (2 : Int32)), .val (.long r116), .second, .val (.long ((p0.toInt64) &&& (4294967295 : Int64))), .second] [(.long ((p0.toInt64) &&& (4294967295 : Int64))), (.long r116)])) t
      refine XS.lcmp Y53.here hx rfl (hb hby at_133) rfl ?_
      show Steps p.tables e below (T52.setTop (mkF m 134 #[.val (.int p0), .val (.int p1), .val (.int p2), .val (.int p3), .val (.ref a3), .val (.int (2 : Int32)), .val (.long r116), .second, .val (.long ((p0.toInt64) &&& (4294967295 : Int64))), .second] [(.int (lcmpW r116 ((p0.toInt64) &&& (4294967295 : Int64))))])) t
      exact k
    refine Rn.go (T' := T52) (g' := (mkF m 137 #[.val (.int p0), .val (.int p1), .val (.int p2), .val (.int p3), .val (.ref a3), .val (.int (2 : Int32)), .val (.long r116), .second, .val (.long ((p0.toInt64) &&& (4294967295 : Int64))), .second] [])) (fun t k => XS.ifNo Y53.here hx rfl (hb hby at_134) rfl ((if0 _ _).trans (teq (by rw [hr116]; exact own_u4 p0)).2) k) ?_
    refine Rn.go (T' := T52) (g' := (mkF m 142 #[.val (.int p0), .val (.int p1), .val (.int p2), .val (.int p3), .val (.ref a3), .val (.int (2 : Int32)), .val (.long r116), .second, .val (.long ((p0.toInt64) &&& (4294967295 : Int64))), .second] [(.int (1 : Int32))])) (fun t k => ?_) ?_
    · show Steps p.tables e below (T52.setTop (mkF m 137 #[.val (.int p0), .val (.int p1), .val (.int p2), .val (.int p3), .val (.ref a3), .val (.int (2 : Int32)), .val (.long r116), .second, .val (.long ((p0.toInt64) &&& (4294967295 : Int64))), .second] [])) t
      refine XS.iconst Y53.here hx rfl (hb hby at_137) ?_
      show Steps p.tables e below (T52.setTop (mkF m 138 #[.val (.int p0), .val (.int p1), .val (.int p2), .val (.int p3), .val (.ref a3), .val (.int (2 : Int32)), .val (.long r116), .second, .val (.long ((p0.toInt64) &&& (4294967295 : Int64))), .second] [(.int (1 : Int32))])) t
      refine XS.goto Y53.here hx rfl (pc0 := 138) (pc' := 142) rfl (hb hby at_138) (by decide) (by decide) ?_
      show Steps p.tables e below (T52.setTop (mkF m 142 #[.val (.int p0), .val (.int p1), .val (.int p2), .val (.int p3), .val (.ref a3), .val (.int (2 : Int32)), .val (.long r116), .second, .val (.long ((p0.toInt64) &&& (4294967295 : Int64))), .second] [(.int (1 : Int32))])) t
      exact k
    rw [← hF]; exact On.retn Y53 hx hret (by simp) hlk (z' := (1 : Int32)) (by decide) (hb hby at_142) (by decide) (by decide) rfl
  · subst eo
    show Rn p e below F T16 (mkF m 69 #[.val (.int p0), .val (.int p1), .val (.int p2), .val (.int p3), .val (.ref a3), .val (.int (3 : Int32)), .unset, .unset, .unset, .unset] [])
    refine Rn.go (T' := T16) (g' := (mkF m 75 #[.val (.int p0), .val (.int p1), .val (.int p2), .val (.int p3), .val (.ref a3), .val (.int (3 : Int32)), .unset, .unset, .unset, .unset] [(.int (p0.toInt8.toInt32)), (.int (3 : Int32)), (.ref a3)])) (fun t k => ?_) ?_
    · show Steps p.tables e below (T16.setTop (mkF m 69 #[.val (.int p0), .val (.int p1), .val (.int p2), .val (.int p3), .val (.ref a3), .val (.int (3 : Int32)), .unset, .unset, .unset, .unset] [])) t
      refine XS.aload Y17.here hx rfl (hb hby at_69) rfl rfl ?_
      show Steps p.tables e below (T16.setTop (mkF m 71 #[.val (.int p0), .val (.int p1), .val (.int p2), .val (.int p3), .val (.ref a3), .val (.int (3 : Int32)), .unset, .unset, .unset, .unset] [(.ref a3)])) t
      refine XS.iload Y17.here hx rfl (hb hby at_71) rfl ?_
      show Steps p.tables e below (T16.setTop (mkF m 73 #[.val (.int p0), .val (.int p1), .val (.int p2), .val (.int p3), .val (.ref a3), .val (.int (3 : Int32)), .unset, .unset, .unset, .unset] [(.int (3 : Int32)), (.ref a3)])) t
      refine XS.iloadN Y17.here hx rfl (hb hby at_73) rfl ?_
      show Steps p.tables e below (T16.setTop (mkF m 74 #[.val (.int p0), .val (.int p1), .val (.int p2), .val (.int p3), .val (.ref a3), .val (.int (3 : Int32)), .unset, .unset, .unset, .unset] [(.int p0), (.int (3 : Int32)), (.ref a3)])) t
      refine XS.i2b Y17.here hx rfl (hb hby at_74) rfl ?_
      show Steps p.tables e below (T16.setTop (mkF m 75 #[.val (.int p0), .val (.int p1), .val (.int p2), .val (.int p3), .val (.ref a3), .val (.int (3 : Int32)), .unset, .unset, .unset, .unset] [(.int (p0.toInt8.toInt32)), (.int (3 : Int32)), (.ref a3)])) t
      exact k
    refine On.bsto Y17 hx hZ (i := 0) rfl (by decide) (by show 3 < 7; decide) (g := (mkF m 75 #[.val (.int p0), .val (.int p1), .val (.int p2), .val (.int p3), .val (.ref a3), .val (.int (3 : Int32)), .unset, .unset, .unset, .unset] [(.int (p0.toInt8.toInt32)), (.int (3 : Int32)), (.ref a3)])) rfl rfl (hb hby at_75) fun T57 Y58 => ?_
    replace Y58 : On p l e _ s m _ below meth c Z n0 T57 1 7 [ari a3 .byte (7 : Int32) [(p2.toInt8.toInt32).toInt8.toInt32, (((p2.toUInt32 >>> ((8 : Int32) &&& 31).toUInt32).toInt32).toInt8.toInt32).toInt8.toInt32, (((p2.toUInt32 >>> ((16 : Int32) &&& 31).toUInt32).toInt32).toInt8.toInt32).toInt8.toInt32, (p0.toInt8.toInt32).toInt8.toInt32, (p3.toInt8.toInt32).toInt8.toInt32, (((p3.toUInt32 >>> ((8 : Int32) &&& 31).toUInt32).toInt32).toInt8.toInt32).toInt8.toInt32, (((p3.toUInt32 >>> ((16 : Int32) &&& 31).toUInt32).toInt32).toInt8.toInt32).toInt8.toInt32]] := Y58
    show Rn p e below F T57 (mkF m 76 #[.val (.int p0), .val (.int p1), .val (.int p2), .val (.int p3), .val (.ref a3), .val (.int (3 : Int32)), .unset, .unset, .unset, .unset] [])
    refine Rn.go (T' := T57) (g' := (mkF m 87 #[.val (.int p0), .val (.int p1), .val (.int p2), .val (.int p3), .val (.ref a3), .val (.int (3 : Int32)), .unset, .unset, .unset, .unset] [(.int (((p0.toUInt32 >>> ((8 : Int32) &&& 31).toUInt32).toInt32).toInt8.toInt32)), (.int (4 : Int32)), (.ref a3)])) (fun t k => ?_) ?_
    · show Steps p.tables e below (T57.setTop (mkF m 76 #[.val (.int p0), .val (.int p1), .val (.int p2), .val (.int p3), .val (.ref a3), .val (.int (3 : Int32)), .unset, .unset, .unset, .unset] [])) t
      refine XS.aload Y58.here hx rfl (hb hby at_76) rfl rfl ?_
      show Steps p.tables e below (T57.setTop (mkF m 78 #[.val (.int p0), .val (.int p1), .val (.int p2), .val (.int p3), .val (.ref a3), .val (.int (3 : Int32)), .unset, .unset, .unset, .unset] [(.ref a3)])) t
      refine XS.iload Y58.here hx rfl (hb hby at_78) rfl ?_
      show Steps p.tables e below (T57.setTop (mkF m 80 #[.val (.int p0), .val (.int p1), .val (.int p2), .val (.int p3), .val (.ref a3), .val (.int (3 : Int32)), .unset, .unset, .unset, .unset] [(.int (3 : Int32)), (.ref a3)])) t
      refine XS.iconst Y58.here hx rfl (hb hby at_80) ?_
      show Steps p.tables e below (T57.setTop (mkF m 81 #[.val (.int p0), .val (.int p1), .val (.int p2), .val (.int p3), .val (.ref a3), .val (.int (3 : Int32)), .unset, .unset, .unset, .unset] [(.int (1 : Int32)), (.int (3 : Int32)), (.ref a3)])) t
      refine XS.iadd Y58.here hx rfl (hb hby at_81) rfl ?_
      show Steps p.tables e below (T57.setTop (mkF m 82 #[.val (.int p0), .val (.int p1), .val (.int p2), .val (.int p3), .val (.ref a3), .val (.int (3 : Int32)), .unset, .unset, .unset, .unset] [(.int (4 : Int32)), (.ref a3)])) t
      refine XS.iloadN Y58.here hx rfl (hb hby at_82) rfl ?_
      show Steps p.tables e below (T57.setTop (mkF m 83 #[.val (.int p0), .val (.int p1), .val (.int p2), .val (.int p3), .val (.ref a3), .val (.int (3 : Int32)), .unset, .unset, .unset, .unset] [(.int p0), (.int (4 : Int32)), (.ref a3)])) t
      refine XS.bipush Y58.here hx rfl (hb hby at_83) ?_
      show Steps p.tables e below (T57.setTop (mkF m 85 #[.val (.int p0), .val (.int p1), .val (.int p2), .val (.int p3), .val (.ref a3), .val (.int (3 : Int32)), .unset, .unset, .unset, .unset] [(.int (8 : Int32)), (.int p0), (.int (4 : Int32)), (.ref a3)])) t
      refine XS.iushr Y58.here hx rfl (hb hby at_85) rfl ?_
      show Steps p.tables e below (T57.setTop (mkF m 86 #[.val (.int p0), .val (.int p1), .val (.int p2), .val (.int p3), .val (.ref a3), .val (.int (3 : Int32)), .unset, .unset, .unset, .unset] [(.int ((p0.toUInt32 >>> ((8 : Int32) &&& 31).toUInt32).toInt32)), (.int (4 : Int32)), (.ref a3)])) t
      refine XS.i2b Y58.here hx rfl (hb hby at_86) rfl ?_
      show Steps p.tables e below (T57.setTop (mkF m 87 #[.val (.int p0), .val (.int p1), .val (.int p2), .val (.int p3), .val (.ref a3), .val (.int (3 : Int32)), .unset, .unset, .unset, .unset] [(.int (((p0.toUInt32 >>> ((8 : Int32) &&& 31).toUInt32).toInt32).toInt8.toInt32)), (.int (4 : Int32)), (.ref a3)])) t
      exact k
    refine On.bsto Y58 hx hZ (i := 0) rfl (by decide) (by show 4 < 7; decide) (g := (mkF m 87 #[.val (.int p0), .val (.int p1), .val (.int p2), .val (.int p3), .val (.ref a3), .val (.int (3 : Int32)), .unset, .unset, .unset, .unset] [(.int (((p0.toUInt32 >>> ((8 : Int32) &&& 31).toUInt32).toInt32).toInt8.toInt32)), (.int (4 : Int32)), (.ref a3)])) rfl rfl (hb hby at_87) fun T59 Y60 => ?_
    replace Y60 : On p l e _ s m _ below meth c Z n0 T59 1 7 [ari a3 .byte (7 : Int32) [(p2.toInt8.toInt32).toInt8.toInt32, (((p2.toUInt32 >>> ((8 : Int32) &&& 31).toUInt32).toInt32).toInt8.toInt32).toInt8.toInt32, (((p2.toUInt32 >>> ((16 : Int32) &&& 31).toUInt32).toInt32).toInt8.toInt32).toInt8.toInt32, (p0.toInt8.toInt32).toInt8.toInt32, (((p0.toUInt32 >>> ((8 : Int32) &&& 31).toUInt32).toInt32).toInt8.toInt32).toInt8.toInt32, (((p3.toUInt32 >>> ((8 : Int32) &&& 31).toUInt32).toInt32).toInt8.toInt32).toInt8.toInt32, (((p3.toUInt32 >>> ((16 : Int32) &&& 31).toUInt32).toInt32).toInt8.toInt32).toInt8.toInt32]] := Y60
    show Rn p e below F T59 (mkF m 88 #[.val (.int p0), .val (.int p1), .val (.int p2), .val (.int p3), .val (.ref a3), .val (.int (3 : Int32)), .unset, .unset, .unset, .unset] [])
    refine Rn.go (T' := T59) (g' := (mkF m 99 #[.val (.int p0), .val (.int p1), .val (.int p2), .val (.int p3), .val (.ref a3), .val (.int (3 : Int32)), .unset, .unset, .unset, .unset] [(.int (((p0.toUInt32 >>> ((16 : Int32) &&& 31).toUInt32).toInt32).toInt8.toInt32)), (.int (5 : Int32)), (.ref a3)])) (fun t k => ?_) ?_
    · show Steps p.tables e below (T59.setTop (mkF m 88 #[.val (.int p0), .val (.int p1), .val (.int p2), .val (.int p3), .val (.ref a3), .val (.int (3 : Int32)), .unset, .unset, .unset, .unset] [])) t
      refine XS.aload Y60.here hx rfl (hb hby at_88) rfl rfl ?_
      show Steps p.tables e below (T59.setTop (mkF m 90 #[.val (.int p0), .val (.int p1), .val (.int p2), .val (.int p3), .val (.ref a3), .val (.int (3 : Int32)), .unset, .unset, .unset, .unset] [(.ref a3)])) t
      refine XS.iload Y60.here hx rfl (hb hby at_90) rfl ?_
      show Steps p.tables e below (T59.setTop (mkF m 92 #[.val (.int p0), .val (.int p1), .val (.int p2), .val (.int p3), .val (.ref a3), .val (.int (3 : Int32)), .unset, .unset, .unset, .unset] [(.int (3 : Int32)), (.ref a3)])) t
      refine XS.iconst Y60.here hx rfl (hb hby at_92) ?_
      show Steps p.tables e below (T59.setTop (mkF m 93 #[.val (.int p0), .val (.int p1), .val (.int p2), .val (.int p3), .val (.ref a3), .val (.int (3 : Int32)), .unset, .unset, .unset, .unset] [(.int (2 : Int32)), (.int (3 : Int32)), (.ref a3)])) t
      refine XS.iadd Y60.here hx rfl (hb hby at_93) rfl ?_
      show Steps p.tables e below (T59.setTop (mkF m 94 #[.val (.int p0), .val (.int p1), .val (.int p2), .val (.int p3), .val (.ref a3), .val (.int (3 : Int32)), .unset, .unset, .unset, .unset] [(.int (5 : Int32)), (.ref a3)])) t
      refine XS.iloadN Y60.here hx rfl (hb hby at_94) rfl ?_
      show Steps p.tables e below (T59.setTop (mkF m 95 #[.val (.int p0), .val (.int p1), .val (.int p2), .val (.int p3), .val (.ref a3), .val (.int (3 : Int32)), .unset, .unset, .unset, .unset] [(.int p0), (.int (5 : Int32)), (.ref a3)])) t
      refine XS.bipush Y60.here hx rfl (hb hby at_95) ?_
      show Steps p.tables e below (T59.setTop (mkF m 97 #[.val (.int p0), .val (.int p1), .val (.int p2), .val (.int p3), .val (.ref a3), .val (.int (3 : Int32)), .unset, .unset, .unset, .unset] [(.int (16 : Int32)), (.int p0), (.int (5 : Int32)), (.ref a3)])) t
      refine XS.iushr Y60.here hx rfl (hb hby at_97) rfl ?_
      show Steps p.tables e below (T59.setTop (mkF m 98 #[.val (.int p0), .val (.int p1), .val (.int p2), .val (.int p3), .val (.ref a3), .val (.int (3 : Int32)), .unset, .unset, .unset, .unset] [(.int ((p0.toUInt32 >>> ((16 : Int32) &&& 31).toUInt32).toInt32)), (.int (5 : Int32)), (.ref a3)])) t
      refine XS.i2b Y60.here hx rfl (hb hby at_98) rfl ?_
      show Steps p.tables e below (T59.setTop (mkF m 99 #[.val (.int p0), .val (.int p1), .val (.int p2), .val (.int p3), .val (.ref a3), .val (.int (3 : Int32)), .unset, .unset, .unset, .unset] [(.int (((p0.toUInt32 >>> ((16 : Int32) &&& 31).toUInt32).toInt32).toInt8.toInt32)), (.int (5 : Int32)), (.ref a3)])) t
      exact k
    refine On.bsto Y60 hx hZ (i := 0) rfl (by decide) (by show 5 < 7; decide) (g := (mkF m 99 #[.val (.int p0), .val (.int p1), .val (.int p2), .val (.int p3), .val (.ref a3), .val (.int (3 : Int32)), .unset, .unset, .unset, .unset] [(.int (((p0.toUInt32 >>> ((16 : Int32) &&& 31).toUInt32).toInt32).toInt8.toInt32)), (.int (5 : Int32)), (.ref a3)])) rfl rfl (hb hby at_99) fun T61 Y62 => ?_
    replace Y62 : On p l e _ s m _ below meth c Z n0 T61 1 7 [ari a3 .byte (7 : Int32) [(p2.toInt8.toInt32).toInt8.toInt32, (((p2.toUInt32 >>> ((8 : Int32) &&& 31).toUInt32).toInt32).toInt8.toInt32).toInt8.toInt32, (((p2.toUInt32 >>> ((16 : Int32) &&& 31).toUInt32).toInt32).toInt8.toInt32).toInt8.toInt32, (p0.toInt8.toInt32).toInt8.toInt32, (((p0.toUInt32 >>> ((8 : Int32) &&& 31).toUInt32).toInt32).toInt8.toInt32).toInt8.toInt32, (((p0.toUInt32 >>> ((16 : Int32) &&& 31).toUInt32).toInt32).toInt8.toInt32).toInt8.toInt32, (((p3.toUInt32 >>> ((16 : Int32) &&& 31).toUInt32).toInt32).toInt8.toInt32).toInt8.toInt32]] := Y62
    show Rn p e below F T61 (mkF m 100 #[.val (.int p0), .val (.int p1), .val (.int p2), .val (.int p3), .val (.ref a3), .val (.int (3 : Int32)), .unset, .unset, .unset, .unset] [])
    refine Rn.go (T' := T61) (g' := (mkF m 111 #[.val (.int p0), .val (.int p1), .val (.int p2), .val (.int p3), .val (.ref a3), .val (.int (3 : Int32)), .unset, .unset, .unset, .unset] [(.int (((p0.toUInt32 >>> ((24 : Int32) &&& 31).toUInt32).toInt32).toInt8.toInt32)), (.int (6 : Int32)), (.ref a3)])) (fun t k => ?_) ?_
    · show Steps p.tables e below (T61.setTop (mkF m 100 #[.val (.int p0), .val (.int p1), .val (.int p2), .val (.int p3), .val (.ref a3), .val (.int (3 : Int32)), .unset, .unset, .unset, .unset] [])) t
      refine XS.aload Y62.here hx rfl (hb hby at_100) rfl rfl ?_
      show Steps p.tables e below (T61.setTop (mkF m 102 #[.val (.int p0), .val (.int p1), .val (.int p2), .val (.int p3), .val (.ref a3), .val (.int (3 : Int32)), .unset, .unset, .unset, .unset] [(.ref a3)])) t
      refine XS.iload Y62.here hx rfl (hb hby at_102) rfl ?_
      show Steps p.tables e below (T61.setTop (mkF m 104 #[.val (.int p0), .val (.int p1), .val (.int p2), .val (.int p3), .val (.ref a3), .val (.int (3 : Int32)), .unset, .unset, .unset, .unset] [(.int (3 : Int32)), (.ref a3)])) t
      refine XS.iconst Y62.here hx rfl (hb hby at_104) ?_
      show Steps p.tables e below (T61.setTop (mkF m 105 #[.val (.int p0), .val (.int p1), .val (.int p2), .val (.int p3), .val (.ref a3), .val (.int (3 : Int32)), .unset, .unset, .unset, .unset] [(.int (3 : Int32)), (.int (3 : Int32)), (.ref a3)])) t
      refine XS.iadd Y62.here hx rfl (hb hby at_105) rfl ?_
      show Steps p.tables e below (T61.setTop (mkF m 106 #[.val (.int p0), .val (.int p1), .val (.int p2), .val (.int p3), .val (.ref a3), .val (.int (3 : Int32)), .unset, .unset, .unset, .unset] [(.int (6 : Int32)), (.ref a3)])) t
      refine XS.iloadN Y62.here hx rfl (hb hby at_106) rfl ?_
      show Steps p.tables e below (T61.setTop (mkF m 107 #[.val (.int p0), .val (.int p1), .val (.int p2), .val (.int p3), .val (.ref a3), .val (.int (3 : Int32)), .unset, .unset, .unset, .unset] [(.int p0), (.int (6 : Int32)), (.ref a3)])) t
      refine XS.bipush Y62.here hx rfl (hb hby at_107) ?_
      show Steps p.tables e below (T61.setTop (mkF m 109 #[.val (.int p0), .val (.int p1), .val (.int p2), .val (.int p3), .val (.ref a3), .val (.int (3 : Int32)), .unset, .unset, .unset, .unset] [(.int (24 : Int32)), (.int p0), (.int (6 : Int32)), (.ref a3)])) t
      refine XS.iushr Y62.here hx rfl (hb hby at_109) rfl ?_
      show Steps p.tables e below (T61.setTop (mkF m 110 #[.val (.int p0), .val (.int p1), .val (.int p2), .val (.int p3), .val (.ref a3), .val (.int (3 : Int32)), .unset, .unset, .unset, .unset] [(.int ((p0.toUInt32 >>> ((24 : Int32) &&& 31).toUInt32).toInt32)), (.int (6 : Int32)), (.ref a3)])) t
      refine XS.i2b Y62.here hx rfl (hb hby at_110) rfl ?_
      show Steps p.tables e below (T61.setTop (mkF m 111 #[.val (.int p0), .val (.int p1), .val (.int p2), .val (.int p3), .val (.ref a3), .val (.int (3 : Int32)), .unset, .unset, .unset, .unset] [(.int (((p0.toUInt32 >>> ((24 : Int32) &&& 31).toUInt32).toInt32).toInt8.toInt32)), (.int (6 : Int32)), (.ref a3)])) t
      exact k
    refine On.bsto Y62 hx hZ (i := 0) rfl (by decide) (by show 6 < 7; decide) (g := (mkF m 111 #[.val (.int p0), .val (.int p1), .val (.int p2), .val (.int p3), .val (.ref a3), .val (.int (3 : Int32)), .unset, .unset, .unset, .unset] [(.int (((p0.toUInt32 >>> ((24 : Int32) &&& 31).toUInt32).toInt32).toInt8.toInt32)), (.int (6 : Int32)), (.ref a3)])) rfl rfl (hb hby at_111) fun T63 Y64 => ?_
    replace Y64 : On p l e _ s m _ below meth c Z n0 T63 1 7 [ari a3 .byte (7 : Int32) [(p2.toInt8.toInt32).toInt8.toInt32, (((p2.toUInt32 >>> ((8 : Int32) &&& 31).toUInt32).toInt32).toInt8.toInt32).toInt8.toInt32, (((p2.toUInt32 >>> ((16 : Int32) &&& 31).toUInt32).toInt32).toInt8.toInt32).toInt8.toInt32, (p0.toInt8.toInt32).toInt8.toInt32, (((p0.toUInt32 >>> ((8 : Int32) &&& 31).toUInt32).toInt32).toInt8.toInt32).toInt8.toInt32, (((p0.toUInt32 >>> ((16 : Int32) &&& 31).toUInt32).toInt32).toInt8.toInt32).toInt8.toInt32, (((p0.toUInt32 >>> ((24 : Int32) &&& 31).toUInt32).toInt32).toInt8.toInt32).toInt8.toInt32]] := Y64
    show Rn p e below F T63 (mkF m 112 #[.val (.int p0), .val (.int p1), .val (.int p2), .val (.int p3), .val (.ref a3), .val (.int (3 : Int32)), .unset, .unset, .unset, .unset] [])
    refine Rn.go (T' := T63) (g' := (mkF m 116 #[.val (.int p0), .val (.int p1), .val (.int p2), .val (.int p3), .val (.ref a3), .val (.int (3 : Int32)), .unset, .unset, .unset, .unset] [(.int (3 : Int32)), (.ref a3)])) (fun t k => ?_) ?_
    · show Steps p.tables e below (T63.setTop (mkF m 112 #[.val (.int p0), .val (.int p1), .val (.int p2), .val (.int p3), .val (.ref a3), .val (.int (3 : Int32)), .unset, .unset, .unset, .unset] [])) t
      refine XS.aload Y64.here hx rfl (hb hby at_112) rfl rfl ?_
      show Steps p.tables e below (T63.setTop (mkF m 114 #[.val (.int p0), .val (.int p1), .val (.int p2), .val (.int p3), .val (.ref a3), .val (.int (3 : Int32)), .unset, .unset, .unset, .unset] [(.ref a3)])) t
      refine XS.iload Y64.here hx rfl (hb hby at_114) rfl ?_
      show Steps p.tables e below (T63.setTop (mkF m 116 #[.val (.int p0), .val (.int p1), .val (.int p2), .val (.int p3), .val (.ref a3), .val (.int (3 : Int32)), .unset, .unset, .unset, .unset] [(.int (3 : Int32)), (.ref a3)])) t
      exact k
    refine On.static Y64 hx hZ (y := (⟨"com/example/strict_bytecode/strictbytecode/DexBuffer", "u4", "([BI)J"⟩ : MethodName)) hown (w1 hw) (w2 hw) (w4 hw) (w3 hw) (by decide) (argsL := [(.ref a3), (.int (3 : Int32))]) (rest := []) (rm1 l Z a0 hw n0 a3 (3 : Int32) (7 : Int32) [(p2.toInt8.toInt32).toInt8.toInt32, (((p2.toUInt32 >>> ((8 : Int32) &&& 31).toUInt32).toInt32).toInt8.toInt32).toInt8.toInt32, (((p2.toUInt32 >>> ((16 : Int32) &&& 31).toUInt32).toInt32).toInt8.toInt32).toInt8.toInt32, (p0.toInt8.toInt32).toInt8.toInt32, (((p0.toUInt32 >>> ((8 : Int32) &&& 31).toUInt32).toInt32).toInt8.toInt32).toInt8.toInt32, (((p0.toUInt32 >>> ((16 : Int32) &&& 31).toUInt32).toInt32).toInt8.toInt32).toInt8.toInt32, (((p0.toUInt32 >>> ((24 : Int32) &&& 31).toUInt32).toInt32).toInt8.toInt32).toInt8.toInt32] ((p0.toInt8.toInt32).toInt8.toInt32) ((((p0.toUInt32 >>> ((8 : Int32) &&& 31).toUInt32).toInt32).toInt8.toInt32).toInt8.toInt32) ((((p0.toUInt32 >>> ((16 : Int32) &&& 31).toUInt32).toInt32).toInt8.toInt32).toInt8.toInt32) ((((p0.toUInt32 >>> ((24 : Int32) &&& 31).toUInt32).toInt32).toInt8.toInt32).toInt8.toInt32) [] (by decide) (by decide) (by decide) (by decide) rfl rfl rfl rfl) (W := 0) (by decide) (by decide) (by decide) (by decide) (g := (mkF m 116 #[.val (.int p0), .val (.int p1), .val (.int p2), .val (.int p3), .val (.ref a3), .val (.int (3 : Int32)), .unset, .unset, .unset, .unset] [(.int (3 : Int32)), (.ref a3)])) rfl (by rw [hml]; rfl) (lenOf pd0 rfl) rfl (by show 2 * 0 + _ ≤ _; exact Nat.le_of_eq rfl) (hb hby at_116) ?_
    intro T65 u67 D68 hp69 Y66
    obtain ⟨r116, hr116, rfl, rfl⟩ : ∃ z : Int64, z = ((((((p0.toInt8.toInt32).toInt8.toInt32.toInt64) &&& (255 : Int64)) ||| ((((((p0.toUInt32 >>> ((8 : Int32) &&& 31).toUInt32).toInt32).toInt8.toInt32).toInt8.toInt32.toInt64) &&& (255 : Int64)) <<< ((8 : Int32) &&& 0x3f).toInt64)) ||| ((((((p0.toUInt32 >>> ((16 : Int32) &&& 31).toUInt32).toInt32).toInt8.toInt32).toInt8.toInt32.toInt64) &&& (255 : Int64)) <<< ((16 : Int32) &&& 0x3f).toInt64)) ||| ((((((p0.toUInt32 >>> ((24 : Int32) &&& 31).toUInt32).toInt32).toInt8.toInt32).toInt8.toInt32.toInt64) &&& (255 : Int64)) <<< ((24 : Int32) &&& 0x3f).toInt64)) ∧ u67 = some (.long z) ∧ D68 = _ := ⟨_, rfl, hp69.1, hp69.2⟩
    replace Y66 : On p l e _ s m _ below meth c Z n0 T65 1 7 [ari a3 .byte (7 : Int32) [(p2.toInt8.toInt32).toInt8.toInt32, (((p2.toUInt32 >>> ((8 : Int32) &&& 31).toUInt32).toInt32).toInt8.toInt32).toInt8.toInt32, (((p2.toUInt32 >>> ((16 : Int32) &&& 31).toUInt32).toInt32).toInt8.toInt32).toInt8.toInt32, (p0.toInt8.toInt32).toInt8.toInt32, (((p0.toUInt32 >>> ((8 : Int32) &&& 31).toUInt32).toInt32).toInt8.toInt32).toInt8.toInt32, (((p0.toUInt32 >>> ((16 : Int32) &&& 31).toUInt32).toInt32).toInt8.toInt32).toInt8.toInt32, (((p0.toUInt32 >>> ((24 : Int32) &&& 31).toUInt32).toInt32).toInt8.toInt32).toInt8.toInt32]] := Y66
    show Rn p e below F T65 (mkF m 119 #[.val (.int p0), .val (.int p1), .val (.int p2), .val (.int p3), .val (.ref a3), .val (.int (3 : Int32)), .unset, .unset, .unset, .unset] [(.long r116)])
    refine Rn.go (T' := T65) (g' := (mkF m 134 #[.val (.int p0), .val (.int p1), .val (.int p2), .val (.int p3), .val (.ref a3), .val (.int (3 : Int32)), .val (.long r116), .second, .val (.long ((p0.toInt64) &&& (4294967295 : Int64))), .second] [(.int (lcmpW r116 ((p0.toInt64) &&& (4294967295 : Int64))))])) (fun t k => ?_) ?_
    · show Steps p.tables e below (T65.setTop (mkF m 119 #[.val (.int p0), .val (.int p1), .val (.int p2), .val (.int p3), .val (.ref a3), .val (.int (3 : Int32)), .unset, .unset, .unset, .unset] [(.long r116)])) t
      refine XS.lstore Y66.here hx rfl (hb hby at_119) rfl (l' := #[.val (.int p0), .val (.int p1), .val (.int p2), .val (.int p3), .val (.ref a3), .val (.int (3 : Int32)), .val (.long r116), .second, .unset, .unset]) rfl ?_
      show Steps p.tables e below (T65.setTop (mkF m 121 #[.val (.int p0), .val (.int p1), .val (.int p2), .val (.int p3), .val (.ref a3), .val (.int (3 : Int32)), .val (.long r116), .second, .unset, .unset] [])) t
      refine XS.iloadN Y66.here hx rfl (hb hby at_121) rfl ?_
      show Steps p.tables e below (T65.setTop (mkF m 122 #[.val (.int p0), .val (.int p1), .val (.int p2), .val (.int p3), .val (.ref a3), .val (.int (3 : Int32)), .val (.long r116), .second, .unset, .unset] [(.int p0)])) t
      refine XS.i2l Y66.here hx rfl (hb hby at_122) rfl ?_
      show Steps p.tables e below (T65.setTop (mkF m 123 #[.val (.int p0), .val (.int p1), .val (.int p2), .val (.int p3), .val (.ref a3), .val (.int (3 : Int32)), .val (.long r116), .second, .unset, .unset] [(.long (p0.toInt64))])) t
      refine On.sldcJ Y66 hx hZ hown (w6 hw) (g := (mkF m 123 #[.val (.int p0), .val (.int p1), .val (.int p2), .val (.int p3), .val (.ref a3), .val (.int (3 : Int32)), .val (.long r116), .second, .unset, .unset] [(.long (p0.toInt64))])) rfl (hb hby at_123) _ ?_
      show Steps p.tables e below (T65.setTop (mkF m 126 #[.val (.int p0), .val (.int p1), .val (.int p2), .val (.int p3), .val (.ref a3), .val (.int (3 : Int32)), .val (.long r116), .second, .unset, .unset] [(.long (4294967295 : Int64)), (.long (p0.toInt64))])) t
      refine XS.land Y66.here hx rfl (hb hby at_126) rfl ?_
      show Steps p.tables e below (T65.setTop (mkF m 127 #[.val (.int p0), .val (.int p1), .val (.int p2), .val (.int p3), .val (.ref a3), .val (.int (3 : Int32)), .val (.long r116), .second, .unset, .unset] [(.long ((p0.toInt64) &&& (4294967295 : Int64)))])) t
      refine XS.lstore Y66.here hx rfl (hb hby at_127) rfl (l' := #[.val (.int p0), .val (.int p1), .val (.int p2), .val (.int p3), .val (.ref a3), .val (.int (3 : Int32)), .val (.long r116), .second, .val (.long ((p0.toInt64) &&& (4294967295 : Int64))), .second]) rfl ?_
      show Steps p.tables e below (T65.setTop (mkF m 129 #[.val (.int p0), .val (.int p1), .val (.int p2), .val (.int p3), .val (.ref a3), .val (.int (3 : Int32)), .val (.long r116), .second, .val (.long ((p0.toInt64) &&& (4294967295 : Int64))), .second] [])) t
      refine XS.lload Y66.here hx rfl (hb hby at_129) rfl ?_
      show Steps p.tables e below (T65.setTop (mkF m 131 #[.val (.int p0), .val (.int p1), .val (.int p2), .val (.int p3), .val (.ref a3), .val (.int (3 : Int32)), .val (.long r116), .second, .val (.long ((p0.toInt64) &&& (4294967295 : Int64))), .second] [(.long r116)])) t
      refine XS.lload Y66.here hx rfl (hb hby at_131) rfl ?_
      show Steps p.tables e below (T65.setTop (mkF m 133 #[.val (.int p0), .val (.int p1), .val (.int p2), .val (.int p3), .val (.ref a3), .val (.int (3 : Int32)), .val (.long r116), .second, .val (.long ((p0.toInt64) &&& (4294967295 : Int64))), .second] [(.long ((p0.toInt64) &&& (4294967295 : Int64))), (.long r116)])) t
      refine XS.lcmp Y66.here hx rfl (hb hby at_133) rfl ?_
      show Steps p.tables e below (T65.setTop (mkF m 134 #[.val (.int p0), .val (.int p1), .val (.int p2), .val (.int p3), .val (.ref a3), .val (.int (3 : Int32)), .val (.long r116), .second, .val (.long ((p0.toInt64) &&& (4294967295 : Int64))), .second] [(.int (lcmpW r116 ((p0.toInt64) &&& (4294967295 : Int64))))])) t
      exact k
    refine Rn.go (T' := T65) (g' := (mkF m 137 #[.val (.int p0), .val (.int p1), .val (.int p2), .val (.int p3), .val (.ref a3), .val (.int (3 : Int32)), .val (.long r116), .second, .val (.long ((p0.toInt64) &&& (4294967295 : Int64))), .second] [])) (fun t k => XS.ifNo Y66.here hx rfl (hb hby at_134) rfl ((if0 _ _).trans (teq (by rw [hr116]; exact own_u4 p0)).2) k) ?_
    refine Rn.go (T' := T65) (g' := (mkF m 142 #[.val (.int p0), .val (.int p1), .val (.int p2), .val (.int p3), .val (.ref a3), .val (.int (3 : Int32)), .val (.long r116), .second, .val (.long ((p0.toInt64) &&& (4294967295 : Int64))), .second] [(.int (1 : Int32))])) (fun t k => ?_) ?_
    · show Steps p.tables e below (T65.setTop (mkF m 137 #[.val (.int p0), .val (.int p1), .val (.int p2), .val (.int p3), .val (.ref a3), .val (.int (3 : Int32)), .val (.long r116), .second, .val (.long ((p0.toInt64) &&& (4294967295 : Int64))), .second] [])) t
      refine XS.iconst Y66.here hx rfl (hb hby at_137) ?_
      show Steps p.tables e below (T65.setTop (mkF m 138 #[.val (.int p0), .val (.int p1), .val (.int p2), .val (.int p3), .val (.ref a3), .val (.int (3 : Int32)), .val (.long r116), .second, .val (.long ((p0.toInt64) &&& (4294967295 : Int64))), .second] [(.int (1 : Int32))])) t
      refine XS.goto Y66.here hx rfl (pc0 := 138) (pc' := 142) rfl (hb hby at_138) (by decide) (by decide) ?_
      show Steps p.tables e below (T65.setTop (mkF m 142 #[.val (.int p0), .val (.int p1), .val (.int p2), .val (.int p3), .val (.ref a3), .val (.int (3 : Int32)), .val (.long r116), .second, .val (.long ((p0.toInt64) &&& (4294967295 : Int64))), .second] [(.int (1 : Int32))])) t
      exact k
    rw [← hF]; exact On.retn Y66 hx hret (by simp) hlk (z' := (1 : Int32)) (by decide) (hb hby at_142) (by decide) (by decide) rfl
set_option maxRecDepth 65536 in
set_option maxHeartbeats 40000000 in
theorem comes_1 {Post : Tables → Env → Array Value → State → Outcome → State → Prop} (hpost : ∀ tb e args s v u, (limb_1_1.after args s (.returned v) u = true ∧ limb_1_2.after args s (.returned v) u = true ∧ True) → FrameEnd s (.returned v) u (Jvm.fieldLocs frame_1_writes args s ++ Jvm.arrayLocs frame_1_arrays args s ++ Jvm.staticLocs frame_1_statics s) 16 128 → Post tb e args s (.returned v) u) :
    ArmFor flags0 classFile x code maxLocals ret World_1 tables_1 room_1 Calls_1 rest_1 Pre_1 Post := by
  intro l hfl _ _ p e ha hc hk s m args below hf hA hF happ hP
  obtain ⟨hcalls, hrest, hpre⟩ := hP
  obtain ⟨-, -, -, hnamed, -, -, -, hat⟩ := (Spec.applies_iff hf).mp happ
  obtain ⟨hg, hn⟩ := and_e (Cond.before_iff.mp (show (Jvm.Cond.and given_1 narrow_1).before args s = true from hpre))
  obtain ⟨g1, g2⟩ := and_e hg
  obtain ⟨g3, g4⟩ := and_e g2
  obtain ⟨g5, g6⟩ := and_e g4
  obtain ⟨g7, g8⟩ := and_e g6
  obtain ⟨w0, w1, w2, w3, rfl⟩ : ∃ w0 w1 w2 w3 : Value, args = #[w0, w1, w2, w3] := by
    have hs : args.size = 4 := by simpa [Cond.value, given_1] using g1
    obtain ⟨L⟩ := args
    match L, hs with
    | [w0, w1, w2, w3], _ => exact ⟨w0, w1, w2, w3, rfl⟩
  have hw := fun d (hd : d ∈ tables_1) => atoms_spec (ws := Jvm.Cond.code x code maxLocals ret :: tables_1) hat d (List.mem_cons_of_mem _ hd)
  obtain ⟨i0, ei0⟩ := is_v g3
  obtain rfl : w0 = (.int i0) := Option.some.inj ei0
  obtain ⟨i1, ei1⟩ := is_v g5
  obtain rfl : w1 = (.int i1) := Option.some.inj ei1
  obtain ⟨i2, ei2⟩ := is_v g7
  obtain rfl : w2 = (.int i2) := Option.some.inj ei2
  obtain ⟨i3, ei3⟩ := is_v g8
  obtain rfl : w3 = (.int i3) := Option.some.inj ei3
  obtain ⟨n, o, h1, h2, h3, _, L, rfl, ⟨D', rfl, N, -⟩, hq⟩ := rm0 l s _ hw s.heap.size i0 i1 i2 i3 tables_1 s.heap (Hp.nil s) p e ha hc hk s m _ below hf ((Spec.applies_iff_loose hf).mp happ).1 ⟨rfl, State.Warmed39.refl s, rfl⟩ trivial
  refine ⟨n, _, h1, h2, h3, hpost _ _ _ _ _ _ ⟨Cond.after_iff.mpr rfl, Cond.after_iff.mpr (eq_i res_at (Term.int_eval (1)) rfl), trivial⟩ ⟨hq.1, hq.2.1, (hq.2.2.sift fun y hy => Or.inr (N y hy)).mono (by decide) (by decide)⟩⟩
theorem main_1_1 : Claimed_1_1 := comes_1 fun _ _ _ _ _ _ h hF => ⟨h.1, hF⟩
theorem main_1_2 : Claimed_1_2 := comes_1 fun _ _ _ _ _ _ h hF => ⟨h.2.1, hF⟩
end Jvm.Pilot.@@N@@
namespace Jvm.Pilot.@@N@@
open Jvm Jvm.ClassFile Sem Op Lib Jvm.Free Jvm.Stand Jvm.Pilot.@@N@@.Jvm.D
/-! MADE BY PROGRAM (witnessworld.py) out of the Statement's table words and the real class files: 9 classes; the members and pool entries that the words name. The judged class is class 1, her method 1. -/
namespace start1
open Jvm.ClassFile
def u (s : String) : CpInfo := .utf8 (stringToUtf16 s)
/-- a pool by its gaps: so many unusable entries, then the entry; so many at the end -/
def gap : Nat → List CpInfo → List CpInfo
  | 0, r => r
  | n + 1, r => .unusable :: gap n r
def poolList (es : List (Nat × CpInfo)) (last : Nat) : List CpInfo := es.foldr (fun e r => gap e.1 (e.2 :: r)) (gap last [])
def pool (es : List (Nat × CpInfo)) (last : Nat) : Array CpInfo := ⟨poolList es last⟩
def fileOf (pool : Array CpInfo) (this : Nat) (attrs : Array Attribute := #[]) (ms : Array MethodInfo := #[]) (fl : Nat := 33) (sup : Nat := 0) (ifs : Array Nat := #[]) (fds : Array FieldInfo := #[]) : ClassFile where
  minorVersion := 0
  majorVersion := 65
  constantPool := pool
  accessFlags := fl
  thisClass := this
  superClass := sup
  interfaces := ifs
  fields := fds
  methods := ms
  attributes := attrs
def plain (name : String) (sup : Option ClassId) : Class where
  name := name
  kind := .ordinary
  loader := none
  accessFlags := 33
  super := sup
  interfaces := #[]
  cf := none
  fields := #[]
  methods := #[]
  instanceTypes := #[]
  staticTypes := #[]
  resolved := #[]
  callSites := []
  init := .initialized
  statics := none
  mirror := none

def pool0 : Array CpInfo := pool [(5, u "<init>"), (0, u "()V"), (1, .class_ 10), (1, u "java/lang/Object")] 113

def k0m0 : Method := { name := "<init>", desc := "()V", sig := { parameters := [], returnType := none }, accessFlags := 1, code := none }
/-- java/lang/Object -/
def k0 : Class := { plain "java/lang/Object" none with
  accessFlags := 33
  interfaces := #[]
  cf := some (fileOf pool0 8 #[] #[{ accessFlags := 1, nameIndex := 5, descriptorIndex := 6, attributes := #[] }] 33 0 #[] #[])
  fields := #[]
  methods := #[k0m0]
  instanceTypes := #[]
  staticTypes := #[]
  resolved := Array.replicate 124 none
  statics := none }

def pool1 : Array CpInfo := pool [(2, .class_ 4), (1, u "java/lang/Object"), (0, u "<init>"), (0, u "()V"), (0, .methodref 8 9), (0, .class_ 10), (0, .nameAndType 11 12), (0, u "com/example/strict_bytecode/strictbytecode/DexBuffer"), (0, u "u4"), (0, u "([BI)J"), (0, .long 4294967295), (1, .class_ 16), (0, u "com/example/strict_bytecode/strictbytecode/DexBufferU4PinLaw"), (2, u "law"), (0, u "(IIII)Z")] 5

def k1m0 : Method := { name := "<init>", desc := "()V", sig := { parameters := [], returnType := none }, accessFlags := 1, code := none }
def k1c1 : Code := { maxStack := 4, maxLocals := 10, code := code, exceptionTable := #[], attributes := #[] }
def k1m1 : Method := { name := "law", desc := "(IIII)Z", sig := { parameters := [.int, .int, .int, .int], returnType := some .boolean }, accessFlags := 9, code := some k1c1 }
/-- com/example/strict_bytecode/strictbytecode/DexBufferU4PinLaw -/
def k1 : Class := { plain "com/example/strict_bytecode/strictbytecode/DexBufferU4PinLaw" (some 0) with
  accessFlags := 49
  interfaces := #[]
  cf := some (fileOf pool1 15 #[] #[{ accessFlags := 1, nameIndex := 5, descriptorIndex := 6, attributes := #[] }, { accessFlags := 9, nameIndex := 19, descriptorIndex := 20, attributes := #[] }] 49 2 #[] #[])
  fields := #[]
  methods := #[k1m0, k1m1]
  instanceTypes := #[]
  staticTypes := #[]
  resolved := Array.replicate 26 none
  statics := none }

def pool2 : Array CpInfo := pool [(2, .class_ 4), (1, u "com/example/strict_bytecode/strictbytecode/DexBuffer"), (7, .class_ 14), (1, u "java/lang/Object"), (3, u "bytes"), (0, u "[B"), (2, u "item"), (0, u "Ljava/util/function/Supplier;"), (2, u "position"), (0, u "I"), (2, u "end"), (2, u "next"), (47, u "u4"), (0, u "([BI)J"), (0, .long 255), (77, u "U4_MAX"), (0, u "J"), (1, u "LEB128_MAX_BYTES")] 54

def k2c0 : Code := { maxStack := 6, maxLocals := 2, code := prog_32_method_10_code, exceptionTable := #[], attributes := #[] }
def k2m0 : Method := { name := "u4", desc := "([BI)J", sig := { parameters := [(.array .byte), .int], returnType := some .long }, accessFlags := 8, code := some k2c0 }
/-- com/example/strict_bytecode/strictbytecode/DexBuffer -/
def k2 : Class := { plain "com/example/strict_bytecode/strictbytecode/DexBuffer" (some 0) with
  accessFlags := 48
  interfaces := #[]
  cf := some (fileOf pool2 2 #[] #[{ accessFlags := 8, nameIndex := 81, descriptorIndex := 82, attributes := #[] }] 48 12 #[] #[{ accessFlags := 26, nameIndex := 161, descriptorIndex := 162, attributes := #[] }, { accessFlags := 26, nameIndex := 164, descriptorIndex := 27, attributes := #[] }, { accessFlags := 18, nameIndex := 18, descriptorIndex := 19, attributes := #[] }, { accessFlags := 18, nameIndex := 22, descriptorIndex := 23, attributes := #[] }, { accessFlags := 18, nameIndex := 30, descriptorIndex := 27, attributes := #[] }, { accessFlags := 18, nameIndex := 33, descriptorIndex := 23, attributes := #[] }, { accessFlags := 2, nameIndex := 26, descriptorIndex := 27, attributes := #[] }])
  fields := #[{ name := "U4_MAX", type := .long, accessFlags := 26, slot := 0, constantValue := 0 }, { name := "LEB128_MAX_BYTES", type := .int, accessFlags := 26, slot := 1, constantValue := 0 }, { name := "bytes", type := (.array .byte), accessFlags := 18, slot := 0, constantValue := 0 }, { name := "item", type := (.object "java/util/function/Supplier"), accessFlags := 18, slot := 1, constantValue := 0 }, { name := "end", type := .int, accessFlags := 18, slot := 2, constantValue := 0 }, { name := "next", type := (.object "java/util/function/Supplier"), accessFlags := 18, slot := 3, constantValue := 0 }, { name := "position", type := .int, accessFlags := 2, slot := 4, constantValue := 0 }]
  methods := #[k2m0]
  instanceTypes := #[(.array .byte), (.object "java/util/function/Supplier"), .int, (.object "java/util/function/Supplier"), .int]
  staticTypes := #[.long, .int]
  resolved := Array.replicate 219 none
  statics := none }

def pool3 : Array CpInfo := pool [(1, u "java/lang/Cloneable"), (0, .class_ 1), (0, u "java/lang/Object"), (0, .class_ 3)] 3

/-- java/lang/Cloneable -/
def k3 : Class := { plain "java/lang/Cloneable" (some 0) with
  accessFlags := 1537
  interfaces := #[]
  cf := some (fileOf pool3 2 #[] #[] 1537 4 #[] #[])
  fields := #[]
  methods := #[]
  instanceTypes := #[]
  staticTypes := #[]
  resolved := Array.replicate 8 none
  statics := none }

def pool4 : Array CpInfo := pool [(1, u "java/io/Serializable"), (0, .class_ 1), (0, u "java/lang/Object"), (0, .class_ 3)] 3

/-- java/io/Serializable -/
def k4 : Class := { plain "java/io/Serializable" (some 0) with
  accessFlags := 1537
  interfaces := #[]
  cf := some (fileOf pool4 2 #[] #[] 1537 4 #[] #[])
  fields := #[]
  methods := #[]
  instanceTypes := #[]
  staticTypes := #[]
  resolved := Array.replicate 8 none
  statics := none }

/-- the primitive byte -/
def k5 : Class := { plain "byte" none with kind := .primitive 'B', accessFlags := 0x411 }
/-- [B -/
def k6 : Class := { plain "[B" (some 0) with kind := .array 5 .byte, interfaces := #[3, 4], accessFlags := 1041 }

/-- the primitive int -/
def k7 : Class := { plain "int" none with kind := .primitive 'I', accessFlags := 0x411 }
/-- [I -/
def k8 : Class := { plain "[I" (some 0) with kind := .array 7 .int, interfaces := #[3, 4], accessFlags := 1041 }

def heap : Heap := #[]
def classes : Array Class := #[k0, k1, k2, k3, k4, k5, k6, k7, k8]
def interned : List (Array UInt16 × Addr) := []
def slotsUsed : Nat := 0
def theMethod : MethodId := ⟨1, 1⟩
def args0 : Array Value := #[.int 1, .int 2, .int 3, .int 4]
def aboutOver (below : List Frame) : State where
  vm := { classes := classes, interned := interned.toArray }
  heap := heap
  slotsUsed := slotsUsed
  threads := #[{ frames := .invoking theMethod args0 :: below }]
def below0 : List Frame := [.native { method := ⟨0, 0⟩, args := #[] }]
def about1 : State := aboutOver below0
def p0 : Program := .bare "" "" ""
def e0 : Env := launch0.env 0 0 0
theorem w_frames : about1.frames = Frame.invoking theMethod args0 :: below0 := rfl
set_option maxRecDepth 65536 in
theorem w_args : argsFit about1.vm theMethod args0 = true := by decide +kernel
set_option maxRecDepth 65536 in
theorem w_heap : heapFits about1 = true := by decide +kernel
set_option maxRecDepth 65536 in
theorem w_runnable : about1.curStatus? = some .runnable := by decide +kernel
set_option maxRecDepth 65536 in
theorem w_alone : about1.alone = true := by decide +kernel
set_option maxRecDepth 65536 in
theorem w_named : about1.methodNamed? x = some theMethod := by decide +kernel
set_option maxRecDepth 65536 in
theorem w_hears : about1.hears theMethod below0 = true := by decide +kernel
set_option maxRecDepth 65536 in
theorem w_ripe : about1.ripe theMethod args0 below0 = true := by decide +kernel
theorem w_running : about1.status = .running := rfl
set_option maxRecDepth 65536 in
theorem w_room : about1.hasRoom e0.platform room_1 = true :=
  launch0.hasRoom_least _ room_1 (by decide +kernel) (by decide +kernel) (by decide +kernel) (by decide +kernel) (by decide +kernel) (by decide +kernel)
theorem allAtoms_all (ts : List Jvm.Cond) (a : Array Jvm.Value) (st : Jvm.State) : (allAtoms ts).before a st = ts.all (fun c => c.before a st) := by
  induction ts with
  | nil => rfl
  | cons c t ih =>
    show (Jvm.Cond.and c (allAtoms t)).before a st = _
    rw [Jvm.Cond.before_and, ih, List.all_cons]
def words1 : List Jvm.Cond := Jvm.Cond.code x code maxLocals ret :: tables_1
/-- a 'code' word, met by the world's own term for the bytes: nothing is compared byte by byte -/
theorem code_word {y : MethodName} {bytes : ByteArray} {mx : Nat} {rt : Option FieldType} {a : Array Value} {s : State} {m : MethodId} {meth : Method} {c : Code} (h1 : s.methodNamed? y = some m) (h2 : s.vm.method? m = some meth) (h3 : meth.code = some c) (h4 : c.code = bytes)
    (h5 : (c.maxLocals == mx && c.exceptionTable.isEmpty && decide (c.maxStack ≤ mostOperands) && decide (meth.sig.returnType = rt) && !meth.locks && decide (parseMethodDescriptor y.desc = some meth.sig)) = true) : (Jvm.Cond.code y bytes mx rt).before a s = true := by
  simp only [Bool.and_eq_true, beq_iff_eq, Bool.not_eq_true', decide_eq_true_eq] at h5
  obtain ⟨⟨⟨⟨⟨g1, g2⟩, g3⟩, g4⟩, g5⟩, g6⟩ := h5
  simp [Cond.before, Cond.holds, Cond.value, h1, h2, h3, h4, g1, g2, g3, g4, g5, g6]
def isCode : Jvm.Cond → Bool
  | .code _ _ _ _ => true
  | _ => false
theorem all_split {L : List Jvm.Cond} {P : Jvm.Cond → Bool} (h1 : L.all (fun c => isCode c || P c) = true) (h2 : ∀ c ∈ L.filter isCode, P c = true) : L.all P = true := by
  refine List.all_eq_true.mpr fun c hc => ?_
  have h := List.all_eq_true.mp h1 c hc
  rcases Bool.eq_false_or_eq_true (isCode c) with hi | hi
  · exact h2 c (List.mem_filter.mpr ⟨hc, hi⟩)
  · simpa [hi] using h
set_option maxRecDepth 65536 in
theorem w_c0 : (Jvm.Cond.code x code maxLocals ret).before args0 about1 = true := code_word (m := ⟨1, 1⟩) (meth := k1m1) (c := k1c1) (by decide +kernel) rfl rfl rfl (by decide +kernel)
set_option maxRecDepth 65536 in
theorem w_c1 : (Jvm.Cond.code ({ cls := "com/example/strict_bytecode/strictbytecode/DexBuffer", name := "u4", desc := "([BI)J" } : Jvm.MethodName) prog_32_method_10_code (2 : Nat) (Option.some Jvm.ClassFile.FieldType.long)).before args0 about1 = true := code_word (m := ⟨2, 0⟩) (meth := k2m0) (c := k2c0) (by decide +kernel) rfl rfl rfl (by decide +kernel)
def codes1 : List Jvm.Cond := [Jvm.Cond.code x code maxLocals ret, Jvm.Cond.code ({ cls := "com/example/strict_bytecode/strictbytecode/DexBuffer", name := "u4", desc := "([BI)J" } : Jvm.MethodName) prog_32_method_10_code (2 : Nat) (Option.some Jvm.ClassFile.FieldType.long)]
set_option maxRecDepth 65536 in
theorem codes_eq : words1.filter isCode = codes1 := rfl
theorem w_codes : ∀ c ∈ words1.filter isCode, c.before args0 about1 = true := by
  rw [codes_eq]
  intro c hc
  simp only [codes1, List.mem_cons, List.not_mem_nil, or_false] at hc
  rcases hc with rfl | rfl
  · exact w_c0
  · exact w_c1
set_option maxRecDepth 65536 in
theorem w_t1 : words1.all (fun c => isCode c || c.before args0 about1) = true := by decide +kernel
theorem w_tables : (allAtoms (Jvm.Cond.code x code maxLocals ret :: tables_1)).before args0 about1 = true := by
  rw [allAtoms_all]
  show words1.all (fun c => c.before args0 about1) = true
  refine all_split ?_ w_codes
  rw [w_t1]
set_option maxRecDepth 65536 in
theorem w_case : (Jvm.Cond.and given_1 narrow_1).before args0 about1 = true := by decide +kernel
theorem w_applies : (headSpec (Jvm.Cond.code x code maxLocals ret :: tables_1) room_1).applies x e0.platform about1 = true :=
  (Spec.applies_iff w_frames).mpr ⟨w_running, w_runnable, w_alone, w_named, w_hears, w_ripe, w_room, w_tables⟩
theorem atStart : AtStart classFile x code maxLocals ret World_1 tables_1 room_1 Calls_1 rest_1 Pre_1 launch0 p0 e0 about1 theMethod args0 below0 :=
  ⟨lists_1, trivial, launch0.admits_env _ _ _, launch0.least_env, fairChoices_fair.cas, fairChoices_fair.clock, w_frames, w_args, w_heap, w_applies, trivial, trivial, w_case⟩
end start1
theorem witness_1 : WitnessClaimed_1 := ⟨start1.p0, start1.e0, start1.about1, start1.theMethod, start1.args0, start1.below0, start1.atStart⟩
end Jvm.Pilot.@@N@@
