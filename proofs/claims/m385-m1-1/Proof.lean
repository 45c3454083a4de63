import JvmDerived
import JvmDerived.Pilot.@@N@@Statement
import JvmDerived.Pilot.@@N@@Code
set_option linter.unusedVariables false
set_option linter.unusedSimpArgs false
@@BLOCK:NumsL.lean.txt@@
namespace Jvm.Pilot.@@N@@
open Jvm Jvm.ClassFile Sem Op Lib Jvm.Free Jvm.Stand Jvm.LawKit Jvm.RoadKit Bundle Jvm.Pilot.@@N@@.Jvm.D
/-! ## A. The run goes on: a walk in steps, its end left open -/
section Base
variable {p : Program} {l : Launch} {e : Env} {R : Room} {s : State} {m : MethodId} {args : Array Value} {below : List Frame} {meth : Method} {c : Code} {T T' : State} {locs : List Loc} {cells slots : Nat} {Z : State} {a0 : Array Value} {F : State → Prop} {g g' : JFrame} {n0 : Nat} {h h' : Heap} {a b : Addr} {C n d : String} {v w : Value} {sl : Nat}
/-- the run from T with the frame g on top comes to a state of which F holds -/
def Rn (p : Program) (e : Env) (below : List Frame) (F : State → Prop) (T : State) (g : JFrame) : Prop := ∃ U, Steps p.tables e below (T.setTop g) U ∧ F U
theorem Rn.go (st : ∀ t, Steps p.tables e below (T'.setTop g') t → Steps p.tables e below (T.setTop g) t) (k : Rn p e below F T' g') : Rn p e below F T g := by
  obtain ⟨U, h1, h2⟩ := k; exact ⟨U, st _ h1, h2⟩
theorem Rn.to (st : Steps p.tables e below (T.setTop g) (T'.setTop g')) (k : Rn p e below F T' g') : Rn p e below F T g := by
  obtain ⟨U, h1, h2⟩ := k; exact ⟨U, st.trans h1, h2⟩
theorem own_lcW (x y : Int64) : lcmpW x y = if x > y then 1 else if x = y then 0 else -1 := rfl
theorem own_nat (x : Int32) : x.toNatClampNeg = x.toInt.toNat := rfl
theorem own_remI {x y : Int32} {k : Int} (hy : y.toInt = k) (hx : 0 ≤ x.toInt) : (x % y).toInt = x.toInt % k := by rw [Jvm.Kit.i32_rem_nonneg hx, hy]
theorem own_irem {g : JFrame} {target : State} (h : At T m c below) (hx : p.tables.exec = Jvm.exec) (hg : g.method = m) {x y : Int32} {rest : List Value} (hd : decode c.code g.pc = .ok (.irem, 1)) (hs : g.stack = .int y :: .int x :: rest) (hy : y ≠ 0)
    (hr : Steps p.tables e below (T.setTop { g with pc := g.pc + 1, stack := .int (x % y) :: rest }) target) : Steps p.tables e below (T.setTop g) target := by
  have q : x - x / y * y = x % y := irem_eq_mod x y
  exact XS.irem h hx hg hd hs hy (by rw [q]; exact hr)
/-! ## B. What the heap holds: a list of the objects and arrays that the law has made -/
abbrev Itm : Type := (String × List (String × String × Value)) ⊕ (FieldType × Int32 × List Value)
abbrev ob (a : Addr) (C : String) (fs : List (String × String × Value)) : Addr × Itm := (a, .inl (C, fs))
abbrev ar (a : Addr) (ty : FieldType) (n : Int32) (vs : List Value) : Addr × Itm := (a, .inr (ty, n, vs))
abbrev ari (a : Addr) (ty : FieldType) (n : Int32) (xs : List Int32) : Addr × Itm := ar a ty n (xs.map Value.int)
abbrev arj (a : Addr) (n : Int32) (xs : List Int64) : Addr × Itm := ar a .long n (xs.map Value.long)
def Obj (Z : State) (h : Heap) (a : Addr) (C : String) (fs : List (String × String × Value)) : Prop := Exa Z h a C ∧ (∀ f ∈ fs, Fld Z h a C f.1 f.2.1 f.2.2) ∧ (fs.map fun f => Jvm.RoadKit.slotOf Z C f.1 f.2.1).Nodup
def Ary (Z : State) (h : Heap) (a : Addr) (ty : FieldType) (n : Int32) (vs : List Value) : Prop := (∃ k, Arv Z h a k ty n vs (defaultValue ty) ∧ ∀ C, ty = .object C → Ovr Z k C) ∧ vs.length = n.toNatClampNeg
def itm (Z : State) (h : Heap) (x : Addr × Itm) : Prop := match x.2 with
  | .inl o => Obj Z h x.1 o.1 o.2
  | .inr o => Ary Z h x.1 o.1 o.2.1 o.2.2
/-- made by the law, or an array of no places (which nobody can write) -/
def Frs (n0 : Nat) (x : Addr × Itm) : Prop := n0 ≤ x.1 ∨ ∃ ty n, x.2 = .inr (ty, n, [])
def Hp (Z : State) (n0 : Nat) (h : Heap) (D : List (Addr × Itm)) : Prop := Old Z n0 h ∧ (∀ x ∈ D, Frs n0 x ∧ itm Z h x) ∧ (D.map (·.1)).Nodup
variable {fs : List (String × String × Value)} {vs : List Value} {ty : FieldType} {z : Int32} {x : Addr × Itm} {D : List (Addr × Itm)} {I J : Itm} {i j : Nat}
theorem map_same {α β : Type} (f : α → β) (L : List α) (i : Nat) (x y : α) (h : L[i]? = some x) (q : f y = f x) : (L.set i y).map f = L.map f := by
  apply List.ext_getElem?
  intro k
  rw [List.getElem?_map, List.getElem?_map, List.getElem?_set]
  by_cases e : i = k
  · subst e
    rw [if_pos rfl, if_pos (List.getElem?_eq_some_iff.mp h).1, h]; simp [q]
  · rw [if_neg e]
theorem Obj.lt (O : Obj Z h a C fs) : a < h.size := O.1.lt
theorem Ary.lt (O : Ary Z h a ty z vs) : a < h.size := by obtain ⟨⟨k, V, -⟩, -⟩ := O; exact V.lt
theorem itm.lt (O : itm Z h x) : x.1 < h.size := by
  obtain ⟨a, I⟩ := x
  cases I with
  | inl o => exact Obj.lt (show Obj Z h a o.1 o.2 from O)
  | inr o => exact Ary.lt (show Ary Z h a o.1 o.2.1 o.2.2 from O)
theorem itm.ext (E : Ext h h') (O : itm Z h x) : itm Z h' x := by
  obtain ⟨a, I⟩ := x
  cases I with
  | inl o =>
    have O' : Obj Z h a o.1 o.2 := O
    exact (show Obj Z h' a o.1 o.2 from ⟨O'.1.ext E, fun f hf => (O'.2.1 f hf).ext E, O'.2.2⟩)
  | inr o =>
    have O' : Ary Z h a o.1 o.2.1 o.2.2 := O
    obtain ⟨⟨k, V, u⟩, q⟩ := O'
    exact (show Ary Z h' a o.1 o.2.1 o.2.2 from ⟨⟨k, V.ext E, u⟩, q⟩)
theorem itm.other (W : Wr h h' b sl v) (q : x.1 ≠ b) (O : itm Z h x) : itm Z h' x := by
  obtain ⟨a, I⟩ := x
  cases I with
  | inl o =>
    have O' : Obj Z h a o.1 o.2 := O
    exact (show Obj Z h' a o.1 o.2 from ⟨O'.1.wr W, fun f hf => (O'.2.1 f hf).other W (Or.inl q), O'.2.2⟩)
  | inr o =>
    have O' : Ary Z h a o.1 o.2.1 o.2.2 := O
    obtain ⟨⟨k, V, u⟩, r⟩ := O'
    exact (show Ary Z h' a o.1 o.2.1 o.2.2 from ⟨⟨k, V.other W q, u⟩, r⟩)
theorem Obj.put (hj : fs[j]? = some (n, d, w)) (W : Wr h h' a (Jvm.RoadKit.slotOf Z C n d) v) (O : Obj Z h a C fs) : Obj Z h' a C (fs.set j (n, d, v)) := by
  have hjl : j < fs.length := (List.getElem?_eq_some_iff.mp hj).1
  refine ⟨O.1.wr W, fun f hf => ?_, ?_⟩
  · obtain ⟨i, hi⟩ := List.mem_iff_getElem?.mp hf
    by_cases e : j = i
    · subst e
      rw [List.getElem?_set_self hjl] at hi
      cases hi
      exact (O.2.1 _ (List.mem_of_getElem? hj)).same W
    · rw [List.getElem?_set_ne e] at hi
      refine (O.2.1 f (List.mem_of_getElem? hi)).other W (Or.inr fun q => e ?_)
      have hil : i < fs.length := (List.getElem?_eq_some_iff.mp hi).1
      refine ((List.getElem?_inj (i := i) (j := j) (by simpa using hil) O.2.2).mp ?_).symm
      rw [List.getElem?_map, List.getElem?_map, hi, hj]
      simp [q]
  · rw [map_same _ fs j (n, d, w) (n, d, v) hj rfl]; exact O.2.2
theorem Ary.put {k : Int32} (hk : ¬ k < 0) (hl : k.toNatClampNeg < vs.length) (hv : fits ty v = true) (W : Wr h h' a k.toNatClampNeg v) (O : Ary Z h a ty z vs) : Ary Z h' a ty z (vs.set k.toNatClampNeg v) := by
  obtain ⟨⟨kc, ⟨cl, A, q1, S, q3, H, G⟩, u⟩, q⟩ := O
  exact ⟨⟨kc, Arv.set A q1 S q3 H G hv W _ rfl hl, u⟩, by rw [List.length_set]; exact q⟩
theorem Frs.obj (q : Frs n0 (ob a C fs)) : n0 ≤ a := q.elim id fun ⟨_, _, r⟩ => by cases r
theorem Frs.arr {k : Nat} (q : Frs n0 (ar a ty z vs)) (hl : k < vs.length) : n0 ≤ a := q.elim id fun ⟨_, _, r⟩ => by cases r; cases hl
theorem Hp.get (H : Hp Z n0 h D) (hi : D[i]? = some x) : Frs n0 x ∧ itm Z h x := H.2.1 _ (List.mem_of_getElem? hi)
theorem Hp.obj (H : Hp Z n0 h D) (hi : D[i]? = some (ob a C fs)) : Obj Z h a C fs := (H.get hi).2
theorem Hp.ary (H : Hp Z n0 h D) (hi : D[i]? = some (ar a ty z vs)) : Ary Z h a ty z vs := (H.get hi).2
theorem Hp.fld (H : Hp Z n0 h D) (hi : D[i]? = some (ob a C fs)) (hj : fs[j]? = some (n, d, v)) : Fld Z h a C n d v := (H.obj hi).2.1 _ (List.mem_of_getElem? hj)
theorem Hp.exa (H : Hp Z n0 h D) (hi : D[i]? = some (ob a C fs)) : Exa Z h a C := (H.obj hi).1
theorem Hp.upd (H : Hp Z n0 h D) (hi : D[i]? = some (a, I)) (hfr : n0 ≤ a) (W : Wr h h' a sl v) (q : itm Z h (a, I) → itm Z h' (a, J)) : Hp Z n0 h' (D.set i (a, J)) := by
  have hil : i < D.length := (List.getElem?_eq_some_iff.mp hi).1
  refine ⟨H.1.wr W hfr, fun x hx => ?_, ?_⟩
  · obtain ⟨k, hk⟩ := List.mem_iff_getElem?.mp hx
    by_cases e : i = k
    · subst e
      rw [List.getElem?_set_self hil] at hk
      cases hk
      exact ⟨Or.inl hfr, q (H.get hi).2⟩
    · rw [List.getElem?_set_ne e] at hk
      refine ⟨(H.get hk).1, (H.get hk).2.other W fun r => e ?_⟩
      refine (List.getElem?_inj (i := i) (j := k) (by simpa using hil) H.2.2).mp ?_
      rw [List.getElem?_map, List.getElem?_map, hi, hk]
      simp [r]
  · rw [map_same _ D i (a, I) (a, J) hi rfl]; exact H.2.2
theorem Hp.new (H : Hp Z n0 h D) (E : Ext h h') (q : itm Z h' (h.size, I)) : Hp Z n0 h' (D ++ [(h.size, I)]) := by
  have hsz : n0 ≤ h.size := by rw [← H.1.1]; exact H.1.2.1
  refine ⟨H.1.ext E, fun x hx => ?_, ?_⟩
  · rcases List.mem_append.mp hx with r | r
    · exact ⟨(H.2.1 x r).1, (H.2.1 x r).2.ext E⟩
    · cases List.mem_singleton.mp r; exact ⟨Or.inl hsz, q⟩
  · rw [List.map_append, List.nodup_append]
    refine ⟨H.2.2, by simp, fun y hy z hz => ?_⟩
    obtain ⟨x, hx, rfl⟩ := List.mem_map.mp hy
    have : z = h.size := by simpa using hz
    rw [this]
    exact Nat.ne_of_lt (H.2.1 x hx).2.lt
theorem Hp.nil (Z : State) : Hp Z Z.heap.size Z.heap [] := ⟨Old.start Z, (fun _ q => by cases q), List.nodup_nil⟩
theorem Hp.ext (H : Hp Z n0 h D) (E : Ext h h') : Hp Z n0 h' D := ⟨H.1.ext E, fun x hx => ⟨(H.2.1 x hx).1, (H.2.1 x hx).2.ext E⟩, H.2.2⟩
/-- a walk stands at T, has made so many cells and slots, has written nothing old, and its heap holds D -/
def On (p : Program) (l : Launch) (e : Env) (R : Room) (s : State) (m : MethodId) (args : Array Value) (below : List Frame) (meth : Method) (c : Code) (Z : State) (n0 : Nat) (T : State) (cells slots : Nat) (D : List (Addr × Itm)) : Prop := ∃ locs, Stand p l e R s m args below meth c T locs cells slots ∧ Fr n0 locs ∧ Hp Z n0 T.heap D
theorem On.here (Y : On p l e R s m args below meth c Z n0 T cells slots D) : At T m c below := by obtain ⟨_, X, -⟩ := Y; exact X.here
/-- what is known of the heap may be forgotten -/
theorem On.weak {D D' : List (Addr × Itm)} (Y : On p l e R s m args below meth c Z n0 T cells slots D) (q : D'.Sublist D) : On p l e R s m args below meth c Z n0 T cells slots D' := by
  obtain ⟨locs, X, N, H⟩ := Y
  exact ⟨locs, X, N, H.1, fun x hx => H.2.1 x (q.subset hx), H.2.2.sublist (q.map _)⟩
/-! ## C. One law a step -/
theorem On.getf (Y : On p l e R s m args below meth c Z n0 T cells slots D) (hx : p.tables.exec = Jvm.exec) (hZ : Z.Warmed39 s.vm) {own : String} {index : Nat} (hown : s.vm.findClass own = some m.cls) (w : (Cond.fieldLink own index C n d).before a0 Z = true) (hi : D[i]? = some (ob a C fs)) (hj : fs[j]? = some (n, d, v))
    {g : JFrame} (hg : g.method = m) {rest : List Value} (hs : g.stack = .ref a :: rest) (hd : decode c.code g.pc = .ok (.getfield index, 3)) (k : ∀ T', On p l e R s m args below meth c Z n0 T' cells slots D → Rn p e below F T' { g with pc := g.pc + 3, stack := v :: rest }) : Rn p e below F T g := by
  obtain ⟨locs, X, N, H⟩ := Y
  obtain ⟨T', X', e', st⟩ := getF X hx hZ hown (host := "") (Or.inl w) Via.refl rfl (H.fld hi hj) hg hs hd
  exact Rn.go st (k T' ⟨locs, X', N, by rw [e']; exact H⟩)
theorem On.putf (Y : On p l e R s m args below meth c Z n0 T cells slots D) (hx : p.tables.exec = Jvm.exec) (hZ : Z.Warmed39 s.vm) {own : String} {index kk : Nat} (hown : s.vm.findClass own = some m.cls) (wl : (Cond.fieldLink own index C n d).before a0 Z = true) (hi : D[i]? = some (ob a C fs)) (hj : fs[j]? = some (n, d, w))
    (L : (Cond.lays C C n d).before a0 Z = true ∨ ((Cond.laysFinal C C n d).before a0 Z = true ∧ own = C ∧ meth.name = "<init>")) (wi : (Cond.instantiable C kk).before a0 Z = true) (hty : parseFieldDescriptor d = some ty) {v v' : Value} (hn : narrow ty v = v') (hf : fits ty v' = true)
    {g : JFrame} (hg : g.method = m) {rest : List Value} (hs : g.stack = v :: .ref a :: rest) (hd : decode c.code g.pc = .ok (.putfield index, 3)) (k : ∀ T', On p l e R s m args below meth c Z n0 T' cells slots (D.set i (ob a C (fs.set j (n, d, v')))) → Rn p e below F T' { g with pc := g.pc + 3, stack := rest }) : Rn p e below F T g := by
  obtain ⟨locs, X, N, H⟩ := Y
  obtain ⟨T', h', X', e', W, st⟩ := putFN X hx hZ hown wl Via.refl rfl (H.fld hi hj) (H.exa hi) L wi hty hn hf hg hs hd
  have hfr := (H.get hi).1.obj
  refine Rn.go st (k T' ⟨_, X', Fr.snoc X' N hfr, ?_⟩)
  rw [e']
  exact H.upd hi hfr W fun O => Obj.put hj W O
theorem On.newo (Y : On p l e R s m args below meth c Z n0 T cells slots D) (hx : p.tables.exec = Jvm.exec) (hZ : Z.Warmed39 s.vm) {own : String} {index k : Nat} (hown : s.vm.findClass own = some m.cls) (w : (Cond.classLink own index C).before a0 Z = true) (wi : (Cond.instantiable C k).before a0 Z = true) (wz : (Cond.initialized C).before a0 Z = true)
    (fs : List (String × String × Value)) (hl : ∀ f ∈ fs, Laid Z a0 C C f.1 f.2.1 ∧ ∃ ty, parseFieldDescriptor f.2.1 = some ty ∧ f.2.2 = defaultValue ty) (hn : (fs.map (·.1)).Nodup)
    {g : JFrame} (hg : g.method = m) (hd : decode c.code g.pc = .ok (.new index, 3)) (hc : cells + 1 ≤ R.cells) (hs : slots + k ≤ R.slots)
    (kk : ∀ T' a, On p l e R s m args below meth c Z n0 T' (cells + 1) (slots + k) (D ++ [ob a C fs]) → Rn p e below F T' { g with pc := g.pc + 3, stack := .ref a :: g.stack }) : Rn p e below F T g := by
  obtain ⟨locs, X, N, H⟩ := Y
  obtain ⟨T', h', X', e', E, A, Df, -, st⟩ := newO X hx hZ hown w wi wz rfl hg hd hc hs
  refine Rn.go st (kk T' _ ⟨_, X', N, ?_⟩)
  rw [e']
  refine H.new E (show Obj Z h' _ C fs from ⟨A, fun f hf => ?_, ?_⟩)
  · obtain ⟨L, ty, h1, h2⟩ := hl f hf
    rw [h2]; exact Df L h1
  · rw [List.nodup_iff_pairwise_ne, List.pairwise_map] at hn ⊢
    refine List.Pairwise.imp_of_mem (fun {x y} hx hy q => ?_) hn
    obtain ⟨L, ty, h1, -⟩ := hl x hx
    obtain ⟨L', ty', h1', -⟩ := hl y hy
    exact slot_ne L L' q h1 h1'
theorem On.newp (Y : On p l e R s m args below meth c Z n0 T cells slots D) (hx : p.tables.exec = Jvm.exec) (hZ : Z.Warmed39 s.vm) {aty : ArrayType} (w : (Cond.arrayClass (newarray.typeOf aty)).before a0 Z = true) {g : JFrame} (hg : g.method = m) (hd : decode c.code g.pc = .ok (.newarray aty, 2)) {z : Int32} {rest : List Value} (hs : g.stack = .int z :: rest)
    (hn : ¬ z < 0) {cap N : Nat} (hN : z.toNatClampNeg = N) (hcap : N ≤ cap) (hb : cap * 8 ≤ 536870912) (hc : cells + 1 ≤ R.cells) (hl : slots + cap ≤ R.slots) {dv : Value} (hdv : defaultValue (newarray.typeOf aty) = dv)
    (k : ∀ T' a, On p l e R s m args below meth c Z n0 T' (cells + 1) (slots + cap) (D ++ [ar a (newarray.typeOf aty) z (List.replicate N dv)]) → Rn p e below F T' { g with pc := g.pc + 2, stack := .ref a :: rest }) : Rn p e below F T g := by
  obtain ⟨locs, X, Nl, H⟩ := Y
  subst hN hdv
  obtain ⟨T', h', cA, X', e', E, A, st⟩ := newP X hx hZ w rfl hg hd hs hn hcap hb hc hl
  refine Rn.go st (k T' _ ⟨_, X', Nl, ?_⟩)
  rw [e']
  exact H.new E (show Ary Z h' _ _ z _ from ⟨⟨_, (Arv.new A hn).pad (pad_rep [] _ _), fun C hC => by cases aty <;> cases hC⟩, by simp⟩)
theorem On.newr (Y : On p l e R s m args below meth c Z n0 T cells slots D) (hx : p.tables.exec = Jvm.exec) (hZ : Z.Warmed39 s.vm) {own : String} {index : Nat} (hown : s.vm.findClass own = some m.cls) (w1 : (Cond.classLink own index C).before a0 Z = true) (w2 : (Cond.arrayOver (.object C)).before a0 Z = true) {g : JFrame} (hg : g.method = m) (hd : decode c.code g.pc = .ok (.anewarray index, 3)) {z : Int32} {rest : List Value} (hs : g.stack = .int z :: rest)
    (hn : ¬ z < 0) {cap N : Nat} (hN : z.toNatClampNeg = N) (hcap : N ≤ cap) (hb : cap * 8 ≤ 536870912) (hc : cells + 1 ≤ R.cells) (hl : slots + cap ≤ R.slots)
    (k : ∀ T' a, On p l e R s m args below meth c Z n0 T' (cells + 1) (slots + cap) (D ++ [ar a (.object C) z (List.replicate N .null)]) → Rn p e below F T' { g with pc := g.pc + 3, stack := .ref a :: rest }) : Rn p e below F T g := by
  obtain ⟨locs, X, Nl, H⟩ := Y
  subst hN
  obtain ⟨T', h', cA, X', e', E, A, O, st⟩ := newR X hx hZ hown w1 w2 rfl hg hd hs hn hcap hb hc hl
  refine Rn.go st (k T' _ ⟨_, X', Nl, ?_⟩)
  rw [e']
  exact H.new E (show Ary Z h' _ _ z _ from ⟨⟨_, (Arv.new A hn).pad (pad_rep [] _ _), fun C' hC => by cases hC; exact O⟩, by simp⟩)
theorem On.isto (Y : On p l e R s m args below meth c Z n0 T cells slots D) (hx : p.tables.exec = Jvm.exec) (hZ : Z.Warmed39 s.vm) {xs : List Int32} (hi : D[i]? = some (ari a .int z xs)) {k x : Int32} (hk : ¬ k < 0) (hl : k.toNatClampNeg < xs.length)
    {g : JFrame} (hg : g.method = m) {rest : List Value} (hs : g.stack = .int x :: .int k :: .ref a :: rest) (hd : decode c.code g.pc = .ok (.iastore, 1))
    (kk : ∀ T', On p l e R s m args below meth c Z n0 T' cells slots (D.set i (ari a .int z (xs.set k.toNatClampNeg x))) → Rn p e below F T' { g with pc := g.pc + 1, stack := rest }) : Rn p e below F T g := by
  obtain ⟨locs, X, N, H⟩ := Y
  obtain ⟨⟨kc, ⟨cl, A, q1, S, q3, Hh, G⟩, -⟩, q⟩ := H.ary hi
  have hl' : k.toNatClampNeg < (xs.map Value.int).length := by simpa using hl
  obtain ⟨T', h', X', e', W, st⟩ := stI X hx hZ rfl A (fun r => r.elim hk fun r => absurd hl' (by rw [q, ← S]; exact Nat.not_lt.mpr r)) hg hs hd
  have hfr := (H.get hi).1.arr hl'
  refine Rn.go st (kk T' ⟨_, X', Fr.snoc X' N hfr, ?_⟩)
  rw [e']
  refine H.upd hi hfr W fun O => ?_
  have := Ary.put hk hl' rfl W O
  rw [← List.map_set] at this
  exact this
theorem On.bsto (Y : On p l e R s m args below meth c Z n0 T cells slots D) (hx : p.tables.exec = Jvm.exec) (hZ : Z.Warmed39 s.vm) {xs : List Int32} (hi : D[i]? = some (ari a .byte z xs)) {k x : Int32} (hk : ¬ k < 0) (hl : k.toNatClampNeg < xs.length)
    {g : JFrame} (hg : g.method = m) {rest : List Value} (hs : g.stack = .int x :: .int k :: .ref a :: rest) (hd : decode c.code g.pc = .ok (.bastore, 1))
    (kk : ∀ T', On p l e R s m args below meth c Z n0 T' cells slots (D.set i (ari a .byte z (xs.set k.toNatClampNeg x.toInt8.toInt32))) → Rn p e below F T' { g with pc := g.pc + 1, stack := rest }) : Rn p e below F T g := by
  obtain ⟨locs, X, N, H⟩ := Y
  obtain ⟨⟨kc, ⟨cl, A, q1, S, q3, Hh, G⟩, -⟩, q⟩ := H.ary hi
  have hl' : k.toNatClampNeg < (xs.map Value.int).length := by simpa using hl
  obtain ⟨T', h', X', e', W, st⟩ := stB X hx hZ rfl A (fun r => r.elim hk fun r => absurd hl' (by rw [q, ← S]; exact Nat.not_lt.mpr r)) hg hs hd
  have hfr := (H.get hi).1.arr hl'
  refine Rn.go st (kk T' ⟨_, X', Fr.snoc X' N hfr, ?_⟩)
  rw [e']
  refine H.upd hi hfr W fun O => ?_
  have := Ary.put hk hl' (fits_nar_byte _) W O
  rw [← List.map_set] at this
  exact this
theorem On.zsto (Y : On p l e R s m args below meth c Z n0 T cells slots D) (hx : p.tables.exec = Jvm.exec) (hZ : Z.Warmed39 s.vm) {xs : List Int32} (hi : D[i]? = some (ari a .boolean z xs)) {k x : Int32} (hk : ¬ k < 0) (hl : k.toNatClampNeg < xs.length)
    {g : JFrame} (hg : g.method = m) {rest : List Value} (hs : g.stack = .int x :: .int k :: .ref a :: rest) (hd : decode c.code g.pc = .ok (.bastore, 1))
    (kk : ∀ T', On p l e R s m args below meth c Z n0 T' cells slots (D.set i (ari a .boolean z (xs.set k.toNatClampNeg (x &&& 1)))) → Rn p e below F T' { g with pc := g.pc + 1, stack := rest }) : Rn p e below F T g := by
  obtain ⟨locs, X, N, H⟩ := Y
  obtain ⟨⟨kc, ⟨cl, A, q1, S, q3, Hh, G⟩, -⟩, q⟩ := H.ary hi
  have hl' : k.toNatClampNeg < (xs.map Value.int).length := by simpa using hl
  obtain ⟨T', h', X', e', W, st⟩ := stZ X hx hZ rfl A (fun r => r.elim hk fun r => absurd hl' (by rw [q, ← S]; exact Nat.not_lt.mpr r)) hg hs hd
  have hfr := (H.get hi).1.arr hl'
  refine Rn.go st (kk T' ⟨_, X', Fr.snoc X' N hfr, ?_⟩)
  rw [e']
  refine H.upd hi hfr W fun O => ?_
  have := Ary.put hk hl' (fits_nar_bool _) W O
  rw [← List.map_set] at this
  exact this
theorem On.jsto (Y : On p l e R s m args below meth c Z n0 T cells slots D) (hx : p.tables.exec = Jvm.exec) (hZ : Z.Warmed39 s.vm) {xs : List Int64} (hi : D[i]? = some (arj a z xs)) {k : Int32} {x : Int64} (hk : ¬ k < 0) (hl : k.toNatClampNeg < xs.length)
    {g : JFrame} (hg : g.method = m) {rest : List Value} (hs : g.stack = .long x :: .int k :: .ref a :: rest) (hd : decode c.code g.pc = .ok (.lastore, 1))
    (kk : ∀ T', On p l e R s m args below meth c Z n0 T' cells slots (D.set i (arj a z (xs.set k.toNatClampNeg x))) → Rn p e below F T' { g with pc := g.pc + 1, stack := rest }) : Rn p e below F T g := by
  obtain ⟨locs, X, N, H⟩ := Y
  obtain ⟨⟨kc, ⟨cl, A, q1, S, q3, Hh, G⟩, -⟩, q⟩ := H.ary hi
  have hl' : k.toNatClampNeg < (xs.map Value.long).length := by simpa using hl
  obtain ⟨T', h', X', e', W, st⟩ := stJ X hx hZ rfl A (fun r => r.elim hk fun r => absurd hl' (by rw [q, ← S]; exact Nat.not_lt.mpr r)) hg hs hd
  have hfr := (H.get hi).1.arr hl'
  refine Rn.go st (kk T' ⟨_, X', Fr.snoc X' N hfr, ?_⟩)
  rw [e']
  refine H.upd hi hfr W fun O => ?_
  have := Ary.put hk hl' rfl W O
  rw [← List.map_set] at this
  exact this
/-- the cell of an array, opened for a load -/
theorem Ary.at (O : Ary Z h a ty z vs) {k : Int32} (hk : ¬ k < 0) (hv : vs[k.toNatClampNeg]? = some v) : ∃ cl, Arr Z h a cl ty ∧ ¬ (k < 0 ∨ cl.slots.size ≤ k.toNatClampNeg) ∧ cl.slots[k.toNatClampNeg]? = some v := by
  obtain ⟨⟨kc, ⟨cl, A, q1, S, q3, H, G⟩, -⟩, q⟩ := O
  have hl := (List.getElem?_eq_some_iff.mp hv).1
  have hl2 : k.toNatClampNeg < cl.slots.size := by rw [S, ← q]; exact hl
  exact ⟨cl, A, fun r => r.elim hk (Nat.not_le.mpr hl2), by rw [H _ hl2, List.getD_eq_getElem?_getD, hv]; rfl⟩
theorem On.ild (Y : On p l e R s m args below meth c Z n0 T cells slots D) (hx : p.tables.exec = Jvm.exec) (hZ : Z.Warmed39 s.vm) {xs : List Int32} (hi : D[i]? = some (ari a .int z xs)) {k x : Int32} (hk : ¬ k < 0) (hv : xs[k.toNatClampNeg]? = some x)
    {g : JFrame} (hg : g.method = m) {rest : List Value} (hs : g.stack = .int k :: .ref a :: rest) (hd : decode c.code g.pc = .ok (.iaload, 1))
    (kk : Rn p e below F T { g with pc := g.pc + 1, stack := .int x :: rest }) : Rn p e below F T g := by
  obtain ⟨locs, X, N, H⟩ := Y
  obtain ⟨cl, A, h1, h2⟩ := (H.ary hi).at (v := .int x) hk (by simp [List.getElem?_map, hv])
  exact Rn.go (fun t kt => X.iaload hx A.1 (State.isArrayOf_alike hZ.alike A.2.1) A.2.2 h1 h2 hg hs hd t kt) kk
theorem On.bld (Y : On p l e R s m args below meth c Z n0 T cells slots D) (hx : p.tables.exec = Jvm.exec) (hZ : Z.Warmed39 s.vm) {xs : List Int32} (hi : D[i]? = some (ari a .byte z xs)) {k x : Int32} (hk : ¬ k < 0) (hv : xs[k.toNatClampNeg]? = some x)
    {g : JFrame} (hg : g.method = m) {rest : List Value} (hs : g.stack = .int k :: .ref a :: rest) (hd : decode c.code g.pc = .ok (.baload, 1))
    (kk : Rn p e below F T { g with pc := g.pc + 1, stack := .int x :: rest }) : Rn p e below F T g := by
  obtain ⟨locs, X, N, H⟩ := Y
  obtain ⟨cl, A, h1, h2⟩ := (H.ary hi).at (v := .int x) hk (by simp [List.getElem?_map, hv])
  exact Rn.go (fun t kt => X.baloadBytes hx A.1 (State.isArrayOf_alike hZ.alike A.2.1) A.2.2 h1 h2 hg hs hd t kt) kk
theorem On.zld (Y : On p l e R s m args below meth c Z n0 T cells slots D) (hx : p.tables.exec = Jvm.exec) (hZ : Z.Warmed39 s.vm) {xs : List Int32} (hi : D[i]? = some (ari a .boolean z xs)) {k x : Int32} (hk : ¬ k < 0) (hv : xs[k.toNatClampNeg]? = some x)
    {g : JFrame} (hg : g.method = m) {rest : List Value} (hs : g.stack = .int k :: .ref a :: rest) (hd : decode c.code g.pc = .ok (.baload, 1))
    (kk : Rn p e below F T { g with pc := g.pc + 1, stack := .int x :: rest }) : Rn p e below F T g := by
  obtain ⟨locs, X, N, H⟩ := Y
  obtain ⟨cl, A, h1, h2⟩ := (H.ary hi).at (v := .int x) hk (by simp [List.getElem?_map, hv])
  exact Rn.go (fun t kt => X.baloadBooleans hx A.1 (State.isArrayOf_alike hZ.alike A.2.1) A.2.2 h1 h2 hg hs hd t kt) kk
theorem On.jld (Y : On p l e R s m args below meth c Z n0 T cells slots D) (hx : p.tables.exec = Jvm.exec) (hZ : Z.Warmed39 s.vm) {xs : List Int64} (hi : D[i]? = some (arj a z xs)) {k : Int32} {x : Int64} (hk : ¬ k < 0) (hv : xs[k.toNatClampNeg]? = some x)
    {g : JFrame} (hg : g.method = m) {rest : List Value} (hs : g.stack = .int k :: .ref a :: rest) (hd : decode c.code g.pc = .ok (.laload, 1))
    (kk : Rn p e below F T { g with pc := g.pc + 1, stack := .long x :: rest }) : Rn p e below F T g := by
  obtain ⟨locs, X, N, H⟩ := Y
  obtain ⟨cl, A, h1, h2⟩ := (H.ary hi).at (v := .long x) hk (by simp [List.getElem?_map, hv])
  exact Rn.go (fun t kt => X.laload hx A.1 (State.isArrayOf_alike hZ.alike A.2.1) A.2.2 h1 h2 hg hs hd t kt) kk
theorem On.alen (Y : On p l e R s m args below meth c Z n0 T cells slots D) (hx : p.tables.exec = Jvm.exec) (hZ : Z.Warmed39 s.vm) (hi : D[i]? = some (ar a ty z vs))
    {g : JFrame} (hg : g.method = m) {rest : List Value} (hs : g.stack = .ref a :: rest) (hd : decode c.code g.pc = .ok (.arraylength, 1))
    (kk : Rn p e below F T { g with pc := g.pc + 1, stack := .int z :: rest }) : Rn p e below F T g := by
  obtain ⟨locs, X, N, H⟩ := Y
  obtain ⟨⟨kc, ⟨cl, A, q1, S, q3, Hh, G⟩, -⟩, q⟩ := H.ary hi
  refine Rn.go (fun t kt => X.arraylength hx A.1 (State.isArrayOf_alike hZ.alike A.2.1) hg hs hd t kt) ?_
  rw [len_of S q3]; exact kk
theorem On.ldcI (Y : On p l e R s m args below meth c Z n0 T cells slots D) (hx : p.tables.exec = Jvm.exec) (hZ : Z.Warmed39 s.vm) {own : String} {index : Nat} {x : Int32} (hown : s.vm.findClass own = some m.cls) (w : (Cond.constant own index x).before a0 Z = true)
    {g : JFrame} (hg : g.method = m) (hd : decode c.code g.pc = .ok (.ldc index, 2)) (kk : Rn p e below F T { g with pc := g.pc + 2, stack := .int x :: g.stack }) : Rn p e below F T g := by
  obtain ⟨locs, X, N, H⟩ := Y
  exact Rn.go (X.ldcInt hx hown (mvT hZ w) hg hd) kk
theorem On.ldcJ (Y : On p l e R s m args below meth c Z n0 T cells slots D) (hx : p.tables.exec = Jvm.exec) (hZ : Z.Warmed39 s.vm) {own : String} {index : Nat} {x : Int64} (hown : s.vm.findClass own = some m.cls) (w : (Cond.constantLong own index x).before a0 Z = true)
    {g : JFrame} (hg : g.method = m) (hd : decode c.code g.pc = .ok (.ldc2_w index, 3)) (kk : Rn p e below F T { g with pc := g.pc + 3, stack := .long x :: g.stack }) : Rn p e below F T g := by
  obtain ⟨locs, X, N, H⟩ := Y
  exact Rn.go (X.ldc2Long hx hown (mvT hZ w) hg hd) kk
theorem On.sldcI (Y : On p l e R s m args below meth c Z n0 T cells slots D) (hx : p.tables.exec = Jvm.exec) (hZ : Z.Warmed39 s.vm) {own : String} {index : Nat} {x : Int32} (hown : s.vm.findClass own = some m.cls) (w : (Cond.constant own index x).before a0 Z = true)
    {g : JFrame} (hg : g.method = m) (hd : decode c.code g.pc = .ok (.ldc index, 2)) : ∀ t, Steps p.tables e below (T.setTop { g with pc := g.pc + 2, stack := .int x :: g.stack }) t → Steps p.tables e below (T.setTop g) t := by
  obtain ⟨locs, X, N, H⟩ := Y
  exact X.ldcInt hx hown (mvT hZ w) hg hd
theorem On.sldcJ (Y : On p l e R s m args below meth c Z n0 T cells slots D) (hx : p.tables.exec = Jvm.exec) (hZ : Z.Warmed39 s.vm) {own : String} {index : Nat} {x : Int64} (hown : s.vm.findClass own = some m.cls) (w : (Cond.constantLong own index x).before a0 Z = true)
    {g : JFrame} (hg : g.method = m) (hd : decode c.code g.pc = .ok (.ldc2_w index, 3)) : ∀ t, Steps p.tables e below (T.setTop { g with pc := g.pc + 3, stack := .long x :: g.stack }) t → Steps p.tables e below (T.setTop g) t := by
  obtain ⟨locs, X, N, H⟩ := Y
  exact X.ldc2Long hx hown (mvT hZ w) hg hd
theorem On.ini (Y : On p l e R s m args below meth c Z n0 T cells slots D) (hx : p.tables.exec = Jvm.exec) (hZ : Z.Warmed39 s.vm) {own : String} {idx : Nat} (hown : s.vm.findClass own = some m.cls) (w1 : (Cond.methodLink own idx Lib.objectInit).before a0 Z = true) (w2 : (Cond.instanceMethod Lib.objectInit).before a0 Z = true)
    (w3 : (Cond.code Lib.objectInit ⟨#[0xb1]⟩ 1 none).before a0 Z = true) {g : JFrame} (hg : g.method = m) (hsize : g.locals.size = c.maxLocals) {a : Addr} {rest : List Value} (hs : g.stack = .ref a :: rest) (hd : decode c.code g.pc = .ok (.invokespecial idx, 3))
    (hf : 1 ≤ R.frames) {W : Nat} (hW : 2 * g.monitorRoom + (rest.map fun v => v.category).sum ≤ W) (hl : W + 12 ≤ R.locals)
    (k : ∀ T', On p l e R s m args below meth c Z n0 T' cells slots D → Rn p e below F T' { g with pc := g.pc + 3, stack := rest }) : Rn p e below F T g := by
  obtain ⟨locs, X, N, H⟩ := Y
  obtain ⟨T', X', e', st⟩ := initO X hx hZ hown w1 w2 w3 rfl hg hsize hs hd hf hW hl
  exact Rn.go st (k T' ⟨locs, X', N, by rw [e']; exact H⟩)
/-! ## D. A method's contract: from a heap that holds D, with these arguments, it returns v and leaves a heap that holds D', where P v D' -/
def QP (Z : State) (n0 : Nat) (P : Option Value → List (Addr × Itm) → Prop) (v : Option Value) (h : Heap) (L : List Loc) : Prop := ∃ D', P v D' ∧ Fr n0 L ∧ Hp Z n0 h D'
def Con (l : Launch) (Z : State) (n0 : Nat) (y : MethodName) (bytes : ByteArray) (maxL : Nat) (ret : Option FieldType) (rm : Room) (as : Array Value) (D : List (Addr × Itm)) (P : Option Value → List (Addr × Itm) → Prop) : Prop :=
  ∀ (ws : List Cond) (h0 : Heap), Hp Z n0 h0 D → MetFree l y (head1 (Cond.code y bytes maxL ret :: ws) rm) (fun a U => a = as ∧ Z.Warmed39 U.vm ∧ U.heap = h0) (fun _ _ _ _ _ => True) (fun _ U o U' => ∃ v L, o = .returned v ∧ QP Z n0 P v U'.heap L ∧ FrameEnd U o U' L rm.cells rm.slots)
def Cx (p : Program) (s : State) (m : MethodId) (meth : Method) (c : Code) (Z : State) (y : MethodName) (bytes : ByteArray) (maxL : Nat) (ret : Option FieldType) : Prop :=
  p.tables.exec = Jvm.exec ∧ c.code = bytes ∧ c.maxLocals = maxL ∧ s.vm.findClass y.cls = some m.cls ∧ meth.name = y.name ∧ meth.sig.returnType = ret ∧ meth.locks = false ∧ Z.Warmed39 s.vm
def Fi (Z : State) (n0 : Nat) (below : List Frame) (s : State) (kc ks : Nat) (P : Option Value → List (Addr × Itm) → Prop) (U : State) : Prop := ∃ o, U.status = .running ∧ Ended U below o ∧ ∃ v L, o = .returned v ∧ QP Z n0 P v U.heap L ∧ FrameEnd s o U L kc ks
variable {y : MethodName} {bytes : ByteArray} {maxL : Nat} {ret : Option FieldType} {rm : Room} {as : Array Value} {P : Option Value → List (Addr × Itm) → Prop} {kc ks : Nat}
theorem Con.of (hp : plainFor y = true) (body : ∀ {p : Program} {e : Env} {s : State} {m : MethodId} {below : List Frame} {meth : Method} {c : Code} {T : State}, Cx p s m meth c Z y bytes maxL ret → On p l e rm s m as below meth c Z n0 T 0 0 D → Rn p e below (Fi Z n0 below s rm.cells rm.slots P) T (entryFrame m as maxL)) :
    Con l Z n0 y bytes maxL ret rm as D P := by
  intro ws h0 H
  refine MetFree.of_bodySF hp hisR ?_
  intro p e s m args below meth c s₁ Bd hml0 hP hK
  obtain ⟨rfl, hZ, hh⟩ := hP
  have X0 : Stand p l e rm s m args below meth c s₁ [] 0 0 := Stand.of_body Bd
  have e0 : s₁.heap = h0 := by rw [← hh, Bd.state]; rfl
  obtain ⟨U, h1, o, h2, h3, h4⟩ := body ⟨Bd.exec, Bd.bytes, hml0, findClass_of_methodNamed Bd.named, (name_of_methodNamed Bd.named Bd.method).1, Bd.returns, Bd.notSynchronized, hZ⟩ ⟨[], X0, Fr.nil n0, by rw [e0]; exact H⟩
  exact ⟨U, o, h1, h2, h3, h4⟩
theorem On.out (Y : On p l e R s m args below meth c Z n0 T cells slots D) {v : Option Value} (hv : meth.sig.returnType = none → v = none) (hlk : meth.locks = false) (hc : cells ≤ kc) (hs : slots ≤ ks) (hP : P v D)
    (st : ∀ locs fs, Stand p l e R s m args below meth c T locs cells slots → (∀ (f : JFrame) (acts : List Action), f.method = m → f.locked = none → f.entered = [] → (doReturn e (T.setTop f) acts v).1 = T.setFrames fs) → Steps p.tables e below (T.setTop g) (T.setFrames fs)) : Rn p e below (Fi Z n0 below s kc ks P) T g := by
  obtain ⟨locs, X, N, H⟩ := Y
  obtain ⟨fs, hr, hrun, hended, hW, hsame⟩ := X.leave hv hlk
  exact ⟨_, st locs fs X hr, _, hrun, hended, _, _, rfl, ⟨D, hP, N, H⟩, ⟨_, rfl⟩, hW, hsame.mono hc hs⟩
theorem On.retv (Y : On p l e R s m args below meth c Z n0 T cells slots D) (hx : p.tables.exec = Jvm.exec) (hret : meth.sig.returnType = none) (hlk : meth.locks = false) {pc : Nat} {Ls : Array Slot} (hd : decode c.code pc = .ok (.return_, 1)) (hc : cells ≤ kc) (hs : slots ≤ ks) (hP : P none D) : Rn p e below (Fi Z n0 below s kc ks P) T (mkF m pc Ls []) :=
  Y.out (fun _ => rfl) hlk hc hs hP fun locs fs X hr => X.returnOut hx hret hd hr
theorem On.reti (Y : On p l e R s m args below meth c Z n0 T cells slots D) (hx : p.tables.exec = Jvm.exec) (hret : meth.sig.returnType = some .int) (hlk : meth.locks = false) {pc : Nat} {Ls : Array Slot} {z : Int32} {rest : List Value} (hd : decode c.code pc = .ok (.ireturn, 1)) (hc : cells ≤ kc) (hs : slots ≤ ks) (hP : P (some (.int z)) D) : Rn p e below (Fi Z n0 below s kc ks P) T (mkF m pc Ls (.int z :: rest)) :=
  Y.out (fun q => by rw [hret] at q; cases q) hlk hc hs hP fun locs fs X hr => retOut X hx hret rfl (Or.inl ⟨rfl, Or.inl rfl, _, rfl⟩) hd hr
theorem On.retn (Y : On p l e R s m args below meth c Z n0 T cells slots D) (hx : p.tables.exec = Jvm.exec) {t : FieldType} (hret : meth.sig.returnType = some t) (ht : t = .boolean ∨ t = .byte ∨ t = .char ∨ t = .short) (hlk : meth.locks = false) {pc : Nat} {Ls : Array Slot} {z z' : Int32} (hz : nar t z = z') {rest : List Value} (hd : decode c.code pc = .ok (.ireturn, 1)) (hc : cells ≤ kc) (hs : slots ≤ ks) (hP : P (some (.int z')) D) : Rn p e below (Fi Z n0 below s kc ks P) T (mkF m pc Ls (.int z :: rest)) := by
  subst hz
  exact Y.out (fun q => by rw [hret] at q; cases q) hlk hc hs hP fun locs fs X hr => retN X hx hret ht hd hr
theorem On.retj (Y : On p l e R s m args below meth c Z n0 T cells slots D) (hx : p.tables.exec = Jvm.exec) (hret : meth.sig.returnType = some .long) (hlk : meth.locks = false) {pc : Nat} {Ls : Array Slot} {z : Int64} {rest : List Value} (hd : decode c.code pc = .ok (.lreturn, 1)) (hc : cells ≤ kc) (hs : slots ≤ ks) (hP : P (some (.long z)) D) : Rn p e below (Fi Z n0 below s kc ks P) T (mkF m pc Ls (.long z :: rest)) :=
  Y.out (fun q => by rw [hret] at q; cases q) hlk hc hs hP fun locs fs X hr => retOut X hx hret rfl (Or.inr (Or.inl ⟨rfl, rfl, _, rfl⟩)) hd hr
theorem On.reta (Y : On p l e R s m args below meth c Z n0 T cells slots D) (hx : p.tables.exec = Jvm.exec) {t : FieldType} (hret : meth.sig.returnType = some t) (ht : t.isReference = true) (hlk : meth.locks = false) {pc : Nat} {Ls : Array Slot} {z : Value} (hz : z.isRef = true) (hn : narrow t z = z) {rest : List Value} (hd : decode c.code pc = .ok (.areturn, 1)) (hc : cells ≤ kc) (hs : slots ≤ ks) (hP : P (some z) D) : Rn p e below (Fi Z n0 below s kc ks P) T (mkF m pc Ls (z :: rest)) :=
  Y.out (fun q => by rw [hret] at q; cases q) hlk hc hs hP fun locs fs X hr => retOut X hx hret hn (Or.inr (Or.inr (Or.inr (Or.inr ⟨rfl, ht, hz⟩)))) hd hr
/-! ## E. Calls -/
theorem On.special (Y : On p l e R s m args below meth c Z n0 T cells slots D) (hx : p.tables.exec = Jvm.exec) (hZ : Z.Warmed39 s.vm) {own : String} {index : Nat} (hy1 : y.name = "<init>") (hown : s.vm.findClass own = some m.cls) (w1 : (Cond.methodLink own index y).before a0 Z = true) (w2 : (Cond.instanceMethod y).before a0 Z = true) (w3 : (Cond.code y bytes maxL none).before a0 Z = true) (w4 : (Cond.initialized y.cls).before a0 Z = true)
    (hy : y.cls ≠ "java/lang/invoke/MethodHandle" ∧ y.cls ≠ "java/lang/invoke/VarHandle") {a : Addr} {argsL rest : List Value} (K : Con l Z n0 y bytes maxL none rm (.ref a :: argsL).toArray D P)
    {W : Nat} (hf : rm.frames + 1 ≤ R.frames) (hl : W + (maxL + 11) + rm.locals ≤ R.locals) (hc : cells + rm.cells ≤ R.cells) (hs : slots + rm.slots ≤ R.slots)
    {g : JFrame} (hg : g.method = m) (hsize : g.locals.size = c.maxLocals) (hlen : ∀ sig, parseMethodDescriptor y.desc = some sig → argsL.length = sig.parameters.length) (hstack : g.stack = argsL.reverse ++ .ref a :: rest) (hW : 2 * g.monitorRoom + (rest.map fun v => v.category).sum ≤ W) (hd : decode c.code g.pc = .ok (.invokespecial index, 3))
    (k : ∀ T' v D', P v D' → On p l e R s m args below meth c Z n0 T' (cells + rm.cells) (slots + rm.slots) D' → Rn p e below F T' { g with pc := g.pc + 3, stack := v.toList ++ rest }) : Rn p e below F T g := by
  obtain ⟨locs, X, N, H⟩ := Y
  obtain ⟨v, _, ⟨T', L', k', n'⟩, -, X', ⟨Lc, hQ, l', y', z'⟩, st⟩ := X.specialBack hx hy1 hown (mvT hZ w1) (mvT hZ w2) (mvT hZ w3) hy (backOf (W := W) (K [] T.heap H) hZ w3 w4 hf hl) hg hsize (Steps.refl _) (a := a) (argsL := argsL) (rest := rest) hlen hstack hW hd (fun _ _ => ⟨rfl, rfl, hc, hs⟩)
  dsimp only [Pt.U, Pt.locs, Pt.cells, Pt.slots] at X' l' y' z' st hQ
  subst l' y' z'
  obtain ⟨D', hP, N', H'⟩ := hQ
  exact Rn.to st (k T' v D' hP ⟨_, X', Fr.app N N', H'⟩)
theorem On.virtual (Y : On p l e R s m args below meth c Z n0 T cells slots D) (hx : p.tables.exec = Jvm.exec) (hZ : Z.Warmed39 s.vm) {own : String} {index : Nat} (hown : s.vm.findClass own = some m.cls) (w1 : (Cond.methodLink own index y).before a0 Z = true) (w2 : (Cond.declares y).before a0 Z = true) (w3 : (Cond.instanceMethod y).before a0 Z = true) (w4 : (Cond.selects C y y).before a0 Z = true) (w5 : (Cond.code y bytes maxL ret).before a0 Z = true) (w6 : (Cond.initialized y.cls).before a0 Z = true)
    (hy : y.cls ≠ "java/lang/invoke/MethodHandle" ∧ y.cls ≠ "java/lang/invoke/VarHandle") {a : Addr} {argsL rest : List Value} (hi : D[i]? = some (ob a C fs)) (K : Con l Z n0 y bytes maxL ret rm (.ref a :: argsL).toArray D P)
    {W : Nat} (hf : rm.frames + 1 ≤ R.frames) (hl : W + (maxL + 11) + rm.locals ≤ R.locals) (hc : cells + rm.cells ≤ R.cells) (hs : slots + rm.slots ≤ R.slots)
    {g : JFrame} (hg : g.method = m) (hsize : g.locals.size = c.maxLocals) (hlen : ∀ sig, parseMethodDescriptor y.desc = some sig → argsL.length = sig.parameters.length) (hstack : g.stack = argsL.reverse ++ .ref a :: rest) (hW : 2 * g.monitorRoom + (rest.map fun v => v.category).sum ≤ W) (hd : decode c.code g.pc = .ok (.invokevirtual index, 3))
    (k : ∀ T' v D', P v D' → On p l e R s m args below meth c Z n0 T' (cells + rm.cells) (slots + rm.slots) D' → Rn p e below F T' { g with pc := g.pc + 3, stack := v.toList ++ rest }) : Rn p e below F T g := by
  obtain ⟨locs, X, N, H⟩ := Y
  obtain ⟨cq, kq, qa, qb, qc⟩ := isOf hZ rfl (H.exa hi)
  obtain ⟨v, _, ⟨T', L', k', n'⟩, -, X', ⟨Lc, hQ, l', y', z'⟩, st⟩ := X.virtualBack hx (y := y) (z := y) hown (mvT hZ w1) (mvT hZ w2) (notFace_of_selects (args := #[]) (mvT hZ w4)) (mvT hZ w4) (mvT hZ w3) hy (backOf (W := W) (K [] T.heap H) hZ w5 w6 hf hl) qa qc hg hsize (Steps.refl _) (argsL := argsL) (rest := rest) hlen hstack hW hd (fun _ _ => ⟨rfl, rfl, hc, hs⟩)
  dsimp only [Pt.U, Pt.locs, Pt.cells, Pt.slots] at X' l' y' z' st hQ
  subst l' y' z'
  obtain ⟨D', hP, N', H'⟩ := hQ
  exact Rn.to st (k T' v D' hP ⟨_, X', Fr.app N N', H'⟩)
theorem On.static (Y : On p l e R s m args below meth c Z n0 T cells slots D) (hx : p.tables.exec = Jvm.exec) (hZ : Z.Warmed39 s.vm) {own : String} {index : Nat} (hown : s.vm.findClass own = some m.cls) (w1 : (Cond.methodLink own index y).before a0 Z = true) (w2 : (Cond.static y).before a0 Z = true) (w3 : (Cond.code y bytes maxL ret).before a0 Z = true) (w4 : (Cond.initialized y.cls).before a0 Z = true)
    (hy : y.cls ≠ "java/lang/invoke/MethodHandle" ∧ y.cls ≠ "java/lang/invoke/VarHandle") {argsL rest : List Value} (K : Con l Z n0 y bytes maxL ret rm argsL.toArray D P)
    {W : Nat} (hf : rm.frames + 1 ≤ R.frames) (hl : W + (maxL + 11) + rm.locals ≤ R.locals) (hc : cells + rm.cells ≤ R.cells) (hs : slots + rm.slots ≤ R.slots)
    {g : JFrame} (hg : g.method = m) (hsize : g.locals.size = c.maxLocals) (hlen : ∀ sig, parseMethodDescriptor y.desc = some sig → argsL.length = sig.parameters.length) (hstack : g.stack = argsL.reverse ++ rest) (hW : 2 * g.monitorRoom + (rest.map fun v => v.category).sum ≤ W) (hd : decode c.code g.pc = .ok (.invokestatic index, 3))
    (k : ∀ T' v D', P v D' → On p l e R s m args below meth c Z n0 T' (cells + rm.cells) (slots + rm.slots) D' → Rn p e below F T' { g with pc := g.pc + 3, stack := v.toList ++ rest }) : Rn p e below F T g := by
  obtain ⟨locs, X, N, H⟩ := Y
  obtain ⟨v, _, ⟨T', L', k', n'⟩, -, X', ⟨Lc, hQ, l', y', z'⟩, st⟩ := Jvm.LawKit.callS X hx hown (mvT hZ w1) (mvT hZ w2) (mvT hZ w4) (mvT hZ w3) hy (backOf (W := W) (K [] T.heap H) hZ w3 w4 hf hl) hg hsize (argsL := argsL) (rest := rest) hlen hstack hW hd (fun _ _ => ⟨rfl, rfl, hc, hs⟩)
  dsimp only [Pt.U, Pt.locs, Pt.cells, Pt.slots] at X' l' y' z' st hQ
  subst l' y' z'
  obtain ⟨D', hP, N', H'⟩ := hQ
  exact Rn.go st (k T' v D' hP ⟨_, X', Fr.app N N', H'⟩)
theorem On.priv (Y : On p l e R s m args below meth c Z n0 T cells slots D) (hx : p.tables.exec = Jvm.exec) (hZ : Z.Warmed39 s.vm) {own : String} {index kk : Nat} (hown : s.vm.findClass own = some m.cls) (w1 : (Cond.methodLink own index y).before a0 Z = true) (w2 : (Cond.instanceMethod y).before a0 Z = true) (w3 : (Cond.privateMethod y).before a0 Z = true) (wi : (Cond.instantiable y.cls kk).before a0 Z = true) (w4 : (Cond.code y bytes maxL ret).before a0 Z = true) (w5 : (Cond.initialized y.cls).before a0 Z = true)
    (hy : y.cls ≠ "java/lang/invoke/MethodHandle" ∧ y.cls ≠ "java/lang/invoke/VarHandle") {a : Addr} {argsL rest : List Value} (hi : D[i]? = some (ob a C fs)) (K : Con l Z n0 y bytes maxL ret rm (.ref a :: argsL).toArray D P)
    {W : Nat} (hf : rm.frames + 1 ≤ R.frames) (hl : W + (maxL + 11) + rm.locals ≤ R.locals) (hc : cells + rm.cells ≤ R.cells) (hs : slots + rm.slots ≤ R.slots)
    {g : JFrame} (hg : g.method = m) (hsize : g.locals.size = c.maxLocals) (hlen : ∀ sig, parseMethodDescriptor y.desc = some sig → argsL.length = sig.parameters.length) (hstack : g.stack = argsL.reverse ++ .ref a :: rest) (hW : 2 * g.monitorRoom + (rest.map fun v => v.category).sum ≤ W) (hd : decode c.code g.pc = .ok (.invokevirtual index, 3))
    (k : ∀ T' v D', P v D' → On p l e R s m args below meth c Z n0 T' (cells + rm.cells) (slots + rm.slots) D' → Rn p e below F T' { g with pc := g.pc + 3, stack := v.toList ++ rest }) : Rn p e below F T g := by
  obtain ⟨locs, X, N, H⟩ := Y
  have hp : s.PrivateAt y := Cond.privateMethod_at (mvP hZ w3 (args := #[]))
  have wi' : (Cond.instantiable y.cls kk).before args s = true := mvT hZ wi
  obtain ⟨cc, kc, i1, i2, -, i4, -⟩ := Cond.instantiable_spec wi'
  have hsel : (Cond.selects y.cls y y).before args s = true := selects_self_of_private i1 i2 (by simp at i4; exact i4.1) hp (mvT hZ w2) hy
  obtain ⟨cq, q, q'⟩ := (H.exa hi).cell
  obtain ⟨v, _, ⟨T', L', k', n'⟩, -, X', ⟨Lc, hQ, l', y', z'⟩, st⟩ := X.privateBack hx (y := y) hown (mvT hZ w1) (mvT hZ w2) hsel hp (mvT hZ w4) hy (backOf (W := W) (K [] T.heap H) hZ w4 w5 hf hl) hg hsize (Steps.refl _) (a := a) q q' (argsL := argsL) (rest := rest) hlen hstack hW hd (fun _ _ => ⟨rfl, rfl, hc, hs⟩)
  dsimp only [Pt.U, Pt.locs, Pt.cells, Pt.slots] at X' l' y' z' st hQ
  subst l' y' z'
  obtain ⟨D', hP, N', H'⟩ := hQ
  exact Rn.to st (k T' v D' hP ⟨_, X', Fr.app N N', H'⟩)
theorem On.insY (Y : On p l e R s m args below meth c Z n0 T cells slots D) (hx : p.tables.exec = Jvm.exec) (hZ : Z.Warmed39 s.vm) {own : String} {index : Nat} (hown : s.vm.findClass own = some m.cls) (w : (Cond.classLink own index C).before a0 Z = true) (hi : D[i]? = some (ob a C fs))
    {g : JFrame} (hg : g.method = m) {rest : List Value} (hs : g.stack = .ref a :: rest) (hd : decode c.code g.pc = .ok (.instanceof index, 3)) (k : ∀ T', On p l e R s m args below meth c Z n0 T' cells slots D → Rn p e below F T' { g with pc := g.pc + 3, stack := .int 1 :: rest }) : Rn p e below F T g := by
  obtain ⟨locs, X, N, H⟩ := Y
  obtain ⟨T', X', e', st⟩ := instY X hx hZ hown w rfl (Ins.self (H.exa hi)) hg hs hd
  exact Rn.go st (k T' ⟨locs, X', N, by rw [e']; exact H⟩)
theorem On.castS (Y : On p l e R s m args below meth c Z n0 T cells slots D) (hx : p.tables.exec = Jvm.exec) (hZ : Z.Warmed39 s.vm) {own : String} {index : Nat} (hown : s.vm.findClass own = some m.cls) (w : (Cond.classLink own index C).before a0 Z = true) (hi : D[i]? = some (ob a C fs))
    {g : JFrame} (hg : g.method = m) {rest : List Value} (hs : g.stack = .ref a :: rest) (hd : decode c.code g.pc = .ok (.checkcast index, 3)) (k : ∀ T', On p l e R s m args below meth c Z n0 T' cells slots D → Rn p e below F T' { g with pc := g.pc + 3 }) : Rn p e below F T g := by
  obtain ⟨locs, X, N, H⟩ := Y
  obtain ⟨T', X', e', st⟩ := castY X hx hZ hown w rfl (Ins.self (H.exa hi)) hg hs hd
  exact Rn.go st (k T' ⟨locs, X', N, by rw [e']; exact H⟩)
theorem On.insN (Y : On p l e R s m args below meth c Z n0 T cells slots D) (hx : p.tables.exec = Jvm.exec) (hZ : Z.Warmed39 s.vm) {own K : String} {index kk : Nat} (hown : s.vm.findClass own = some m.cls) (w : (Cond.classLink own index K).before a0 Z = true) (hi : D[i]? = some (ob a C fs)) (wi : (Cond.instantiable K kk).before a0 Z = true) {ch : List String} (hw : ∀ w ∈ Cond.chainWords (C :: ch), w.before a0 Z = true) (hn : K ∉ C :: ch)
    {g : JFrame} (hg : g.method = m) {rest : List Value} (hs : g.stack = .ref a :: rest) (hd : decode c.code g.pc = .ok (.instanceof index, 3)) (k : ∀ T', On p l e R s m args below meth c Z n0 T' cells slots D → Rn p e below F T' { g with pc := g.pc + 3, stack := .int 0 :: rest }) : Rn p e below F T g := by
  obtain ⟨locs, X, N, H⟩ := Y
  obtain ⟨cy, ky, i1, i2, i3, i4, -⟩ := Cond.instantiable_spec wi
  obtain ⟨cx, kx, j1, -⟩ := Cond.chain_head hw
  obtain ⟨T', X', e', st⟩ := instNo X hx hZ hown w rfl (H.exa hi) ⟨cx, cy, j1, i1, Vm.notAssignable_of_chain j1 i1 i2 i3 (by simp at i4; exact i4.1) hw hn⟩ hg hs hd
  exact Rn.go st (k T' ⟨locs, X', N, by rw [e']; exact H⟩)
theorem On.insNull (Y : On p l e R s m args below meth c Z n0 T cells slots D) (hx : p.tables.exec = Jvm.exec) {index : Nat}
    {g : JFrame} (hg : g.method = m) {rest : List Value} (hs : g.stack = .null :: rest) (hd : decode c.code g.pc = .ok (.instanceof index, 3)) (k : Rn p e below F T { g with pc := g.pc + 3, stack := .int 0 :: rest }) : Rn p e below F T g := by
  obtain ⟨locs, X, N, H⟩ := Y
  exact Rn.go (fun t kt => X.instanceofNull hx hg hs hd t kt) k
end Base
theorem own_le7 {v : Int32} (h1 : 0 ≤ v.toInt) (h2 : v.toInt ≤ 7) : v = 0 ∨ v = 1 ∨ v = 2 ∨ v = 3 ∨ v = 4 ∨ v = 5 ∨ v = 6 ∨ v = 7 := by
  have : v.toInt = 0 ∨ v.toInt = 1 ∨ v.toInt = 2 ∨ v.toInt = 3 ∨ v.toInt = 4 ∨ v.toInt = 5 ∨ v.toInt = 6 ∨ v.toInt = 7 := by omega
  rcases this with h | h | h | h | h | h | h | h
  · exact Or.inl (Int32.toInt_inj.mp (h.trans rfl))
  · exact Or.inr (Or.inl (Int32.toInt_inj.mp (h.trans rfl)))
  · exact Or.inr (Or.inr (Or.inl (Int32.toInt_inj.mp (h.trans rfl))))
  · exact Or.inr (Or.inr (Or.inr (Or.inl (Int32.toInt_inj.mp (h.trans rfl)))))
  · exact Or.inr (Or.inr (Or.inr (Or.inr (Or.inl (Int32.toInt_inj.mp (h.trans rfl))))))
  · exact Or.inr (Or.inr (Or.inr (Or.inr (Or.inr (Or.inl (Int32.toInt_inj.mp (h.trans rfl)))))))
  · exact Or.inr (Or.inr (Or.inr (Or.inr (Or.inr (Or.inr (Or.inl (Int32.toInt_inj.mp (h.trans rfl))))))))
  · exact Or.inr (Or.inr (Or.inr (Or.inr (Or.inr (Or.inr (Or.inr (Int32.toInt_inj.mp (h.trans rfl))))))))
theorem own_le5 {v : Int32} (h1 : 0 ≤ v.toInt) (h2 : v.toInt ≤ 5) : v = 0 ∨ v = 1 ∨ v = 2 ∨ v = 3 ∨ v = 4 ∨ v = 5 := by
  have : v.toInt = 0 ∨ v.toInt = 1 ∨ v.toInt = 2 ∨ v.toInt = 3 ∨ v.toInt = 4 ∨ v.toInt = 5 := by omega
  rcases this with h | h | h | h | h | h
  · exact Or.inl (Int32.toInt_inj.mp (h.trans rfl))
  · exact Or.inr (Or.inl (Int32.toInt_inj.mp (h.trans rfl)))
  · exact Or.inr (Or.inr (Or.inl (Int32.toInt_inj.mp (h.trans rfl))))
  · exact Or.inr (Or.inr (Or.inr (Or.inl (Int32.toInt_inj.mp (h.trans rfl)))))
  · exact Or.inr (Or.inr (Or.inr (Or.inr (Or.inl (Int32.toInt_inj.mp (h.trans rfl))))))
  · exact Or.inr (Or.inr (Or.inr (Or.inr (Or.inr (Int32.toInt_inj.mp (h.trans rfl))))))
/-! ## F. The words, the instructions, the names -/
theorem w0 {Z : State} {a0 : Array Value} (hw : ∀ d ∈ tables_1, d.before a0 Z = true) : (Jvm.Cond.arrayClass Jvm.ClassFile.FieldType.byte).before a0 Z = true := hw _ (List.mem_of_getElem? (i := 0) rfl)
theorem w1 {Z : State} {a0 : Array Value} (hw : ∀ d ∈ tables_1, d.before a0 Z = true) : (Jvm.Cond.methodLink "com/example/nishati/nishati/io/LineReaderAsciiLineEndPinLaw" (7 : Nat) ({ cls := "com/example/nishati/nishati/io/LineReaderAsciiLineEndPinLaw", name := "draw", desc := "(I)B" } : Jvm.MethodName)).before a0 Z = true := hw _ (List.mem_of_getElem? (i := 1) rfl)
theorem w2 {Z : State} {a0 : Array Value} (hw : ∀ d ∈ tables_1, d.before a0 Z = true) : (Jvm.Cond.static ({ cls := "com/example/nishati/nishati/io/LineReaderAsciiLineEndPinLaw", name := "draw", desc := "(I)B" } : Jvm.MethodName)).before a0 Z = true := hw _ (List.mem_of_getElem? (i := 2) rfl)
theorem w3 {Z : State} {a0 : Array Value} (hw : ∀ d ∈ tables_1, d.before a0 Z = true) : (Jvm.Cond.initialized "com/example/nishati/nishati/io/LineReaderAsciiLineEndPinLaw").before a0 Z = true := hw _ (List.mem_of_getElem? (i := 3) rfl)
theorem w4 {Z : State} {a0 : Array Value} (hw : ∀ d ∈ tables_1, d.before a0 Z = true) : (Jvm.Cond.code ({ cls := "com/example/nishati/nishati/io/LineReaderAsciiLineEndPinLaw", name := "draw", desc := "(I)B" } : Jvm.MethodName) method_3_code (2 : Nat) (Option.some Jvm.ClassFile.FieldType.byte)).before a0 Z = true := hw _ (List.mem_of_getElem? (i := 4) rfl)
theorem w5 {Z : State} {a0 : Array Value} (hw : ∀ d ∈ tables_1, d.before a0 Z = true) : (Jvm.Cond.methodLink "com/example/nishati/nishati/io/LineReaderAsciiLineEndPinLaw" (13 : Nat) ({ cls := "com/example/nishati/nishati/io/LineReader", name := "asciiLineEnd", desc := "([BII)I" } : Jvm.MethodName)).before a0 Z = true := hw _ (List.mem_of_getElem? (i := 5) rfl)
theorem w6 {Z : State} {a0 : Array Value} (hw : ∀ d ∈ tables_1, d.before a0 Z = true) : (Jvm.Cond.static ({ cls := "com/example/nishati/nishati/io/LineReader", name := "asciiLineEnd", desc := "([BII)I" } : Jvm.MethodName)).before a0 Z = true := hw _ (List.mem_of_getElem? (i := 6) rfl)
theorem w7 {Z : State} {a0 : Array Value} (hw : ∀ d ∈ tables_1, d.before a0 Z = true) : (Jvm.Cond.initialized "com/example/nishati/nishati/io/LineReader").before a0 Z = true := hw _ (List.mem_of_getElem? (i := 7) rfl)
theorem w8 {Z : State} {a0 : Array Value} (hw : ∀ d ∈ tables_1, d.before a0 Z = true) : (Jvm.Cond.code ({ cls := "com/example/nishati/nishati/io/LineReader", name := "asciiLineEnd", desc := "([BII)I" } : Jvm.MethodName) prog_81_method_14_code (7 : Nat) (Option.some Jvm.ClassFile.FieldType.int)).before a0 Z = true := hw _ (List.mem_of_getElem? (i := 8) rfl)
theorem w9 {Z : State} {a0 : Array Value} (hw : ∀ d ∈ tables_1, d.before a0 Z = true) : (Jvm.Cond.methodLink "com/example/nishati/nishati/io/LineReaderAsciiLineEndPinLaw" (19 : Nat) ({ cls := "com/example/nishati/nishati/io/LineReaderAsciiLineEndPinLaw", name := "good", desc := "([BIII)Z" } : Jvm.MethodName)).before a0 Z = true := hw _ (List.mem_of_getElem? (i := 9) rfl)
theorem w10 {Z : State} {a0 : Array Value} (hw : ∀ d ∈ tables_1, d.before a0 Z = true) : (Jvm.Cond.static ({ cls := "com/example/nishati/nishati/io/LineReaderAsciiLineEndPinLaw", name := "good", desc := "([BIII)Z" } : Jvm.MethodName)).before a0 Z = true := hw _ (List.mem_of_getElem? (i := 10) rfl)
theorem w11 {Z : State} {a0 : Array Value} (hw : ∀ d ∈ tables_1, d.before a0 Z = true) : (Jvm.Cond.code ({ cls := "com/example/nishati/nishati/io/LineReaderAsciiLineEndPinLaw", name := "good", desc := "([BIII)Z" } : Jvm.MethodName) method_6_code (4 : Nat) (Option.some Jvm.ClassFile.FieldType.boolean)).before a0 Z = true := hw _ (List.mem_of_getElem? (i := 11) rfl)
theorem w12 {Z : State} {a0 : Array Value} (hw : ∀ d ∈ tables_1, d.before a0 Z = true) : (Jvm.Cond.methodLink "com/example/nishati/nishati/io/LineReaderAsciiLineEndPinLaw" (23 : Nat) ({ cls := "com/example/nishati/nishati/io/LineReaderAsciiLineEndPinLaw", name := "isEnd", desc := "([BII)Z" } : Jvm.MethodName)).before a0 Z = true := hw _ (List.mem_of_getElem? (i := 12) rfl)
theorem w13 {Z : State} {a0 : Array Value} (hw : ∀ d ∈ tables_1, d.before a0 Z = true) : (Jvm.Cond.static ({ cls := "com/example/nishati/nishati/io/LineReaderAsciiLineEndPinLaw", name := "isEnd", desc := "([BII)Z" } : Jvm.MethodName)).before a0 Z = true := hw _ (List.mem_of_getElem? (i := 13) rfl)
theorem w14 {Z : State} {a0 : Array Value} (hw : ∀ d ∈ tables_1, d.before a0 Z = true) : (Jvm.Cond.code ({ cls := "com/example/nishati/nishati/io/LineReaderAsciiLineEndPinLaw", name := "isEnd", desc := "([BII)Z" } : Jvm.MethodName) method_4_code (3 : Nat) (Option.some Jvm.ClassFile.FieldType.boolean)).before a0 Z = true := hw _ (List.mem_of_getElem? (i := 14) rfl)
theorem w15 {Z : State} {a0 : Array Value} (hw : ∀ d ∈ tables_1, d.before a0 Z = true) : (Jvm.Cond.methodLink "com/example/nishati/nishati/io/LineReaderAsciiLineEndPinLaw" (27 : Nat) ({ cls := "com/example/nishati/nishati/io/LineReaderAsciiLineEndPinLaw", name := "plainAt", desc := "([BIII)Z" } : Jvm.MethodName)).before a0 Z = true := hw _ (List.mem_of_getElem? (i := 15) rfl)
theorem w16 {Z : State} {a0 : Array Value} (hw : ∀ d ∈ tables_1, d.before a0 Z = true) : (Jvm.Cond.static ({ cls := "com/example/nishati/nishati/io/LineReaderAsciiLineEndPinLaw", name := "plainAt", desc := "([BIII)Z" } : Jvm.MethodName)).before a0 Z = true := hw _ (List.mem_of_getElem? (i := 16) rfl)
theorem w17 {Z : State} {a0 : Array Value} (hw : ∀ d ∈ tables_1, d.before a0 Z = true) : (Jvm.Cond.code ({ cls := "com/example/nishati/nishati/io/LineReaderAsciiLineEndPinLaw", name := "plainAt", desc := "([BIII)Z" } : Jvm.MethodName) method_5_code (4 : Nat) (Option.some Jvm.ClassFile.FieldType.boolean)).before a0 Z = true := hw _ (List.mem_of_getElem? (i := 17) rfl)
theorem d1_0 : decode method_3_code 0 = .ok (.iload_n 0, 1) := by decide +kernel
theorem d1_1 : decode method_3_code 1 = .ok (.iconst 3, 1) := by decide +kernel
theorem d1_2 : decode method_3_code 2 = .ok (.iand, 1) := by decide +kernel
theorem d1_3 : decode method_3_code 3 = .ok (.istore_n 1, 1) := by decide +kernel
theorem d1_4 : decode method_3_code 4 = .ok (.iload_n 1, 1) := by decide +kernel
theorem d1_5 : decode method_3_code 5 = .ok (.ifCond .ne 6, 3) := by decide +kernel
theorem d1_8 : decode method_3_code 8 = .ok (.bipush 10, 2) := by decide +kernel
theorem d1_10 : decode method_3_code 10 = .ok (.ireturn, 1) := by decide +kernel
theorem d1_11 : decode method_3_code 11 = .ok (.iload_n 1, 1) := by decide +kernel
theorem d1_12 : decode method_3_code 12 = .ok (.iconst 1, 1) := by decide +kernel
theorem d1_13 : decode method_3_code 13 = .ok (.if_icmp .ne 6, 3) := by decide +kernel
theorem d1_16 : decode method_3_code 16 = .ok (.bipush 13, 2) := by decide +kernel
theorem d1_18 : decode method_3_code 18 = .ok (.ireturn, 1) := by decide +kernel
theorem d1_19 : decode method_3_code 19 = .ok (.iload_n 0, 1) := by decide +kernel
theorem d1_20 : decode method_3_code 20 = .ok (.iconst 2, 1) := by decide +kernel
theorem d1_21 : decode method_3_code 21 = .ok (.iushr, 1) := by decide +kernel
theorem d1_22 : decode method_3_code 22 = .ok (.i2b, 1) := by decide +kernel
theorem d1_23 : decode method_3_code 23 = .ok (.ireturn, 1) := by decide +kernel
theorem d2_0 : decode prog_81_method_14_code 0 = .ok (.iconst (-1), 1) := by decide +kernel
theorem d2_1 : decode prog_81_method_14_code 1 = .ok (.istore_n 3, 1) := by decide +kernel
theorem d2_2 : decode prog_81_method_14_code 2 = .ok (.iconst 1, 1) := by decide +kernel
theorem d2_3 : decode prog_81_method_14_code 3 = .ok (.istore 4, 2) := by decide +kernel
theorem d2_5 : decode prog_81_method_14_code 5 = .ok (.iload_n 1, 1) := by decide +kernel
theorem d2_6 : decode prog_81_method_14_code 6 = .ok (.istore 5, 2) := by decide +kernel
theorem d2_8 : decode prog_81_method_14_code 8 = .ok (.iload 5, 2) := by decide +kernel
theorem d2_10 : decode prog_81_method_14_code 10 = .ok (.iload_n 2, 1) := by decide +kernel
theorem d2_11 : decode prog_81_method_14_code 11 = .ok (.if_icmp .ge 82, 3) := by decide +kernel
theorem d2_14 : decode prog_81_method_14_code 14 = .ok (.iload 4, 2) := by decide +kernel
theorem d2_16 : decode prog_81_method_14_code 16 = .ok (.ifCond .eq 77, 3) := by decide +kernel
theorem d2_19 : decode prog_81_method_14_code 19 = .ok (.iload_n 3, 1) := by decide +kernel
theorem d2_20 : decode prog_81_method_14_code 20 = .ok (.ifCond .ge 73, 3) := by decide +kernel
theorem d2_23 : decode prog_81_method_14_code 23 = .ok (.aload_n 0, 1) := by decide +kernel
theorem d2_24 : decode prog_81_method_14_code 24 = .ok (.iload 5, 2) := by decide +kernel
theorem d2_26 : decode prog_81_method_14_code 26 = .ok (.baload, 1) := by decide +kernel
theorem d2_27 : decode prog_81_method_14_code 27 = .ok (.istore 6, 2) := by decide +kernel
theorem d2_29 : decode prog_81_method_14_code 29 = .ok (.iload 6, 2) := by decide +kernel
theorem d2_31 : decode prog_81_method_14_code 31 = .ok (.bipush 10, 2) := by decide +kernel
theorem d2_33 : decode prog_81_method_14_code 33 = .ok (.if_icmp .eq 29, 3) := by decide +kernel
theorem d2_36 : decode prog_81_method_14_code 36 = .ok (.iload 6, 2) := by decide +kernel
theorem d2_38 : decode prog_81_method_14_code 38 = .ok (.bipush 13, 2) := by decide +kernel
theorem d2_40 : decode prog_81_method_14_code 40 = .ok (.if_icmp .ne 28, 3) := by decide +kernel
theorem d2_43 : decode prog_81_method_14_code 43 = .ok (.iload 5, 2) := by decide +kernel
theorem d2_45 : decode prog_81_method_14_code 45 = .ok (.iconst 1, 1) := by decide +kernel
theorem d2_46 : decode prog_81_method_14_code 46 = .ok (.iadd, 1) := by decide +kernel
theorem d2_47 : decode prog_81_method_14_code 47 = .ok (.iload_n 2, 1) := by decide +kernel
theorem d2_48 : decode prog_81_method_14_code 48 = .ok (.if_icmp .ge 20, 3) := by decide +kernel
theorem d2_51 : decode prog_81_method_14_code 51 = .ok (.aload_n 0, 1) := by decide +kernel
theorem d2_52 : decode prog_81_method_14_code 52 = .ok (.iload 5, 2) := by decide +kernel
theorem d2_54 : decode prog_81_method_14_code 54 = .ok (.iconst 1, 1) := by decide +kernel
theorem d2_55 : decode prog_81_method_14_code 55 = .ok (.iadd, 1) := by decide +kernel
theorem d2_56 : decode prog_81_method_14_code 56 = .ok (.baload, 1) := by decide +kernel
theorem d2_57 : decode prog_81_method_14_code 57 = .ok (.bipush 10, 2) := by decide +kernel
theorem d2_59 : decode prog_81_method_14_code 59 = .ok (.if_icmp .ne 9, 3) := by decide +kernel
theorem d2_62 : decode prog_81_method_14_code 62 = .ok (.iload 5, 2) := by decide +kernel
theorem d2_64 : decode prog_81_method_14_code 64 = .ok (.istore_n 3, 1) := by decide +kernel
theorem d2_65 : decode prog_81_method_14_code 65 = .ok (.goto 22, 3) := by decide +kernel
theorem d2_68 : decode prog_81_method_14_code 68 = .ok (.iload 6, 2) := by decide +kernel
theorem d2_70 : decode prog_81_method_14_code 70 = .ok (.ifCond .lt 14, 3) := by decide +kernel
theorem d2_73 : decode prog_81_method_14_code 73 = .ok (.iload 6, 2) := by decide +kernel
theorem d2_75 : decode prog_81_method_14_code 75 = .ok (.bipush 13, 2) := by decide +kernel
theorem d2_77 : decode prog_81_method_14_code 77 = .ok (.if_icmp .eq 7, 3) := by decide +kernel
theorem d2_80 : decode prog_81_method_14_code 80 = .ok (.iconst 1, 1) := by decide +kernel
theorem d2_81 : decode prog_81_method_14_code 81 = .ok (.goto 4, 3) := by decide +kernel
theorem d2_84 : decode prog_81_method_14_code 84 = .ok (.iconst 0, 1) := by decide +kernel
theorem d2_85 : decode prog_81_method_14_code 85 = .ok (.istore 4, 2) := by decide +kernel
theorem d2_87 : decode prog_81_method_14_code 87 = .ok (.iinc 5 1, 3) := by decide +kernel
theorem d2_90 : decode prog_81_method_14_code 90 = .ok (.goto (-82), 3) := by decide +kernel
theorem d2_93 : decode prog_81_method_14_code 93 = .ok (.iload_n 3, 1) := by decide +kernel
theorem d2_94 : decode prog_81_method_14_code 94 = .ok (.ireturn, 1) := by decide +kernel
theorem d3_0 : decode method_6_code 0 = .ok (.iload_n 2, 1) := by decide +kernel
theorem d3_1 : decode method_6_code 1 = .ok (.iload_n 1, 1) := by decide +kernel
theorem d3_2 : decode method_6_code 2 = .ok (.if_icmp .gt 71, 3) := by decide +kernel
theorem d3_5 : decode method_6_code 5 = .ok (.iload_n 1, 1) := by decide +kernel
theorem d3_6 : decode method_6_code 6 = .ok (.iload_n 3, 1) := by decide +kernel
theorem d3_7 : decode method_6_code 7 = .ok (.if_icmp .ge 66, 3) := by decide +kernel
theorem d3_10 : decode method_6_code 10 = .ok (.aload_n 0, 1) := by decide +kernel
theorem d3_11 : decode method_6_code 11 = .ok (.iload_n 1, 1) := by decide +kernel
theorem d3_12 : decode method_6_code 12 = .ok (.iload_n 3, 1) := by decide +kernel
theorem d3_13 : decode method_6_code 13 = .ok (.invokestatic 23, 3) := by decide +kernel
theorem d3_16 : decode method_6_code 16 = .ok (.ifCond .eq 57, 3) := by decide +kernel
theorem d3_19 : decode method_6_code 19 = .ok (.aload_n 0, 1) := by decide +kernel
theorem d3_20 : decode method_6_code 20 = .ok (.iconst 0, 1) := by decide +kernel
theorem d3_21 : decode method_6_code 21 = .ok (.iload_n 2, 1) := by decide +kernel
theorem d3_22 : decode method_6_code 22 = .ok (.iload_n 1, 1) := by decide +kernel
theorem d3_23 : decode method_6_code 23 = .ok (.invokestatic 27, 3) := by decide +kernel
theorem d3_26 : decode method_6_code 26 = .ok (.ifCond .eq 47, 3) := by decide +kernel
theorem d3_29 : decode method_6_code 29 = .ok (.aload_n 0, 1) := by decide +kernel
theorem d3_30 : decode method_6_code 30 = .ok (.iconst 1, 1) := by decide +kernel
theorem d3_31 : decode method_6_code 31 = .ok (.iload_n 2, 1) := by decide +kernel
theorem d3_32 : decode method_6_code 32 = .ok (.iload_n 1, 1) := by decide +kernel
theorem d3_33 : decode method_6_code 33 = .ok (.invokestatic 27, 3) := by decide +kernel
theorem d3_36 : decode method_6_code 36 = .ok (.ifCond .eq 37, 3) := by decide +kernel
theorem d3_39 : decode method_6_code 39 = .ok (.aload_n 0, 1) := by decide +kernel
theorem d3_40 : decode method_6_code 40 = .ok (.iconst 2, 1) := by decide +kernel
theorem d3_41 : decode method_6_code 41 = .ok (.iload_n 2, 1) := by decide +kernel
theorem d3_42 : decode method_6_code 42 = .ok (.iload_n 1, 1) := by decide +kernel
theorem d3_43 : decode method_6_code 43 = .ok (.invokestatic 27, 3) := by decide +kernel
theorem d3_46 : decode method_6_code 46 = .ok (.ifCond .eq 27, 3) := by decide +kernel
theorem d3_49 : decode method_6_code 49 = .ok (.aload_n 0, 1) := by decide +kernel
theorem d3_50 : decode method_6_code 50 = .ok (.iconst 3, 1) := by decide +kernel
theorem d3_51 : decode method_6_code 51 = .ok (.iload_n 2, 1) := by decide +kernel
theorem d3_52 : decode method_6_code 52 = .ok (.iload_n 1, 1) := by decide +kernel
theorem d3_53 : decode method_6_code 53 = .ok (.invokestatic 27, 3) := by decide +kernel
theorem d3_56 : decode method_6_code 56 = .ok (.ifCond .eq 17, 3) := by decide +kernel
theorem d3_59 : decode method_6_code 59 = .ok (.aload_n 0, 1) := by decide +kernel
theorem d3_60 : decode method_6_code 60 = .ok (.iconst 4, 1) := by decide +kernel
theorem d3_61 : decode method_6_code 61 = .ok (.iload_n 2, 1) := by decide +kernel
theorem d3_62 : decode method_6_code 62 = .ok (.iload_n 1, 1) := by decide +kernel
theorem d3_63 : decode method_6_code 63 = .ok (.invokestatic 27, 3) := by decide +kernel
theorem d3_66 : decode method_6_code 66 = .ok (.ifCond .eq 7, 3) := by decide +kernel
theorem d3_69 : decode method_6_code 69 = .ok (.iconst 1, 1) := by decide +kernel
theorem d3_70 : decode method_6_code 70 = .ok (.goto 4, 3) := by decide +kernel
theorem d3_73 : decode method_6_code 73 = .ok (.iconst 0, 1) := by decide +kernel
theorem d3_74 : decode method_6_code 74 = .ok (.ireturn, 1) := by decide +kernel
theorem d4_0 : decode method_4_code 0 = .ok (.aload_n 0, 1) := by decide +kernel
theorem d4_1 : decode method_4_code 1 = .ok (.iload_n 1, 1) := by decide +kernel
theorem d4_2 : decode method_4_code 2 = .ok (.baload, 1) := by decide +kernel
theorem d4_3 : decode method_4_code 3 = .ok (.bipush 10, 2) := by decide +kernel
theorem d4_5 : decode method_4_code 5 = .ok (.if_icmp .eq 28, 3) := by decide +kernel
theorem d4_8 : decode method_4_code 8 = .ok (.aload_n 0, 1) := by decide +kernel
theorem d4_9 : decode method_4_code 9 = .ok (.iload_n 1, 1) := by decide +kernel
theorem d4_10 : decode method_4_code 10 = .ok (.baload, 1) := by decide +kernel
theorem d4_11 : decode method_4_code 11 = .ok (.bipush 13, 2) := by decide +kernel
theorem d4_13 : decode method_4_code 13 = .ok (.if_icmp .ne 24, 3) := by decide +kernel
theorem d4_16 : decode method_4_code 16 = .ok (.iload_n 1, 1) := by decide +kernel
theorem d4_17 : decode method_4_code 17 = .ok (.iconst 1, 1) := by decide +kernel
theorem d4_18 : decode method_4_code 18 = .ok (.iadd, 1) := by decide +kernel
theorem d4_19 : decode method_4_code 19 = .ok (.iload_n 2, 1) := by decide +kernel
theorem d4_20 : decode method_4_code 20 = .ok (.if_icmp .ge 17, 3) := by decide +kernel
theorem d4_23 : decode method_4_code 23 = .ok (.aload_n 0, 1) := by decide +kernel
theorem d4_24 : decode method_4_code 24 = .ok (.iload_n 1, 1) := by decide +kernel
theorem d4_25 : decode method_4_code 25 = .ok (.iconst 1, 1) := by decide +kernel
theorem d4_26 : decode method_4_code 26 = .ok (.iadd, 1) := by decide +kernel
theorem d4_27 : decode method_4_code 27 = .ok (.baload, 1) := by decide +kernel
theorem d4_28 : decode method_4_code 28 = .ok (.bipush 10, 2) := by decide +kernel
theorem d4_30 : decode method_4_code 30 = .ok (.if_icmp .ne 7, 3) := by decide +kernel
theorem d4_33 : decode method_4_code 33 = .ok (.iconst 1, 1) := by decide +kernel
theorem d4_34 : decode method_4_code 34 = .ok (.goto 4, 3) := by decide +kernel
theorem d4_37 : decode method_4_code 37 = .ok (.iconst 0, 1) := by decide +kernel
theorem d4_38 : decode method_4_code 38 = .ok (.ireturn, 1) := by decide +kernel
theorem d5_0 : decode method_5_code 0 = .ok (.iload_n 1, 1) := by decide +kernel
theorem d5_1 : decode method_5_code 1 = .ok (.iload_n 2, 1) := by decide +kernel
theorem d5_2 : decode method_5_code 2 = .ok (.if_icmp .lt 22, 3) := by decide +kernel
theorem d5_5 : decode method_5_code 5 = .ok (.iload_n 1, 1) := by decide +kernel
theorem d5_6 : decode method_5_code 6 = .ok (.iload_n 3, 1) := by decide +kernel
theorem d5_7 : decode method_5_code 7 = .ok (.if_icmp .ge 17, 3) := by decide +kernel
theorem d5_10 : decode method_5_code 10 = .ok (.aload_n 0, 1) := by decide +kernel
theorem d5_11 : decode method_5_code 11 = .ok (.iload_n 1, 1) := by decide +kernel
theorem d5_12 : decode method_5_code 12 = .ok (.baload, 1) := by decide +kernel
theorem d5_13 : decode method_5_code 13 = .ok (.ifCond .lt 15, 3) := by decide +kernel
theorem d5_16 : decode method_5_code 16 = .ok (.aload_n 0, 1) := by decide +kernel
theorem d5_17 : decode method_5_code 17 = .ok (.iload_n 1, 1) := by decide +kernel
theorem d5_18 : decode method_5_code 18 = .ok (.baload, 1) := by decide +kernel
theorem d5_19 : decode method_5_code 19 = .ok (.bipush 13, 2) := by decide +kernel
theorem d5_21 : decode method_5_code 21 = .ok (.if_icmp .eq 7, 3) := by decide +kernel
theorem d5_24 : decode method_5_code 24 = .ok (.iconst 1, 1) := by decide +kernel
theorem d5_25 : decode method_5_code 25 = .ok (.goto 4, 3) := by decide +kernel
theorem d5_28 : decode method_5_code 28 = .ok (.iconst 0, 1) := by decide +kernel
theorem d5_29 : decode method_5_code 29 = .ok (.ireturn, 1) := by decide +kernel
theorem pd0 : parseMethodDescriptor "([BII)Z" = some ⟨[(.array .byte), .int, .int], some .boolean⟩ := by decide +kernel
theorem pd1 : parseMethodDescriptor "([BIII)Z" = some ⟨[(.array .byte), .int, .int, .int], some .boolean⟩ := by decide +kernel
theorem pd2 : parseMethodDescriptor "(I)B" = some ⟨[.int], some .byte⟩ := by decide +kernel
theorem pd3 : parseMethodDescriptor "([BII)I" = some ⟨[(.array .byte), .int, .int], some .int⟩ := by decide +kernel
theorem pn0 : plainName "com/example/nishati/nishati/io/LineReaderAsciiLineEndPinLaw" = true := by first | (simp [plainName, overriddenIn]; done) | decide +kernel
theorem pn1 : plainName "com/example/nishati/nishati/io/LineReader" = true := by first | (simp [plainName, overriddenIn]; done) | decide +kernel
/-! ## G. The law's own helpers -/
def own_draw (x0 : Int32) : Int32 := (if (x0 &&& (3 : Int32)) = (0 : Int32) then ((10 : Int32)).toInt8.toInt32 else (if (x0 &&& (3 : Int32)) = (1 : Int32) then ((13 : Int32)).toInt8.toInt32 else ((((x0.toUInt32 >>> ((2 : Int32) &&& 31).toUInt32).toInt32).toInt8.toInt32)).toInt8.toInt32))
theorem ef_rm1 (m : MethodId) (x0 : Int32) : entryFrame m #[(.int x0)] 2 = (mkF m 0 #[.val (.int x0), .unset] []) := by first | (simp [entryFrame, mkF, argsToLocals, Value.category]; done) | rfl
set_option maxRecDepth 65536 in
set_option maxHeartbeats 40000000 in
theorem rm1 (l : Launch) (Z : State) (a0 : Array Value) (hw : ∀ d ∈ tables_1, d.before a0 Z = true) (n0 : Nat) (x0 : Int32) (Dr : List (Addr × Itm)) :
    Con l Z n0 (⟨"com/example/nishati/nishati/io/LineReaderAsciiLineEndPinLaw", "draw", "(I)B"⟩ : MethodName) method_3_code 2 (some .byte) ({ frames := 0, cells := 0, slots := 0, locals := 0 } : Room) #[(.int x0)] Dr (fun v D' => v = some (.int (own_draw x0)) ∧ D' = Dr) := by
  refine Con.of (plainFor_of_name pn0) ?_
  intro p e s m below meth c T cx Y
  obtain ⟨hx, hby, hml, hown, hnm, hret, hlk, hZ⟩ := cx
  rw [ef_rm1]
  generalize hF : Fi Z n0 below s _ _ _ = F
  refine Rn.go (T' := T) (g' := (mkF m 5 #[.val (.int x0), .val (.int (x0 &&& (3 : Int32)))] [(.int (x0 &&& (3 : Int32)))])) (fun t k => ?_) ?_
  · show Steps p.tables e below (T.setTop (mkF m 0 #[.val (.int x0), .unset] [])) t
    refine XS.iloadN Y.here hx rfl (hb hby d1_0) rfl ?_
    show Steps p.tables e below (T.setTop (mkF m 1 #[.val (.int x0), .unset] [(.int x0)])) t
    refine XS.iconst Y.here hx rfl (hb hby d1_1) ?_
    show Steps p.tables e below (T.setTop (mkF m 2 #[.val (.int x0), .unset] [(.int (3 : Int32)), (.int x0)])) t
    refine XS.iand Y.here hx rfl (hb hby d1_2) rfl ?_
    show Steps p.tables e below (T.setTop (mkF m 3 #[.val (.int x0), .unset] [(.int (x0 &&& (3 : Int32)))])) t
    refine XS.istoreN Y.here hx rfl (hb hby d1_3) rfl (l' := #[.val (.int x0), .val (.int (x0 &&& (3 : Int32)))]) rfl ?_
    show Steps p.tables e below (T.setTop (mkF m 4 #[.val (.int x0), .val (.int (x0 &&& (3 : Int32)))] [])) t
    refine XS.iloadN Y.here hx rfl (hb hby d1_4) rfl ?_
    show Steps p.tables e below (T.setTop (mkF m 5 #[.val (.int x0), .val (.int (x0 &&& (3 : Int32)))] [(.int (x0 &&& (3 : Int32)))])) t
    exact k
  by_cases hc5 : (x0 &&& (3 : Int32)) = (0 : Int32)
  · refine Rn.go (T' := T) (g' := (mkF m 8 #[.val (.int x0), .val (.int (x0 &&& (3 : Int32)))] [])) (fun t k => XS.ifNo Y.here hx rfl (hb hby d1_5) rfl ((if0 _ _).trans (teq hc5).2) k) ?_
    refine Rn.go (T' := T) (g' := (mkF m 10 #[.val (.int x0), .val (.int (x0 &&& (3 : Int32)))] [(.int (10 : Int32))])) (fun t k => ?_) ?_
    · show Steps p.tables e below (T.setTop (mkF m 8 #[.val (.int x0), .val (.int (x0 &&& (3 : Int32)))] [])) t
      refine XS.bipush Y.here hx rfl (hb hby d1_8) ?_
      show Steps p.tables e below (T.setTop (mkF m 10 #[.val (.int x0), .val (.int (x0 &&& (3 : Int32)))] [(.int (10 : Int32))])) t
      exact k
    rw [← hF]; exact On.retn Y hx hret (by simp) hlk (z' := (10 : Int32)) (by decide) (hb hby d1_10) (by decide) (by decide) ⟨by unfold own_draw; rw [if_pos hc5] <;> rfl, rfl⟩
  · refine Rn.go (T' := T) (g' := (mkF m 11 #[.val (.int x0), .val (.int (x0 &&& (3 : Int32)))] [])) (fun t k => XS.ifYes Y.here hx rfl (pc0 := 5) (pc' := 11) rfl (hb hby d1_5) rfl ((if0 _ _).trans (feq hc5).2) (by decide) (by decide) k) ?_
    refine Rn.go (T' := T) (g' := (mkF m 13 #[.val (.int x0), .val (.int (x0 &&& (3 : Int32)))] [(.int (1 : Int32)), (.int (x0 &&& (3 : Int32)))])) (fun t k => ?_) ?_
    · show Steps p.tables e below (T.setTop (mkF m 11 #[.val (.int x0), .val (.int (x0 &&& (3 : Int32)))] [])) t
      refine XS.iloadN Y.here hx rfl (hb hby d1_11) rfl ?_
      show Steps p.tables e below (T.setTop (mkF m 12 #[.val (.int x0), .val (.int (x0 &&& (3 : Int32)))] [(.int (x0 &&& (3 : Int32)))])) t
      refine XS.iconst Y.here hx rfl (hb hby d1_12) ?_
      show Steps p.tables e below (T.setTop (mkF m 13 #[.val (.int x0), .val (.int (x0 &&& (3 : Int32)))] [(.int (1 : Int32)), (.int (x0 &&& (3 : Int32)))])) t
      exact k
    by_cases hc13 : (x0 &&& (3 : Int32)) = (1 : Int32)
    · refine Rn.go (T' := T) (g' := (mkF m 16 #[.val (.int x0), .val (.int (x0 &&& (3 : Int32)))] [])) (fun t k => XS.icmpNo Y.here hx rfl (hb hby d1_13) rfl (teq hc13).2 k) ?_
      refine Rn.go (T' := T) (g' := (mkF m 18 #[.val (.int x0), .val (.int (x0 &&& (3 : Int32)))] [(.int (13 : Int32))])) (fun t k => ?_) ?_
      · show Steps p.tables e below (T.setTop (mkF m 16 #[.val (.int x0), .val (.int (x0 &&& (3 : Int32)))] [])) t
        refine XS.bipush Y.here hx rfl (hb hby d1_16) ?_
        show Steps p.tables e below (T.setTop (mkF m 18 #[.val (.int x0), .val (.int (x0 &&& (3 : Int32)))] [(.int (13 : Int32))])) t
        exact k
      rw [← hF]; exact On.retn Y hx hret (by simp) hlk (z' := (13 : Int32)) (by decide) (hb hby d1_18) (by decide) (by decide) ⟨by unfold own_draw; rw [if_neg hc5, if_pos hc13] <;> rfl, rfl⟩
    · refine Rn.go (T' := T) (g' := (mkF m 19 #[.val (.int x0), .val (.int (x0 &&& (3 : Int32)))] [])) (fun t k => XS.icmpYes Y.here hx rfl (pc0 := 13) (pc' := 19) rfl (hb hby d1_13) rfl (feq hc13).2 (by decide) (by decide) k) ?_
      refine Rn.go (T' := T) (g' := (mkF m 23 #[.val (.int x0), .val (.int (x0 &&& (3 : Int32)))] [(.int (((x0.toUInt32 >>> ((2 : Int32) &&& 31).toUInt32).toInt32).toInt8.toInt32))])) (fun t k => ?_) ?_
      · show Steps p.tables e below (T.setTop (mkF m 19 #[.val (.int x0), .val (.int (x0 &&& (3 : Int32)))] [])) t
        refine XS.iloadN Y.here hx rfl (hb hby d1_19) rfl ?_
        show Steps p.tables e below (T.setTop (mkF m 20 #[.val (.int x0), .val (.int (x0 &&& (3 : Int32)))] [(.int x0)])) t
        refine XS.iconst Y.here hx rfl (hb hby d1_20) ?_
        show Steps p.tables e below (T.setTop (mkF m 21 #[.val (.int x0), .val (.int (x0 &&& (3 : Int32)))] [(.int (2 : Int32)), (.int x0)])) t
        refine XS.iushr Y.here hx rfl (hb hby d1_21) rfl ?_
        show Steps p.tables e below (T.setTop (mkF m 22 #[.val (.int x0), .val (.int (x0 &&& (3 : Int32)))] [(.int ((x0.toUInt32 >>> ((2 : Int32) &&& 31).toUInt32).toInt32))])) t
        refine XS.i2b Y.here hx rfl (hb hby d1_22) rfl ?_
        show Steps p.tables e below (T.setTop (mkF m 23 #[.val (.int x0), .val (.int (x0 &&& (3 : Int32)))] [(.int (((x0.toUInt32 >>> ((2 : Int32) &&& 31).toUInt32).toInt32).toInt8.toInt32))])) t
        exact k
      rw [← hF]; exact On.retn Y hx hret (by simp) hlk (z' := ((((x0.toUInt32 >>> ((2 : Int32) &&& 31).toUInt32).toInt32).toInt8.toInt32)).toInt8.toInt32) rfl (hb hby d1_23) (by decide) (by decide) ⟨by unfold own_draw; rw [if_neg hc5, if_neg hc13] <;> rfl, rfl⟩
theorem own_at {xs : List Int32} {j : Int32} (h0 : 0 ≤ j.toInt) (h1 : j.toInt < xs.length) : ¬ j < 0 ∧ xs[j.toNatClampNeg]? = some (xs.getD j.toNatClampNeg 0) := by
  refine ⟨?_, ?_⟩
  · rw [Int32.lt_iff_toInt_lt]; have : (0 : Int32).toInt = 0 := rfl; omega
  · have hl : j.toNatClampNeg < xs.length := by rw [own_nat]; omega
    rw [List.getD_eq_getElem?_getD, List.getElem?_eq_getElem hl]; rfl
theorem own_up {j : Int32} (h1 : j.toInt < 1000) : (j + 1).toInt = j.toInt + 1 := by
  have e1 : (1 : Int32).toInt = 1 := rfl
  have := j.le_toInt
  rw [Jvm.Kit.i32_add (by rw [e1]; omega) (by rw [e1]; omega), e1]
def own_isEnd (xs : List Int32) (i en : Int32) : Int32 := if xs.getD i.toNatClampNeg 0 = 10 then 1 else if xs.getD i.toNatClampNeg 0 = 13 then (if i + 1 < en then (if xs.getD (i + 1).toNatClampNeg 0 = 10 then 1 else 0) else 0) else 0
def own_plain (xs : List Int32) (j f i : Int32) : Int32 := if j < f then 1 else if j < i then (if xs.getD j.toNatClampNeg 0 < 0 then 0 else if xs.getD j.toNatClampNeg 0 = 13 then 0 else 1) else 1
def own_good (xs : List Int32) (i f en : Int32) : Int32 := if i < f then 0 else if i < en then (if own_isEnd xs i en = 0 then 0 else if own_plain xs 0 f i = 0 then 0 else if own_plain xs 1 f i = 0 then 0 else if own_plain xs 2 f i = 0 then 0 else if own_plain xs 3 f i = 0 then 0 else if own_plain xs 4 f i = 0 then 0 else 1) else 0
theorem ef_rm4 (m : MethodId) (t0 : Addr) (i : Int32) (en : Int32) : entryFrame m #[(.ref t0), (.int i), (.int en)] 3 = (mkF m 0 #[.val (.ref t0), .val (.int i), .val (.int en)] []) := by first | (simp [entryFrame, mkF, argsToLocals, Value.category]; done) | rfl
set_option maxRecDepth 65536 in
set_option maxHeartbeats 40000000 in
theorem rm4 (l : Launch) (Z : State) (a0 : Array Value) (hw : ∀ d ∈ tables_1, d.before a0 Z = true) (n0 : Nat) (t0 : Addr) (i : Int32) (en : Int32) (z0 : Int32) (xs : List Int32) (Dr : List (Addr × Itm)) (hi : 0 ≤ i.toInt) (hil : i.toInt < xs.length) (hel : en.toInt ≤ xs.length) (hxl : xs.length ≤ 1000) :
    Con l Z n0 (⟨"com/example/nishati/nishati/io/LineReaderAsciiLineEndPinLaw", "isEnd", "([BII)Z"⟩ : MethodName) method_4_code 3 (some .boolean) ({ frames := 0, cells := 0, slots := 0, locals := 0 } : Room) #[(.ref t0), (.int i), (.int en)] ((ari t0 .byte z0 xs) :: Dr) (fun v D' => v = some (.int (own_isEnd xs i en)) ∧ D' = ((ari t0 .byte z0 xs) :: Dr)) := by
  refine Con.of (plainFor_of_name pn0) ?_
  intro p e s m below meth c T cx Y
  obtain ⟨hx, hby, hml, hown, hnm, hret, hlk, hZ⟩ := cx
  rw [ef_rm4]
  generalize hF : Fi Z n0 below s _ _ _ = F
  refine Rn.go (T' := T) (g' := (mkF m 2 #[.val (.ref t0), .val (.int i), .val (.int en)] [(.int i), (.ref t0)])) (fun t k => ?_) ?_
  · show Steps p.tables e below (T.setTop (mkF m 0 #[.val (.ref t0), .val (.int i), .val (.int en)] [])) t
    refine XS.aloadN Y.here hx rfl (hb hby d4_0) rfl rfl ?_
    show Steps p.tables e below (T.setTop (mkF m 1 #[.val (.ref t0), .val (.int i), .val (.int en)] [(.ref t0)])) t
    refine XS.iloadN Y.here hx rfl (hb hby d4_1) rfl ?_
    show Steps p.tables e below (T.setTop (mkF m 2 #[.val (.ref t0), .val (.int i), .val (.int en)] [(.int i), (.ref t0)])) t
    exact k
  refine On.bld Y hx hZ (i := 0) rfl (k := i) (x := (xs.getD i.toNatClampNeg 0)) (own_at hi hil).1 (own_at hi hil).2 (g := (mkF m 2 #[.val (.ref t0), .val (.int i), .val (.int en)] [(.int i), (.ref t0)])) rfl rfl (hb hby d4_2) ?_
  show Rn p e below F T (mkF m 3 #[.val (.ref t0), .val (.int i), .val (.int en)] [(.int (xs.getD i.toNatClampNeg 0))])
  refine Rn.go (T' := T) (g' := (mkF m 5 #[.val (.ref t0), .val (.int i), .val (.int en)] [(.int (10 : Int32)), (.int (xs.getD i.toNatClampNeg 0))])) (fun t k => ?_) ?_
  · show Steps p.tables e below (T.setTop (mkF m 3 #[.val (.ref t0), .val (.int i), .val (.int en)] [(.int (xs.getD i.toNatClampNeg 0))])) t
    refine XS.bipush Y.here hx rfl (hb hby d4_3) ?_
    show Steps p.tables e below (T.setTop (mkF m 5 #[.val (.ref t0), .val (.int i), .val (.int en)] [(.int (10 : Int32)), (.int (xs.getD i.toNatClampNeg 0))])) t
    exact k
  by_cases hc5 : (xs.getD i.toNatClampNeg 0) = (10 : Int32)
  · refine Rn.go (T' := T) (g' := (mkF m 33 #[.val (.ref t0), .val (.int i), .val (.int en)] [])) (fun t k => XS.icmpYes Y.here hx rfl (pc0 := 5) (pc' := 33) rfl (hb hby d4_5) rfl (teq hc5).1 (by decide) (by decide) k) ?_
    refine Rn.go (T' := T) (g' := (mkF m 38 #[.val (.ref t0), .val (.int i), .val (.int en)] [(.int (1 : Int32))])) (fun t k => ?_) ?_
    · show Steps p.tables e below (T.setTop (mkF m 33 #[.val (.ref t0), .val (.int i), .val (.int en)] [])) t
      refine XS.iconst Y.here hx rfl (hb hby d4_33) ?_
      show Steps p.tables e below (T.setTop (mkF m 34 #[.val (.ref t0), .val (.int i), .val (.int en)] [(.int (1 : Int32))])) t
      refine XS.goto Y.here hx rfl (pc0 := 34) (pc' := 38) rfl (hb hby d4_34) (by decide) (by decide) ?_
      show Steps p.tables e below (T.setTop (mkF m 38 #[.val (.ref t0), .val (.int i), .val (.int en)] [(.int (1 : Int32))])) t
      exact k
    rw [← hF]; exact On.retn Y hx hret (by simp) hlk (z' := (1 : Int32)) (by decide) (hb hby d4_38) (by decide) (by decide) ⟨by simp [-List.getD_eq_getElem?_getD, own_isEnd, hc5], rfl⟩
  · refine Rn.go (T' := T) (g' := (mkF m 8 #[.val (.ref t0), .val (.int i), .val (.int en)] [])) (fun t k => XS.icmpNo Y.here hx rfl (hb hby d4_5) rfl (feq hc5).1 k) ?_
    refine Rn.go (T' := T) (g' := (mkF m 10 #[.val (.ref t0), .val (.int i), .val (.int en)] [(.int i), (.ref t0)])) (fun t k => ?_) ?_
    · show Steps p.tables e below (T.setTop (mkF m 8 #[.val (.ref t0), .val (.int i), .val (.int en)] [])) t
      refine XS.aloadN Y.here hx rfl (hb hby d4_8) rfl rfl ?_
      show Steps p.tables e below (T.setTop (mkF m 9 #[.val (.ref t0), .val (.int i), .val (.int en)] [(.ref t0)])) t
      refine XS.iloadN Y.here hx rfl (hb hby d4_9) rfl ?_
      show Steps p.tables e below (T.setTop (mkF m 10 #[.val (.ref t0), .val (.int i), .val (.int en)] [(.int i), (.ref t0)])) t
      exact k
    refine On.bld Y hx hZ (i := 0) rfl (k := i) (x := (xs.getD i.toNatClampNeg 0)) (own_at hi hil).1 (own_at hi hil).2 (g := (mkF m 10 #[.val (.ref t0), .val (.int i), .val (.int en)] [(.int i), (.ref t0)])) rfl rfl (hb hby d4_10) ?_
    show Rn p e below F T (mkF m 11 #[.val (.ref t0), .val (.int i), .val (.int en)] [(.int (xs.getD i.toNatClampNeg 0))])
    refine Rn.go (T' := T) (g' := (mkF m 13 #[.val (.ref t0), .val (.int i), .val (.int en)] [(.int (13 : Int32)), (.int (xs.getD i.toNatClampNeg 0))])) (fun t k => ?_) ?_
    · show Steps p.tables e below (T.setTop (mkF m 11 #[.val (.ref t0), .val (.int i), .val (.int en)] [(.int (xs.getD i.toNatClampNeg 0))])) t
      refine XS.bipush Y.here hx rfl (hb hby d4_11) ?_
      show Steps p.tables e below (T.setTop (mkF m 13 #[.val (.ref t0), .val (.int i), .val (.int en)] [(.int (13 : Int32)), (.int (xs.getD i.toNatClampNeg 0))])) t
      exact k
    by_cases hc13 : (xs.getD i.toNatClampNeg 0) = (13 : Int32)
    · refine Rn.go (T' := T) (g' := (mkF m 16 #[.val (.ref t0), .val (.int i), .val (.int en)] [])) (fun t k => XS.icmpNo Y.here hx rfl (hb hby d4_13) rfl (teq hc13).2 k) ?_
      refine Rn.go (T' := T) (g' := (mkF m 20 #[.val (.ref t0), .val (.int i), .val (.int en)] [(.int en), (.int (i + (1 : Int32)))])) (fun t k => ?_) ?_
      · show Steps p.tables e below (T.setTop (mkF m 16 #[.val (.ref t0), .val (.int i), .val (.int en)] [])) t
        refine XS.iloadN Y.here hx rfl (hb hby d4_16) rfl ?_
        show Steps p.tables e below (T.setTop (mkF m 17 #[.val (.ref t0), .val (.int i), .val (.int en)] [(.int i)])) t
        refine XS.iconst Y.here hx rfl (hb hby d4_17) ?_
        show Steps p.tables e below (T.setTop (mkF m 18 #[.val (.ref t0), .val (.int i), .val (.int en)] [(.int (1 : Int32)), (.int i)])) t
        refine XS.iadd Y.here hx rfl (hb hby d4_18) rfl ?_
        show Steps p.tables e below (T.setTop (mkF m 19 #[.val (.ref t0), .val (.int i), .val (.int en)] [(.int (i + (1 : Int32)))])) t
        refine XS.iloadN Y.here hx rfl (hb hby d4_19) rfl ?_
        show Steps p.tables e below (T.setTop (mkF m 20 #[.val (.ref t0), .val (.int i), .val (.int en)] [(.int en), (.int (i + (1 : Int32)))])) t
        exact k
      by_cases hc20 : (i + (1 : Int32)) < en
      · refine Rn.go (T' := T) (g' := (mkF m 23 #[.val (.ref t0), .val (.int i), .val (.int en)] [])) (fun t k => XS.icmpNo Y.here hx rfl (hb hby d4_20) rfl (tlt hc20).2.1 k) ?_
        have e1 := own_up (j := i) (by omega)
        have ha : ¬ (i + 1) < 0 ∧ xs[(i + 1).toNatClampNeg]? = some (xs.getD (i + 1).toNatClampNeg 0) := own_at (by omega) (by rw [Int32.lt_iff_toInt_lt] at hc20; omega)
        refine Rn.go (T' := T) (g' := (mkF m 27 #[.val (.ref t0), .val (.int i), .val (.int en)] [(.int (i + (1 : Int32))), (.ref t0)])) (fun t k => ?_) ?_
        · show Steps p.tables e below (T.setTop (mkF m 23 #[.val (.ref t0), .val (.int i), .val (.int en)] [])) t
          refine XS.aloadN Y.here hx rfl (hb hby d4_23) rfl rfl ?_
          show Steps p.tables e below (T.setTop (mkF m 24 #[.val (.ref t0), .val (.int i), .val (.int en)] [(.ref t0)])) t
          refine XS.iloadN Y.here hx rfl (hb hby d4_24) rfl ?_
          show Steps p.tables e below (T.setTop (mkF m 25 #[.val (.ref t0), .val (.int i), .val (.int en)] [(.int i), (.ref t0)])) t
          refine XS.iconst Y.here hx rfl (hb hby d4_25) ?_
          show Steps p.tables e below (T.setTop (mkF m 26 #[.val (.ref t0), .val (.int i), .val (.int en)] [(.int (1 : Int32)), (.int i), (.ref t0)])) t
          refine XS.iadd Y.here hx rfl (hb hby d4_26) rfl ?_
          show Steps p.tables e below (T.setTop (mkF m 27 #[.val (.ref t0), .val (.int i), .val (.int en)] [(.int (i + (1 : Int32))), (.ref t0)])) t
          exact k
        refine On.bld Y hx hZ (i := 0) rfl (k := (i + (1 : Int32))) (x := (xs.getD (i + (1 : Int32)).toNatClampNeg 0)) ha.1 ha.2 (g := (mkF m 27 #[.val (.ref t0), .val (.int i), .val (.int en)] [(.int (i + (1 : Int32))), (.ref t0)])) rfl rfl (hb hby d4_27) ?_
        show Rn p e below F T (mkF m 28 #[.val (.ref t0), .val (.int i), .val (.int en)] [(.int (xs.getD (i + (1 : Int32)).toNatClampNeg 0))])
        refine Rn.go (T' := T) (g' := (mkF m 30 #[.val (.ref t0), .val (.int i), .val (.int en)] [(.int (10 : Int32)), (.int (xs.getD (i + (1 : Int32)).toNatClampNeg 0))])) (fun t k => ?_) ?_
        · show Steps p.tables e below (T.setTop (mkF m 28 #[.val (.ref t0), .val (.int i), .val (.int en)] [(.int (xs.getD (i + (1 : Int32)).toNatClampNeg 0))])) t
          refine XS.bipush Y.here hx rfl (hb hby d4_28) ?_
          show Steps p.tables e below (T.setTop (mkF m 30 #[.val (.ref t0), .val (.int i), .val (.int en)] [(.int (10 : Int32)), (.int (xs.getD (i + (1 : Int32)).toNatClampNeg 0))])) t
          exact k
        by_cases hc30 : (xs.getD (i + (1 : Int32)).toNatClampNeg 0) = (10 : Int32)
        · refine Rn.go (T' := T) (g' := (mkF m 33 #[.val (.ref t0), .val (.int i), .val (.int en)] [])) (fun t k => XS.icmpNo Y.here hx rfl (hb hby d4_30) rfl (teq hc30).2 k) ?_
          refine Rn.go (T' := T) (g' := (mkF m 38 #[.val (.ref t0), .val (.int i), .val (.int en)] [(.int (1 : Int32))])) (fun t k => ?_) ?_
          · show Steps p.tables e below (T.setTop (mkF m 33 #[.val (.ref t0), .val (.int i), .val (.int en)] [])) t
            refine XS.iconst Y.here hx rfl (hb hby d4_33) ?_
            show Steps p.tables e below (T.setTop (mkF m 34 #[.val (.ref t0), .val (.int i), .val (.int en)] [(.int (1 : Int32))])) t
            refine XS.goto Y.here hx rfl (pc0 := 34) (pc' := 38) rfl (hb hby d4_34) (by decide) (by decide) ?_
            show Steps p.tables e below (T.setTop (mkF m 38 #[.val (.ref t0), .val (.int i), .val (.int en)] [(.int (1 : Int32))])) t
            exact k
          rw [← hF]; exact On.retn Y hx hret (by simp) hlk (z' := (1 : Int32)) (by decide) (hb hby d4_38) (by decide) (by decide) ⟨by simp [-List.getD_eq_getElem?_getD, own_isEnd, hc5, hc13, hc20, hc30], rfl⟩
        · refine Rn.go (T' := T) (g' := (mkF m 37 #[.val (.ref t0), .val (.int i), .val (.int en)] [])) (fun t k => XS.icmpYes Y.here hx rfl (pc0 := 30) (pc' := 37) rfl (hb hby d4_30) rfl (feq hc30).2 (by decide) (by decide) k) ?_
          refine Rn.go (T' := T) (g' := (mkF m 38 #[.val (.ref t0), .val (.int i), .val (.int en)] [(.int (0 : Int32))])) (fun t k => ?_) ?_
          · show Steps p.tables e below (T.setTop (mkF m 37 #[.val (.ref t0), .val (.int i), .val (.int en)] [])) t
            refine XS.iconst Y.here hx rfl (hb hby d4_37) ?_
            show Steps p.tables e below (T.setTop (mkF m 38 #[.val (.ref t0), .val (.int i), .val (.int en)] [(.int (0 : Int32))])) t
            exact k
          rw [← hF]; exact On.retn Y hx hret (by simp) hlk (z' := (0 : Int32)) (by decide) (hb hby d4_38) (by decide) (by decide) ⟨by simp [-List.getD_eq_getElem?_getD, own_isEnd, hc5, hc13, hc20, hc30], rfl⟩
      · refine Rn.go (T' := T) (g' := (mkF m 37 #[.val (.ref t0), .val (.int i), .val (.int en)] [])) (fun t k => XS.icmpYes Y.here hx rfl (pc0 := 20) (pc' := 37) rfl (hb hby d4_20) rfl (flt hc20).2.1 (by decide) (by decide) k) ?_
        refine Rn.go (T' := T) (g' := (mkF m 38 #[.val (.ref t0), .val (.int i), .val (.int en)] [(.int (0 : Int32))])) (fun t k => ?_) ?_
        · show Steps p.tables e below (T.setTop (mkF m 37 #[.val (.ref t0), .val (.int i), .val (.int en)] [])) t
          refine XS.iconst Y.here hx rfl (hb hby d4_37) ?_
          show Steps p.tables e below (T.setTop (mkF m 38 #[.val (.ref t0), .val (.int i), .val (.int en)] [(.int (0 : Int32))])) t
          exact k
        rw [← hF]; exact On.retn Y hx hret (by simp) hlk (z' := (0 : Int32)) (by decide) (hb hby d4_38) (by decide) (by decide) ⟨by simp [-List.getD_eq_getElem?_getD, own_isEnd, hc5, hc13, hc20], rfl⟩
    · refine Rn.go (T' := T) (g' := (mkF m 37 #[.val (.ref t0), .val (.int i), .val (.int en)] [])) (fun t k => XS.icmpYes Y.here hx rfl (pc0 := 13) (pc' := 37) rfl (hb hby d4_13) rfl (feq hc13).2 (by decide) (by decide) k) ?_
      refine Rn.go (T' := T) (g' := (mkF m 38 #[.val (.ref t0), .val (.int i), .val (.int en)] [(.int (0 : Int32))])) (fun t k => ?_) ?_
      · show Steps p.tables e below (T.setTop (mkF m 37 #[.val (.ref t0), .val (.int i), .val (.int en)] [])) t
        refine XS.iconst Y.here hx rfl (hb hby d4_37) ?_
        show Steps p.tables e below (T.setTop (mkF m 38 #[.val (.ref t0), .val (.int i), .val (.int en)] [(.int (0 : Int32))])) t
        exact k
      rw [← hF]; exact On.retn Y hx hret (by simp) hlk (z' := (0 : Int32)) (by decide) (hb hby d4_38) (by decide) (by decide) ⟨by simp [-List.getD_eq_getElem?_getD, own_isEnd, hc5, hc13], rfl⟩
theorem ef_rm5 (m : MethodId) (t0 : Addr) (j : Int32) (f : Int32) (i : Int32) : entryFrame m #[(.ref t0), (.int j), (.int f), (.int i)] 4 = (mkF m 0 #[.val (.ref t0), .val (.int j), .val (.int f), .val (.int i)] []) := by first | (simp [entryFrame, mkF, argsToLocals, Value.category]; done) | rfl
set_option maxRecDepth 65536 in
set_option maxHeartbeats 40000000 in
theorem rm5 (l : Launch) (Z : State) (a0 : Array Value) (hw : ∀ d ∈ tables_1, d.before a0 Z = true) (n0 : Nat) (t0 : Addr) (j : Int32) (f : Int32) (i : Int32) (z0 : Int32) (xs : List Int32) (Dr : List (Addr × Itm)) (hi : 0 ≤ j.toInt) (hil : j.toInt < xs.length) :
    Con l Z n0 (⟨"com/example/nishati/nishati/io/LineReaderAsciiLineEndPinLaw", "plainAt", "([BIII)Z"⟩ : MethodName) method_5_code 4 (some .boolean) ({ frames := 0, cells := 0, slots := 0, locals := 0 } : Room) #[(.ref t0), (.int j), (.int f), (.int i)] ((ari t0 .byte z0 xs) :: Dr) (fun v D' => v = some (.int (own_plain xs j f i)) ∧ D' = ((ari t0 .byte z0 xs) :: Dr)) := by
  refine Con.of (plainFor_of_name pn0) ?_
  intro p e s m below meth c T cx Y
  obtain ⟨hx, hby, hml, hown, hnm, hret, hlk, hZ⟩ := cx
  rw [ef_rm5]
  generalize hF : Fi Z n0 below s _ _ _ = F
  refine Rn.go (T' := T) (g' := (mkF m 2 #[.val (.ref t0), .val (.int j), .val (.int f), .val (.int i)] [(.int f), (.int j)])) (fun t k => ?_) ?_
  · show Steps p.tables e below (T.setTop (mkF m 0 #[.val (.ref t0), .val (.int j), .val (.int f), .val (.int i)] [])) t
    refine XS.iloadN Y.here hx rfl (hb hby d5_0) rfl ?_
    show Steps p.tables e below (T.setTop (mkF m 1 #[.val (.ref t0), .val (.int j), .val (.int f), .val (.int i)] [(.int j)])) t
    refine XS.iloadN Y.here hx rfl (hb hby d5_1) rfl ?_
    show Steps p.tables e below (T.setTop (mkF m 2 #[.val (.ref t0), .val (.int j), .val (.int f), .val (.int i)] [(.int f), (.int j)])) t
    exact k
  by_cases hc2 : j < f
  · refine Rn.go (T' := T) (g' := (mkF m 24 #[.val (.ref t0), .val (.int j), .val (.int f), .val (.int i)] [])) (fun t k => XS.icmpYes Y.here hx rfl (pc0 := 2) (pc' := 24) rfl (hb hby d5_2) rfl (tlt hc2).1 (by decide) (by decide) k) ?_
    refine Rn.go (T' := T) (g' := (mkF m 29 #[.val (.ref t0), .val (.int j), .val (.int f), .val (.int i)] [(.int (1 : Int32))])) (fun t k => ?_) ?_
    · show Steps p.tables e below (T.setTop (mkF m 24 #[.val (.ref t0), .val (.int j), .val (.int f), .val (.int i)] [])) t
      refine XS.iconst Y.here hx rfl (hb hby d5_24) ?_
      show Steps p.tables e below (T.setTop (mkF m 25 #[.val (.ref t0), .val (.int j), .val (.int f), .val (.int i)] [(.int (1 : Int32))])) t
      refine XS.goto Y.here hx rfl (pc0 := 25) (pc' := 29) rfl (hb hby d5_25) (by decide) (by decide) ?_
      show Steps p.tables e below (T.setTop (mkF m 29 #[.val (.ref t0), .val (.int j), .val (.int f), .val (.int i)] [(.int (1 : Int32))])) t
      exact k
    rw [← hF]; exact On.retn Y hx hret (by simp) hlk (z' := (1 : Int32)) (by decide) (hb hby d5_29) (by decide) (by decide) ⟨by simp [-List.getD_eq_getElem?_getD, own_plain, hc2], rfl⟩
  · refine Rn.go (T' := T) (g' := (mkF m 5 #[.val (.ref t0), .val (.int j), .val (.int f), .val (.int i)] [])) (fun t k => XS.icmpNo Y.here hx rfl (hb hby d5_2) rfl (flt hc2).1 k) ?_
    refine Rn.go (T' := T) (g' := (mkF m 7 #[.val (.ref t0), .val (.int j), .val (.int f), .val (.int i)] [(.int i), (.int j)])) (fun t k => ?_) ?_
    · show Steps p.tables e below (T.setTop (mkF m 5 #[.val (.ref t0), .val (.int j), .val (.int f), .val (.int i)] [])) t
      refine XS.iloadN Y.here hx rfl (hb hby d5_5) rfl ?_
      show Steps p.tables e below (T.setTop (mkF m 6 #[.val (.ref t0), .val (.int j), .val (.int f), .val (.int i)] [(.int j)])) t
      refine XS.iloadN Y.here hx rfl (hb hby d5_6) rfl ?_
      show Steps p.tables e below (T.setTop (mkF m 7 #[.val (.ref t0), .val (.int j), .val (.int f), .val (.int i)] [(.int i), (.int j)])) t
      exact k
    by_cases hc7 : j < i
    · refine Rn.go (T' := T) (g' := (mkF m 10 #[.val (.ref t0), .val (.int j), .val (.int f), .val (.int i)] [])) (fun t k => XS.icmpNo Y.here hx rfl (hb hby d5_7) rfl (tlt hc7).2.1 k) ?_
      refine Rn.go (T' := T) (g' := (mkF m 12 #[.val (.ref t0), .val (.int j), .val (.int f), .val (.int i)] [(.int j), (.ref t0)])) (fun t k => ?_) ?_
      · show Steps p.tables e below (T.setTop (mkF m 10 #[.val (.ref t0), .val (.int j), .val (.int f), .val (.int i)] [])) t
        refine XS.aloadN Y.here hx rfl (hb hby d5_10) rfl rfl ?_
        show Steps p.tables e below (T.setTop (mkF m 11 #[.val (.ref t0), .val (.int j), .val (.int f), .val (.int i)] [(.ref t0)])) t
        refine XS.iloadN Y.here hx rfl (hb hby d5_11) rfl ?_
        show Steps p.tables e below (T.setTop (mkF m 12 #[.val (.ref t0), .val (.int j), .val (.int f), .val (.int i)] [(.int j), (.ref t0)])) t
        exact k
      refine On.bld Y hx hZ (i := 0) rfl (k := j) (x := (xs.getD j.toNatClampNeg 0)) (own_at hi hil).1 (own_at hi hil).2 (g := (mkF m 12 #[.val (.ref t0), .val (.int j), .val (.int f), .val (.int i)] [(.int j), (.ref t0)])) rfl rfl (hb hby d5_12) ?_
      show Rn p e below F T (mkF m 13 #[.val (.ref t0), .val (.int j), .val (.int f), .val (.int i)] [(.int (xs.getD j.toNatClampNeg 0))])
      by_cases hc13 : (xs.getD j.toNatClampNeg 0) < (0 : Int32)
      · refine Rn.go (T' := T) (g' := (mkF m 28 #[.val (.ref t0), .val (.int j), .val (.int f), .val (.int i)] [])) (fun t k => XS.ifYes Y.here hx rfl (pc0 := 13) (pc' := 28) rfl (hb hby d5_13) rfl ((if0 _ _).trans (tlt hc13).1) (by decide) (by decide) k) ?_
        refine Rn.go (T' := T) (g' := (mkF m 29 #[.val (.ref t0), .val (.int j), .val (.int f), .val (.int i)] [(.int (0 : Int32))])) (fun t k => ?_) ?_
        · show Steps p.tables e below (T.setTop (mkF m 28 #[.val (.ref t0), .val (.int j), .val (.int f), .val (.int i)] [])) t
          refine XS.iconst Y.here hx rfl (hb hby d5_28) ?_
          show Steps p.tables e below (T.setTop (mkF m 29 #[.val (.ref t0), .val (.int j), .val (.int f), .val (.int i)] [(.int (0 : Int32))])) t
          exact k
        rw [← hF]; exact On.retn Y hx hret (by simp) hlk (z' := (0 : Int32)) (by decide) (hb hby d5_29) (by decide) (by decide) ⟨by simp [-List.getD_eq_getElem?_getD, own_plain, hc2, hc7, hc13], rfl⟩
      · refine Rn.go (T' := T) (g' := (mkF m 16 #[.val (.ref t0), .val (.int j), .val (.int f), .val (.int i)] [])) (fun t k => XS.ifNo Y.here hx rfl (hb hby d5_13) rfl ((if0 _ _).trans (flt hc13).1) k) ?_
        refine Rn.go (T' := T) (g' := (mkF m 18 #[.val (.ref t0), .val (.int j), .val (.int f), .val (.int i)] [(.int j), (.ref t0)])) (fun t k => ?_) ?_
        · show Steps p.tables e below (T.setTop (mkF m 16 #[.val (.ref t0), .val (.int j), .val (.int f), .val (.int i)] [])) t
          refine XS.aloadN Y.here hx rfl (hb hby d5_16) rfl rfl ?_
          show Steps p.tables e below (T.setTop (mkF m 17 #[.val (.ref t0), .val (.int j), .val (.int f), .val (.int i)] [(.ref t0)])) t
          refine XS.iloadN Y.here hx rfl (hb hby d5_17) rfl ?_
          show Steps p.tables e below (T.setTop (mkF m 18 #[.val (.ref t0), .val (.int j), .val (.int f), .val (.int i)] [(.int j), (.ref t0)])) t
          exact k
        refine On.bld Y hx hZ (i := 0) rfl (k := j) (x := (xs.getD j.toNatClampNeg 0)) (own_at hi hil).1 (own_at hi hil).2 (g := (mkF m 18 #[.val (.ref t0), .val (.int j), .val (.int f), .val (.int i)] [(.int j), (.ref t0)])) rfl rfl (hb hby d5_18) ?_
        show Rn p e below F T (mkF m 19 #[.val (.ref t0), .val (.int j), .val (.int f), .val (.int i)] [(.int (xs.getD j.toNatClampNeg 0))])
        refine Rn.go (T' := T) (g' := (mkF m 21 #[.val (.ref t0), .val (.int j), .val (.int f), .val (.int i)] [(.int (13 : Int32)), (.int (xs.getD j.toNatClampNeg 0))])) (fun t k => ?_) ?_
        · show Steps p.tables e below (T.setTop (mkF m 19 #[.val (.ref t0), .val (.int j), .val (.int f), .val (.int i)] [(.int (xs.getD j.toNatClampNeg 0))])) t
          refine XS.bipush Y.here hx rfl (hb hby d5_19) ?_
          show Steps p.tables e below (T.setTop (mkF m 21 #[.val (.ref t0), .val (.int j), .val (.int f), .val (.int i)] [(.int (13 : Int32)), (.int (xs.getD j.toNatClampNeg 0))])) t
          exact k
        by_cases hc21 : (xs.getD j.toNatClampNeg 0) = (13 : Int32)
        · refine Rn.go (T' := T) (g' := (mkF m 28 #[.val (.ref t0), .val (.int j), .val (.int f), .val (.int i)] [])) (fun t k => XS.icmpYes Y.here hx rfl (pc0 := 21) (pc' := 28) rfl (hb hby d5_21) rfl (teq hc21).1 (by decide) (by decide) k) ?_
          refine Rn.go (T' := T) (g' := (mkF m 29 #[.val (.ref t0), .val (.int j), .val (.int f), .val (.int i)] [(.int (0 : Int32))])) (fun t k => ?_) ?_
          · show Steps p.tables e below (T.setTop (mkF m 28 #[.val (.ref t0), .val (.int j), .val (.int f), .val (.int i)] [])) t
            refine XS.iconst Y.here hx rfl (hb hby d5_28) ?_
            show Steps p.tables e below (T.setTop (mkF m 29 #[.val (.ref t0), .val (.int j), .val (.int f), .val (.int i)] [(.int (0 : Int32))])) t
            exact k
          rw [← hF]; exact On.retn Y hx hret (by simp) hlk (z' := (0 : Int32)) (by decide) (hb hby d5_29) (by decide) (by decide) ⟨by simp [-List.getD_eq_getElem?_getD, own_plain, hc2, hc7, hc13, hc21], rfl⟩
        · refine Rn.go (T' := T) (g' := (mkF m 24 #[.val (.ref t0), .val (.int j), .val (.int f), .val (.int i)] [])) (fun t k => XS.icmpNo Y.here hx rfl (hb hby d5_21) rfl (feq hc21).1 k) ?_
          refine Rn.go (T' := T) (g' := (mkF m 29 #[.val (.ref t0), .val (.int j), .val (.int f), .val (.int i)] [(.int (1 : Int32))])) (fun t k => ?_) ?_
          · show Steps p.tables e below (T.setTop (mkF m 24 #[.val (.ref t0), .val (.int j), .val (.int f), .val (.int i)] [])) t
            refine XS.iconst Y.here hx rfl (hb hby d5_24) ?_
            show Steps p.tables e below (T.setTop (mkF m 25 #[.val (.ref t0), .val (.int j), .val (.int f), .val (.int i)] [(.int (1 : Int32))])) t
            refine XS.goto Y.here hx rfl (pc0 := 25) (pc' := 29) rfl (hb hby d5_25) (by decide) (by decide) ?_
            show Steps p.tables e below (T.setTop (mkF m 29 #[.val (.ref t0), .val (.int j), .val (.int f), .val (.int i)] [(.int (1 : Int32))])) t
            exact k
          rw [← hF]; exact On.retn Y hx hret (by simp) hlk (z' := (1 : Int32)) (by decide) (hb hby d5_29) (by decide) (by decide) ⟨by simp [-List.getD_eq_getElem?_getD, own_plain, hc2, hc7, hc13, hc21], rfl⟩
    · refine Rn.go (T' := T) (g' := (mkF m 24 #[.val (.ref t0), .val (.int j), .val (.int f), .val (.int i)] [])) (fun t k => XS.icmpYes Y.here hx rfl (pc0 := 7) (pc' := 24) rfl (hb hby d5_7) rfl (flt hc7).2.1 (by decide) (by decide) k) ?_
      refine Rn.go (T' := T) (g' := (mkF m 29 #[.val (.ref t0), .val (.int j), .val (.int f), .val (.int i)] [(.int (1 : Int32))])) (fun t k => ?_) ?_
      · show Steps p.tables e below (T.setTop (mkF m 24 #[.val (.ref t0), .val (.int j), .val (.int f), .val (.int i)] [])) t
        refine XS.iconst Y.here hx rfl (hb hby d5_24) ?_
        show Steps p.tables e below (T.setTop (mkF m 25 #[.val (.ref t0), .val (.int j), .val (.int f), .val (.int i)] [(.int (1 : Int32))])) t
        refine XS.goto Y.here hx rfl (pc0 := 25) (pc' := 29) rfl (hb hby d5_25) (by decide) (by decide) ?_
        show Steps p.tables e below (T.setTop (mkF m 29 #[.val (.ref t0), .val (.int j), .val (.int f), .val (.int i)] [(.int (1 : Int32))])) t
        exact k
      rw [← hF]; exact On.retn Y hx hret (by simp) hlk (z' := (1 : Int32)) (by decide) (hb hby d5_29) (by decide) (by decide) ⟨by simp [-List.getD_eq_getElem?_getD, own_plain, hc2, hc7], rfl⟩
theorem ef_rm3 (m : MethodId) (t0 : Addr) (i : Int32) (f : Int32) (en : Int32) : entryFrame m #[(.ref t0), (.int i), (.int f), (.int en)] 4 = (mkF m 0 #[.val (.ref t0), .val (.int i), .val (.int f), .val (.int en)] []) := by first | (simp [entryFrame, mkF, argsToLocals, Value.category]; done) | rfl
set_option maxRecDepth 65536 in
set_option maxHeartbeats 40000000 in
theorem rm3 (l : Launch) (Z : State) (a0 : Array Value) (hw : ∀ d ∈ tables_1, d.before a0 Z = true) (n0 : Nat) (t0 : Addr) (i : Int32) (f : Int32) (en : Int32) (z0 : Int32) (xs : List Int32) (Dr : List (Addr × Itm)) (hx5 : xs.length = 5) (hf : 0 ≤ f.toInt) (hel : en.toInt ≤ 5) :
    Con l Z n0 (⟨"com/example/nishati/nishati/io/LineReaderAsciiLineEndPinLaw", "good", "([BIII)Z"⟩ : MethodName) method_6_code 4 (some .boolean) ({ frames := 1, cells := 0, slots := 0, locals := 15 } : Room) #[(.ref t0), (.int i), (.int f), (.int en)] ((ari t0 .byte z0 xs) :: Dr) (fun v D' => v = some (.int (own_good xs i f en)) ∧ D' = ((ari t0 .byte z0 xs) :: Dr)) := by
  refine Con.of (plainFor_of_name pn0) ?_
  intro p e s m below meth c T cx Y
  obtain ⟨hx, hby, hml, hown, hnm, hret, hlk, hZ⟩ := cx
  rw [ef_rm3]
  generalize hF : Fi Z n0 below s _ _ _ = F
  refine Rn.go (T' := T) (g' := (mkF m 2 #[.val (.ref t0), .val (.int i), .val (.int f), .val (.int en)] [(.int i), (.int f)])) (fun t k => ?_) ?_
  · show Steps p.tables e below (T.setTop (mkF m 0 #[.val (.ref t0), .val (.int i), .val (.int f), .val (.int en)] [])) t
    refine XS.iloadN Y.here hx rfl (hb hby d3_0) rfl ?_
    show Steps p.tables e below (T.setTop (mkF m 1 #[.val (.ref t0), .val (.int i), .val (.int f), .val (.int en)] [(.int f)])) t
    refine XS.iloadN Y.here hx rfl (hb hby d3_1) rfl ?_
    show Steps p.tables e below (T.setTop (mkF m 2 #[.val (.ref t0), .val (.int i), .val (.int f), .val (.int en)] [(.int i), (.int f)])) t
    exact k
  by_cases hc2 : i < f
  · refine Rn.go (T' := T) (g' := (mkF m 73 #[.val (.ref t0), .val (.int i), .val (.int f), .val (.int en)] [])) (fun t k => XS.icmpYes Y.here hx rfl (pc0 := 2) (pc' := 73) rfl (hb hby d3_2) rfl (tlt hc2).2.2.1 (by decide) (by decide) k) ?_
    refine Rn.go (T' := T) (g' := (mkF m 74 #[.val (.ref t0), .val (.int i), .val (.int f), .val (.int en)] [(.int (0 : Int32))])) (fun t k => ?_) ?_
    · show Steps p.tables e below (T.setTop (mkF m 73 #[.val (.ref t0), .val (.int i), .val (.int f), .val (.int en)] [])) t
      refine XS.iconst Y.here hx rfl (hb hby d3_73) ?_
      show Steps p.tables e below (T.setTop (mkF m 74 #[.val (.ref t0), .val (.int i), .val (.int f), .val (.int en)] [(.int (0 : Int32))])) t
      exact k
    rw [← hF]; exact On.retn Y hx hret (by simp) hlk (z' := (0 : Int32)) (by decide) (hb hby d3_74) (by decide) (by decide) ⟨by simp [-List.getD_eq_getElem?_getD, own_good, hc2], rfl⟩
  · refine Rn.go (T' := T) (g' := (mkF m 5 #[.val (.ref t0), .val (.int i), .val (.int f), .val (.int en)] [])) (fun t k => XS.icmpNo Y.here hx rfl (hb hby d3_2) rfl (flt hc2).2.2.1 k) ?_
    refine Rn.go (T' := T) (g' := (mkF m 7 #[.val (.ref t0), .val (.int i), .val (.int f), .val (.int en)] [(.int en), (.int i)])) (fun t k => ?_) ?_
    · show Steps p.tables e below (T.setTop (mkF m 5 #[.val (.ref t0), .val (.int i), .val (.int f), .val (.int en)] [])) t
      refine XS.iloadN Y.here hx rfl (hb hby d3_5) rfl ?_
      show Steps p.tables e below (T.setTop (mkF m 6 #[.val (.ref t0), .val (.int i), .val (.int f), .val (.int en)] [(.int i)])) t
      refine XS.iloadN Y.here hx rfl (hb hby d3_6) rfl ?_
      show Steps p.tables e below (T.setTop (mkF m 7 #[.val (.ref t0), .val (.int i), .val (.int f), .val (.int en)] [(.int en), (.int i)])) t
      exact k
    by_cases hc7 : i < en
    · refine Rn.go (T' := T) (g' := (mkF m 10 #[.val (.ref t0), .val (.int i), .val (.int f), .val (.int en)] [])) (fun t k => XS.icmpNo Y.here hx rfl (hb hby d3_7) rfl (tlt hc7).2.1 k) ?_
      have hi0 : 0 ≤ i.toInt := by rw [Int32.lt_iff_toInt_lt] at hc2; omega
      have hil : i.toInt < xs.length := by rw [Int32.lt_iff_toInt_lt] at hc7; rw [hx5]; omega
      refine Rn.go (T' := T) (g' := (mkF m 13 #[.val (.ref t0), .val (.int i), .val (.int f), .val (.int en)] [(.int en), (.int i), (.ref t0)])) (fun t k => ?_) ?_
      · show Steps p.tables e below (T.setTop (mkF m 10 #[.val (.ref t0), .val (.int i), .val (.int f), .val (.int en)] [])) t
        refine XS.aloadN Y.here hx rfl (hb hby d3_10) rfl rfl ?_
        show Steps p.tables e below (T.setTop (mkF m 11 #[.val (.ref t0), .val (.int i), .val (.int f), .val (.int en)] [(.ref t0)])) t
        refine XS.iloadN Y.here hx rfl (hb hby d3_11) rfl ?_
        show Steps p.tables e below (T.setTop (mkF m 12 #[.val (.ref t0), .val (.int i), .val (.int f), .val (.int en)] [(.int i), (.ref t0)])) t
        refine XS.iloadN Y.here hx rfl (hb hby d3_12) rfl ?_
        show Steps p.tables e below (T.setTop (mkF m 13 #[.val (.ref t0), .val (.int i), .val (.int f), .val (.int en)] [(.int en), (.int i), (.ref t0)])) t
        exact k
      refine On.static Y hx hZ (y := (⟨"com/example/nishati/nishati/io/LineReaderAsciiLineEndPinLaw", "isEnd", "([BII)Z"⟩ : MethodName)) hown (w12 hw) (w13 hw) (w14 hw) (w3 hw) (by decide) (argsL := [(.ref t0), (.int i), (.int en)]) (rest := []) (rm4 l Z a0 hw n0 t0 i en z0 xs Dr hi0 hil (by rw [hx5]; exact hel) (by rw [hx5]; decide)) (W := 0) (by decide) (by decide) (by decide) (by decide) (g := (mkF m 13 #[.val (.ref t0), .val (.int i), .val (.int f), .val (.int en)] [(.int en), (.int i), (.ref t0)])) rfl (by rw [hml]; rfl) (lenOf pd0 rfl) rfl (by show 2 * 0 + _ ≤ _; exact Nat.le_of_eq rfl) (hb hby d3_13) ?_
      intro T1 u3 D4 hp5 Y2
      obtain ⟨r13, hr13, rfl, rfl⟩ : ∃ z : Int32, z = (own_isEnd xs i en) ∧ u3 = some (.int z) ∧ D4 = _ := ⟨_, rfl, hp5.1, hp5.2⟩
      replace Y2 : On p l e _ s m _ below meth c Z n0 T1 0 0 ((ari t0 .byte z0 xs) :: Dr) := Y2
      show Rn p e below F T1 (mkF m 16 #[.val (.ref t0), .val (.int i), .val (.int f), .val (.int en)] [(.int r13)])
      by_cases hc16 : r13 = (0 : Int32)
      · refine Rn.go (T' := T1) (g' := (mkF m 73 #[.val (.ref t0), .val (.int i), .val (.int f), .val (.int en)] [])) (fun t k => XS.ifYes Y2.here hx rfl (pc0 := 16) (pc' := 73) rfl (hb hby d3_16) rfl ((if0 _ _).trans (teq hc16).1) (by decide) (by decide) k) ?_
        refine Rn.go (T' := T1) (g' := (mkF m 74 #[.val (.ref t0), .val (.int i), .val (.int f), .val (.int en)] [(.int (0 : Int32))])) (fun t k => ?_) ?_
        · show Steps p.tables e below (T1.setTop (mkF m 73 #[.val (.ref t0), .val (.int i), .val (.int f), .val (.int en)] [])) t
          refine XS.iconst Y2.here hx rfl (hb hby d3_73) ?_
          show Steps p.tables e below (T1.setTop (mkF m 74 #[.val (.ref t0), .val (.int i), .val (.int f), .val (.int en)] [(.int (0 : Int32))])) t
          exact k
        rw [← hF]; exact On.retn Y2 hx hret (by simp) hlk (z' := (0 : Int32)) (by decide) (hb hby d3_74) (by decide) (by decide) ⟨by simp [-List.getD_eq_getElem?_getD, own_good, hc2, hc7, ← hr13, hc16], rfl⟩
      · refine Rn.go (T' := T1) (g' := (mkF m 19 #[.val (.ref t0), .val (.int i), .val (.int f), .val (.int en)] [])) (fun t k => XS.ifNo Y2.here hx rfl (hb hby d3_16) rfl ((if0 _ _).trans (feq hc16).1) k) ?_
        refine Rn.go (T' := T1) (g' := (mkF m 23 #[.val (.ref t0), .val (.int i), .val (.int f), .val (.int en)] [(.int i), (.int f), (.int (0 : Int32)), (.ref t0)])) (fun t k => ?_) ?_
        · show Steps p.tables e below (T1.setTop (mkF m 19 #[.val (.ref t0), .val (.int i), .val (.int f), .val (.int en)] [])) t
          refine XS.aloadN Y2.here hx rfl (hb hby d3_19) rfl rfl ?_
          show Steps p.tables e below (T1.setTop (mkF m 20 #[.val (.ref t0), .val (.int i), .val (.int f), .val (.int en)] [(.ref t0)])) t
          refine XS.iconst Y2.here hx rfl (hb hby d3_20) ?_
          show Steps p.tables e below (T1.setTop (mkF m 21 #[.val (.ref t0), .val (.int i), .val (.int f), .val (.int en)] [(.int (0 : Int32)), (.ref t0)])) t
          refine XS.iloadN Y2.here hx rfl (hb hby d3_21) rfl ?_
          show Steps p.tables e below (T1.setTop (mkF m 22 #[.val (.ref t0), .val (.int i), .val (.int f), .val (.int en)] [(.int f), (.int (0 : Int32)), (.ref t0)])) t
          refine XS.iloadN Y2.here hx rfl (hb hby d3_22) rfl ?_
          show Steps p.tables e below (T1.setTop (mkF m 23 #[.val (.ref t0), .val (.int i), .val (.int f), .val (.int en)] [(.int i), (.int f), (.int (0 : Int32)), (.ref t0)])) t
          exact k
        refine On.static Y2 hx hZ (y := (⟨"com/example/nishati/nishati/io/LineReaderAsciiLineEndPinLaw", "plainAt", "([BIII)Z"⟩ : MethodName)) hown (w15 hw) (w16 hw) (w17 hw) (w3 hw) (by decide) (argsL := [(.ref t0), (.int (0 : Int32)), (.int f), (.int i)]) (rest := []) (rm5 l Z a0 hw n0 t0 (0 : Int32) f i z0 xs Dr (by decide) (by rw [hx5]; decide)) (W := 0) (by decide) (by decide) (by decide) (by decide) (g := (mkF m 23 #[.val (.ref t0), .val (.int i), .val (.int f), .val (.int en)] [(.int i), (.int f), (.int (0 : Int32)), (.ref t0)])) rfl (by rw [hml]; rfl) (lenOf pd1 rfl) rfl (by show 2 * 0 + _ ≤ _; exact Nat.le_of_eq rfl) (hb hby d3_23) ?_
        intro T6 u8 D9 hp10 Y7
        obtain ⟨r23, hr23, rfl, rfl⟩ : ∃ z : Int32, z = (own_plain xs (0 : Int32) f i) ∧ u8 = some (.int z) ∧ D9 = _ := ⟨_, rfl, hp10.1, hp10.2⟩
        replace Y7 : On p l e _ s m _ below meth c Z n0 T6 0 0 ((ari t0 .byte z0 xs) :: Dr) := Y7
        show Rn p e below F T6 (mkF m 26 #[.val (.ref t0), .val (.int i), .val (.int f), .val (.int en)] [(.int r23)])
        by_cases hc26 : r23 = (0 : Int32)
        · refine Rn.go (T' := T6) (g' := (mkF m 73 #[.val (.ref t0), .val (.int i), .val (.int f), .val (.int en)] [])) (fun t k => XS.ifYes Y7.here hx rfl (pc0 := 26) (pc' := 73) rfl (hb hby d3_26) rfl ((if0 _ _).trans (teq hc26).1) (by decide) (by decide) k) ?_
          refine Rn.go (T' := T6) (g' := (mkF m 74 #[.val (.ref t0), .val (.int i), .val (.int f), .val (.int en)] [(.int (0 : Int32))])) (fun t k => ?_) ?_
          · show Steps p.tables e below (T6.setTop (mkF m 73 #[.val (.ref t0), .val (.int i), .val (.int f), .val (.int en)] [])) t
            refine XS.iconst Y7.here hx rfl (hb hby d3_73) ?_
            show Steps p.tables e below (T6.setTop (mkF m 74 #[.val (.ref t0), .val (.int i), .val (.int f), .val (.int en)] [(.int (0 : Int32))])) t
            exact k
          rw [← hF]; exact On.retn Y7 hx hret (by simp) hlk (z' := (0 : Int32)) (by decide) (hb hby d3_74) (by decide) (by decide) ⟨by simp [-List.getD_eq_getElem?_getD, own_good, hc2, hc7, ← hr13, hc16, ← hr23, hc26], rfl⟩
        · refine Rn.go (T' := T6) (g' := (mkF m 29 #[.val (.ref t0), .val (.int i), .val (.int f), .val (.int en)] [])) (fun t k => XS.ifNo Y7.here hx rfl (hb hby d3_26) rfl ((if0 _ _).trans (feq hc26).1) k) ?_
          refine Rn.go (T' := T6) (g' := (mkF m 33 #[.val (.ref t0), .val (.int i), .val (.int f), .val (.int en)] [(.int i), (.int f), (.int (1 : Int32)), (.ref t0)])) (fun t k => ?_) ?_
          · show Steps p.tables e below (T6.setTop (mkF m 29 #[.val (.ref t0), .val (.int i), .val (.int f), .val (.int en)] [])) t
            refine XS.aloadN Y7.here hx rfl (hb hby d3_29) rfl rfl ?_
            show Steps p.tables e below (T6.setTop (mkF m 30 #[.val (.ref t0), .val (.int i), .val (.int f), .val (.int en)] [(.ref t0)])) t
            refine XS.iconst Y7.here hx rfl (hb hby d3_30) ?_
            show Steps p.tables e below (T6.setTop (mkF m 31 #[.val (.ref t0), .val (.int i), .val (.int f), .val (.int en)] [(.int (1 : Int32)), (.ref t0)])) t
            refine XS.iloadN Y7.here hx rfl (hb hby d3_31) rfl ?_
            show Steps p.tables e below (T6.setTop (mkF m 32 #[.val (.ref t0), .val (.int i), .val (.int f), .val (.int en)] [(.int f), (.int (1 : Int32)), (.ref t0)])) t
            refine XS.iloadN Y7.here hx rfl (hb hby d3_32) rfl ?_
            show Steps p.tables e below (T6.setTop (mkF m 33 #[.val (.ref t0), .val (.int i), .val (.int f), .val (.int en)] [(.int i), (.int f), (.int (1 : Int32)), (.ref t0)])) t
            exact k
          refine On.static Y7 hx hZ (y := (⟨"com/example/nishati/nishati/io/LineReaderAsciiLineEndPinLaw", "plainAt", "([BIII)Z"⟩ : MethodName)) hown (w15 hw) (w16 hw) (w17 hw) (w3 hw) (by decide) (argsL := [(.ref t0), (.int (1 : Int32)), (.int f), (.int i)]) (rest := []) (rm5 l Z a0 hw n0 t0 (1 : Int32) f i z0 xs Dr (by decide) (by rw [hx5]; decide)) (W := 0) (by decide) (by decide) (by decide) (by decide) (g := (mkF m 33 #[.val (.ref t0), .val (.int i), .val (.int f), .val (.int en)] [(.int i), (.int f), (.int (1 : Int32)), (.ref t0)])) rfl (by rw [hml]; rfl) (lenOf pd1 rfl) rfl (by show 2 * 0 + _ ≤ _; exact Nat.le_of_eq rfl) (hb hby d3_33) ?_
          intro T11 u13 D14 hp15 Y12
          obtain ⟨r33, hr33, rfl, rfl⟩ : ∃ z : Int32, z = (own_plain xs (1 : Int32) f i) ∧ u13 = some (.int z) ∧ D14 = _ := ⟨_, rfl, hp15.1, hp15.2⟩
          replace Y12 : On p l e _ s m _ below meth c Z n0 T11 0 0 ((ari t0 .byte z0 xs) :: Dr) := Y12
          show Rn p e below F T11 (mkF m 36 #[.val (.ref t0), .val (.int i), .val (.int f), .val (.int en)] [(.int r33)])
          by_cases hc36 : r33 = (0 : Int32)
          · refine Rn.go (T' := T11) (g' := (mkF m 73 #[.val (.ref t0), .val (.int i), .val (.int f), .val (.int en)] [])) (fun t k => XS.ifYes Y12.here hx rfl (pc0 := 36) (pc' := 73) rfl (hb hby d3_36) rfl ((if0 _ _).trans (teq hc36).1) (by decide) (by decide) k) ?_
            refine Rn.go (T' := T11) (g' := (mkF m 74 #[.val (.ref t0), .val (.int i), .val (.int f), .val (.int en)] [(.int (0 : Int32))])) (fun t k => ?_) ?_
            · show Steps p.tables e below (T11.setTop (mkF m 73 #[.val (.ref t0), .val (.int i), .val (.int f), .val (.int en)] [])) t
              refine XS.iconst Y12.here hx rfl (hb hby d3_73) ?_
              show Steps p.tables e below (T11.setTop (mkF m 74 #[.val (.ref t0), .val (.int i), .val (.int f), .val (.int en)] [(.int (0 : Int32))])) t
              exact k
            rw [← hF]; exact On.retn Y12 hx hret (by simp) hlk (z' := (0 : Int32)) (by decide) (hb hby d3_74) (by decide) (by decide) ⟨by simp [-List.getD_eq_getElem?_getD, own_good, hc2, hc7, ← hr13, hc16, ← hr23, hc26, ← hr33, hc36], rfl⟩
          · refine Rn.go (T' := T11) (g' := (mkF m 39 #[.val (.ref t0), .val (.int i), .val (.int f), .val (.int en)] [])) (fun t k => XS.ifNo Y12.here hx rfl (hb hby d3_36) rfl ((if0 _ _).trans (feq hc36).1) k) ?_
            refine Rn.go (T' := T11) (g' := (mkF m 43 #[.val (.ref t0), .val (.int i), .val (.int f), .val (.int en)] [(.int i), (.int f), (.int (2 : Int32)), (.ref t0)])) (fun t k => ?_) ?_
            · show Steps p.tables e below (T11.setTop (mkF m 39 #[.val (.ref t0), .val (.int i), .val (.int f), .val (.int en)] [])) t
              refine XS.aloadN Y12.here hx rfl (hb hby d3_39) rfl rfl ?_
              show Steps p.tables e below (T11.setTop (mkF m 40 #[.val (.ref t0), .val (.int i), .val (.int f), .val (.int en)] [(.ref t0)])) t
              refine XS.iconst Y12.here hx rfl (hb hby d3_40) ?_
              show Steps p.tables e below (T11.setTop (mkF m 41 #[.val (.ref t0), .val (.int i), .val (.int f), .val (.int en)] [(.int (2 : Int32)), (.ref t0)])) t
              refine XS.iloadN Y12.here hx rfl (hb hby d3_41) rfl ?_
              show Steps p.tables e below (T11.setTop (mkF m 42 #[.val (.ref t0), .val (.int i), .val (.int f), .val (.int en)] [(.int f), (.int (2 : Int32)), (.ref t0)])) t
              refine XS.iloadN Y12.here hx rfl (hb hby d3_42) rfl ?_
              show Steps p.tables e below (T11.setTop (mkF m 43 #[.val (.ref t0), .val (.int i), .val (.int f), .val (.int en)] [(.int i), (.int f), (.int (2 : Int32)), (.ref t0)])) t
              exact k
            refine On.static Y12 hx hZ (y := (⟨"com/example/nishati/nishati/io/LineReaderAsciiLineEndPinLaw", "plainAt", "([BIII)Z"⟩ : MethodName)) hown (w15 hw) (w16 hw) (w17 hw) (w3 hw) (by decide) (argsL := [(.ref t0), (.int (2 : Int32)), (.int f), (.int i)]) (rest := []) (rm5 l Z a0 hw n0 t0 (2 : Int32) f i z0 xs Dr (by decide) (by rw [hx5]; decide)) (W := 0) (by decide) (by decide) (by decide) (by decide) (g := (mkF m 43 #[.val (.ref t0), .val (.int i), .val (.int f), .val (.int en)] [(.int i), (.int f), (.int (2 : Int32)), (.ref t0)])) rfl (by rw [hml]; rfl) (lenOf pd1 rfl) rfl (by show 2 * 0 + _ ≤ _; exact Nat.le_of_eq rfl) (hb hby d3_43) ?_
            intro T16 u18 D19 hp20 Y17
            obtain ⟨r43, hr43, rfl, rfl⟩ : ∃ z : Int32, z = (own_plain xs (2 : Int32) f i) ∧ u18 = some (.int z) ∧ D19 = _ := ⟨_, rfl, hp20.1, hp20.2⟩
            replace Y17 : On p l e _ s m _ below meth c Z n0 T16 0 0 ((ari t0 .byte z0 xs) :: Dr) := Y17
            show Rn p e below F T16 (mkF m 46 #[.val (.ref t0), .val (.int i), .val (.int f), .val (.int en)] [(.int r43)])
            by_cases hc46 : r43 = (0 : Int32)
            · refine Rn.go (T' := T16) (g' := (mkF m 73 #[.val (.ref t0), .val (.int i), .val (.int f), .val (.int en)] [])) (fun t k => XS.ifYes Y17.here hx rfl (pc0 := 46) (pc' := 73) rfl (hb hby d3_46) rfl ((if0 _ _).trans (teq hc46).1) (by decide) (by decide) k) ?_
              refine Rn.go (T' := T16) (g' := (mkF m 74 #[.val (.ref t0), .val (.int i), .val (.int f), .val (.int en)] [(.int (0 : Int32))])) (fun t k => ?_) ?_
              · show Steps p.tables e below (T16.setTop (mkF m 73 #[.val (.ref t0), .val (.int i), .val (.int f), .val (.int en)] [])) t
                refine XS.iconst Y17.here hx rfl (hb hby d3_73) ?_
                show Steps p.tables e below (T16.setTop (mkF m 74 #[.val (.ref t0), .val (.int i), .val (.int f), .val (.int en)] [(.int (0 : Int32))])) t
                exact k
              rw [← hF]; exact On.retn Y17 hx hret (by simp) hlk (z' := (0 : Int32)) (by decide) (hb hby d3_74) (by decide) (by decide) ⟨by simp [-List.getD_eq_getElem?_getD, own_good, hc2, hc7, ← hr13, hc16, ← hr23, hc26, ← hr33, hc36, ← hr43, hc46], rfl⟩
            · refine Rn.go (T' := T16) (g' := (mkF m 49 #[.val (.ref t0), .val (.int i), .val (.int f), .val (.int en)] [])) (fun t k => XS.ifNo Y17.here hx rfl (hb hby d3_46) rfl ((if0 _ _).trans (feq hc46).1) k) ?_
              refine Rn.go (T' := T16) (g' := (mkF m 53 #[.val (.ref t0), .val (.int i), .val (.int f), .val (.int en)] [(.int i), (.int f), (.int (3 : Int32)), (.ref t0)])) (fun t k => ?_) ?_
              · show Steps p.tables e below (T16.setTop (mkF m 49 #[.val (.ref t0), .val (.int i), .val (.int f), .val (.int en)] [])) t
                refine XS.aloadN Y17.here hx rfl (hb hby d3_49) rfl rfl ?_
                show Steps p.tables e below (T16.setTop (mkF m 50 #[.val (.ref t0), .val (.int i), .val (.int f), .val (.int en)] [(.ref t0)])) t
                refine XS.iconst Y17.here hx rfl (hb hby d3_50) ?_
                show Steps p.tables e below (T16.setTop (mkF m 51 #[.val (.ref t0), .val (.int i), .val (.int f), .val (.int en)] [(.int (3 : Int32)), (.ref t0)])) t
                refine XS.iloadN Y17.here hx rfl (hb hby d3_51) rfl ?_
                show Steps p.tables e below (T16.setTop (mkF m 52 #[.val (.ref t0), .val (.int i), .val (.int f), .val (.int en)] [(.int f), (.int (3 : Int32)), (.ref t0)])) t
                refine XS.iloadN Y17.here hx rfl (hb hby d3_52) rfl ?_
                show Steps p.tables e below (T16.setTop (mkF m 53 #[.val (.ref t0), .val (.int i), .val (.int f), .val (.int en)] [(.int i), (.int f), (.int (3 : Int32)), (.ref t0)])) t
                exact k
              refine On.static Y17 hx hZ (y := (⟨"com/example/nishati/nishati/io/LineReaderAsciiLineEndPinLaw", "plainAt", "([BIII)Z"⟩ : MethodName)) hown (w15 hw) (w16 hw) (w17 hw) (w3 hw) (by decide) (argsL := [(.ref t0), (.int (3 : Int32)), (.int f), (.int i)]) (rest := []) (rm5 l Z a0 hw n0 t0 (3 : Int32) f i z0 xs Dr (by decide) (by rw [hx5]; decide)) (W := 0) (by decide) (by decide) (by decide) (by decide) (g := (mkF m 53 #[.val (.ref t0), .val (.int i), .val (.int f), .val (.int en)] [(.int i), (.int f), (.int (3 : Int32)), (.ref t0)])) rfl (by rw [hml]; rfl) (lenOf pd1 rfl) rfl (by show 2 * 0 + _ ≤ _; exact Nat.le_of_eq rfl) (hb hby d3_53) ?_
              intro T21 u23 D24 hp25 Y22
              obtain ⟨r53, hr53, rfl, rfl⟩ : ∃ z : Int32, z = (own_plain xs (3 : Int32) f i) ∧ u23 = some (.int z) ∧ D24 = _ := ⟨_, rfl, hp25.1, hp25.2⟩
              replace Y22 : On p l e _ s m _ below meth c Z n0 T21 0 0 ((ari t0 .byte z0 xs) :: Dr) := Y22
              show Rn p e below F T21 (mkF m 56 #[.val (.ref t0), .val (.int i), .val (.int f), .val (.int en)] [(.int r53)])
              by_cases hc56 : r53 = (0 : Int32)
              · refine Rn.go (T' := T21) (g' := (mkF m 73 #[.val (.ref t0), .val (.int i), .val (.int f), .val (.int en)] [])) (fun t k => XS.ifYes Y22.here hx rfl (pc0 := 56) (pc' := 73) rfl (hb hby d3_56) rfl ((if0 _ _).trans (teq hc56).1) (by decide) (by decide) k) ?_
                refine Rn.go (T' := T21) (g' := (mkF m 74 #[.val (.ref t0), .val (.int i), .val (.int f), .val (.int en)] [(.int (0 : Int32))])) (fun t k => ?_) ?_
                · show Steps p.tables e below (T21.setTop (mkF m 73 #[.val (.ref t0), .val (.int i), .val (.int f), .val (.int en)] [])) t
                  refine XS.iconst Y22.here hx rfl (hb hby d3_73) ?_
                  show Steps p.tables e below (T21.setTop (mkF m 74 #[.val (.ref t0), .val (.int i), .val (.int f), .val (.int en)] [(.int (0 : Int32))])) t
                  exact k
                rw [← hF]; exact On.retn Y22 hx hret (by simp) hlk (z' := (0 : Int32)) (by decide) (hb hby d3_74) (by decide) (by decide) ⟨by simp [-List.getD_eq_getElem?_getD, own_good, hc2, hc7, ← hr13, hc16, ← hr23, hc26, ← hr33, hc36, ← hr43, hc46, ← hr53, hc56], rfl⟩
              · refine Rn.go (T' := T21) (g' := (mkF m 59 #[.val (.ref t0), .val (.int i), .val (.int f), .val (.int en)] [])) (fun t k => XS.ifNo Y22.here hx rfl (hb hby d3_56) rfl ((if0 _ _).trans (feq hc56).1) k) ?_
                refine Rn.go (T' := T21) (g' := (mkF m 63 #[.val (.ref t0), .val (.int i), .val (.int f), .val (.int en)] [(.int i), (.int f), (.int (4 : Int32)), (.ref t0)])) (fun t k => ?_) ?_
                · show Steps p.tables e below (T21.setTop (mkF m 59 #[.val (.ref t0), .val (.int i), .val (.int f), .val (.int en)] [])) t
                  refine XS.aloadN Y22.here hx rfl (hb hby d3_59) rfl rfl ?_
                  show Steps p.tables e below (T21.setTop (mkF m 60 #[.val (.ref t0), .val (.int i), .val (.int f), .val (.int en)] [(.ref t0)])) t
                  refine XS.iconst Y22.here hx rfl (hb hby d3_60) ?_
                  show Steps p.tables e below (T21.setTop (mkF m 61 #[.val (.ref t0), .val (.int i), .val (.int f), .val (.int en)] [(.int (4 : Int32)), (.ref t0)])) t
                  refine XS.iloadN Y22.here hx rfl (hb hby d3_61) rfl ?_
                  show Steps p.tables e below (T21.setTop (mkF m 62 #[.val (.ref t0), .val (.int i), .val (.int f), .val (.int en)] [(.int f), (.int (4 : Int32)), (.ref t0)])) t
                  refine XS.iloadN Y22.here hx rfl (hb hby d3_62) rfl ?_
                  show Steps p.tables e below (T21.setTop (mkF m 63 #[.val (.ref t0), .val (.int i), .val (.int f), .val (.int en)] [(.int i), (.int f), (.int (4 : Int32)), (.ref t0)])) t
                  exact k
                refine On.static Y22 hx hZ (y := (⟨"com/example/nishati/nishati/io/LineReaderAsciiLineEndPinLaw", "plainAt", "([BIII)Z"⟩ : MethodName)) hown (w15 hw) (w16 hw) (w17 hw) (w3 hw) (by decide) (argsL := [(.ref t0), (.int (4 : Int32)), (.int f), (.int i)]) (rest := []) (rm5 l Z a0 hw n0 t0 (4 : Int32) f i z0 xs Dr (by decide) (by rw [hx5]; decide)) (W := 0) (by decide) (by decide) (by decide) (by decide) (g := (mkF m 63 #[.val (.ref t0), .val (.int i), .val (.int f), .val (.int en)] [(.int i), (.int f), (.int (4 : Int32)), (.ref t0)])) rfl (by rw [hml]; rfl) (lenOf pd1 rfl) rfl (by show 2 * 0 + _ ≤ _; exact Nat.le_of_eq rfl) (hb hby d3_63) ?_
                intro T26 u28 D29 hp30 Y27
                obtain ⟨r63, hr63, rfl, rfl⟩ : ∃ z : Int32, z = (own_plain xs (4 : Int32) f i) ∧ u28 = some (.int z) ∧ D29 = _ := ⟨_, rfl, hp30.1, hp30.2⟩
                replace Y27 : On p l e _ s m _ below meth c Z n0 T26 0 0 ((ari t0 .byte z0 xs) :: Dr) := Y27
                show Rn p e below F T26 (mkF m 66 #[.val (.ref t0), .val (.int i), .val (.int f), .val (.int en)] [(.int r63)])
                by_cases hc66 : r63 = (0 : Int32)
                · refine Rn.go (T' := T26) (g' := (mkF m 73 #[.val (.ref t0), .val (.int i), .val (.int f), .val (.int en)] [])) (fun t k => XS.ifYes Y27.here hx rfl (pc0 := 66) (pc' := 73) rfl (hb hby d3_66) rfl ((if0 _ _).trans (teq hc66).1) (by decide) (by decide) k) ?_
                  refine Rn.go (T' := T26) (g' := (mkF m 74 #[.val (.ref t0), .val (.int i), .val (.int f), .val (.int en)] [(.int (0 : Int32))])) (fun t k => ?_) ?_
                  · show Steps p.tables e below (T26.setTop (mkF m 73 #[.val (.ref t0), .val (.int i), .val (.int f), .val (.int en)] [])) t
                    refine XS.iconst Y27.here hx rfl (hb hby d3_73) ?_
                    show Steps p.tables e below (T26.setTop (mkF m 74 #[.val (.ref t0), .val (.int i), .val (.int f), .val (.int en)] [(.int (0 : Int32))])) t
                    exact k
                  rw [← hF]; exact On.retn Y27 hx hret (by simp) hlk (z' := (0 : Int32)) (by decide) (hb hby d3_74) (by decide) (by decide) ⟨by simp [-List.getD_eq_getElem?_getD, own_good, hc2, hc7, ← hr13, hc16, ← hr23, hc26, ← hr33, hc36, ← hr43, hc46, ← hr53, hc56, ← hr63, hc66], rfl⟩
                · refine Rn.go (T' := T26) (g' := (mkF m 69 #[.val (.ref t0), .val (.int i), .val (.int f), .val (.int en)] [])) (fun t k => XS.ifNo Y27.here hx rfl (hb hby d3_66) rfl ((if0 _ _).trans (feq hc66).1) k) ?_
                  refine Rn.go (T' := T26) (g' := (mkF m 74 #[.val (.ref t0), .val (.int i), .val (.int f), .val (.int en)] [(.int (1 : Int32))])) (fun t k => ?_) ?_
                  · show Steps p.tables e below (T26.setTop (mkF m 69 #[.val (.ref t0), .val (.int i), .val (.int f), .val (.int en)] [])) t
                    refine XS.iconst Y27.here hx rfl (hb hby d3_69) ?_
                    show Steps p.tables e below (T26.setTop (mkF m 70 #[.val (.ref t0), .val (.int i), .val (.int f), .val (.int en)] [(.int (1 : Int32))])) t
                    refine XS.goto Y27.here hx rfl (pc0 := 70) (pc' := 74) rfl (hb hby d3_70) (by decide) (by decide) ?_
                    show Steps p.tables e below (T26.setTop (mkF m 74 #[.val (.ref t0), .val (.int i), .val (.int f), .val (.int en)] [(.int (1 : Int32))])) t
                    exact k
                  rw [← hF]; exact On.retn Y27 hx hret (by simp) hlk (z' := (1 : Int32)) (by decide) (hb hby d3_74) (by decide) (by decide) ⟨by simp [-List.getD_eq_getElem?_getD, own_good, hc2, hc7, ← hr13, hc16, ← hr23, hc26, ← hr33, hc36, ← hr43, hc46, ← hr53, hc56, ← hr63, hc66], rfl⟩
    · refine Rn.go (T' := T) (g' := (mkF m 73 #[.val (.ref t0), .val (.int i), .val (.int f), .val (.int en)] [])) (fun t k => XS.icmpYes Y.here hx rfl (pc0 := 7) (pc' := 73) rfl (hb hby d3_7) rfl (flt hc7).2.1 (by decide) (by decide) k) ?_
      refine Rn.go (T' := T) (g' := (mkF m 74 #[.val (.ref t0), .val (.int i), .val (.int f), .val (.int en)] [(.int (0 : Int32))])) (fun t k => ?_) ?_
      · show Steps p.tables e below (T.setTop (mkF m 73 #[.val (.ref t0), .val (.int i), .val (.int f), .val (.int en)] [])) t
        refine XS.iconst Y.here hx rfl (hb hby d3_73) ?_
        show Steps p.tables e below (T.setTop (mkF m 74 #[.val (.ref t0), .val (.int i), .val (.int f), .val (.int en)] [(.int (0 : Int32))])) t
        exact k
      rw [← hF]; exact On.retn Y hx hret (by simp) hlk (z' := (0 : Int32)) (by decide) (hb hby d3_74) (by decide) (by decide) ⟨by simp [-List.getD_eq_getElem?_getD, own_good, hc2, hc7], rfl⟩
/-! ## H. asciiLineEnd -/
def own_al (xs : List Int32) (en : Int32) : Nat → Int32 → Int32
  | 0, _ => -1
  | k + 1, i => if xs.getD i.toNatClampNeg 0 = 10 then i else if xs.getD i.toNatClampNeg 0 = 13 then (if i + 1 < en then (if xs.getD (i + 1).toNatClampNeg 0 = 10 then i else -1) else -1) else if xs.getD i.toNatClampNeg 0 < 0 then -1 else own_al xs en k (i + 1)
theorem own_al0 (xs : List Int32) (en i : Int32) : own_al xs en 0 i = -1 := rfl
theorem own_alS (xs : List Int32) (en : Int32) (k : Nat) (i : Int32) : own_al xs en (k + 1) i = if xs.getD i.toNatClampNeg 0 = 10 then i else if xs.getD i.toNatClampNeg 0 = 13 then (if i + 1 < en then (if xs.getD (i + 1).toNatClampNeg 0 = 10 then i else -1) else -1) else if xs.getD i.toNatClampNeg 0 < 0 then -1 else own_al xs en k (i + 1) := rfl
theorem own_os6 {z0 z1 z2 z3 z4 z5 : Value} {sl : Slot} {v : Int32} (h : One sl) : storeLocals #[.val z0, .val z1, .val z2, .val z3, .val z4, .val z5, sl] 6 (.int v) = some #[.val z0, .val z1, .val z2, .val z3, .val z4, .val z5, .val (.int v)] := by
  rcases h with rfl | ⟨w, rfl, hw⟩
  · rfl
  · cases w <;> first | rfl | (simp [Value.category] at hw)
set_option maxRecDepth 65536 in
set_option maxHeartbeats 40000000 in
theorem own_ta {p : Program} {l : Launch} {e : Env} {R : Room} {s : State} {m : MethodId} {args : Array Value} {below : List Frame} {meth : Method} {c : Code} {Z : State} {a0 : Array Value} {n0 : Nat} {F : State → Prop} {cells slots : Nat} (hx : p.tables.exec = Jvm.exec) (hby : c.code = prog_81_method_14_code) (hml : c.maxLocals = 7) (hown : s.vm.findClass "com/example/nishati/nishati/io/LineReader" = some m.cls) (hZ : Z.Warmed39 s.vm) (hw : ∀ d ∈ tables_1, d.before a0 Z = true) (t0 : Addr) (z0 f en v i : Int32) (xs : List Int32) (Dr : List (Addr × Itm)) (hv : ¬ v < 0) (s6 : Slot) (T : State) (Y : On p l e R s m args below meth c Z n0 T cells slots ((ari t0 .byte z0 xs) :: Dr)) (kk : ∀ (T' : State) (l4 i' : Int32) (s6' : Slot), On p l e R s m args below meth c Z n0 T' cells slots ((ari t0 .byte z0 xs) :: Dr) → Rn p e below F T' (mkF m 93 #[.val (.ref t0), .val (.int f), .val (.int en), .val (.int v), .val (.int l4), .val (.int i'), s6'] [])) : Rn p e below F T (mkF m 8 #[.val (.ref t0), .val (.int f), .val (.int en), .val (.int v), .val (.int (1 : Int32)), .val (.int i), s6] []) := by
  refine Rn.go (T' := T) (g' := (mkF m 11 #[.val (.ref t0), .val (.int f), .val (.int en), .val (.int v), .val (.int (1 : Int32)), .val (.int i), s6] [(.int en), (.int i)])) (fun t k => ?_) ?_
  · show Steps p.tables e below (T.setTop (mkF m 8 #[.val (.ref t0), .val (.int f), .val (.int en), .val (.int v), .val (.int (1 : Int32)), .val (.int i), s6] [])) t
    refine XS.iload Y.here hx rfl (hb hby d2_8) rfl ?_
    show Steps p.tables e below (T.setTop (mkF m 10 #[.val (.ref t0), .val (.int f), .val (.int en), .val (.int v), .val (.int (1 : Int32)), .val (.int i), s6] [(.int i)])) t
    refine XS.iloadN Y.here hx rfl (hb hby d2_10) rfl ?_
    show Steps p.tables e below (T.setTop (mkF m 11 #[.val (.ref t0), .val (.int f), .val (.int en), .val (.int v), .val (.int (1 : Int32)), .val (.int i), s6] [(.int en), (.int i)])) t
    exact k
  by_cases hc11 : i < en
  · refine Rn.go (T' := T) (g' := (mkF m 14 #[.val (.ref t0), .val (.int f), .val (.int en), .val (.int v), .val (.int (1 : Int32)), .val (.int i), s6] [])) (fun t k => XS.icmpNo Y.here hx rfl (hb hby d2_11) rfl (tlt hc11).2.1 k) ?_
    refine Rn.go (T' := T) (g' := (mkF m 16 #[.val (.ref t0), .val (.int f), .val (.int en), .val (.int v), .val (.int (1 : Int32)), .val (.int i), s6] [(.int (1 : Int32))])) (fun t k => ?_) ?_
    · show Steps p.tables e below (T.setTop (mkF m 14 #[.val (.ref t0), .val (.int f), .val (.int en), .val (.int v), .val (.int (1 : Int32)), .val (.int i), s6] [])) t
      refine XS.iload Y.here hx rfl (hb hby d2_14) rfl ?_
      show Steps p.tables e below (T.setTop (mkF m 16 #[.val (.ref t0), .val (.int f), .val (.int en), .val (.int v), .val (.int (1 : Int32)), .val (.int i), s6] [(.int (1 : Int32))])) t
      exact k
    refine Rn.go (T' := T) (g' := (mkF m 19 #[.val (.ref t0), .val (.int f), .val (.int en), .val (.int v), .val (.int (1 : Int32)), .val (.int i), s6] [])) (fun t k => XS.ifNo Y.here hx rfl (hb hby d2_16) rfl ((if0 _ _).trans (feq (by decide)).1) k) ?_
    refine Rn.go (T' := T) (g' := (mkF m 20 #[.val (.ref t0), .val (.int f), .val (.int en), .val (.int v), .val (.int (1 : Int32)), .val (.int i), s6] [(.int v)])) (fun t k => ?_) ?_
    · show Steps p.tables e below (T.setTop (mkF m 19 #[.val (.ref t0), .val (.int f), .val (.int en), .val (.int v), .val (.int (1 : Int32)), .val (.int i), s6] [])) t
      refine XS.iloadN Y.here hx rfl (hb hby d2_19) rfl ?_
      show Steps p.tables e below (T.setTop (mkF m 20 #[.val (.ref t0), .val (.int f), .val (.int en), .val (.int v), .val (.int (1 : Int32)), .val (.int i), s6] [(.int v)])) t
      exact k
    refine Rn.go (T' := T) (g' := (mkF m 93 #[.val (.ref t0), .val (.int f), .val (.int en), .val (.int v), .val (.int (1 : Int32)), .val (.int i), s6] [])) (fun t k => XS.ifYes Y.here hx rfl (pc0 := 20) (pc' := 93) rfl (hb hby d2_20) rfl ((if0 _ _).trans (flt hv).2.1) (by decide) (by decide) k) ?_
    exact kk _ _ _ _ Y
  · refine Rn.go (T' := T) (g' := (mkF m 93 #[.val (.ref t0), .val (.int f), .val (.int en), .val (.int v), .val (.int (1 : Int32)), .val (.int i), s6] [])) (fun t k => XS.icmpYes Y.here hx rfl (pc0 := 11) (pc' := 93) rfl (hb hby d2_11) rfl (flt hc11).2.1 (by decide) (by decide) k) ?_
    exact kk _ _ _ _ Y
set_option maxRecDepth 65536 in
set_option maxHeartbeats 40000000 in
theorem own_tb {p : Program} {l : Launch} {e : Env} {R : Room} {s : State} {m : MethodId} {args : Array Value} {below : List Frame} {meth : Method} {c : Code} {Z : State} {a0 : Array Value} {n0 : Nat} {F : State → Prop} {cells slots : Nat} (hx : p.tables.exec = Jvm.exec) (hby : c.code = prog_81_method_14_code) (hml : c.maxLocals = 7) (hown : s.vm.findClass "com/example/nishati/nishati/io/LineReader" = some m.cls) (hZ : Z.Warmed39 s.vm) (hw : ∀ d ∈ tables_1, d.before a0 Z = true) (t0 : Addr) (z0 f en v i : Int32) (xs : List Int32) (Dr : List (Addr × Itm)) (s6 : Slot) (T : State) (Y : On p l e R s m args below meth c Z n0 T cells slots ((ari t0 .byte z0 xs) :: Dr)) (kk : ∀ (T' : State) (l4 i' : Int32) (s6' : Slot), On p l e R s m args below meth c Z n0 T' cells slots ((ari t0 .byte z0 xs) :: Dr) → Rn p e below F T' (mkF m 93 #[.val (.ref t0), .val (.int f), .val (.int en), .val (.int v), .val (.int l4), .val (.int i'), s6'] [])) : Rn p e below F T (mkF m 8 #[.val (.ref t0), .val (.int f), .val (.int en), .val (.int v), .val (.int (0 : Int32)), .val (.int i), s6] []) := by
  refine Rn.go (T' := T) (g' := (mkF m 11 #[.val (.ref t0), .val (.int f), .val (.int en), .val (.int v), .val (.int (0 : Int32)), .val (.int i), s6] [(.int en), (.int i)])) (fun t k => ?_) ?_
  · show Steps p.tables e below (T.setTop (mkF m 8 #[.val (.ref t0), .val (.int f), .val (.int en), .val (.int v), .val (.int (0 : Int32)), .val (.int i), s6] [])) t
    refine XS.iload Y.here hx rfl (hb hby d2_8) rfl ?_
    show Steps p.tables e below (T.setTop (mkF m 10 #[.val (.ref t0), .val (.int f), .val (.int en), .val (.int v), .val (.int (0 : Int32)), .val (.int i), s6] [(.int i)])) t
    refine XS.iloadN Y.here hx rfl (hb hby d2_10) rfl ?_
    show Steps p.tables e below (T.setTop (mkF m 11 #[.val (.ref t0), .val (.int f), .val (.int en), .val (.int v), .val (.int (0 : Int32)), .val (.int i), s6] [(.int en), (.int i)])) t
    exact k
  by_cases hc11 : i < en
  · refine Rn.go (T' := T) (g' := (mkF m 14 #[.val (.ref t0), .val (.int f), .val (.int en), .val (.int v), .val (.int (0 : Int32)), .val (.int i), s6] [])) (fun t k => XS.icmpNo Y.here hx rfl (hb hby d2_11) rfl (tlt hc11).2.1 k) ?_
    refine Rn.go (T' := T) (g' := (mkF m 16 #[.val (.ref t0), .val (.int f), .val (.int en), .val (.int v), .val (.int (0 : Int32)), .val (.int i), s6] [(.int (0 : Int32))])) (fun t k => ?_) ?_
    · show Steps p.tables e below (T.setTop (mkF m 14 #[.val (.ref t0), .val (.int f), .val (.int en), .val (.int v), .val (.int (0 : Int32)), .val (.int i), s6] [])) t
      refine XS.iload Y.here hx rfl (hb hby d2_14) rfl ?_
      show Steps p.tables e below (T.setTop (mkF m 16 #[.val (.ref t0), .val (.int f), .val (.int en), .val (.int v), .val (.int (0 : Int32)), .val (.int i), s6] [(.int (0 : Int32))])) t
      exact k
    refine Rn.go (T' := T) (g' := (mkF m 93 #[.val (.ref t0), .val (.int f), .val (.int en), .val (.int v), .val (.int (0 : Int32)), .val (.int i), s6] [])) (fun t k => XS.ifYes Y.here hx rfl (pc0 := 16) (pc' := 93) rfl (hb hby d2_16) rfl ((if0 _ _).trans (teq (by decide)).1) (by decide) (by decide) k) ?_
    exact kk _ _ _ _ Y
  · refine Rn.go (T' := T) (g' := (mkF m 93 #[.val (.ref t0), .val (.int f), .val (.int en), .val (.int v), .val (.int (0 : Int32)), .val (.int i), s6] [])) (fun t k => XS.icmpYes Y.here hx rfl (pc0 := 11) (pc' := 93) rfl (hb hby d2_11) rfl (flt hc11).2.1 (by decide) (by decide) k) ?_
    exact kk _ _ _ _ Y
set_option maxRecDepth 65536 in
set_option maxHeartbeats 40000000 in
theorem own_loop {p : Program} {l : Launch} {e : Env} {R : Room} {s : State} {m : MethodId} {args : Array Value} {below : List Frame} {meth : Method} {c : Code} {Z : State} {a0 : Array Value} {n0 : Nat} {F : State → Prop} {cells slots : Nat} (hx : p.tables.exec = Jvm.exec) (hby : c.code = prog_81_method_14_code) (hml : c.maxLocals = 7) (hown : s.vm.findClass "com/example/nishati/nishati/io/LineReader" = some m.cls) (hZ : Z.Warmed39 s.vm) (hw : ∀ d ∈ tables_1, d.before a0 Z = true) (t0 : Addr) (z0 f en : Int32) (xs : List Int32) (Dr : List (Addr × Itm)) (hxl : xs.length ≤ 1000) (hel : en.toInt ≤ xs.length) :
    ∀ (k : Nat) (i : Int32) (s6 : Slot) (T : State), One s6 → (i.toInt + k = en.toInt ∨ (k = 0 ∧ en.toInt ≤ i.toInt)) → 0 ≤ i.toInt → On p l e R s m args below meth c Z n0 T cells slots ((ari t0 .byte z0 xs) :: Dr) → (∀ (T' : State) (l4 i' : Int32) (s6' : Slot), On p l e R s m args below meth c Z n0 T' cells slots ((ari t0 .byte z0 xs) :: Dr) → Rn p e below F T' (mkF m 93 #[.val (.ref t0), .val (.int f), .val (.int en), .val (.int (own_al xs en k i)), .val (.int l4), .val (.int i'), s6'] [])) → Rn p e below F T (mkF m 8 #[.val (.ref t0), .val (.int f), .val (.int en), .val (.int (-1 : Int32)), .val (.int (1 : Int32)), .val (.int i), s6] []) := by
  intro k
  induction k with
  | zero =>
    intro i s6 T hs6 he hi Y kk
    refine Rn.go (T' := T) (g' := (mkF m 11 #[.val (.ref t0), .val (.int f), .val (.int en), .val (.int (-1 : Int32)), .val (.int (1 : Int32)), .val (.int i), s6] [(.int en), (.int i)])) (fun t k => ?_) ?_
    · show Steps p.tables e below (T.setTop (mkF m 8 #[.val (.ref t0), .val (.int f), .val (.int en), .val (.int (-1 : Int32)), .val (.int (1 : Int32)), .val (.int i), s6] [])) t
      refine XS.iload Y.here hx rfl (hb hby d2_8) rfl ?_
      show Steps p.tables e below (T.setTop (mkF m 10 #[.val (.ref t0), .val (.int f), .val (.int en), .val (.int (-1 : Int32)), .val (.int (1 : Int32)), .val (.int i), s6] [(.int i)])) t
      refine XS.iloadN Y.here hx rfl (hb hby d2_10) rfl ?_
      show Steps p.tables e below (T.setTop (mkF m 11 #[.val (.ref t0), .val (.int f), .val (.int en), .val (.int (-1 : Int32)), .val (.int (1 : Int32)), .val (.int i), s6] [(.int en), (.int i)])) t
      exact k
    refine Rn.go (T' := T) (g' := (mkF m 93 #[.val (.ref t0), .val (.int f), .val (.int en), .val (.int (-1 : Int32)), .val (.int (1 : Int32)), .val (.int i), s6] [])) (fun t k => XS.icmpYes Y.here hx rfl (pc0 := 11) (pc' := 93) rfl (hb hby d2_11) rfl (flt (by rw [Int32.lt_iff_toInt_lt]; omega)).2.1 (by decide) (by decide) k) ?_
    exact kk _ _ _ _ Y
  | succ k ih =>
    intro i s6 T hs6 he hi Y kk
    have he' : i.toInt + (k + 1) = en.toInt := by omega
    have ei := own_up (j := i) (by omega)
    have hi0 : ¬ i < 0 := by rw [Int32.lt_iff_toInt_lt]; have : (0 : Int32).toInt = 0 := rfl; omega
    have ha := own_at (xs := xs) hi (by omega)
    refine Rn.go (T' := T) (g' := (mkF m 11 #[.val (.ref t0), .val (.int f), .val (.int en), .val (.int (-1 : Int32)), .val (.int (1 : Int32)), .val (.int i), s6] [(.int en), (.int i)])) (fun t k => ?_) ?_
    · show Steps p.tables e below (T.setTop (mkF m 8 #[.val (.ref t0), .val (.int f), .val (.int en), .val (.int (-1 : Int32)), .val (.int (1 : Int32)), .val (.int i), s6] [])) t
      refine XS.iload Y.here hx rfl (hb hby d2_8) rfl ?_
      show Steps p.tables e below (T.setTop (mkF m 10 #[.val (.ref t0), .val (.int f), .val (.int en), .val (.int (-1 : Int32)), .val (.int (1 : Int32)), .val (.int i), s6] [(.int i)])) t
      refine XS.iloadN Y.here hx rfl (hb hby d2_10) rfl ?_
      show Steps p.tables e below (T.setTop (mkF m 11 #[.val (.ref t0), .val (.int f), .val (.int en), .val (.int (-1 : Int32)), .val (.int (1 : Int32)), .val (.int i), s6] [(.int en), (.int i)])) t
      exact k
    refine Rn.go (T' := T) (g' := (mkF m 14 #[.val (.ref t0), .val (.int f), .val (.int en), .val (.int (-1 : Int32)), .val (.int (1 : Int32)), .val (.int i), s6] [])) (fun t k => XS.icmpNo Y.here hx rfl (hb hby d2_11) rfl (tlt (by rw [Int32.lt_iff_toInt_lt]; omega)).2.1 k) ?_
    refine Rn.go (T' := T) (g' := (mkF m 16 #[.val (.ref t0), .val (.int f), .val (.int en), .val (.int (-1 : Int32)), .val (.int (1 : Int32)), .val (.int i), s6] [(.int (1 : Int32))])) (fun t k => ?_) ?_
    · show Steps p.tables e below (T.setTop (mkF m 14 #[.val (.ref t0), .val (.int f), .val (.int en), .val (.int (-1 : Int32)), .val (.int (1 : Int32)), .val (.int i), s6] [])) t
      refine XS.iload Y.here hx rfl (hb hby d2_14) rfl ?_
      show Steps p.tables e below (T.setTop (mkF m 16 #[.val (.ref t0), .val (.int f), .val (.int en), .val (.int (-1 : Int32)), .val (.int (1 : Int32)), .val (.int i), s6] [(.int (1 : Int32))])) t
      exact k
    refine Rn.go (T' := T) (g' := (mkF m 19 #[.val (.ref t0), .val (.int f), .val (.int en), .val (.int (-1 : Int32)), .val (.int (1 : Int32)), .val (.int i), s6] [])) (fun t k => XS.ifNo Y.here hx rfl (hb hby d2_16) rfl ((if0 _ _).trans (feq (by decide)).1) k) ?_
    refine Rn.go (T' := T) (g' := (mkF m 20 #[.val (.ref t0), .val (.int f), .val (.int en), .val (.int (-1 : Int32)), .val (.int (1 : Int32)), .val (.int i), s6] [(.int (-1 : Int32))])) (fun t k => ?_) ?_
    · show Steps p.tables e below (T.setTop (mkF m 19 #[.val (.ref t0), .val (.int f), .val (.int en), .val (.int (-1 : Int32)), .val (.int (1 : Int32)), .val (.int i), s6] [])) t
      refine XS.iloadN Y.here hx rfl (hb hby d2_19) rfl ?_
      show Steps p.tables e below (T.setTop (mkF m 20 #[.val (.ref t0), .val (.int f), .val (.int en), .val (.int (-1 : Int32)), .val (.int (1 : Int32)), .val (.int i), s6] [(.int (-1 : Int32))])) t
      exact k
    refine Rn.go (T' := T) (g' := (mkF m 23 #[.val (.ref t0), .val (.int f), .val (.int en), .val (.int (-1 : Int32)), .val (.int (1 : Int32)), .val (.int i), s6] [])) (fun t k => XS.ifNo Y.here hx rfl (hb hby d2_20) rfl ((if0 _ _).trans (tlt (by decide)).2.1) k) ?_
    refine Rn.go (T' := T) (g' := (mkF m 26 #[.val (.ref t0), .val (.int f), .val (.int en), .val (.int (-1 : Int32)), .val (.int (1 : Int32)), .val (.int i), s6] [(.int i), (.ref t0)])) (fun t k => ?_) ?_
    · show Steps p.tables e below (T.setTop (mkF m 23 #[.val (.ref t0), .val (.int f), .val (.int en), .val (.int (-1 : Int32)), .val (.int (1 : Int32)), .val (.int i), s6] [])) t
      refine XS.aloadN Y.here hx rfl (hb hby d2_23) rfl rfl ?_
      show Steps p.tables e below (T.setTop (mkF m 24 #[.val (.ref t0), .val (.int f), .val (.int en), .val (.int (-1 : Int32)), .val (.int (1 : Int32)), .val (.int i), s6] [(.ref t0)])) t
      refine XS.iload Y.here hx rfl (hb hby d2_24) rfl ?_
      show Steps p.tables e below (T.setTop (mkF m 26 #[.val (.ref t0), .val (.int f), .val (.int en), .val (.int (-1 : Int32)), .val (.int (1 : Int32)), .val (.int i), s6] [(.int i), (.ref t0)])) t
      exact k
    refine On.bld Y hx hZ (i := 0) rfl (k := i) (x := (xs.getD i.toNatClampNeg 0)) ha.1 ha.2 (g := (mkF m 26 #[.val (.ref t0), .val (.int f), .val (.int en), .val (.int (-1 : Int32)), .val (.int (1 : Int32)), .val (.int i), s6] [(.int i), (.ref t0)])) rfl rfl (hb hby d2_26) ?_
    show Rn p e below F T (mkF m 27 #[.val (.ref t0), .val (.int f), .val (.int en), .val (.int (-1 : Int32)), .val (.int (1 : Int32)), .val (.int i), s6] [(.int (xs.getD i.toNatClampNeg 0))])
    refine Rn.go (T' := T) (g' := (mkF m 33 #[.val (.ref t0), .val (.int f), .val (.int en), .val (.int (-1 : Int32)), .val (.int (1 : Int32)), .val (.int i), .val (.int (xs.getD i.toNatClampNeg 0))] [(.int (10 : Int32)), (.int (xs.getD i.toNatClampNeg 0))])) (fun t k => ?_) ?_
    · show Steps p.tables e below (T.setTop (mkF m 27 #[.val (.ref t0), .val (.int f), .val (.int en), .val (.int (-1 : Int32)), .val (.int (1 : Int32)), .val (.int i), s6] [(.int (xs.getD i.toNatClampNeg 0))])) t
      refine XS.istore Y.here hx rfl (hb hby d2_27) rfl (l' := #[.val (.ref t0), .val (.int f), .val (.int en), .val (.int (-1 : Int32)), .val (.int (1 : Int32)), .val (.int i), .val (.int (xs.getD i.toNatClampNeg 0))]) (own_os6 hs6) ?_
      show Steps p.tables e below (T.setTop (mkF m 29 #[.val (.ref t0), .val (.int f), .val (.int en), .val (.int (-1 : Int32)), .val (.int (1 : Int32)), .val (.int i), .val (.int (xs.getD i.toNatClampNeg 0))] [])) t
      refine XS.iload Y.here hx rfl (hb hby d2_29) rfl ?_
      show Steps p.tables e below (T.setTop (mkF m 31 #[.val (.ref t0), .val (.int f), .val (.int en), .val (.int (-1 : Int32)), .val (.int (1 : Int32)), .val (.int i), .val (.int (xs.getD i.toNatClampNeg 0))] [(.int (xs.getD i.toNatClampNeg 0))])) t
      refine XS.bipush Y.here hx rfl (hb hby d2_31) ?_
      show Steps p.tables e below (T.setTop (mkF m 33 #[.val (.ref t0), .val (.int f), .val (.int en), .val (.int (-1 : Int32)), .val (.int (1 : Int32)), .val (.int i), .val (.int (xs.getD i.toNatClampNeg 0))] [(.int (10 : Int32)), (.int (xs.getD i.toNatClampNeg 0))])) t
      exact k
    by_cases hc33 : (xs.getD i.toNatClampNeg 0) = (10 : Int32)
    · refine Rn.go (T' := T) (g' := (mkF m 62 #[.val (.ref t0), .val (.int f), .val (.int en), .val (.int (-1 : Int32)), .val (.int (1 : Int32)), .val (.int i), .val (.int (xs.getD i.toNatClampNeg 0))] [])) (fun t k => XS.icmpYes Y.here hx rfl (pc0 := 33) (pc' := 62) rfl (hb hby d2_33) rfl (teq hc33).1 (by decide) (by decide) k) ?_
      refine Rn.go (T' := T) (g' := (mkF m 8 #[.val (.ref t0), .val (.int f), .val (.int en), .val (.int i), .val (.int (1 : Int32)), .val (.int (i + (1 : Int32))), .val (.int (xs.getD i.toNatClampNeg 0))] [])) (fun t k => ?_) ?_
      · show Steps p.tables e below (T.setTop (mkF m 62 #[.val (.ref t0), .val (.int f), .val (.int en), .val (.int (-1 : Int32)), .val (.int (1 : Int32)), .val (.int i), .val (.int (xs.getD i.toNatClampNeg 0))] [])) t
        refine XS.iload Y.here hx rfl (hb hby d2_62) rfl ?_
        show Steps p.tables e below (T.setTop (mkF m 64 #[.val (.ref t0), .val (.int f), .val (.int en), .val (.int (-1 : Int32)), .val (.int (1 : Int32)), .val (.int i), .val (.int (xs.getD i.toNatClampNeg 0))] [(.int i)])) t
        refine XS.istoreN Y.here hx rfl (hb hby d2_64) rfl (l' := #[.val (.ref t0), .val (.int f), .val (.int en), .val (.int i), .val (.int (1 : Int32)), .val (.int i), .val (.int (xs.getD i.toNatClampNeg 0))]) rfl ?_
        show Steps p.tables e below (T.setTop (mkF m 65 #[.val (.ref t0), .val (.int f), .val (.int en), .val (.int i), .val (.int (1 : Int32)), .val (.int i), .val (.int (xs.getD i.toNatClampNeg 0))] [])) t
        refine XS.goto Y.here hx rfl (pc0 := 65) (pc' := 87) rfl (hb hby d2_65) (by decide) (by decide) ?_
        show Steps p.tables e below (T.setTop (mkF m 87 #[.val (.ref t0), .val (.int f), .val (.int en), .val (.int i), .val (.int (1 : Int32)), .val (.int i), .val (.int (xs.getD i.toNatClampNeg 0))] [])) t
        refine XS.iinc Y.here hx rfl (hb hby d2_87) rfl (l' := #[.val (.ref t0), .val (.int f), .val (.int en), .val (.int i), .val (.int (1 : Int32)), .val (.int (i + (1 : Int32))), .val (.int (xs.getD i.toNatClampNeg 0))]) rfl ?_
        show Steps p.tables e below (T.setTop (mkF m 90 #[.val (.ref t0), .val (.int f), .val (.int en), .val (.int i), .val (.int (1 : Int32)), .val (.int (i + (1 : Int32))), .val (.int (xs.getD i.toNatClampNeg 0))] [])) t
        refine XS.goto Y.here hx rfl (pc0 := 90) (pc' := 8) rfl (hb hby d2_90) (by decide) (by decide) ?_
        show Steps p.tables e below (T.setTop (mkF m 8 #[.val (.ref t0), .val (.int f), .val (.int en), .val (.int i), .val (.int (1 : Int32)), .val (.int (i + (1 : Int32))), .val (.int (xs.getD i.toNatClampNeg 0))] [])) t
        exact k
      refine own_ta hx hby hml hown hZ hw t0 z0 f en i _ xs Dr hi0 _ _ Y fun T' l4 i' s6' Y' => ?_
      have q := kk T' l4 i' s6' Y'
      rw [own_alS, if_pos hc33] at q
      exact q
    · refine Rn.go (T' := T) (g' := (mkF m 36 #[.val (.ref t0), .val (.int f), .val (.int en), .val (.int (-1 : Int32)), .val (.int (1 : Int32)), .val (.int i), .val (.int (xs.getD i.toNatClampNeg 0))] [])) (fun t k => XS.icmpNo Y.here hx rfl (hb hby d2_33) rfl (feq hc33).1 k) ?_
      refine Rn.go (T' := T) (g' := (mkF m 40 #[.val (.ref t0), .val (.int f), .val (.int en), .val (.int (-1 : Int32)), .val (.int (1 : Int32)), .val (.int i), .val (.int (xs.getD i.toNatClampNeg 0))] [(.int (13 : Int32)), (.int (xs.getD i.toNatClampNeg 0))])) (fun t k => ?_) ?_
      · show Steps p.tables e below (T.setTop (mkF m 36 #[.val (.ref t0), .val (.int f), .val (.int en), .val (.int (-1 : Int32)), .val (.int (1 : Int32)), .val (.int i), .val (.int (xs.getD i.toNatClampNeg 0))] [])) t
        refine XS.iload Y.here hx rfl (hb hby d2_36) rfl ?_
        show Steps p.tables e below (T.setTop (mkF m 38 #[.val (.ref t0), .val (.int f), .val (.int en), .val (.int (-1 : Int32)), .val (.int (1 : Int32)), .val (.int i), .val (.int (xs.getD i.toNatClampNeg 0))] [(.int (xs.getD i.toNatClampNeg 0))])) t
        refine XS.bipush Y.here hx rfl (hb hby d2_38) ?_
        show Steps p.tables e below (T.setTop (mkF m 40 #[.val (.ref t0), .val (.int f), .val (.int en), .val (.int (-1 : Int32)), .val (.int (1 : Int32)), .val (.int i), .val (.int (xs.getD i.toNatClampNeg 0))] [(.int (13 : Int32)), (.int (xs.getD i.toNatClampNeg 0))])) t
        exact k
      by_cases hc40 : (xs.getD i.toNatClampNeg 0) = (13 : Int32)
      · refine Rn.go (T' := T) (g' := (mkF m 43 #[.val (.ref t0), .val (.int f), .val (.int en), .val (.int (-1 : Int32)), .val (.int (1 : Int32)), .val (.int i), .val (.int (xs.getD i.toNatClampNeg 0))] [])) (fun t k => XS.icmpNo Y.here hx rfl (hb hby d2_40) rfl (teq hc40).2 k) ?_
        refine Rn.go (T' := T) (g' := (mkF m 48 #[.val (.ref t0), .val (.int f), .val (.int en), .val (.int (-1 : Int32)), .val (.int (1 : Int32)), .val (.int i), .val (.int (xs.getD i.toNatClampNeg 0))] [(.int en), (.int (i + (1 : Int32)))])) (fun t k => ?_) ?_
        · show Steps p.tables e below (T.setTop (mkF m 43 #[.val (.ref t0), .val (.int f), .val (.int en), .val (.int (-1 : Int32)), .val (.int (1 : Int32)), .val (.int i), .val (.int (xs.getD i.toNatClampNeg 0))] [])) t
          refine XS.iload Y.here hx rfl (hb hby d2_43) rfl ?_
          show Steps p.tables e below (T.setTop (mkF m 45 #[.val (.ref t0), .val (.int f), .val (.int en), .val (.int (-1 : Int32)), .val (.int (1 : Int32)), .val (.int i), .val (.int (xs.getD i.toNatClampNeg 0))] [(.int i)])) t
          refine XS.iconst Y.here hx rfl (hb hby d2_45) ?_
          show Steps p.tables e below (T.setTop (mkF m 46 #[.val (.ref t0), .val (.int f), .val (.int en), .val (.int (-1 : Int32)), .val (.int (1 : Int32)), .val (.int i), .val (.int (xs.getD i.toNatClampNeg 0))] [(.int (1 : Int32)), (.int i)])) t
          refine XS.iadd Y.here hx rfl (hb hby d2_46) rfl ?_
          show Steps p.tables e below (T.setTop (mkF m 47 #[.val (.ref t0), .val (.int f), .val (.int en), .val (.int (-1 : Int32)), .val (.int (1 : Int32)), .val (.int i), .val (.int (xs.getD i.toNatClampNeg 0))] [(.int (i + (1 : Int32)))])) t
          refine XS.iloadN Y.here hx rfl (hb hby d2_47) rfl ?_
          show Steps p.tables e below (T.setTop (mkF m 48 #[.val (.ref t0), .val (.int f), .val (.int en), .val (.int (-1 : Int32)), .val (.int (1 : Int32)), .val (.int i), .val (.int (xs.getD i.toNatClampNeg 0))] [(.int en), (.int (i + (1 : Int32)))])) t
          exact k
        by_cases hc48 : (i + (1 : Int32)) < en
        · refine Rn.go (T' := T) (g' := (mkF m 51 #[.val (.ref t0), .val (.int f), .val (.int en), .val (.int (-1 : Int32)), .val (.int (1 : Int32)), .val (.int i), .val (.int (xs.getD i.toNatClampNeg 0))] [])) (fun t k => XS.icmpNo Y.here hx rfl (hb hby d2_48) rfl (tlt hc48).2.1 k) ?_
          have hb1 : ¬ (i + 1) < 0 ∧ xs[(i + 1).toNatClampNeg]? = some (xs.getD (i + 1).toNatClampNeg 0) := own_at (by omega) (by rw [Int32.lt_iff_toInt_lt] at hc48; omega)
          refine Rn.go (T' := T) (g' := (mkF m 56 #[.val (.ref t0), .val (.int f), .val (.int en), .val (.int (-1 : Int32)), .val (.int (1 : Int32)), .val (.int i), .val (.int (xs.getD i.toNatClampNeg 0))] [(.int (i + (1 : Int32))), (.ref t0)])) (fun t k => ?_) ?_
          · show Steps p.tables e below (T.setTop (mkF m 51 #[.val (.ref t0), .val (.int f), .val (.int en), .val (.int (-1 : Int32)), .val (.int (1 : Int32)), .val (.int i), .val (.int (xs.getD i.toNatClampNeg 0))] [])) t
            refine XS.aloadN Y.here hx rfl (hb hby d2_51) rfl rfl ?_
            show Steps p.tables e below (T.setTop (mkF m 52 #[.val (.ref t0), .val (.int f), .val (.int en), .val (.int (-1 : Int32)), .val (.int (1 : Int32)), .val (.int i), .val (.int (xs.getD i.toNatClampNeg 0))] [(.ref t0)])) t
            refine XS.iload Y.here hx rfl (hb hby d2_52) rfl ?_
            show Steps p.tables e below (T.setTop (mkF m 54 #[.val (.ref t0), .val (.int f), .val (.int en), .val (.int (-1 : Int32)), .val (.int (1 : Int32)), .val (.int i), .val (.int (xs.getD i.toNatClampNeg 0))] [(.int i), (.ref t0)])) t
            refine XS.iconst Y.here hx rfl (hb hby d2_54) ?_
            show Steps p.tables e below (T.setTop (mkF m 55 #[.val (.ref t0), .val (.int f), .val (.int en), .val (.int (-1 : Int32)), .val (.int (1 : Int32)), .val (.int i), .val (.int (xs.getD i.toNatClampNeg 0))] [(.int (1 : Int32)), (.int i), (.ref t0)])) t
            refine XS.iadd Y.here hx rfl (hb hby d2_55) rfl ?_
            show Steps p.tables e below (T.setTop (mkF m 56 #[.val (.ref t0), .val (.int f), .val (.int en), .val (.int (-1 : Int32)), .val (.int (1 : Int32)), .val (.int i), .val (.int (xs.getD i.toNatClampNeg 0))] [(.int (i + (1 : Int32))), (.ref t0)])) t
            exact k
          refine On.bld Y hx hZ (i := 0) rfl (k := (i + (1 : Int32))) (x := (xs.getD (i + (1 : Int32)).toNatClampNeg 0)) hb1.1 hb1.2 (g := (mkF m 56 #[.val (.ref t0), .val (.int f), .val (.int en), .val (.int (-1 : Int32)), .val (.int (1 : Int32)), .val (.int i), .val (.int (xs.getD i.toNatClampNeg 0))] [(.int (i + (1 : Int32))), (.ref t0)])) rfl rfl (hb hby d2_56) ?_
          show Rn p e below F T (mkF m 57 #[.val (.ref t0), .val (.int f), .val (.int en), .val (.int (-1 : Int32)), .val (.int (1 : Int32)), .val (.int i), .val (.int (xs.getD i.toNatClampNeg 0))] [(.int (xs.getD (i + (1 : Int32)).toNatClampNeg 0))])
          refine Rn.go (T' := T) (g' := (mkF m 59 #[.val (.ref t0), .val (.int f), .val (.int en), .val (.int (-1 : Int32)), .val (.int (1 : Int32)), .val (.int i), .val (.int (xs.getD i.toNatClampNeg 0))] [(.int (10 : Int32)), (.int (xs.getD (i + (1 : Int32)).toNatClampNeg 0))])) (fun t k => ?_) ?_
          · show Steps p.tables e below (T.setTop (mkF m 57 #[.val (.ref t0), .val (.int f), .val (.int en), .val (.int (-1 : Int32)), .val (.int (1 : Int32)), .val (.int i), .val (.int (xs.getD i.toNatClampNeg 0))] [(.int (xs.getD (i + (1 : Int32)).toNatClampNeg 0))])) t
            refine XS.bipush Y.here hx rfl (hb hby d2_57) ?_
            show Steps p.tables e below (T.setTop (mkF m 59 #[.val (.ref t0), .val (.int f), .val (.int en), .val (.int (-1 : Int32)), .val (.int (1 : Int32)), .val (.int i), .val (.int (xs.getD i.toNatClampNeg 0))] [(.int (10 : Int32)), (.int (xs.getD (i + (1 : Int32)).toNatClampNeg 0))])) t
            exact k
          by_cases hc59 : (xs.getD (i + (1 : Int32)).toNatClampNeg 0) = (10 : Int32)
          · refine Rn.go (T' := T) (g' := (mkF m 62 #[.val (.ref t0), .val (.int f), .val (.int en), .val (.int (-1 : Int32)), .val (.int (1 : Int32)), .val (.int i), .val (.int (xs.getD i.toNatClampNeg 0))] [])) (fun t k => XS.icmpNo Y.here hx rfl (hb hby d2_59) rfl (teq hc59).2 k) ?_
            refine Rn.go (T' := T) (g' := (mkF m 8 #[.val (.ref t0), .val (.int f), .val (.int en), .val (.int i), .val (.int (1 : Int32)), .val (.int (i + (1 : Int32))), .val (.int (xs.getD i.toNatClampNeg 0))] [])) (fun t k => ?_) ?_
            · show Steps p.tables e below (T.setTop (mkF m 62 #[.val (.ref t0), .val (.int f), .val (.int en), .val (.int (-1 : Int32)), .val (.int (1 : Int32)), .val (.int i), .val (.int (xs.getD i.toNatClampNeg 0))] [])) t
              refine XS.iload Y.here hx rfl (hb hby d2_62) rfl ?_
              show Steps p.tables e below (T.setTop (mkF m 64 #[.val (.ref t0), .val (.int f), .val (.int en), .val (.int (-1 : Int32)), .val (.int (1 : Int32)), .val (.int i), .val (.int (xs.getD i.toNatClampNeg 0))] [(.int i)])) t
              refine XS.istoreN Y.here hx rfl (hb hby d2_64) rfl (l' := #[.val (.ref t0), .val (.int f), .val (.int en), .val (.int i), .val (.int (1 : Int32)), .val (.int i), .val (.int (xs.getD i.toNatClampNeg 0))]) rfl ?_
              show Steps p.tables e below (T.setTop (mkF m 65 #[.val (.ref t0), .val (.int f), .val (.int en), .val (.int i), .val (.int (1 : Int32)), .val (.int i), .val (.int (xs.getD i.toNatClampNeg 0))] [])) t
              refine XS.goto Y.here hx rfl (pc0 := 65) (pc' := 87) rfl (hb hby d2_65) (by decide) (by decide) ?_
              show Steps p.tables e below (T.setTop (mkF m 87 #[.val (.ref t0), .val (.int f), .val (.int en), .val (.int i), .val (.int (1 : Int32)), .val (.int i), .val (.int (xs.getD i.toNatClampNeg 0))] [])) t
              refine XS.iinc Y.here hx rfl (hb hby d2_87) rfl (l' := #[.val (.ref t0), .val (.int f), .val (.int en), .val (.int i), .val (.int (1 : Int32)), .val (.int (i + (1 : Int32))), .val (.int (xs.getD i.toNatClampNeg 0))]) rfl ?_
              show Steps p.tables e below (T.setTop (mkF m 90 #[.val (.ref t0), .val (.int f), .val (.int en), .val (.int i), .val (.int (1 : Int32)), .val (.int (i + (1 : Int32))), .val (.int (xs.getD i.toNatClampNeg 0))] [])) t
              refine XS.goto Y.here hx rfl (pc0 := 90) (pc' := 8) rfl (hb hby d2_90) (by decide) (by decide) ?_
              show Steps p.tables e below (T.setTop (mkF m 8 #[.val (.ref t0), .val (.int f), .val (.int en), .val (.int i), .val (.int (1 : Int32)), .val (.int (i + (1 : Int32))), .val (.int (xs.getD i.toNatClampNeg 0))] [])) t
              exact k
            refine own_ta hx hby hml hown hZ hw t0 z0 f en i _ xs Dr hi0 _ _ Y fun T' l4 i' s6' Y' => ?_
            have q := kk T' l4 i' s6' Y'
            rw [own_alS, if_neg hc33, if_pos hc40, if_pos hc48, if_pos hc59] at q
            exact q
          · refine Rn.go (T' := T) (g' := (mkF m 68 #[.val (.ref t0), .val (.int f), .val (.int en), .val (.int (-1 : Int32)), .val (.int (1 : Int32)), .val (.int i), .val (.int (xs.getD i.toNatClampNeg 0))] [])) (fun t k => XS.icmpYes Y.here hx rfl (pc0 := 59) (pc' := 68) rfl (hb hby d2_59) rfl (feq hc59).2 (by decide) (by decide) k) ?_
            refine Rn.go (T' := T) (g' := (mkF m 70 #[.val (.ref t0), .val (.int f), .val (.int en), .val (.int (-1 : Int32)), .val (.int (1 : Int32)), .val (.int i), .val (.int (xs.getD i.toNatClampNeg 0))] [(.int (xs.getD i.toNatClampNeg 0))])) (fun t k => ?_) ?_
            · show Steps p.tables e below (T.setTop (mkF m 68 #[.val (.ref t0), .val (.int f), .val (.int en), .val (.int (-1 : Int32)), .val (.int (1 : Int32)), .val (.int i), .val (.int (xs.getD i.toNatClampNeg 0))] [])) t
              refine XS.iload Y.here hx rfl (hb hby d2_68) rfl ?_
              show Steps p.tables e below (T.setTop (mkF m 70 #[.val (.ref t0), .val (.int f), .val (.int en), .val (.int (-1 : Int32)), .val (.int (1 : Int32)), .val (.int i), .val (.int (xs.getD i.toNatClampNeg 0))] [(.int (xs.getD i.toNatClampNeg 0))])) t
              exact k
            refine Rn.go (T' := T) (g' := (mkF m 73 #[.val (.ref t0), .val (.int f), .val (.int en), .val (.int (-1 : Int32)), .val (.int (1 : Int32)), .val (.int i), .val (.int (xs.getD i.toNatClampNeg 0))] [])) (fun t k => XS.ifNo Y.here hx rfl (hb hby d2_70) rfl ((if0 _ _).trans (flt (by rw [hc40]; decide)).1) k) ?_
            refine Rn.go (T' := T) (g' := (mkF m 77 #[.val (.ref t0), .val (.int f), .val (.int en), .val (.int (-1 : Int32)), .val (.int (1 : Int32)), .val (.int i), .val (.int (xs.getD i.toNatClampNeg 0))] [(.int (13 : Int32)), (.int (xs.getD i.toNatClampNeg 0))])) (fun t k => ?_) ?_
            · show Steps p.tables e below (T.setTop (mkF m 73 #[.val (.ref t0), .val (.int f), .val (.int en), .val (.int (-1 : Int32)), .val (.int (1 : Int32)), .val (.int i), .val (.int (xs.getD i.toNatClampNeg 0))] [])) t
              refine XS.iload Y.here hx rfl (hb hby d2_73) rfl ?_
              show Steps p.tables e below (T.setTop (mkF m 75 #[.val (.ref t0), .val (.int f), .val (.int en), .val (.int (-1 : Int32)), .val (.int (1 : Int32)), .val (.int i), .val (.int (xs.getD i.toNatClampNeg 0))] [(.int (xs.getD i.toNatClampNeg 0))])) t
              refine XS.bipush Y.here hx rfl (hb hby d2_75) ?_
              show Steps p.tables e below (T.setTop (mkF m 77 #[.val (.ref t0), .val (.int f), .val (.int en), .val (.int (-1 : Int32)), .val (.int (1 : Int32)), .val (.int i), .val (.int (xs.getD i.toNatClampNeg 0))] [(.int (13 : Int32)), (.int (xs.getD i.toNatClampNeg 0))])) t
              exact k
            refine Rn.go (T' := T) (g' := (mkF m 84 #[.val (.ref t0), .val (.int f), .val (.int en), .val (.int (-1 : Int32)), .val (.int (1 : Int32)), .val (.int i), .val (.int (xs.getD i.toNatClampNeg 0))] [])) (fun t k => XS.icmpYes Y.here hx rfl (pc0 := 77) (pc' := 84) rfl (hb hby d2_77) rfl (teq hc40).1 (by decide) (by decide) k) ?_
            refine Rn.go (T' := T) (g' := (mkF m 8 #[.val (.ref t0), .val (.int f), .val (.int en), .val (.int (-1 : Int32)), .val (.int (0 : Int32)), .val (.int (i + (1 : Int32))), .val (.int (xs.getD i.toNatClampNeg 0))] [])) (fun t k => ?_) ?_
            · show Steps p.tables e below (T.setTop (mkF m 84 #[.val (.ref t0), .val (.int f), .val (.int en), .val (.int (-1 : Int32)), .val (.int (1 : Int32)), .val (.int i), .val (.int (xs.getD i.toNatClampNeg 0))] [])) t
              refine XS.iconst Y.here hx rfl (hb hby d2_84) ?_
              show Steps p.tables e below (T.setTop (mkF m 85 #[.val (.ref t0), .val (.int f), .val (.int en), .val (.int (-1 : Int32)), .val (.int (1 : Int32)), .val (.int i), .val (.int (xs.getD i.toNatClampNeg 0))] [(.int (0 : Int32))])) t
              refine XS.istore Y.here hx rfl (hb hby d2_85) rfl (l' := #[.val (.ref t0), .val (.int f), .val (.int en), .val (.int (-1 : Int32)), .val (.int (0 : Int32)), .val (.int i), .val (.int (xs.getD i.toNatClampNeg 0))]) rfl ?_
              show Steps p.tables e below (T.setTop (mkF m 87 #[.val (.ref t0), .val (.int f), .val (.int en), .val (.int (-1 : Int32)), .val (.int (0 : Int32)), .val (.int i), .val (.int (xs.getD i.toNatClampNeg 0))] [])) t
              refine XS.iinc Y.here hx rfl (hb hby d2_87) rfl (l' := #[.val (.ref t0), .val (.int f), .val (.int en), .val (.int (-1 : Int32)), .val (.int (0 : Int32)), .val (.int (i + (1 : Int32))), .val (.int (xs.getD i.toNatClampNeg 0))]) rfl ?_
              show Steps p.tables e below (T.setTop (mkF m 90 #[.val (.ref t0), .val (.int f), .val (.int en), .val (.int (-1 : Int32)), .val (.int (0 : Int32)), .val (.int (i + (1 : Int32))), .val (.int (xs.getD i.toNatClampNeg 0))] [])) t
              refine XS.goto Y.here hx rfl (pc0 := 90) (pc' := 8) rfl (hb hby d2_90) (by decide) (by decide) ?_
              show Steps p.tables e below (T.setTop (mkF m 8 #[.val (.ref t0), .val (.int f), .val (.int en), .val (.int (-1 : Int32)), .val (.int (0 : Int32)), .val (.int (i + (1 : Int32))), .val (.int (xs.getD i.toNatClampNeg 0))] [])) t
              exact k
            refine own_tb hx hby hml hown hZ hw t0 z0 f en _ _ xs Dr _ _ Y fun T' l4 i' s6' Y' => ?_
            have q := kk T' l4 i' s6' Y'
            rw [own_alS, if_neg hc33, if_pos hc40, if_pos hc48, if_neg hc59] at q
            exact q
        · refine Rn.go (T' := T) (g' := (mkF m 68 #[.val (.ref t0), .val (.int f), .val (.int en), .val (.int (-1 : Int32)), .val (.int (1 : Int32)), .val (.int i), .val (.int (xs.getD i.toNatClampNeg 0))] [])) (fun t k => XS.icmpYes Y.here hx rfl (pc0 := 48) (pc' := 68) rfl (hb hby d2_48) rfl (flt hc48).2.1 (by decide) (by decide) k) ?_
          refine Rn.go (T' := T) (g' := (mkF m 70 #[.val (.ref t0), .val (.int f), .val (.int en), .val (.int (-1 : Int32)), .val (.int (1 : Int32)), .val (.int i), .val (.int (xs.getD i.toNatClampNeg 0))] [(.int (xs.getD i.toNatClampNeg 0))])) (fun t k => ?_) ?_
          · show Steps p.tables e below (T.setTop (mkF m 68 #[.val (.ref t0), .val (.int f), .val (.int en), .val (.int (-1 : Int32)), .val (.int (1 : Int32)), .val (.int i), .val (.int (xs.getD i.toNatClampNeg 0))] [])) t
            refine XS.iload Y.here hx rfl (hb hby d2_68) rfl ?_
            show Steps p.tables e below (T.setTop (mkF m 70 #[.val (.ref t0), .val (.int f), .val (.int en), .val (.int (-1 : Int32)), .val (.int (1 : Int32)), .val (.int i), .val (.int (xs.getD i.toNatClampNeg 0))] [(.int (xs.getD i.toNatClampNeg 0))])) t
            exact k
          refine Rn.go (T' := T) (g' := (mkF m 73 #[.val (.ref t0), .val (.int f), .val (.int en), .val (.int (-1 : Int32)), .val (.int (1 : Int32)), .val (.int i), .val (.int (xs.getD i.toNatClampNeg 0))] [])) (fun t k => XS.ifNo Y.here hx rfl (hb hby d2_70) rfl ((if0 _ _).trans (flt (by rw [hc40]; decide)).1) k) ?_
          refine Rn.go (T' := T) (g' := (mkF m 77 #[.val (.ref t0), .val (.int f), .val (.int en), .val (.int (-1 : Int32)), .val (.int (1 : Int32)), .val (.int i), .val (.int (xs.getD i.toNatClampNeg 0))] [(.int (13 : Int32)), (.int (xs.getD i.toNatClampNeg 0))])) (fun t k => ?_) ?_
          · show Steps p.tables e below (T.setTop (mkF m 73 #[.val (.ref t0), .val (.int f), .val (.int en), .val (.int (-1 : Int32)), .val (.int (1 : Int32)), .val (.int i), .val (.int (xs.getD i.toNatClampNeg 0))] [])) t
            refine XS.iload Y.here hx rfl (hb hby d2_73) rfl ?_
            show Steps p.tables e below (T.setTop (mkF m 75 #[.val (.ref t0), .val (.int f), .val (.int en), .val (.int (-1 : Int32)), .val (.int (1 : Int32)), .val (.int i), .val (.int (xs.getD i.toNatClampNeg 0))] [(.int (xs.getD i.toNatClampNeg 0))])) t
            refine XS.bipush Y.here hx rfl (hb hby d2_75) ?_
            show Steps p.tables e below (T.setTop (mkF m 77 #[.val (.ref t0), .val (.int f), .val (.int en), .val (.int (-1 : Int32)), .val (.int (1 : Int32)), .val (.int i), .val (.int (xs.getD i.toNatClampNeg 0))] [(.int (13 : Int32)), (.int (xs.getD i.toNatClampNeg 0))])) t
            exact k
          refine Rn.go (T' := T) (g' := (mkF m 84 #[.val (.ref t0), .val (.int f), .val (.int en), .val (.int (-1 : Int32)), .val (.int (1 : Int32)), .val (.int i), .val (.int (xs.getD i.toNatClampNeg 0))] [])) (fun t k => XS.icmpYes Y.here hx rfl (pc0 := 77) (pc' := 84) rfl (hb hby d2_77) rfl (teq hc40).1 (by decide) (by decide) k) ?_
          refine Rn.go (T' := T) (g' := (mkF m 8 #[.val (.ref t0), .val (.int f), .val (.int en), .val (.int (-1 : Int32)), .val (.int (0 : Int32)), .val (.int (i + (1 : Int32))), .val (.int (xs.getD i.toNatClampNeg 0))] [])) (fun t k => ?_) ?_
          · show Steps p.tables e below (T.setTop (mkF m 84 #[.val (.ref t0), .val (.int f), .val (.int en), .val (.int (-1 : Int32)), .val (.int (1 : Int32)), .val (.int i), .val (.int (xs.getD i.toNatClampNeg 0))] [])) t
            refine XS.iconst Y.here hx rfl (hb hby d2_84) ?_
            show Steps p.tables e below (T.setTop (mkF m 85 #[.val (.ref t0), .val (.int f), .val (.int en), .val (.int (-1 : Int32)), .val (.int (1 : Int32)), .val (.int i), .val (.int (xs.getD i.toNatClampNeg 0))] [(.int (0 : Int32))])) t
            refine XS.istore Y.here hx rfl (hb hby d2_85) rfl (l' := #[.val (.ref t0), .val (.int f), .val (.int en), .val (.int (-1 : Int32)), .val (.int (0 : Int32)), .val (.int i), .val (.int (xs.getD i.toNatClampNeg 0))]) rfl ?_
            show Steps p.tables e below (T.setTop (mkF m 87 #[.val (.ref t0), .val (.int f), .val (.int en), .val (.int (-1 : Int32)), .val (.int (0 : Int32)), .val (.int i), .val (.int (xs.getD i.toNatClampNeg 0))] [])) t
            refine XS.iinc Y.here hx rfl (hb hby d2_87) rfl (l' := #[.val (.ref t0), .val (.int f), .val (.int en), .val (.int (-1 : Int32)), .val (.int (0 : Int32)), .val (.int (i + (1 : Int32))), .val (.int (xs.getD i.toNatClampNeg 0))]) rfl ?_
            show Steps p.tables e below (T.setTop (mkF m 90 #[.val (.ref t0), .val (.int f), .val (.int en), .val (.int (-1 : Int32)), .val (.int (0 : Int32)), .val (.int (i + (1 : Int32))), .val (.int (xs.getD i.toNatClampNeg 0))] [])) t
            refine XS.goto Y.here hx rfl (pc0 := 90) (pc' := 8) rfl (hb hby d2_90) (by decide) (by decide) ?_
            show Steps p.tables e below (T.setTop (mkF m 8 #[.val (.ref t0), .val (.int f), .val (.int en), .val (.int (-1 : Int32)), .val (.int (0 : Int32)), .val (.int (i + (1 : Int32))), .val (.int (xs.getD i.toNatClampNeg 0))] [])) t
            exact k
          refine own_tb hx hby hml hown hZ hw t0 z0 f en _ _ xs Dr _ _ Y fun T' l4 i' s6' Y' => ?_
          have q := kk T' l4 i' s6' Y'
          rw [own_alS, if_neg hc33, if_pos hc40, if_neg hc48] at q
          exact q
      · refine Rn.go (T' := T) (g' := (mkF m 68 #[.val (.ref t0), .val (.int f), .val (.int en), .val (.int (-1 : Int32)), .val (.int (1 : Int32)), .val (.int i), .val (.int (xs.getD i.toNatClampNeg 0))] [])) (fun t k => XS.icmpYes Y.here hx rfl (pc0 := 40) (pc' := 68) rfl (hb hby d2_40) rfl (feq hc40).2 (by decide) (by decide) k) ?_
        refine Rn.go (T' := T) (g' := (mkF m 70 #[.val (.ref t0), .val (.int f), .val (.int en), .val (.int (-1 : Int32)), .val (.int (1 : Int32)), .val (.int i), .val (.int (xs.getD i.toNatClampNeg 0))] [(.int (xs.getD i.toNatClampNeg 0))])) (fun t k => ?_) ?_
        · show Steps p.tables e below (T.setTop (mkF m 68 #[.val (.ref t0), .val (.int f), .val (.int en), .val (.int (-1 : Int32)), .val (.int (1 : Int32)), .val (.int i), .val (.int (xs.getD i.toNatClampNeg 0))] [])) t
          refine XS.iload Y.here hx rfl (hb hby d2_68) rfl ?_
          show Steps p.tables e below (T.setTop (mkF m 70 #[.val (.ref t0), .val (.int f), .val (.int en), .val (.int (-1 : Int32)), .val (.int (1 : Int32)), .val (.int i), .val (.int (xs.getD i.toNatClampNeg 0))] [(.int (xs.getD i.toNatClampNeg 0))])) t
          exact k
        by_cases hc70 : (xs.getD i.toNatClampNeg 0) < (0 : Int32)
        · refine Rn.go (T' := T) (g' := (mkF m 84 #[.val (.ref t0), .val (.int f), .val (.int en), .val (.int (-1 : Int32)), .val (.int (1 : Int32)), .val (.int i), .val (.int (xs.getD i.toNatClampNeg 0))] [])) (fun t k => XS.ifYes Y.here hx rfl (pc0 := 70) (pc' := 84) rfl (hb hby d2_70) rfl ((if0 _ _).trans (tlt hc70).1) (by decide) (by decide) k) ?_
          refine Rn.go (T' := T) (g' := (mkF m 8 #[.val (.ref t0), .val (.int f), .val (.int en), .val (.int (-1 : Int32)), .val (.int (0 : Int32)), .val (.int (i + (1 : Int32))), .val (.int (xs.getD i.toNatClampNeg 0))] [])) (fun t k => ?_) ?_
          · show Steps p.tables e below (T.setTop (mkF m 84 #[.val (.ref t0), .val (.int f), .val (.int en), .val (.int (-1 : Int32)), .val (.int (1 : Int32)), .val (.int i), .val (.int (xs.getD i.toNatClampNeg 0))] [])) t
            refine XS.iconst Y.here hx rfl (hb hby d2_84) ?_
            show Steps p.tables e below (T.setTop (mkF m 85 #[.val (.ref t0), .val (.int f), .val (.int en), .val (.int (-1 : Int32)), .val (.int (1 : Int32)), .val (.int i), .val (.int (xs.getD i.toNatClampNeg 0))] [(.int (0 : Int32))])) t
            refine XS.istore Y.here hx rfl (hb hby d2_85) rfl (l' := #[.val (.ref t0), .val (.int f), .val (.int en), .val (.int (-1 : Int32)), .val (.int (0 : Int32)), .val (.int i), .val (.int (xs.getD i.toNatClampNeg 0))]) rfl ?_
            show Steps p.tables e below (T.setTop (mkF m 87 #[.val (.ref t0), .val (.int f), .val (.int en), .val (.int (-1 : Int32)), .val (.int (0 : Int32)), .val (.int i), .val (.int (xs.getD i.toNatClampNeg 0))] [])) t
            refine XS.iinc Y.here hx rfl (hb hby d2_87) rfl (l' := #[.val (.ref t0), .val (.int f), .val (.int en), .val (.int (-1 : Int32)), .val (.int (0 : Int32)), .val (.int (i + (1 : Int32))), .val (.int (xs.getD i.toNatClampNeg 0))]) rfl ?_
            show Steps p.tables e below (T.setTop (mkF m 90 #[.val (.ref t0), .val (.int f), .val (.int en), .val (.int (-1 : Int32)), .val (.int (0 : Int32)), .val (.int (i + (1 : Int32))), .val (.int (xs.getD i.toNatClampNeg 0))] [])) t
            refine XS.goto Y.here hx rfl (pc0 := 90) (pc' := 8) rfl (hb hby d2_90) (by decide) (by decide) ?_
            show Steps p.tables e below (T.setTop (mkF m 8 #[.val (.ref t0), .val (.int f), .val (.int en), .val (.int (-1 : Int32)), .val (.int (0 : Int32)), .val (.int (i + (1 : Int32))), .val (.int (xs.getD i.toNatClampNeg 0))] [])) t
            exact k
          refine own_tb hx hby hml hown hZ hw t0 z0 f en _ _ xs Dr _ _ Y fun T' l4 i' s6' Y' => ?_
          have q := kk T' l4 i' s6' Y'
          rw [own_alS, if_neg hc33, if_neg hc40, if_pos hc70] at q
          exact q
        · refine Rn.go (T' := T) (g' := (mkF m 73 #[.val (.ref t0), .val (.int f), .val (.int en), .val (.int (-1 : Int32)), .val (.int (1 : Int32)), .val (.int i), .val (.int (xs.getD i.toNatClampNeg 0))] [])) (fun t k => XS.ifNo Y.here hx rfl (hb hby d2_70) rfl ((if0 _ _).trans (flt hc70).1) k) ?_
          refine Rn.go (T' := T) (g' := (mkF m 77 #[.val (.ref t0), .val (.int f), .val (.int en), .val (.int (-1 : Int32)), .val (.int (1 : Int32)), .val (.int i), .val (.int (xs.getD i.toNatClampNeg 0))] [(.int (13 : Int32)), (.int (xs.getD i.toNatClampNeg 0))])) (fun t k => ?_) ?_
          · show Steps p.tables e below (T.setTop (mkF m 73 #[.val (.ref t0), .val (.int f), .val (.int en), .val (.int (-1 : Int32)), .val (.int (1 : Int32)), .val (.int i), .val (.int (xs.getD i.toNatClampNeg 0))] [])) t
            refine XS.iload Y.here hx rfl (hb hby d2_73) rfl ?_
            show Steps p.tables e below (T.setTop (mkF m 75 #[.val (.ref t0), .val (.int f), .val (.int en), .val (.int (-1 : Int32)), .val (.int (1 : Int32)), .val (.int i), .val (.int (xs.getD i.toNatClampNeg 0))] [(.int (xs.getD i.toNatClampNeg 0))])) t
            refine XS.bipush Y.here hx rfl (hb hby d2_75) ?_
            show Steps p.tables e below (T.setTop (mkF m 77 #[.val (.ref t0), .val (.int f), .val (.int en), .val (.int (-1 : Int32)), .val (.int (1 : Int32)), .val (.int i), .val (.int (xs.getD i.toNatClampNeg 0))] [(.int (13 : Int32)), (.int (xs.getD i.toNatClampNeg 0))])) t
            exact k
          refine Rn.go (T' := T) (g' := (mkF m 80 #[.val (.ref t0), .val (.int f), .val (.int en), .val (.int (-1 : Int32)), .val (.int (1 : Int32)), .val (.int i), .val (.int (xs.getD i.toNatClampNeg 0))] [])) (fun t k => XS.icmpNo Y.here hx rfl (hb hby d2_77) rfl (feq hc40).1 k) ?_
          refine Rn.go (T' := T) (g' := (mkF m 8 #[.val (.ref t0), .val (.int f), .val (.int en), .val (.int (-1 : Int32)), .val (.int (1 : Int32)), .val (.int (i + (1 : Int32))), .val (.int (xs.getD i.toNatClampNeg 0))] [])) (fun t k => ?_) ?_
          · show Steps p.tables e below (T.setTop (mkF m 80 #[.val (.ref t0), .val (.int f), .val (.int en), .val (.int (-1 : Int32)), .val (.int (1 : Int32)), .val (.int i), .val (.int (xs.getD i.toNatClampNeg 0))] [])) t
            refine XS.iconst Y.here hx rfl (hb hby d2_80) ?_
            show Steps p.tables e below (T.setTop (mkF m 81 #[.val (.ref t0), .val (.int f), .val (.int en), .val (.int (-1 : Int32)), .val (.int (1 : Int32)), .val (.int i), .val (.int (xs.getD i.toNatClampNeg 0))] [(.int (1 : Int32))])) t
            refine XS.goto Y.here hx rfl (pc0 := 81) (pc' := 85) rfl (hb hby d2_81) (by decide) (by decide) ?_
            show Steps p.tables e below (T.setTop (mkF m 85 #[.val (.ref t0), .val (.int f), .val (.int en), .val (.int (-1 : Int32)), .val (.int (1 : Int32)), .val (.int i), .val (.int (xs.getD i.toNatClampNeg 0))] [(.int (1 : Int32))])) t
            refine XS.istore Y.here hx rfl (hb hby d2_85) rfl (l' := #[.val (.ref t0), .val (.int f), .val (.int en), .val (.int (-1 : Int32)), .val (.int (1 : Int32)), .val (.int i), .val (.int (xs.getD i.toNatClampNeg 0))]) rfl ?_
            show Steps p.tables e below (T.setTop (mkF m 87 #[.val (.ref t0), .val (.int f), .val (.int en), .val (.int (-1 : Int32)), .val (.int (1 : Int32)), .val (.int i), .val (.int (xs.getD i.toNatClampNeg 0))] [])) t
            refine XS.iinc Y.here hx rfl (hb hby d2_87) rfl (l' := #[.val (.ref t0), .val (.int f), .val (.int en), .val (.int (-1 : Int32)), .val (.int (1 : Int32)), .val (.int (i + (1 : Int32))), .val (.int (xs.getD i.toNatClampNeg 0))]) rfl ?_
            show Steps p.tables e below (T.setTop (mkF m 90 #[.val (.ref t0), .val (.int f), .val (.int en), .val (.int (-1 : Int32)), .val (.int (1 : Int32)), .val (.int (i + (1 : Int32))), .val (.int (xs.getD i.toNatClampNeg 0))] [])) t
            refine XS.goto Y.here hx rfl (pc0 := 90) (pc' := 8) rfl (hb hby d2_90) (by decide) (by decide) ?_
            show Steps p.tables e below (T.setTop (mkF m 8 #[.val (.ref t0), .val (.int f), .val (.int en), .val (.int (-1 : Int32)), .val (.int (1 : Int32)), .val (.int (i + (1 : Int32))), .val (.int (xs.getD i.toNatClampNeg 0))] [])) t
            exact k
          refine ih (i + 1) _ _ (One.val rfl) (by omega) (by omega) Y fun T' l4 i' s6' Y' => ?_
          have q := kk T' l4 i' s6' Y'
          rw [own_alS, if_neg hc33, if_neg hc40, if_neg hc70] at q
          exact q
theorem ef_rm2 (m : MethodId) (t0 : Addr) (f : Int32) (en : Int32) : entryFrame m #[(.ref t0), (.int f), (.int en)] 7 = (mkF m 0 #[.val (.ref t0), .val (.int f), .val (.int en), .unset, .unset, .unset, .unset] []) := by first | (simp [entryFrame, mkF, argsToLocals, Value.category]; done) | rfl
set_option maxRecDepth 65536 in
set_option maxHeartbeats 40000000 in
theorem rm2 (l : Launch) (Z : State) (a0 : Array Value) (hw : ∀ d ∈ tables_1, d.before a0 Z = true) (n0 : Nat) (t0 : Addr) (f : Int32) (en : Int32) (z0 : Int32) (xs : List Int32) (Dr : List (Addr × Itm)) (hxl : xs.length ≤ 1000) (hel : en.toInt ≤ xs.length) (hf : 0 ≤ f.toInt) :
    Con l Z n0 (⟨"com/example/nishati/nishati/io/LineReader", "asciiLineEnd", "([BII)I"⟩ : MethodName) prog_81_method_14_code 7 (some .int) ({ frames := 0, cells := 0, slots := 0, locals := 0 } : Room) #[(.ref t0), (.int f), (.int en)] ((ari t0 .byte z0 xs) :: Dr) (fun v D' => v = some (.int (own_al xs en (en.toInt - f.toInt).toNat f)) ∧ D' = ((ari t0 .byte z0 xs) :: Dr)) := by
  refine Con.of (plainFor_of_name pn1) ?_
  intro p e s m below meth c T cx Y
  obtain ⟨hx, hby, hml, hown, hnm, hret, hlk, hZ⟩ := cx
  rw [ef_rm2]
  generalize hF : Fi Z n0 below s _ _ _ = F
  refine Rn.go (T' := T) (g' := (mkF m 8 #[.val (.ref t0), .val (.int f), .val (.int en), .val (.int (-1 : Int32)), .val (.int (1 : Int32)), .val (.int f), .unset] [])) (fun t k => ?_) ?_
  · show Steps p.tables e below (T.setTop (mkF m 0 #[.val (.ref t0), .val (.int f), .val (.int en), .unset, .unset, .unset, .unset] [])) t
    refine XS.iconst Y.here hx rfl (hb hby d2_0) ?_
    show Steps p.tables e below (T.setTop (mkF m 1 #[.val (.ref t0), .val (.int f), .val (.int en), .unset, .unset, .unset, .unset] [(.int (-1 : Int32))])) t
    refine XS.istoreN Y.here hx rfl (hb hby d2_1) rfl (l' := #[.val (.ref t0), .val (.int f), .val (.int en), .val (.int (-1 : Int32)), .unset, .unset, .unset]) rfl ?_
    show Steps p.tables e below (T.setTop (mkF m 2 #[.val (.ref t0), .val (.int f), .val (.int en), .val (.int (-1 : Int32)), .unset, .unset, .unset] [])) t
    refine XS.iconst Y.here hx rfl (hb hby d2_2) ?_
    show Steps p.tables e below (T.setTop (mkF m 3 #[.val (.ref t0), .val (.int f), .val (.int en), .val (.int (-1 : Int32)), .unset, .unset, .unset] [(.int (1 : Int32))])) t
    refine XS.istore Y.here hx rfl (hb hby d2_3) rfl (l' := #[.val (.ref t0), .val (.int f), .val (.int en), .val (.int (-1 : Int32)), .val (.int (1 : Int32)), .unset, .unset]) rfl ?_
    show Steps p.tables e below (T.setTop (mkF m 5 #[.val (.ref t0), .val (.int f), .val (.int en), .val (.int (-1 : Int32)), .val (.int (1 : Int32)), .unset, .unset] [])) t
    refine XS.iloadN Y.here hx rfl (hb hby d2_5) rfl ?_
    show Steps p.tables e below (T.setTop (mkF m 6 #[.val (.ref t0), .val (.int f), .val (.int en), .val (.int (-1 : Int32)), .val (.int (1 : Int32)), .unset, .unset] [(.int f)])) t
    refine XS.istore Y.here hx rfl (hb hby d2_6) rfl (l' := #[.val (.ref t0), .val (.int f), .val (.int en), .val (.int (-1 : Int32)), .val (.int (1 : Int32)), .val (.int f), .unset]) rfl ?_
    show Steps p.tables e below (T.setTop (mkF m 8 #[.val (.ref t0), .val (.int f), .val (.int en), .val (.int (-1 : Int32)), .val (.int (1 : Int32)), .val (.int f), .unset] [])) t
    exact k
  refine own_loop hx hby hml hown hZ hw t0 z0 f en xs Dr hxl hel (en.toInt - f.toInt).toNat f .unset T One.u (by omega) hf Y fun T9 l9 i9 s9 Y9 => ?_
  refine Rn.go (T' := T9) (g' := (mkF m 94 #[.val (.ref t0), .val (.int f), .val (.int en), .val (.int (own_al xs en (en.toInt - f.toInt).toNat f)), .val (.int l9), .val (.int i9), s9] [(.int (own_al xs en (en.toInt - f.toInt).toNat f))])) (fun t k => ?_) ?_
  · show Steps p.tables e below (T9.setTop (mkF m 93 #[.val (.ref t0), .val (.int f), .val (.int en), .val (.int (own_al xs en (en.toInt - f.toInt).toNat f)), .val (.int l9), .val (.int i9), s9] [])) t
    refine XS.iloadN Y9.here hx rfl (hb hby d2_93) rfl ?_
    show Steps p.tables e below (T9.setTop (mkF m 94 #[.val (.ref t0), .val (.int f), .val (.int en), .val (.int (own_al xs en (en.toInt - f.toInt).toNat f)), .val (.int l9), .val (.int i9), s9] [(.int (own_al xs en (en.toInt - f.toInt).toNat f))])) t
    exact k
  rw [← hF]; exact On.reti Y9 hx hret hlk (hb hby d2_94) (by decide) (by decide) ⟨rfl, rfl⟩
theorem own_fr (x : Int32) : 0 ≤ (x &&& (7 : Int32)).toInt ∧ (x &&& (7 : Int32)).toInt ≤ 7 := by
  have h := Jvm.Kit.i32_mask x 7 (k := 3) (by decide) (by decide); omega
theorem own_en (x : Int32) : 0 ≤ ((x &&& (7 : Int32)) % (6 : Int32)).toInt ∧ ((x &&& (7 : Int32)) % (6 : Int32)).toInt ≤ 5 := by
  have h := Jvm.Kit.i32_mask x 7 (k := 3) (by decide) (by decide)
  rw [own_remI (k := 6) rfl (by omega)]; omega
theorem own_cl (x : Int32) : (x = 10) ∨ (x = 13) ∨ (x < 0 ∧ ¬ x = 10 ∧ ¬ x = 13) ∨ (¬ x < 0 ∧ ¬ x = 10 ∧ ¬ x = 13) := by
  by_cases h1 : x = 10
  · exact .inl h1
  · by_cases h2 : x = 13
    · exact .inr (.inl h2)
    · by_cases h3 : x < 0
      · exact .inr (.inr (.inl ⟨h3, h1, h2⟩))
      · exact .inr (.inr (.inr ⟨h3, h1, h2⟩))
theorem own_i5 {x : Int32} (h : 0 ≤ x.toInt ∧ x.toInt ≤ 5) : x = 0 ∨ x = 1 ∨ x = 2 ∨ x = 3 ∨ x = 4 ∨ x = 5 := by
  have e : ∀ k : Int32, x.toInt = k.toInt → x = k := fun k h => Int32.toInt_inj.mp h
  have : x.toInt = 0 ∨ x.toInt = 1 ∨ x.toInt = 2 ∨ x.toInt = 3 ∨ x.toInt = 4 ∨ x.toInt = 5 := by omega
  rcases this with h | h | h | h | h | h
  · exact .inl (e 0 h)
  · exact .inr (.inl (e 1 h))
  · exact .inr (.inr (.inl (e 2 h)))
  · exact .inr (.inr (.inr (.inl (e 3 h))))
  · exact .inr (.inr (.inr (.inr (.inl (e 4 h)))))
  · exact .inr (.inr (.inr (.inr (.inr (e 5 h)))))
set_option maxHeartbeats 4000000 in
theorem own_fin_0_1 (x0 x1 x2 x3 x4 g4 g3 g2 g1 g0 v4 v3 v2 v1 v0 : Int32)
    (h4 : g4 = own_good [x0, x1, x2, x3, x4] 4 (0 : Int32) (1 : Int32)) (h3 : g3 = own_good [x0, x1, x2, x3, x4] 3 (0 : Int32) (1 : Int32)) (h2 : g2 = own_good [x0, x1, x2, x3, x4] 2 (0 : Int32) (1 : Int32)) (h1 : g1 = own_good [x0, x1, x2, x3, x4] 1 (0 : Int32) (1 : Int32)) (h0 : g0 = own_good [x0, x1, x2, x3, x4] 0 (0 : Int32) (1 : Int32))
    (k4 : v4 = (if g4 = (0 : Int32) then (-1 : Int32) else (4 : Int32))) (k3 : v3 = (if g3 = (0 : Int32) then v4 else (3 : Int32))) (k2 : v2 = (if g2 = (0 : Int32) then v3 else (2 : Int32))) (k1 : v1 = (if g1 = (0 : Int32) then v2 else (1 : Int32))) (k0 : v0 = (if g0 = (0 : Int32) then v1 else (0 : Int32))) :
    own_al [x0, x1, x2, x3, x4] (1 : Int32) ((1 : Int32).toInt - (0 : Int32).toInt).toNat (0 : Int32) = v0 := by
  have en : ((1 : Int32).toInt - (0 : Int32).toInt).toNat = 1 := rfl
  rw [en, k0, k1, k2, k3, k4, h0, h1, h2, h3, h4]
  simp only [own_good, own_isEnd, own_plain, own_al]
  rcases own_cl x0 with a0 | a0 | ⟨a0, b0, c0⟩ | ⟨a0, b0, c0⟩
  · simp [-Int32.not_lt, a0]
  · simp [-Int32.not_lt, a0]
  · simp [-Int32.not_lt, a0, b0, c0]
  · simp [-Int32.not_lt, a0, b0, c0]
set_option maxHeartbeats 4000000 in
theorem own_fin_0_2 (x0 x1 x2 x3 x4 g4 g3 g2 g1 g0 v4 v3 v2 v1 v0 : Int32)
    (h4 : g4 = own_good [x0, x1, x2, x3, x4] 4 (0 : Int32) (2 : Int32)) (h3 : g3 = own_good [x0, x1, x2, x3, x4] 3 (0 : Int32) (2 : Int32)) (h2 : g2 = own_good [x0, x1, x2, x3, x4] 2 (0 : Int32) (2 : Int32)) (h1 : g1 = own_good [x0, x1, x2, x3, x4] 1 (0 : Int32) (2 : Int32)) (h0 : g0 = own_good [x0, x1, x2, x3, x4] 0 (0 : Int32) (2 : Int32))
    (k4 : v4 = (if g4 = (0 : Int32) then (-1 : Int32) else (4 : Int32))) (k3 : v3 = (if g3 = (0 : Int32) then v4 else (3 : Int32))) (k2 : v2 = (if g2 = (0 : Int32) then v3 else (2 : Int32))) (k1 : v1 = (if g1 = (0 : Int32) then v2 else (1 : Int32))) (k0 : v0 = (if g0 = (0 : Int32) then v1 else (0 : Int32))) :
    own_al [x0, x1, x2, x3, x4] (2 : Int32) ((2 : Int32).toInt - (0 : Int32).toInt).toNat (0 : Int32) = v0 := by
  have en : ((2 : Int32).toInt - (0 : Int32).toInt).toNat = 2 := rfl
  rw [en, k0, k1, k2, k3, k4, h0, h1, h2, h3, h4]
  simp only [own_good, own_isEnd, own_plain, own_al]
  rcases own_cl x0 with a0 | a0 | ⟨a0, b0, c0⟩ | ⟨a0, b0, c0⟩
  · simp [-Int32.not_lt, a0]
  · by_cases z : x1 = 10 <;> simp [-Int32.not_lt, a0, z]
  · simp [-Int32.not_lt, a0, b0, c0]
  · rcases own_cl x1 with a1 | a1 | ⟨a1, b1, c1⟩ | ⟨a1, b1, c1⟩
    · simp [-Int32.not_lt, a0, b0, c0, a1]
    · simp [-Int32.not_lt, a0, b0, c0, a1]
    · simp [-Int32.not_lt, a0, b0, c0, a1, b1, c1]
    · simp [-Int32.not_lt, a0, b0, c0, a1, b1, c1]
set_option maxHeartbeats 4000000 in
theorem own_fin_1_2 (x0 x1 x2 x3 x4 g4 g3 g2 g1 g0 v4 v3 v2 v1 v0 : Int32)
    (h4 : g4 = own_good [x0, x1, x2, x3, x4] 4 (1 : Int32) (2 : Int32)) (h3 : g3 = own_good [x0, x1, x2, x3, x4] 3 (1 : Int32) (2 : Int32)) (h2 : g2 = own_good [x0, x1, x2, x3, x4] 2 (1 : Int32) (2 : Int32)) (h1 : g1 = own_good [x0, x1, x2, x3, x4] 1 (1 : Int32) (2 : Int32)) (h0 : g0 = own_good [x0, x1, x2, x3, x4] 0 (1 : Int32) (2 : Int32))
    (k4 : v4 = (if g4 = (0 : Int32) then (-1 : Int32) else (4 : Int32))) (k3 : v3 = (if g3 = (0 : Int32) then v4 else (3 : Int32))) (k2 : v2 = (if g2 = (0 : Int32) then v3 else (2 : Int32))) (k1 : v1 = (if g1 = (0 : Int32) then v2 else (1 : Int32))) (k0 : v0 = (if g0 = (0 : Int32) then v1 else (0 : Int32))) :
    own_al [x0, x1, x2, x3, x4] (2 : Int32) ((2 : Int32).toInt - (1 : Int32).toInt).toNat (1 : Int32) = v0 := by
  have en : ((2 : Int32).toInt - (1 : Int32).toInt).toNat = 1 := rfl
  rw [en, k0, k1, k2, k3, k4, h0, h1, h2, h3, h4]
  simp only [own_good, own_isEnd, own_plain, own_al]
  rcases own_cl x1 with a1 | a1 | ⟨a1, b1, c1⟩ | ⟨a1, b1, c1⟩
  · simp [-Int32.not_lt, a1]
  · simp [-Int32.not_lt, a1]
  · simp [-Int32.not_lt, a1, b1, c1]
  · simp [-Int32.not_lt, a1, b1, c1]
set_option maxHeartbeats 4000000 in
theorem own_fin_0_3 (x0 x1 x2 x3 x4 g4 g3 g2 g1 g0 v4 v3 v2 v1 v0 : Int32)
    (h4 : g4 = own_good [x0, x1, x2, x3, x4] 4 (0 : Int32) (3 : Int32)) (h3 : g3 = own_good [x0, x1, x2, x3, x4] 3 (0 : Int32) (3 : Int32)) (h2 : g2 = own_good [x0, x1, x2, x3, x4] 2 (0 : Int32) (3 : Int32)) (h1 : g1 = own_good [x0, x1, x2, x3, x4] 1 (0 : Int32) (3 : Int32)) (h0 : g0 = own_good [x0, x1, x2, x3, x4] 0 (0 : Int32) (3 : Int32))
    (k4 : v4 = (if g4 = (0 : Int32) then (-1 : Int32) else (4 : Int32))) (k3 : v3 = (if g3 = (0 : Int32) then v4 else (3 : Int32))) (k2 : v2 = (if g2 = (0 : Int32) then v3 else (2 : Int32))) (k1 : v1 = (if g1 = (0 : Int32) then v2 else (1 : Int32))) (k0 : v0 = (if g0 = (0 : Int32) then v1 else (0 : Int32))) :
    own_al [x0, x1, x2, x3, x4] (3 : Int32) ((3 : Int32).toInt - (0 : Int32).toInt).toNat (0 : Int32) = v0 := by
  have en : ((3 : Int32).toInt - (0 : Int32).toInt).toNat = 3 := rfl
  rw [en, k0, k1, k2, k3, k4, h0, h1, h2, h3, h4]
  simp only [own_good, own_isEnd, own_plain, own_al]
  rcases own_cl x0 with a0 | a0 | ⟨a0, b0, c0⟩ | ⟨a0, b0, c0⟩
  · simp [-Int32.not_lt, a0]
  · by_cases z : x1 = 10 <;> simp [-Int32.not_lt, a0, z]
  · simp [-Int32.not_lt, a0, b0, c0]
  · rcases own_cl x1 with a1 | a1 | ⟨a1, b1, c1⟩ | ⟨a1, b1, c1⟩
    · simp [-Int32.not_lt, a0, b0, c0, a1]
    · by_cases z : x2 = 10 <;> simp [-Int32.not_lt, a0, b0, c0, a1, z]
    · simp [-Int32.not_lt, a0, b0, c0, a1, b1, c1]
    · rcases own_cl x2 with a2 | a2 | ⟨a2, b2, c2⟩ | ⟨a2, b2, c2⟩
      · simp [-Int32.not_lt, a0, b0, c0, a1, b1, c1, a2]
      · simp [-Int32.not_lt, a0, b0, c0, a1, b1, c1, a2]
      · simp [-Int32.not_lt, a0, b0, c0, a1, b1, c1, a2, b2, c2]
      · simp [-Int32.not_lt, a0, b0, c0, a1, b1, c1, a2, b2, c2]
set_option maxHeartbeats 4000000 in
theorem own_fin_1_3 (x0 x1 x2 x3 x4 g4 g3 g2 g1 g0 v4 v3 v2 v1 v0 : Int32)
    (h4 : g4 = own_good [x0, x1, x2, x3, x4] 4 (1 : Int32) (3 : Int32)) (h3 : g3 = own_good [x0, x1, x2, x3, x4] 3 (1 : Int32) (3 : Int32)) (h2 : g2 = own_good [x0, x1, x2, x3, x4] 2 (1 : Int32) (3 : Int32)) (h1 : g1 = own_good [x0, x1, x2, x3, x4] 1 (1 : Int32) (3 : Int32)) (h0 : g0 = own_good [x0, x1, x2, x3, x4] 0 (1 : Int32) (3 : Int32))
    (k4 : v4 = (if g4 = (0 : Int32) then (-1 : Int32) else (4 : Int32))) (k3 : v3 = (if g3 = (0 : Int32) then v4 else (3 : Int32))) (k2 : v2 = (if g2 = (0 : Int32) then v3 else (2 : Int32))) (k1 : v1 = (if g1 = (0 : Int32) then v2 else (1 : Int32))) (k0 : v0 = (if g0 = (0 : Int32) then v1 else (0 : Int32))) :
    own_al [x0, x1, x2, x3, x4] (3 : Int32) ((3 : Int32).toInt - (1 : Int32).toInt).toNat (1 : Int32) = v0 := by
  have en : ((3 : Int32).toInt - (1 : Int32).toInt).toNat = 2 := rfl
  rw [en, k0, k1, k2, k3, k4, h0, h1, h2, h3, h4]
  simp only [own_good, own_isEnd, own_plain, own_al]
  rcases own_cl x1 with a1 | a1 | ⟨a1, b1, c1⟩ | ⟨a1, b1, c1⟩
  · simp [-Int32.not_lt, a1]
  · by_cases z : x2 = 10 <;> simp [-Int32.not_lt, a1, z]
  · simp [-Int32.not_lt, a1, b1, c1]
  · rcases own_cl x2 with a2 | a2 | ⟨a2, b2, c2⟩ | ⟨a2, b2, c2⟩
    · simp [-Int32.not_lt, a1, b1, c1, a2]
    · simp [-Int32.not_lt, a1, b1, c1, a2]
    · simp [-Int32.not_lt, a1, b1, c1, a2, b2, c2]
    · simp [-Int32.not_lt, a1, b1, c1, a2, b2, c2]
set_option maxHeartbeats 4000000 in
theorem own_fin_2_3 (x0 x1 x2 x3 x4 g4 g3 g2 g1 g0 v4 v3 v2 v1 v0 : Int32)
    (h4 : g4 = own_good [x0, x1, x2, x3, x4] 4 (2 : Int32) (3 : Int32)) (h3 : g3 = own_good [x0, x1, x2, x3, x4] 3 (2 : Int32) (3 : Int32)) (h2 : g2 = own_good [x0, x1, x2, x3, x4] 2 (2 : Int32) (3 : Int32)) (h1 : g1 = own_good [x0, x1, x2, x3, x4] 1 (2 : Int32) (3 : Int32)) (h0 : g0 = own_good [x0, x1, x2, x3, x4] 0 (2 : Int32) (3 : Int32))
    (k4 : v4 = (if g4 = (0 : Int32) then (-1 : Int32) else (4 : Int32))) (k3 : v3 = (if g3 = (0 : Int32) then v4 else (3 : Int32))) (k2 : v2 = (if g2 = (0 : Int32) then v3 else (2 : Int32))) (k1 : v1 = (if g1 = (0 : Int32) then v2 else (1 : Int32))) (k0 : v0 = (if g0 = (0 : Int32) then v1 else (0 : Int32))) :
    own_al [x0, x1, x2, x3, x4] (3 : Int32) ((3 : Int32).toInt - (2 : Int32).toInt).toNat (2 : Int32) = v0 := by
  have en : ((3 : Int32).toInt - (2 : Int32).toInt).toNat = 1 := rfl
  rw [en, k0, k1, k2, k3, k4, h0, h1, h2, h3, h4]
  simp only [own_good, own_isEnd, own_plain, own_al]
  rcases own_cl x2 with a2 | a2 | ⟨a2, b2, c2⟩ | ⟨a2, b2, c2⟩
  · simp [-Int32.not_lt, a2]
  · simp [-Int32.not_lt, a2]
  · simp [-Int32.not_lt, a2, b2, c2]
  · simp [-Int32.not_lt, a2, b2, c2]
set_option maxHeartbeats 4000000 in
theorem own_fin_0_4 (x0 x1 x2 x3 x4 g4 g3 g2 g1 g0 v4 v3 v2 v1 v0 : Int32)
    (h4 : g4 = own_good [x0, x1, x2, x3, x4] 4 (0 : Int32) (4 : Int32)) (h3 : g3 = own_good [x0, x1, x2, x3, x4] 3 (0 : Int32) (4 : Int32)) (h2 : g2 = own_good [x0, x1, x2, x3, x4] 2 (0 : Int32) (4 : Int32)) (h1 : g1 = own_good [x0, x1, x2, x3, x4] 1 (0 : Int32) (4 : Int32)) (h0 : g0 = own_good [x0, x1, x2, x3, x4] 0 (0 : Int32) (4 : Int32))
    (k4 : v4 = (if g4 = (0 : Int32) then (-1 : Int32) else (4 : Int32))) (k3 : v3 = (if g3 = (0 : Int32) then v4 else (3 : Int32))) (k2 : v2 = (if g2 = (0 : Int32) then v3 else (2 : Int32))) (k1 : v1 = (if g1 = (0 : Int32) then v2 else (1 : Int32))) (k0 : v0 = (if g0 = (0 : Int32) then v1 else (0 : Int32))) :
    own_al [x0, x1, x2, x3, x4] (4 : Int32) ((4 : Int32).toInt - (0 : Int32).toInt).toNat (0 : Int32) = v0 := by
  have en : ((4 : Int32).toInt - (0 : Int32).toInt).toNat = 4 := rfl
  rw [en, k0, k1, k2, k3, k4, h0, h1, h2, h3, h4]
  simp only [own_good, own_isEnd, own_plain, own_al]
  rcases own_cl x0 with a0 | a0 | ⟨a0, b0, c0⟩ | ⟨a0, b0, c0⟩
  · simp [-Int32.not_lt, a0]
  · by_cases z : x1 = 10 <;> simp [-Int32.not_lt, a0, z]
  · simp [-Int32.not_lt, a0, b0, c0]
  · rcases own_cl x1 with a1 | a1 | ⟨a1, b1, c1⟩ | ⟨a1, b1, c1⟩
    · simp [-Int32.not_lt, a0, b0, c0, a1]
    · by_cases z : x2 = 10 <;> simp [-Int32.not_lt, a0, b0, c0, a1, z]
    · simp [-Int32.not_lt, a0, b0, c0, a1, b1, c1]
    · rcases own_cl x2 with a2 | a2 | ⟨a2, b2, c2⟩ | ⟨a2, b2, c2⟩
      · simp [-Int32.not_lt, a0, b0, c0, a1, b1, c1, a2]
      · by_cases z : x3 = 10 <;> simp [-Int32.not_lt, a0, b0, c0, a1, b1, c1, a2, z]
      · simp [-Int32.not_lt, a0, b0, c0, a1, b1, c1, a2, b2, c2]
      · rcases own_cl x3 with a3 | a3 | ⟨a3, b3, c3⟩ | ⟨a3, b3, c3⟩
        · simp [-Int32.not_lt, a0, b0, c0, a1, b1, c1, a2, b2, c2, a3]
        · simp [-Int32.not_lt, a0, b0, c0, a1, b1, c1, a2, b2, c2, a3]
        · simp [-Int32.not_lt, a0, b0, c0, a1, b1, c1, a2, b2, c2, a3, b3, c3]
        · simp [-Int32.not_lt, a0, b0, c0, a1, b1, c1, a2, b2, c2, a3, b3, c3]
set_option maxHeartbeats 4000000 in
theorem own_fin_1_4 (x0 x1 x2 x3 x4 g4 g3 g2 g1 g0 v4 v3 v2 v1 v0 : Int32)
    (h4 : g4 = own_good [x0, x1, x2, x3, x4] 4 (1 : Int32) (4 : Int32)) (h3 : g3 = own_good [x0, x1, x2, x3, x4] 3 (1 : Int32) (4 : Int32)) (h2 : g2 = own_good [x0, x1, x2, x3, x4] 2 (1 : Int32) (4 : Int32)) (h1 : g1 = own_good [x0, x1, x2, x3, x4] 1 (1 : Int32) (4 : Int32)) (h0 : g0 = own_good [x0, x1, x2, x3, x4] 0 (1 : Int32) (4 : Int32))
    (k4 : v4 = (if g4 = (0 : Int32) then (-1 : Int32) else (4 : Int32))) (k3 : v3 = (if g3 = (0 : Int32) then v4 else (3 : Int32))) (k2 : v2 = (if g2 = (0 : Int32) then v3 else (2 : Int32))) (k1 : v1 = (if g1 = (0 : Int32) then v2 else (1 : Int32))) (k0 : v0 = (if g0 = (0 : Int32) then v1 else (0 : Int32))) :
    own_al [x0, x1, x2, x3, x4] (4 : Int32) ((4 : Int32).toInt - (1 : Int32).toInt).toNat (1 : Int32) = v0 := by
  have en : ((4 : Int32).toInt - (1 : Int32).toInt).toNat = 3 := rfl
  rw [en, k0, k1, k2, k3, k4, h0, h1, h2, h3, h4]
  simp only [own_good, own_isEnd, own_plain, own_al]
  rcases own_cl x1 with a1 | a1 | ⟨a1, b1, c1⟩ | ⟨a1, b1, c1⟩
  · simp [-Int32.not_lt, a1]
  · by_cases z : x2 = 10 <;> simp [-Int32.not_lt, a1, z]
  · simp [-Int32.not_lt, a1, b1, c1]
  · rcases own_cl x2 with a2 | a2 | ⟨a2, b2, c2⟩ | ⟨a2, b2, c2⟩
    · simp [-Int32.not_lt, a1, b1, c1, a2]
    · by_cases z : x3 = 10 <;> simp [-Int32.not_lt, a1, b1, c1, a2, z]
    · simp [-Int32.not_lt, a1, b1, c1, a2, b2, c2]
    · rcases own_cl x3 with a3 | a3 | ⟨a3, b3, c3⟩ | ⟨a3, b3, c3⟩
      · simp [-Int32.not_lt, a1, b1, c1, a2, b2, c2, a3]
      · simp [-Int32.not_lt, a1, b1, c1, a2, b2, c2, a3]
      · simp [-Int32.not_lt, a1, b1, c1, a2, b2, c2, a3, b3, c3]
      · simp [-Int32.not_lt, a1, b1, c1, a2, b2, c2, a3, b3, c3]
set_option maxHeartbeats 4000000 in
theorem own_fin_2_4 (x0 x1 x2 x3 x4 g4 g3 g2 g1 g0 v4 v3 v2 v1 v0 : Int32)
    (h4 : g4 = own_good [x0, x1, x2, x3, x4] 4 (2 : Int32) (4 : Int32)) (h3 : g3 = own_good [x0, x1, x2, x3, x4] 3 (2 : Int32) (4 : Int32)) (h2 : g2 = own_good [x0, x1, x2, x3, x4] 2 (2 : Int32) (4 : Int32)) (h1 : g1 = own_good [x0, x1, x2, x3, x4] 1 (2 : Int32) (4 : Int32)) (h0 : g0 = own_good [x0, x1, x2, x3, x4] 0 (2 : Int32) (4 : Int32))
    (k4 : v4 = (if g4 = (0 : Int32) then (-1 : Int32) else (4 : Int32))) (k3 : v3 = (if g3 = (0 : Int32) then v4 else (3 : Int32))) (k2 : v2 = (if g2 = (0 : Int32) then v3 else (2 : Int32))) (k1 : v1 = (if g1 = (0 : Int32) then v2 else (1 : Int32))) (k0 : v0 = (if g0 = (0 : Int32) then v1 else (0 : Int32))) :
    own_al [x0, x1, x2, x3, x4] (4 : Int32) ((4 : Int32).toInt - (2 : Int32).toInt).toNat (2 : Int32) = v0 := by
  have en : ((4 : Int32).toInt - (2 : Int32).toInt).toNat = 2 := rfl
  rw [en, k0, k1, k2, k3, k4, h0, h1, h2, h3, h4]
  simp only [own_good, own_isEnd, own_plain, own_al]
  rcases own_cl x2 with a2 | a2 | ⟨a2, b2, c2⟩ | ⟨a2, b2, c2⟩
  · simp [-Int32.not_lt, a2]
  · by_cases z : x3 = 10 <;> simp [-Int32.not_lt, a2, z]
  · simp [-Int32.not_lt, a2, b2, c2]
  · rcases own_cl x3 with a3 | a3 | ⟨a3, b3, c3⟩ | ⟨a3, b3, c3⟩
    · simp [-Int32.not_lt, a2, b2, c2, a3]
    · simp [-Int32.not_lt, a2, b2, c2, a3]
    · simp [-Int32.not_lt, a2, b2, c2, a3, b3, c3]
    · simp [-Int32.not_lt, a2, b2, c2, a3, b3, c3]
set_option maxHeartbeats 4000000 in
theorem own_fin_3_4 (x0 x1 x2 x3 x4 g4 g3 g2 g1 g0 v4 v3 v2 v1 v0 : Int32)
    (h4 : g4 = own_good [x0, x1, x2, x3, x4] 4 (3 : Int32) (4 : Int32)) (h3 : g3 = own_good [x0, x1, x2, x3, x4] 3 (3 : Int32) (4 : Int32)) (h2 : g2 = own_good [x0, x1, x2, x3, x4] 2 (3 : Int32) (4 : Int32)) (h1 : g1 = own_good [x0, x1, x2, x3, x4] 1 (3 : Int32) (4 : Int32)) (h0 : g0 = own_good [x0, x1, x2, x3, x4] 0 (3 : Int32) (4 : Int32))
    (k4 : v4 = (if g4 = (0 : Int32) then (-1 : Int32) else (4 : Int32))) (k3 : v3 = (if g3 = (0 : Int32) then v4 else (3 : Int32))) (k2 : v2 = (if g2 = (0 : Int32) then v3 else (2 : Int32))) (k1 : v1 = (if g1 = (0 : Int32) then v2 else (1 : Int32))) (k0 : v0 = (if g0 = (0 : Int32) then v1 else (0 : Int32))) :
    own_al [x0, x1, x2, x3, x4] (4 : Int32) ((4 : Int32).toInt - (3 : Int32).toInt).toNat (3 : Int32) = v0 := by
  have en : ((4 : Int32).toInt - (3 : Int32).toInt).toNat = 1 := rfl
  rw [en, k0, k1, k2, k3, k4, h0, h1, h2, h3, h4]
  simp only [own_good, own_isEnd, own_plain, own_al]
  rcases own_cl x3 with a3 | a3 | ⟨a3, b3, c3⟩ | ⟨a3, b3, c3⟩
  · simp [-Int32.not_lt, a3]
  · simp [-Int32.not_lt, a3]
  · simp [-Int32.not_lt, a3, b3, c3]
  · simp [-Int32.not_lt, a3, b3, c3]
set_option maxHeartbeats 4000000 in
theorem own_fin_0_5 (x0 x1 x2 x3 x4 g4 g3 g2 g1 g0 v4 v3 v2 v1 v0 : Int32)
    (h4 : g4 = own_good [x0, x1, x2, x3, x4] 4 (0 : Int32) (5 : Int32)) (h3 : g3 = own_good [x0, x1, x2, x3, x4] 3 (0 : Int32) (5 : Int32)) (h2 : g2 = own_good [x0, x1, x2, x3, x4] 2 (0 : Int32) (5 : Int32)) (h1 : g1 = own_good [x0, x1, x2, x3, x4] 1 (0 : Int32) (5 : Int32)) (h0 : g0 = own_good [x0, x1, x2, x3, x4] 0 (0 : Int32) (5 : Int32))
    (k4 : v4 = (if g4 = (0 : Int32) then (-1 : Int32) else (4 : Int32))) (k3 : v3 = (if g3 = (0 : Int32) then v4 else (3 : Int32))) (k2 : v2 = (if g2 = (0 : Int32) then v3 else (2 : Int32))) (k1 : v1 = (if g1 = (0 : Int32) then v2 else (1 : Int32))) (k0 : v0 = (if g0 = (0 : Int32) then v1 else (0 : Int32))) :
    own_al [x0, x1, x2, x3, x4] (5 : Int32) ((5 : Int32).toInt - (0 : Int32).toInt).toNat (0 : Int32) = v0 := by
  have en : ((5 : Int32).toInt - (0 : Int32).toInt).toNat = 5 := rfl
  rw [en, k0, k1, k2, k3, k4, h0, h1, h2, h3, h4]
  simp only [own_good, own_isEnd, own_plain, own_al]
  rcases own_cl x0 with a0 | a0 | ⟨a0, b0, c0⟩ | ⟨a0, b0, c0⟩
  · simp [-Int32.not_lt, a0]
  · by_cases z : x1 = 10 <;> simp [-Int32.not_lt, a0, z]
  · simp [-Int32.not_lt, a0, b0, c0]
  · rcases own_cl x1 with a1 | a1 | ⟨a1, b1, c1⟩ | ⟨a1, b1, c1⟩
    · simp [-Int32.not_lt, a0, b0, c0, a1]
    · by_cases z : x2 = 10 <;> simp [-Int32.not_lt, a0, b0, c0, a1, z]
    · simp [-Int32.not_lt, a0, b0, c0, a1, b1, c1]
    · rcases own_cl x2 with a2 | a2 | ⟨a2, b2, c2⟩ | ⟨a2, b2, c2⟩
      · simp [-Int32.not_lt, a0, b0, c0, a1, b1, c1, a2]
      · by_cases z : x3 = 10 <;> simp [-Int32.not_lt, a0, b0, c0, a1, b1, c1, a2, z]
      · simp [-Int32.not_lt, a0, b0, c0, a1, b1, c1, a2, b2, c2]
      · rcases own_cl x3 with a3 | a3 | ⟨a3, b3, c3⟩ | ⟨a3, b3, c3⟩
        · simp [-Int32.not_lt, a0, b0, c0, a1, b1, c1, a2, b2, c2, a3]
        · by_cases z : x4 = 10 <;> simp [-Int32.not_lt, a0, b0, c0, a1, b1, c1, a2, b2, c2, a3, z]
        · simp [-Int32.not_lt, a0, b0, c0, a1, b1, c1, a2, b2, c2, a3, b3, c3]
        · rcases own_cl x4 with a4 | a4 | ⟨a4, b4, c4⟩ | ⟨a4, b4, c4⟩
          · simp [-Int32.not_lt, a0, b0, c0, a1, b1, c1, a2, b2, c2, a3, b3, c3, a4]
          · simp [-Int32.not_lt, a0, b0, c0, a1, b1, c1, a2, b2, c2, a3, b3, c3, a4]
          · simp [-Int32.not_lt, a0, b0, c0, a1, b1, c1, a2, b2, c2, a3, b3, c3, a4, b4, c4]
          · simp [-Int32.not_lt, a0, b0, c0, a1, b1, c1, a2, b2, c2, a3, b3, c3, a4, b4, c4]
set_option maxHeartbeats 4000000 in
theorem own_fin_1_5 (x0 x1 x2 x3 x4 g4 g3 g2 g1 g0 v4 v3 v2 v1 v0 : Int32)
    (h4 : g4 = own_good [x0, x1, x2, x3, x4] 4 (1 : Int32) (5 : Int32)) (h3 : g3 = own_good [x0, x1, x2, x3, x4] 3 (1 : Int32) (5 : Int32)) (h2 : g2 = own_good [x0, x1, x2, x3, x4] 2 (1 : Int32) (5 : Int32)) (h1 : g1 = own_good [x0, x1, x2, x3, x4] 1 (1 : Int32) (5 : Int32)) (h0 : g0 = own_good [x0, x1, x2, x3, x4] 0 (1 : Int32) (5 : Int32))
    (k4 : v4 = (if g4 = (0 : Int32) then (-1 : Int32) else (4 : Int32))) (k3 : v3 = (if g3 = (0 : Int32) then v4 else (3 : Int32))) (k2 : v2 = (if g2 = (0 : Int32) then v3 else (2 : Int32))) (k1 : v1 = (if g1 = (0 : Int32) then v2 else (1 : Int32))) (k0 : v0 = (if g0 = (0 : Int32) then v1 else (0 : Int32))) :
    own_al [x0, x1, x2, x3, x4] (5 : Int32) ((5 : Int32).toInt - (1 : Int32).toInt).toNat (1 : Int32) = v0 := by
  have en : ((5 : Int32).toInt - (1 : Int32).toInt).toNat = 4 := rfl
  rw [en, k0, k1, k2, k3, k4, h0, h1, h2, h3, h4]
  simp only [own_good, own_isEnd, own_plain, own_al]
  rcases own_cl x1 with a1 | a1 | ⟨a1, b1, c1⟩ | ⟨a1, b1, c1⟩
  · simp [-Int32.not_lt, a1]
  · by_cases z : x2 = 10 <;> simp [-Int32.not_lt, a1, z]
  · simp [-Int32.not_lt, a1, b1, c1]
  · rcases own_cl x2 with a2 | a2 | ⟨a2, b2, c2⟩ | ⟨a2, b2, c2⟩
    · simp [-Int32.not_lt, a1, b1, c1, a2]
    · by_cases z : x3 = 10 <;> simp [-Int32.not_lt, a1, b1, c1, a2, z]
    · simp [-Int32.not_lt, a1, b1, c1, a2, b2, c2]
    · rcases own_cl x3 with a3 | a3 | ⟨a3, b3, c3⟩ | ⟨a3, b3, c3⟩
      · simp [-Int32.not_lt, a1, b1, c1, a2, b2, c2, a3]
      · by_cases z : x4 = 10 <;> simp [-Int32.not_lt, a1, b1, c1, a2, b2, c2, a3, z]
      · simp [-Int32.not_lt, a1, b1, c1, a2, b2, c2, a3, b3, c3]
      · rcases own_cl x4 with a4 | a4 | ⟨a4, b4, c4⟩ | ⟨a4, b4, c4⟩
        · simp [-Int32.not_lt, a1, b1, c1, a2, b2, c2, a3, b3, c3, a4]
        · simp [-Int32.not_lt, a1, b1, c1, a2, b2, c2, a3, b3, c3, a4]
        · simp [-Int32.not_lt, a1, b1, c1, a2, b2, c2, a3, b3, c3, a4, b4, c4]
        · simp [-Int32.not_lt, a1, b1, c1, a2, b2, c2, a3, b3, c3, a4, b4, c4]
set_option maxHeartbeats 4000000 in
theorem own_fin_2_5 (x0 x1 x2 x3 x4 g4 g3 g2 g1 g0 v4 v3 v2 v1 v0 : Int32)
    (h4 : g4 = own_good [x0, x1, x2, x3, x4] 4 (2 : Int32) (5 : Int32)) (h3 : g3 = own_good [x0, x1, x2, x3, x4] 3 (2 : Int32) (5 : Int32)) (h2 : g2 = own_good [x0, x1, x2, x3, x4] 2 (2 : Int32) (5 : Int32)) (h1 : g1 = own_good [x0, x1, x2, x3, x4] 1 (2 : Int32) (5 : Int32)) (h0 : g0 = own_good [x0, x1, x2, x3, x4] 0 (2 : Int32) (5 : Int32))
    (k4 : v4 = (if g4 = (0 : Int32) then (-1 : Int32) else (4 : Int32))) (k3 : v3 = (if g3 = (0 : Int32) then v4 else (3 : Int32))) (k2 : v2 = (if g2 = (0 : Int32) then v3 else (2 : Int32))) (k1 : v1 = (if g1 = (0 : Int32) then v2 else (1 : Int32))) (k0 : v0 = (if g0 = (0 : Int32) then v1 else (0 : Int32))) :
    own_al [x0, x1, x2, x3, x4] (5 : Int32) ((5 : Int32).toInt - (2 : Int32).toInt).toNat (2 : Int32) = v0 := by
  have en : ((5 : Int32).toInt - (2 : Int32).toInt).toNat = 3 := rfl
  rw [en, k0, k1, k2, k3, k4, h0, h1, h2, h3, h4]
  simp only [own_good, own_isEnd, own_plain, own_al]
  rcases own_cl x2 with a2 | a2 | ⟨a2, b2, c2⟩ | ⟨a2, b2, c2⟩
  · simp [-Int32.not_lt, a2]
  · by_cases z : x3 = 10 <;> simp [-Int32.not_lt, a2, z]
  · simp [-Int32.not_lt, a2, b2, c2]
  · rcases own_cl x3 with a3 | a3 | ⟨a3, b3, c3⟩ | ⟨a3, b3, c3⟩
    · simp [-Int32.not_lt, a2, b2, c2, a3]
    · by_cases z : x4 = 10 <;> simp [-Int32.not_lt, a2, b2, c2, a3, z]
    · simp [-Int32.not_lt, a2, b2, c2, a3, b3, c3]
    · rcases own_cl x4 with a4 | a4 | ⟨a4, b4, c4⟩ | ⟨a4, b4, c4⟩
      · simp [-Int32.not_lt, a2, b2, c2, a3, b3, c3, a4]
      · simp [-Int32.not_lt, a2, b2, c2, a3, b3, c3, a4]
      · simp [-Int32.not_lt, a2, b2, c2, a3, b3, c3, a4, b4, c4]
      · simp [-Int32.not_lt, a2, b2, c2, a3, b3, c3, a4, b4, c4]
set_option maxHeartbeats 4000000 in
theorem own_fin_3_5 (x0 x1 x2 x3 x4 g4 g3 g2 g1 g0 v4 v3 v2 v1 v0 : Int32)
    (h4 : g4 = own_good [x0, x1, x2, x3, x4] 4 (3 : Int32) (5 : Int32)) (h3 : g3 = own_good [x0, x1, x2, x3, x4] 3 (3 : Int32) (5 : Int32)) (h2 : g2 = own_good [x0, x1, x2, x3, x4] 2 (3 : Int32) (5 : Int32)) (h1 : g1 = own_good [x0, x1, x2, x3, x4] 1 (3 : Int32) (5 : Int32)) (h0 : g0 = own_good [x0, x1, x2, x3, x4] 0 (3 : Int32) (5 : Int32))
    (k4 : v4 = (if g4 = (0 : Int32) then (-1 : Int32) else (4 : Int32))) (k3 : v3 = (if g3 = (0 : Int32) then v4 else (3 : Int32))) (k2 : v2 = (if g2 = (0 : Int32) then v3 else (2 : Int32))) (k1 : v1 = (if g1 = (0 : Int32) then v2 else (1 : Int32))) (k0 : v0 = (if g0 = (0 : Int32) then v1 else (0 : Int32))) :
    own_al [x0, x1, x2, x3, x4] (5 : Int32) ((5 : Int32).toInt - (3 : Int32).toInt).toNat (3 : Int32) = v0 := by
  have en : ((5 : Int32).toInt - (3 : Int32).toInt).toNat = 2 := rfl
  rw [en, k0, k1, k2, k3, k4, h0, h1, h2, h3, h4]
  simp only [own_good, own_isEnd, own_plain, own_al]
  rcases own_cl x3 with a3 | a3 | ⟨a3, b3, c3⟩ | ⟨a3, b3, c3⟩
  · simp [-Int32.not_lt, a3]
  · by_cases z : x4 = 10 <;> simp [-Int32.not_lt, a3, z]
  · simp [-Int32.not_lt, a3, b3, c3]
  · rcases own_cl x4 with a4 | a4 | ⟨a4, b4, c4⟩ | ⟨a4, b4, c4⟩
    · simp [-Int32.not_lt, a3, b3, c3, a4]
    · simp [-Int32.not_lt, a3, b3, c3, a4]
    · simp [-Int32.not_lt, a3, b3, c3, a4, b4, c4]
    · simp [-Int32.not_lt, a3, b3, c3, a4, b4, c4]
set_option maxHeartbeats 4000000 in
theorem own_fin_4_5 (x0 x1 x2 x3 x4 g4 g3 g2 g1 g0 v4 v3 v2 v1 v0 : Int32)
    (h4 : g4 = own_good [x0, x1, x2, x3, x4] 4 (4 : Int32) (5 : Int32)) (h3 : g3 = own_good [x0, x1, x2, x3, x4] 3 (4 : Int32) (5 : Int32)) (h2 : g2 = own_good [x0, x1, x2, x3, x4] 2 (4 : Int32) (5 : Int32)) (h1 : g1 = own_good [x0, x1, x2, x3, x4] 1 (4 : Int32) (5 : Int32)) (h0 : g0 = own_good [x0, x1, x2, x3, x4] 0 (4 : Int32) (5 : Int32))
    (k4 : v4 = (if g4 = (0 : Int32) then (-1 : Int32) else (4 : Int32))) (k3 : v3 = (if g3 = (0 : Int32) then v4 else (3 : Int32))) (k2 : v2 = (if g2 = (0 : Int32) then v3 else (2 : Int32))) (k1 : v1 = (if g1 = (0 : Int32) then v2 else (1 : Int32))) (k0 : v0 = (if g0 = (0 : Int32) then v1 else (0 : Int32))) :
    own_al [x0, x1, x2, x3, x4] (5 : Int32) ((5 : Int32).toInt - (4 : Int32).toInt).toNat (4 : Int32) = v0 := by
  have en : ((5 : Int32).toInt - (4 : Int32).toInt).toNat = 1 := rfl
  rw [en, k0, k1, k2, k3, k4, h0, h1, h2, h3, h4]
  simp only [own_good, own_isEnd, own_plain, own_al]
  rcases own_cl x4 with a4 | a4 | ⟨a4, b4, c4⟩ | ⟨a4, b4, c4⟩
  · simp [-Int32.not_lt, a4]
  · simp [-Int32.not_lt, a4]
  · simp [-Int32.not_lt, a4, b4, c4]
  · simp [-Int32.not_lt, a4, b4, c4]
theorem own_gz {xs : List Int32} {i f en : Int32} (h : en.toInt ≤ f.toInt) : own_good xs i f en = 0 := by
  unfold own_good
  by_cases h1 : i < f
  · rw [if_pos h1]
  · rw [if_neg h1]
    have h2 : ¬ i < en := by rw [Int32.lt_iff_toInt_lt] at h1 ⊢; omega
    rw [if_neg h2]
set_option maxHeartbeats 40000000 in
theorem own_fin (x0 x1 x2 x3 x4 f en g4 g3 g2 g1 g0 v4 v3 v2 v1 v0 : Int32) (hf : 0 ≤ f.toInt ∧ f.toInt ≤ 7) (he : 0 ≤ en.toInt ∧ en.toInt ≤ 5)
    (h4 : g4 = own_good [x0, x1, x2, x3, x4] 4 f en) (h3 : g3 = own_good [x0, x1, x2, x3, x4] 3 f en) (h2 : g2 = own_good [x0, x1, x2, x3, x4] 2 f en) (h1 : g1 = own_good [x0, x1, x2, x3, x4] 1 f en) (h0 : g0 = own_good [x0, x1, x2, x3, x4] 0 f en)
    (k4 : v4 = (if g4 = (0 : Int32) then (-1 : Int32) else (4 : Int32))) (k3 : v3 = (if g3 = (0 : Int32) then v4 else (3 : Int32))) (k2 : v2 = (if g2 = (0 : Int32) then v3 else (2 : Int32))) (k1 : v1 = (if g1 = (0 : Int32) then v2 else (1 : Int32))) (k0 : v0 = (if g0 = (0 : Int32) then v1 else (0 : Int32))) :
    own_al [x0, x1, x2, x3, x4] en (en.toInt - f.toInt).toNat f = v0 := by
  by_cases hc : en.toInt ≤ f.toInt
  · have en0 : (en.toInt - f.toInt).toNat = 0 := by omega
    rw [en0, k0, k1, k2, k3, k4, h0, h1, h2, h3, h4]
    simp [own_gz hc, own_al]
  · have hf5 : 0 ≤ f.toInt ∧ f.toInt ≤ 5 := by omega
    rcases own_i5 he with re | re | re | re | re | re
    · subst re
      rcases own_i5 hf5 with rf | rf | rf | rf | rf | rf
      · subst rf; exact absurd (by decide) hc
      · subst rf; exact absurd (by decide) hc
      · subst rf; exact absurd (by decide) hc
      · subst rf; exact absurd (by decide) hc
      · subst rf; exact absurd (by decide) hc
      · subst rf; exact absurd (by decide) hc
    · subst re
      rcases own_i5 hf5 with rf | rf | rf | rf | rf | rf
      · subst rf; exact own_fin_0_1 x0 x1 x2 x3 x4 g4 g3 g2 g1 g0 v4 v3 v2 v1 v0 h4 h3 h2 h1 h0 k4 k3 k2 k1 k0
      · subst rf; exact absurd (by decide) hc
      · subst rf; exact absurd (by decide) hc
      · subst rf; exact absurd (by decide) hc
      · subst rf; exact absurd (by decide) hc
      · subst rf; exact absurd (by decide) hc
    · subst re
      rcases own_i5 hf5 with rf | rf | rf | rf | rf | rf
      · subst rf; exact own_fin_0_2 x0 x1 x2 x3 x4 g4 g3 g2 g1 g0 v4 v3 v2 v1 v0 h4 h3 h2 h1 h0 k4 k3 k2 k1 k0
      · subst rf; exact own_fin_1_2 x0 x1 x2 x3 x4 g4 g3 g2 g1 g0 v4 v3 v2 v1 v0 h4 h3 h2 h1 h0 k4 k3 k2 k1 k0
      · subst rf; exact absurd (by decide) hc
      · subst rf; exact absurd (by decide) hc
      · subst rf; exact absurd (by decide) hc
      · subst rf; exact absurd (by decide) hc
    · subst re
      rcases own_i5 hf5 with rf | rf | rf | rf | rf | rf
      · subst rf; exact own_fin_0_3 x0 x1 x2 x3 x4 g4 g3 g2 g1 g0 v4 v3 v2 v1 v0 h4 h3 h2 h1 h0 k4 k3 k2 k1 k0
      · subst rf; exact own_fin_1_3 x0 x1 x2 x3 x4 g4 g3 g2 g1 g0 v4 v3 v2 v1 v0 h4 h3 h2 h1 h0 k4 k3 k2 k1 k0
      · subst rf; exact own_fin_2_3 x0 x1 x2 x3 x4 g4 g3 g2 g1 g0 v4 v3 v2 v1 v0 h4 h3 h2 h1 h0 k4 k3 k2 k1 k0
      · subst rf; exact absurd (by decide) hc
      · subst rf; exact absurd (by decide) hc
      · subst rf; exact absurd (by decide) hc
    · subst re
      rcases own_i5 hf5 with rf | rf | rf | rf | rf | rf
      · subst rf; exact own_fin_0_4 x0 x1 x2 x3 x4 g4 g3 g2 g1 g0 v4 v3 v2 v1 v0 h4 h3 h2 h1 h0 k4 k3 k2 k1 k0
      · subst rf; exact own_fin_1_4 x0 x1 x2 x3 x4 g4 g3 g2 g1 g0 v4 v3 v2 v1 v0 h4 h3 h2 h1 h0 k4 k3 k2 k1 k0
      · subst rf; exact own_fin_2_4 x0 x1 x2 x3 x4 g4 g3 g2 g1 g0 v4 v3 v2 v1 v0 h4 h3 h2 h1 h0 k4 k3 k2 k1 k0
      · subst rf; exact own_fin_3_4 x0 x1 x2 x3 x4 g4 g3 g2 g1 g0 v4 v3 v2 v1 v0 h4 h3 h2 h1 h0 k4 k3 k2 k1 k0
      · subst rf; exact absurd (by decide) hc
      · subst rf; exact absurd (by decide) hc
    · subst re
      rcases own_i5 hf5 with rf | rf | rf | rf | rf | rf
      · subst rf; exact own_fin_0_5 x0 x1 x2 x3 x4 g4 g3 g2 g1 g0 v4 v3 v2 v1 v0 h4 h3 h2 h1 h0 k4 k3 k2 k1 k0
      · subst rf; exact own_fin_1_5 x0 x1 x2 x3 x4 g4 g3 g2 g1 g0 v4 v3 v2 v1 v0 h4 h3 h2 h1 h0 k4 k3 k2 k1 k0
      · subst rf; exact own_fin_2_5 x0 x1 x2 x3 x4 g4 g3 g2 g1 g0 v4 v3 v2 v1 v0 h4 h3 h2 h1 h0 k4 k3 k2 k1 k0
      · subst rf; exact own_fin_3_5 x0 x1 x2 x3 x4 g4 g3 g2 g1 g0 v4 v3 v2 v1 v0 h4 h3 h2 h1 h0 k4 k3 k2 k1 k0
      · subst rf; exact own_fin_4_5 x0 x1 x2 x3 x4 g4 g3 g2 g1 g0 v4 v3 v2 v1 v0 h4 h3 h2 h1 h0 k4 k3 k2 k1 k0
      · subst rf; exact absurd (by decide) hc
theorem ef_rm0 (m : MethodId) (p0 : Int32) (p1 : Int32) (p2 : Int32) (p3 : Int32) (p4 : Int32) (p5 : Int32) : entryFrame m #[(.int p0), (.int p1), (.int p2), (.int p3), (.int p4), (.int p5)] maxLocals = (mkF m 0 #[.val (.int p0), .val (.int p1), .val (.int p2), .val (.int p3), .val (.int p4), .val (.int p5), .unset, .unset, .unset, .unset, .unset] []) := by first | (simp [entryFrame, mkF, argsToLocals, Value.category, maxLocals]; done) | rfl
set_option maxRecDepth 65536 in
set_option maxHeartbeats 40000000 in
theorem rm0 (l : Launch) (Z : State) (a0 : Array Value) (hw : ∀ d ∈ tables_1, d.before a0 Z = true) (n0 : Nat) (p0 : Int32) (p1 : Int32) (p2 : Int32) (p3 : Int32) (p4 : Int32) (p5 : Int32) :
    Con l Z n0 x code maxLocals ret room_1 #[(.int p0), (.int p1), (.int p2), (.int p3), (.int p4), (.int p5)] [] (fun v _ => v = some (.int 1)) := by
  refine Con.of (plainFor_of_name pn0) ?_
  intro p e s m below meth c T cx Y
  obtain ⟨hx, hby, hml, hown, hnm, hret, hlk, hZ⟩ := cx
  rw [ef_rm0]
  generalize hF : Fi Z n0 below s _ _ _ = F
  refine Rn.go (T' := T) (g' := (mkF m 1 #[.val (.int p0), .val (.int p1), .val (.int p2), .val (.int p3), .val (.int p4), .val (.int p5), .unset, .unset, .unset, .unset, .unset] [(.int (5 : Int32))])) (fun t k => ?_) ?_
  · show Steps p.tables e below (T.setTop (mkF m 0 #[.val (.int p0), .val (.int p1), .val (.int p2), .val (.int p3), .val (.int p4), .val (.int p5), .unset, .unset, .unset, .unset, .unset] [])) t
    refine XS.iconst Y.here hx rfl (hb hby at_0) ?_
    show Steps p.tables e below (T.setTop (mkF m 1 #[.val (.int p0), .val (.int p1), .val (.int p2), .val (.int p3), .val (.int p4), .val (.int p5), .unset, .unset, .unset, .unset, .unset] [(.int (5 : Int32))])) t
    exact k
  refine On.newp Y hx hZ (aty := .byte) (w0 hw) (g := (mkF m 1 #[.val (.int p0), .val (.int p1), .val (.int p2), .val (.int p3), .val (.int p4), .val (.int p5), .unset, .unset, .unset, .unset, .unset] [(.int (5 : Int32))])) rfl (hb hby at_1) rfl (by decide) (N := 5) (cap := 5) rfl (by decide) (by decide) (by decide) (by decide) (dv := (.int (0 : Int32))) rfl fun T1 a3 Y2 => ?_
  replace Y2 : On p l e _ s m _ below meth c Z n0 T1 1 5 [ari a3 .byte (5 : Int32) [(0 : Int32), (0 : Int32), (0 : Int32), (0 : Int32), (0 : Int32)]] := Y2
  show Rn p e below F T1 (mkF m 3 #[.val (.int p0), .val (.int p1), .val (.int p2), .val (.int p3), .val (.int p4), .val (.int p5), .unset, .unset, .unset, .unset, .unset] [(.ref a3)])
  refine Rn.go (T' := T1) (g' := (mkF m 9 #[.val (.int p0), .val (.int p1), .val (.int p2), .val (.int p3), .val (.int p4), .val (.int p5), .val (.ref a3), .unset, .unset, .unset, .unset] [(.int p0), (.int (0 : Int32)), (.ref a3)])) (fun t k => ?_) ?_
  · show Steps p.tables e below (T1.setTop (mkF m 3 #[.val (.int p0), .val (.int p1), .val (.int p2), .val (.int p3), .val (.int p4), .val (.int p5), .unset, .unset, .unset, .unset, .unset] [(.ref a3)])) t
    refine XS.astore Y2.here hx rfl (hb hby at_3) rfl rfl (l' := #[.val (.int p0), .val (.int p1), .val (.int p2), .val (.int p3), .val (.int p4), .val (.int p5), .val (.ref a3), .unset, .unset, .unset, .unset]) rfl ?_
    show Steps p.tables e below (T1.setTop (mkF m 5 #[.val (.int p0), .val (.int p1), .val (.int p2), .val (.int p3), .val (.int p4), .val (.int p5), .val (.ref a3), .unset, .unset, .unset, .unset] [])) t
    refine XS.aload Y2.here hx rfl (hb hby at_5) rfl rfl ?_
    show Steps p.tables e below (T1.setTop (mkF m 7 #[.val (.int p0), .val (.int p1), .val (.int p2), .val (.int p3), .val (.int p4), .val (.int p5), .val (.ref a3), .unset, .unset, .unset, .unset] [(.ref a3)])) t
    refine XS.iconst Y2.here hx rfl (hb hby at_7) ?_
    show Steps p.tables e below (T1.setTop (mkF m 8 #[.val (.int p0), .val (.int p1), .val (.int p2), .val (.int p3), .val (.int p4), .val (.int p5), .val (.ref a3), .unset, .unset, .unset, .unset] [(.int (0 : Int32)), (.ref a3)])) t
    refine XS.iloadN Y2.here hx rfl (hb hby at_8) rfl ?_
    show Steps p.tables e below (T1.setTop (mkF m 9 #[.val (.int p0), .val (.int p1), .val (.int p2), .val (.int p3), .val (.int p4), .val (.int p5), .val (.ref a3), .unset, .unset, .unset, .unset] [(.int p0), (.int (0 : Int32)), (.ref a3)])) t
    exact k
  refine On.static Y2 hx hZ (y := (⟨"com/example/nishati/nishati/io/LineReaderAsciiLineEndPinLaw", "draw", "(I)B"⟩ : MethodName)) hown (w1 hw) (w2 hw) (w4 hw) (w3 hw) (by decide) (argsL := [(.int p0)]) (rest := [(.int (0 : Int32)), (.ref a3)]) (rm1 l Z a0 hw n0 p0 [ari a3 .byte (5 : Int32) [(0 : Int32), (0 : Int32), (0 : Int32), (0 : Int32), (0 : Int32)]]) (W := 2) (by decide) (by decide) (by decide) (by decide) (g := (mkF m 9 #[.val (.int p0), .val (.int p1), .val (.int p2), .val (.int p3), .val (.int p4), .val (.int p5), .val (.ref a3), .unset, .unset, .unset, .unset] [(.int p0), (.int (0 : Int32)), (.ref a3)])) rfl (by rw [hml]; rfl) (lenOf pd2 rfl) rfl (by show 2 * 0 + _ ≤ _; exact Nat.le_of_eq rfl) (hb hby at_9) ?_
  intro T4 u6 D7 hp8 Y5
  obtain ⟨r9, hr9, rfl, rfl⟩ : ∃ z : Int32, z = (own_draw p0) ∧ u6 = some (.int z) ∧ D7 = _ := ⟨_, rfl, hp8.1, hp8.2⟩
  replace Y5 : On p l e _ s m _ below meth c Z n0 T4 1 5 [ari a3 .byte (5 : Int32) [(0 : Int32), (0 : Int32), (0 : Int32), (0 : Int32), (0 : Int32)]] := Y5
  show Rn p e below F T4 (mkF m 12 #[.val (.int p0), .val (.int p1), .val (.int p2), .val (.int p3), .val (.int p4), .val (.int p5), .val (.ref a3), .unset, .unset, .unset, .unset] [(.int r9), (.int (0 : Int32)), (.ref a3)])
  refine On.bsto Y5 hx hZ (i := 0) rfl (by decide) (by show 0 < 5; decide) (g := (mkF m 12 #[.val (.int p0), .val (.int p1), .val (.int p2), .val (.int p3), .val (.int p4), .val (.int p5), .val (.ref a3), .unset, .unset, .unset, .unset] [(.int r9), (.int (0 : Int32)), (.ref a3)])) rfl rfl (hb hby at_12) fun T9 Y10 => ?_
  replace Y10 : On p l e _ s m _ below meth c Z n0 T9 1 5 [ari a3 .byte (5 : Int32) [r9.toInt8.toInt32, (0 : Int32), (0 : Int32), (0 : Int32), (0 : Int32)]] := Y10
  show Rn p e below F T9 (mkF m 13 #[.val (.int p0), .val (.int p1), .val (.int p2), .val (.int p3), .val (.int p4), .val (.int p5), .val (.ref a3), .unset, .unset, .unset, .unset] [])
  refine Rn.go (T' := T9) (g' := (mkF m 17 #[.val (.int p0), .val (.int p1), .val (.int p2), .val (.int p3), .val (.int p4), .val (.int p5), .val (.ref a3), .unset, .unset, .unset, .unset] [(.int p1), (.int (1 : Int32)), (.ref a3)])) (fun t k => ?_) ?_
  · show Steps p.tables e below (T9.setTop (mkF m 13 #[.val (.int p0), .val (.int p1), .val (.int p2), .val (.int p3), .val (.int p4), .val (.int p5), .val (.ref a3), .unset, .unset, .unset, .unset] [])) t
    refine XS.aload Y10.here hx rfl (hb hby at_13) rfl rfl ?_
    show Steps p.tables e below (T9.setTop (mkF m 15 #[.val (.int p0), .val (.int p1), .val (.int p2), .val (.int p3), .val (.int p4), .val (.int p5), .val (.ref a3), .unset, .unset, .unset, .unset] [(.ref a3)])) t
    refine XS.iconst Y10.here hx rfl (hb hby at_15) ?_
    show Steps p.tables e below (T9.setTop (mkF m 16 #[.val (.int p0), .val (.int p1), .val (.int p2), .val (.int p3), .val (.int p4), .val (.int p5), .val (.ref a3), .unset, .unset, .unset, .unset] [(.int (1 : Int32)), (.ref a3)])) t
    refine XS.iloadN Y10.here hx rfl (hb hby at_16) rfl ?_
    show Steps p.tables e below (T9.setTop (mkF m 17 #[.val (.int p0), .val (.int p1), .val (.int p2), .val (.int p3), .val (.int p4), .val (.int p5), .val (.ref a3), .unset, .unset, .unset, .unset] [(.int p1), (.int (1 : Int32)), (.ref a3)])) t
    exact k
  refine On.static Y10 hx hZ (y := (⟨"com/example/nishati/nishati/io/LineReaderAsciiLineEndPinLaw", "draw", "(I)B"⟩ : MethodName)) hown (w1 hw) (w2 hw) (w4 hw) (w3 hw) (by decide) (argsL := [(.int p1)]) (rest := [(.int (1 : Int32)), (.ref a3)]) (rm1 l Z a0 hw n0 p1 [ari a3 .byte (5 : Int32) [r9.toInt8.toInt32, (0 : Int32), (0 : Int32), (0 : Int32), (0 : Int32)]]) (W := 2) (by decide) (by decide) (by decide) (by decide) (g := (mkF m 17 #[.val (.int p0), .val (.int p1), .val (.int p2), .val (.int p3), .val (.int p4), .val (.int p5), .val (.ref a3), .unset, .unset, .unset, .unset] [(.int p1), (.int (1 : Int32)), (.ref a3)])) rfl (by rw [hml]; rfl) (lenOf pd2 rfl) rfl (by show 2 * 0 + _ ≤ _; exact Nat.le_of_eq rfl) (hb hby at_17) ?_
  intro T11 u13 D14 hp15 Y12
  obtain ⟨r17, hr17, rfl, rfl⟩ : ∃ z : Int32, z = (own_draw p1) ∧ u13 = some (.int z) ∧ D14 = _ := ⟨_, rfl, hp15.1, hp15.2⟩
  replace Y12 : On p l e _ s m _ below meth c Z n0 T11 1 5 [ari a3 .byte (5 : Int32) [r9.toInt8.toInt32, (0 : Int32), (0 : Int32), (0 : Int32), (0 : Int32)]] := Y12
  show Rn p e below F T11 (mkF m 20 #[.val (.int p0), .val (.int p1), .val (.int p2), .val (.int p3), .val (.int p4), .val (.int p5), .val (.ref a3), .unset, .unset, .unset, .unset] [(.int r17), (.int (1 : Int32)), (.ref a3)])
  refine On.bsto Y12 hx hZ (i := 0) rfl (by decide) (by show 1 < 5; decide) (g := (mkF m 20 #[.val (.int p0), .val (.int p1), .val (.int p2), .val (.int p3), .val (.int p4), .val (.int p5), .val (.ref a3), .unset, .unset, .unset, .unset] [(.int r17), (.int (1 : Int32)), (.ref a3)])) rfl rfl (hb hby at_20) fun T16 Y17 => ?_
  replace Y17 : On p l e _ s m _ below meth c Z n0 T16 1 5 [ari a3 .byte (5 : Int32) [r9.toInt8.toInt32, r17.toInt8.toInt32, (0 : Int32), (0 : Int32), (0 : Int32)]] := Y17
  show Rn p e below F T16 (mkF m 21 #[.val (.int p0), .val (.int p1), .val (.int p2), .val (.int p3), .val (.int p4), .val (.int p5), .val (.ref a3), .unset, .unset, .unset, .unset] [])
  refine Rn.go (T' := T16) (g' := (mkF m 25 #[.val (.int p0), .val (.int p1), .val (.int p2), .val (.int p3), .val (.int p4), .val (.int p5), .val (.ref a3), .unset, .unset, .unset, .unset] [(.int p2), (.int (2 : Int32)), (.ref a3)])) (fun t k => ?_) ?_
  · show Steps p.tables e below (T16.setTop (mkF m 21 #[.val (.int p0), .val (.int p1), .val (.int p2), .val (.int p3), .val (.int p4), .val (.int p5), .val (.ref a3), .unset, .unset, .unset, .unset] [])) t
    refine XS.aload Y17.here hx rfl (hb hby at_21) rfl rfl ?_
    show Steps p.tables e below (T16.setTop (mkF m 23 #[.val (.int p0), .val (.int p1), .val (.int p2), .val (.int p3), .val (.int p4), .val (.int p5), .val (.ref a3), .unset, .unset, .unset, .unset] [(.ref a3)])) t
    refine XS.iconst Y17.here hx rfl (hb hby at_23) ?_
    show Steps p.tables e below (T16.setTop (mkF m 24 #[.val (.int p0), .val (.int p1), .val (.int p2), .val (.int p3), .val (.int p4), .val (.int p5), .val (.ref a3), .unset, .unset, .unset, .unset] [(.int (2 : Int32)), (.ref a3)])) t
    refine XS.iloadN Y17.here hx rfl (hb hby at_24) rfl ?_
    show Steps p.tables e below (T16.setTop (mkF m 25 #[.val (.int p0), .val (.int p1), .val (.int p2), .val (.int p3), .val (.int p4), .val (.int p5), .val (.ref a3), .unset, .unset, .unset, .unset] [(.int p2), (.int (2 : Int32)), (.ref a3)])) t
    exact k
  refine On.static Y17 hx hZ (y := (⟨"com/example/nishati/nishati/io/LineReaderAsciiLineEndPinLaw", "draw", "(I)B"⟩ : MethodName)) hown (w1 hw) (w2 hw) (w4 hw) (w3 hw) (by decide) (argsL := [(.int p2)]) (rest := [(.int (2 : Int32)), (.ref a3)]) (rm1 l Z a0 hw n0 p2 [ari a3 .byte (5 : Int32) [r9.toInt8.toInt32, r17.toInt8.toInt32, (0 : Int32), (0 : Int32), (0 : Int32)]]) (W := 2) (by decide) (by decide) (by decide) (by decide) (g := (mkF m 25 #[.val (.int p0), .val (.int p1), .val (.int p2), .val (.int p3), .val (.int p4), .val (.int p5), .val (.ref a3), .unset, .unset, .unset, .unset] [(.int p2), (.int (2 : Int32)), (.ref a3)])) rfl (by rw [hml]; rfl) (lenOf pd2 rfl) rfl (by show 2 * 0 + _ ≤ _; exact Nat.le_of_eq rfl) (hb hby at_25) ?_
  intro T18 u20 D21 hp22 Y19
  obtain ⟨r25, hr25, rfl, rfl⟩ : ∃ z : Int32, z = (own_draw p2) ∧ u20 = some (.int z) ∧ D21 = _ := ⟨_, rfl, hp22.1, hp22.2⟩
  replace Y19 : On p l e _ s m _ below meth c Z n0 T18 1 5 [ari a3 .byte (5 : Int32) [r9.toInt8.toInt32, r17.toInt8.toInt32, (0 : Int32), (0 : Int32), (0 : Int32)]] := Y19
  show Rn p e below F T18 (mkF m 28 #[.val (.int p0), .val (.int p1), .val (.int p2), .val (.int p3), .val (.int p4), .val (.int p5), .val (.ref a3), .unset, .unset, .unset, .unset] [(.int r25), (.int (2 : Int32)), (.ref a3)])
  refine On.bsto Y19 hx hZ (i := 0) rfl (by decide) (by show 2 < 5; decide) (g := (mkF m 28 #[.val (.int p0), .val (.int p1), .val (.int p2), .val (.int p3), .val (.int p4), .val (.int p5), .val (.ref a3), .unset, .unset, .unset, .unset] [(.int r25), (.int (2 : Int32)), (.ref a3)])) rfl rfl (hb hby at_28) fun T23 Y24 => ?_
  replace Y24 : On p l e _ s m _ below meth c Z n0 T23 1 5 [ari a3 .byte (5 : Int32) [r9.toInt8.toInt32, r17.toInt8.toInt32, r25.toInt8.toInt32, (0 : Int32), (0 : Int32)]] := Y24
  show Rn p e below F T23 (mkF m 29 #[.val (.int p0), .val (.int p1), .val (.int p2), .val (.int p3), .val (.int p4), .val (.int p5), .val (.ref a3), .unset, .unset, .unset, .unset] [])
  refine Rn.go (T' := T23) (g' := (mkF m 33 #[.val (.int p0), .val (.int p1), .val (.int p2), .val (.int p3), .val (.int p4), .val (.int p5), .val (.ref a3), .unset, .unset, .unset, .unset] [(.int p3), (.int (3 : Int32)), (.ref a3)])) (fun t k => ?_) ?_
  · show Steps p.tables e below (T23.setTop (mkF m 29 #[.val (.int p0), .val (.int p1), .val (.int p2), .val (.int p3), .val (.int p4), .val (.int p5), .val (.ref a3), .unset, .unset, .unset, .unset] [])) t
    refine XS.aload Y24.here hx rfl (hb hby at_29) rfl rfl ?_
    show Steps p.tables e below (T23.setTop (mkF m 31 #[.val (.int p0), .val (.int p1), .val (.int p2), .val (.int p3), .val (.int p4), .val (.int p5), .val (.ref a3), .unset, .unset, .unset, .unset] [(.ref a3)])) t
    refine XS.iconst Y24.here hx rfl (hb hby at_31) ?_
    show Steps p.tables e below (T23.setTop (mkF m 32 #[.val (.int p0), .val (.int p1), .val (.int p2), .val (.int p3), .val (.int p4), .val (.int p5), .val (.ref a3), .unset, .unset, .unset, .unset] [(.int (3 : Int32)), (.ref a3)])) t
    refine XS.iloadN Y24.here hx rfl (hb hby at_32) rfl ?_
    show Steps p.tables e below (T23.setTop (mkF m 33 #[.val (.int p0), .val (.int p1), .val (.int p2), .val (.int p3), .val (.int p4), .val (.int p5), .val (.ref a3), .unset, .unset, .unset, .unset] [(.int p3), (.int (3 : Int32)), (.ref a3)])) t
    exact k
  refine On.static Y24 hx hZ (y := (⟨"com/example/nishati/nishati/io/LineReaderAsciiLineEndPinLaw", "draw", "(I)B"⟩ : MethodName)) hown (w1 hw) (w2 hw) (w4 hw) (w3 hw) (by decide) (argsL := [(.int p3)]) (rest := [(.int (3 : Int32)), (.ref a3)]) (rm1 l Z a0 hw n0 p3 [ari a3 .byte (5 : Int32) [r9.toInt8.toInt32, r17.toInt8.toInt32, r25.toInt8.toInt32, (0 : Int32), (0 : Int32)]]) (W := 2) (by decide) (by decide) (by decide) (by decide) (g := (mkF m 33 #[.val (.int p0), .val (.int p1), .val (.int p2), .val (.int p3), .val (.int p4), .val (.int p5), .val (.ref a3), .unset, .unset, .unset, .unset] [(.int p3), (.int (3 : Int32)), (.ref a3)])) rfl (by rw [hml]; rfl) (lenOf pd2 rfl) rfl (by show 2 * 0 + _ ≤ _; exact Nat.le_of_eq rfl) (hb hby at_33) ?_
  intro T25 u27 D28 hp29 Y26
  obtain ⟨r33, hr33, rfl, rfl⟩ : ∃ z : Int32, z = (own_draw p3) ∧ u27 = some (.int z) ∧ D28 = _ := ⟨_, rfl, hp29.1, hp29.2⟩
  replace Y26 : On p l e _ s m _ below meth c Z n0 T25 1 5 [ari a3 .byte (5 : Int32) [r9.toInt8.toInt32, r17.toInt8.toInt32, r25.toInt8.toInt32, (0 : Int32), (0 : Int32)]] := Y26
  show Rn p e below F T25 (mkF m 36 #[.val (.int p0), .val (.int p1), .val (.int p2), .val (.int p3), .val (.int p4), .val (.int p5), .val (.ref a3), .unset, .unset, .unset, .unset] [(.int r33), (.int (3 : Int32)), (.ref a3)])
  refine On.bsto Y26 hx hZ (i := 0) rfl (by decide) (by show 3 < 5; decide) (g := (mkF m 36 #[.val (.int p0), .val (.int p1), .val (.int p2), .val (.int p3), .val (.int p4), .val (.int p5), .val (.ref a3), .unset, .unset, .unset, .unset] [(.int r33), (.int (3 : Int32)), (.ref a3)])) rfl rfl (hb hby at_36) fun T30 Y31 => ?_
  replace Y31 : On p l e _ s m _ below meth c Z n0 T30 1 5 [ari a3 .byte (5 : Int32) [r9.toInt8.toInt32, r17.toInt8.toInt32, r25.toInt8.toInt32, r33.toInt8.toInt32, (0 : Int32)]] := Y31
  show Rn p e below F T30 (mkF m 37 #[.val (.int p0), .val (.int p1), .val (.int p2), .val (.int p3), .val (.int p4), .val (.int p5), .val (.ref a3), .unset, .unset, .unset, .unset] [])
  refine Rn.go (T' := T30) (g' := (mkF m 42 #[.val (.int p0), .val (.int p1), .val (.int p2), .val (.int p3), .val (.int p4), .val (.int p5), .val (.ref a3), .unset, .unset, .unset, .unset] [(.int p4), (.int (4 : Int32)), (.ref a3)])) (fun t k => ?_) ?_
  · show Steps p.tables e below (T30.setTop (mkF m 37 #[.val (.int p0), .val (.int p1), .val (.int p2), .val (.int p3), .val (.int p4), .val (.int p5), .val (.ref a3), .unset, .unset, .unset, .unset] [])) t
    refine XS.aload Y31.here hx rfl (hb hby at_37) rfl rfl ?_
    show Steps p.tables e below (T30.setTop (mkF m 39 #[.val (.int p0), .val (.int p1), .val (.int p2), .val (.int p3), .val (.int p4), .val (.int p5), .val (.ref a3), .unset, .unset, .unset, .unset] [(.ref a3)])) t
    refine XS.iconst Y31.here hx rfl (hb hby at_39) ?_
    show Steps p.tables e below (T30.setTop (mkF m 40 #[.val (.int p0), .val (.int p1), .val (.int p2), .val (.int p3), .val (.int p4), .val (.int p5), .val (.ref a3), .unset, .unset, .unset, .unset] [(.int (4 : Int32)), (.ref a3)])) t
    refine XS.iload Y31.here hx rfl (hb hby at_40) rfl ?_
    show Steps p.tables e below (T30.setTop (mkF m 42 #[.val (.int p0), .val (.int p1), .val (.int p2), .val (.int p3), .val (.int p4), .val (.int p5), .val (.ref a3), .unset, .unset, .unset, .unset] [(.int p4), (.int (4 : Int32)), (.ref a3)])) t
    exact k
  refine On.static Y31 hx hZ (y := (⟨"com/example/nishati/nishati/io/LineReaderAsciiLineEndPinLaw", "draw", "(I)B"⟩ : MethodName)) hown (w1 hw) (w2 hw) (w4 hw) (w3 hw) (by decide) (argsL := [(.int p4)]) (rest := [(.int (4 : Int32)), (.ref a3)]) (rm1 l Z a0 hw n0 p4 [ari a3 .byte (5 : Int32) [r9.toInt8.toInt32, r17.toInt8.toInt32, r25.toInt8.toInt32, r33.toInt8.toInt32, (0 : Int32)]]) (W := 2) (by decide) (by decide) (by decide) (by decide) (g := (mkF m 42 #[.val (.int p0), .val (.int p1), .val (.int p2), .val (.int p3), .val (.int p4), .val (.int p5), .val (.ref a3), .unset, .unset, .unset, .unset] [(.int p4), (.int (4 : Int32)), (.ref a3)])) rfl (by rw [hml]; rfl) (lenOf pd2 rfl) rfl (by show 2 * 0 + _ ≤ _; exact Nat.le_of_eq rfl) (hb hby at_42) ?_
  intro T32 u34 D35 hp36 Y33
  obtain ⟨r42, hr42, rfl, rfl⟩ : ∃ z : Int32, z = (own_draw p4) ∧ u34 = some (.int z) ∧ D35 = _ := ⟨_, rfl, hp36.1, hp36.2⟩
  replace Y33 : On p l e _ s m _ below meth c Z n0 T32 1 5 [ari a3 .byte (5 : Int32) [r9.toInt8.toInt32, r17.toInt8.toInt32, r25.toInt8.toInt32, r33.toInt8.toInt32, (0 : Int32)]] := Y33
  show Rn p e below F T32 (mkF m 45 #[.val (.int p0), .val (.int p1), .val (.int p2), .val (.int p3), .val (.int p4), .val (.int p5), .val (.ref a3), .unset, .unset, .unset, .unset] [(.int r42), (.int (4 : Int32)), (.ref a3)])
  refine On.bsto Y33 hx hZ (i := 0) rfl (by decide) (by show 4 < 5; decide) (g := (mkF m 45 #[.val (.int p0), .val (.int p1), .val (.int p2), .val (.int p3), .val (.int p4), .val (.int p5), .val (.ref a3), .unset, .unset, .unset, .unset] [(.int r42), (.int (4 : Int32)), (.ref a3)])) rfl rfl (hb hby at_45) fun T37 Y38 => ?_
  replace Y38 : On p l e _ s m _ below meth c Z n0 T37 1 5 [ari a3 .byte (5 : Int32) [r9.toInt8.toInt32, r17.toInt8.toInt32, r25.toInt8.toInt32, r33.toInt8.toInt32, r42.toInt8.toInt32]] := Y38
  show Rn p e below F T37 (mkF m 46 #[.val (.int p0), .val (.int p1), .val (.int p2), .val (.int p3), .val (.int p4), .val (.int p5), .val (.ref a3), .unset, .unset, .unset, .unset] [])
  refine Rn.go (T' := T37) (g' := (mkF m 53 #[.val (.int p0), .val (.int p1), .val (.int p2), .val (.int p3), .val (.int p4), .val (.int p5), .val (.ref a3), .val (.int (p5 &&& (7 : Int32))), .unset, .unset, .unset] [])) (fun t k => ?_) ?_
  · show Steps p.tables e below (T37.setTop (mkF m 46 #[.val (.int p0), .val (.int p1), .val (.int p2), .val (.int p3), .val (.int p4), .val (.int p5), .val (.ref a3), .unset, .unset, .unset, .unset] [])) t
    refine XS.iload Y38.here hx rfl (hb hby at_46) rfl ?_
    show Steps p.tables e below (T37.setTop (mkF m 48 #[.val (.int p0), .val (.int p1), .val (.int p2), .val (.int p3), .val (.int p4), .val (.int p5), .val (.ref a3), .unset, .unset, .unset, .unset] [(.int p5)])) t
    refine XS.bipush Y38.here hx rfl (hb hby at_48) ?_
    show Steps p.tables e below (T37.setTop (mkF m 50 #[.val (.int p0), .val (.int p1), .val (.int p2), .val (.int p3), .val (.int p4), .val (.int p5), .val (.ref a3), .unset, .unset, .unset, .unset] [(.int (7 : Int32)), (.int p5)])) t
    refine XS.iand Y38.here hx rfl (hb hby at_50) rfl ?_
    show Steps p.tables e below (T37.setTop (mkF m 51 #[.val (.int p0), .val (.int p1), .val (.int p2), .val (.int p3), .val (.int p4), .val (.int p5), .val (.ref a3), .unset, .unset, .unset, .unset] [(.int (p5 &&& (7 : Int32)))])) t
    refine XS.istore Y38.here hx rfl (hb hby at_51) rfl (l' := #[.val (.int p0), .val (.int p1), .val (.int p2), .val (.int p3), .val (.int p4), .val (.int p5), .val (.ref a3), .val (.int (p5 &&& (7 : Int32))), .unset, .unset, .unset]) rfl ?_
    show Steps p.tables e below (T37.setTop (mkF m 53 #[.val (.int p0), .val (.int p1), .val (.int p2), .val (.int p3), .val (.int p4), .val (.int p5), .val (.ref a3), .val (.int (p5 &&& (7 : Int32))), .unset, .unset, .unset] [])) t
    exact k
  obtain ⟨fr, hfr⟩ : ∃ z : Int32, z = (p5 &&& (7 : Int32)) := ⟨_, rfl⟩
  rw [← hfr]
  have hbf : 0 ≤ fr.toInt ∧ fr.toInt ≤ 7 := by rw [hfr]; exact own_fr _
  refine Rn.go (T' := T37) (g' := (mkF m 65 #[.val (.int p0), .val (.int p1), .val (.int p2), .val (.int p3), .val (.int p4), .val (.int p5), .val (.ref a3), .val (.int fr), .val (.int ((((p5.toUInt32 >>> ((3 : Int32) &&& 31).toUInt32).toInt32) &&& (7 : Int32)) % (6 : Int32))), .unset, .unset] [])) (fun t k => ?_) ?_
  · show Steps p.tables e below (T37.setTop (mkF m 53 #[.val (.int p0), .val (.int p1), .val (.int p2), .val (.int p3), .val (.int p4), .val (.int p5), .val (.ref a3), .val (.int fr), .unset, .unset, .unset] [])) t
    refine XS.iload Y38.here hx rfl (hb hby at_53) rfl ?_
    show Steps p.tables e below (T37.setTop (mkF m 55 #[.val (.int p0), .val (.int p1), .val (.int p2), .val (.int p3), .val (.int p4), .val (.int p5), .val (.ref a3), .val (.int fr), .unset, .unset, .unset] [(.int p5)])) t
    refine XS.iconst Y38.here hx rfl (hb hby at_55) ?_
    show Steps p.tables e below (T37.setTop (mkF m 56 #[.val (.int p0), .val (.int p1), .val (.int p2), .val (.int p3), .val (.int p4), .val (.int p5), .val (.ref a3), .val (.int fr), .unset, .unset, .unset] [(.int (3 : Int32)), (.int p5)])) t
    refine XS.iushr Y38.here hx rfl (hb hby at_56) rfl ?_
    show Steps p.tables e below (T37.setTop (mkF m 57 #[.val (.int p0), .val (.int p1), .val (.int p2), .val (.int p3), .val (.int p4), .val (.int p5), .val (.ref a3), .val (.int fr), .unset, .unset, .unset] [(.int ((p5.toUInt32 >>> ((3 : Int32) &&& 31).toUInt32).toInt32))])) t
    refine XS.bipush Y38.here hx rfl (hb hby at_57) ?_
    show Steps p.tables e below (T37.setTop (mkF m 59 #[.val (.int p0), .val (.int p1), .val (.int p2), .val (.int p3), .val (.int p4), .val (.int p5), .val (.ref a3), .val (.int fr), .unset, .unset, .unset] [(.int (7 : Int32)), (.int ((p5.toUInt32 >>> ((3 : Int32) &&& 31).toUInt32).toInt32))])) t
    refine XS.iand Y38.here hx rfl (hb hby at_59) rfl ?_
    show Steps p.tables e below (T37.setTop (mkF m 60 #[.val (.int p0), .val (.int p1), .val (.int p2), .val (.int p3), .val (.int p4), .val (.int p5), .val (.ref a3), .val (.int fr), .unset, .unset, .unset] [(.int (((p5.toUInt32 >>> ((3 : Int32) &&& 31).toUInt32).toInt32) &&& (7 : Int32)))])) t
    refine XS.bipush Y38.here hx rfl (hb hby at_60) ?_
    show Steps p.tables e below (T37.setTop (mkF m 62 #[.val (.int p0), .val (.int p1), .val (.int p2), .val (.int p3), .val (.int p4), .val (.int p5), .val (.ref a3), .val (.int fr), .unset, .unset, .unset] [(.int (6 : Int32)), (.int (((p5.toUInt32 >>> ((3 : Int32) &&& 31).toUInt32).toInt32) &&& (7 : Int32)))])) t
    refine own_irem Y38.here hx rfl (hb hby at_62) rfl (by decide) ?_
    show Steps p.tables e below (T37.setTop (mkF m 63 #[.val (.int p0), .val (.int p1), .val (.int p2), .val (.int p3), .val (.int p4), .val (.int p5), .val (.ref a3), .val (.int fr), .unset, .unset, .unset] [(.int ((((p5.toUInt32 >>> ((3 : Int32) &&& 31).toUInt32).toInt32) &&& (7 : Int32)) % (6 : Int32)))])) t
    refine XS.istore Y38.here hx rfl (hb hby at_63) rfl (l' := #[.val (.int p0), .val (.int p1), .val (.int p2), .val (.int p3), .val (.int p4), .val (.int p5), .val (.ref a3), .val (.int fr), .val (.int ((((p5.toUInt32 >>> ((3 : Int32) &&& 31).toUInt32).toInt32) &&& (7 : Int32)) % (6 : Int32))), .unset, .unset]) rfl ?_
    show Steps p.tables e below (T37.setTop (mkF m 65 #[.val (.int p0), .val (.int p1), .val (.int p2), .val (.int p3), .val (.int p4), .val (.int p5), .val (.ref a3), .val (.int fr), .val (.int ((((p5.toUInt32 >>> ((3 : Int32) &&& 31).toUInt32).toInt32) &&& (7 : Int32)) % (6 : Int32))), .unset, .unset] [])) t
    exact k
  obtain ⟨en, hen⟩ : ∃ z : Int32, z = ((((p5.toUInt32 >>> ((3 : Int32) &&& 31).toUInt32).toInt32) &&& (7 : Int32)) % (6 : Int32)) := ⟨_, rfl⟩
  rw [← hen]
  have hbe : 0 ≤ en.toInt ∧ en.toInt ≤ 5 := by rw [hen]; exact own_en _
  refine Rn.go (T' := T37) (g' := (mkF m 71 #[.val (.int p0), .val (.int p1), .val (.int p2), .val (.int p3), .val (.int p4), .val (.int p5), .val (.ref a3), .val (.int fr), .val (.int en), .unset, .unset] [(.int en), (.int fr), (.ref a3)])) (fun t k => ?_) ?_
  · show Steps p.tables e below (T37.setTop (mkF m 65 #[.val (.int p0), .val (.int p1), .val (.int p2), .val (.int p3), .val (.int p4), .val (.int p5), .val (.ref a3), .val (.int fr), .val (.int en), .unset, .unset] [])) t
    refine XS.aload Y38.here hx rfl (hb hby at_65) rfl rfl ?_
    show Steps p.tables e below (T37.setTop (mkF m 67 #[.val (.int p0), .val (.int p1), .val (.int p2), .val (.int p3), .val (.int p4), .val (.int p5), .val (.ref a3), .val (.int fr), .val (.int en), .unset, .unset] [(.ref a3)])) t
    refine XS.iload Y38.here hx rfl (hb hby at_67) rfl ?_
    show Steps p.tables e below (T37.setTop (mkF m 69 #[.val (.int p0), .val (.int p1), .val (.int p2), .val (.int p3), .val (.int p4), .val (.int p5), .val (.ref a3), .val (.int fr), .val (.int en), .unset, .unset] [(.int fr), (.ref a3)])) t
    refine XS.iload Y38.here hx rfl (hb hby at_69) rfl ?_
    show Steps p.tables e below (T37.setTop (mkF m 71 #[.val (.int p0), .val (.int p1), .val (.int p2), .val (.int p3), .val (.int p4), .val (.int p5), .val (.ref a3), .val (.int fr), .val (.int en), .unset, .unset] [(.int en), (.int fr), (.ref a3)])) t
    exact k
  refine On.static Y38 hx hZ (y := (⟨"com/example/nishati/nishati/io/LineReader", "asciiLineEnd", "([BII)I"⟩ : MethodName)) hown (w5 hw) (w6 hw) (w8 hw) (w7 hw) (by decide) (argsL := [(.ref a3), (.int fr), (.int en)]) (rest := []) (rm2 l Z a0 hw n0 a3 fr en (5 : Int32) [r9.toInt8.toInt32, r17.toInt8.toInt32, r25.toInt8.toInt32, r33.toInt8.toInt32, r42.toInt8.toInt32] [] (by show 5 ≤ 1000; decide) hbe.2 hbf.1) (W := 0) (by decide) (by decide) (by decide) (by decide) (g := (mkF m 71 #[.val (.int p0), .val (.int p1), .val (.int p2), .val (.int p3), .val (.int p4), .val (.int p5), .val (.ref a3), .val (.int fr), .val (.int en), .unset, .unset] [(.int en), (.int fr), (.ref a3)])) rfl (by rw [hml]; rfl) (lenOf pd3 rfl) rfl (by show 2 * 0 + _ ≤ _; exact Nat.le_of_eq rfl) (hb hby at_71) ?_
  intro T39 u41 D42 hp43 Y40
  obtain ⟨r71, hr71, rfl, rfl⟩ : ∃ z : Int32, z = (own_al [r9.toInt8.toInt32, r17.toInt8.toInt32, r25.toInt8.toInt32, r33.toInt8.toInt32, r42.toInt8.toInt32] en (en.toInt - fr.toInt).toNat fr) ∧ u41 = some (.int z) ∧ D42 = _ := ⟨_, rfl, hp43.1, hp43.2⟩
  replace Y40 : On p l e _ s m _ below meth c Z n0 T39 1 5 [ari a3 .byte (5 : Int32) [r9.toInt8.toInt32, r17.toInt8.toInt32, r25.toInt8.toInt32, r33.toInt8.toInt32, r42.toInt8.toInt32]] := Y40
  show Rn p e below F T39 (mkF m 74 #[.val (.int p0), .val (.int p1), .val (.int p2), .val (.int p3), .val (.int p4), .val (.int p5), .val (.ref a3), .val (.int fr), .val (.int en), .unset, .unset] [(.int r71)])
  refine Rn.go (T' := T39) (g' := (mkF m 86 #[.val (.int p0), .val (.int p1), .val (.int p2), .val (.int p3), .val (.int p4), .val (.int p5), .val (.ref a3), .val (.int fr), .val (.int en), .val (.int r71), .val (.int (-1 : Int32))] [(.int en), (.int fr), (.int (4 : Int32)), (.ref a3)])) (fun t k => ?_) ?_
  · show Steps p.tables e below (T39.setTop (mkF m 74 #[.val (.int p0), .val (.int p1), .val (.int p2), .val (.int p3), .val (.int p4), .val (.int p5), .val (.ref a3), .val (.int fr), .val (.int en), .unset, .unset] [(.int r71)])) t
    refine XS.istore Y40.here hx rfl (hb hby at_74) rfl (l' := #[.val (.int p0), .val (.int p1), .val (.int p2), .val (.int p3), .val (.int p4), .val (.int p5), .val (.ref a3), .val (.int fr), .val (.int en), .val (.int r71), .unset]) rfl ?_
    show Steps p.tables e below (T39.setTop (mkF m 76 #[.val (.int p0), .val (.int p1), .val (.int p2), .val (.int p3), .val (.int p4), .val (.int p5), .val (.ref a3), .val (.int fr), .val (.int en), .val (.int r71), .unset] [])) t
    refine XS.iconst Y40.here hx rfl (hb hby at_76) ?_
    show Steps p.tables e below (T39.setTop (mkF m 77 #[.val (.int p0), .val (.int p1), .val (.int p2), .val (.int p3), .val (.int p4), .val (.int p5), .val (.ref a3), .val (.int fr), .val (.int en), .val (.int r71), .unset] [(.int (-1 : Int32))])) t
    refine XS.istore Y40.here hx rfl (hb hby at_77) rfl (l' := #[.val (.int p0), .val (.int p1), .val (.int p2), .val (.int p3), .val (.int p4), .val (.int p5), .val (.ref a3), .val (.int fr), .val (.int en), .val (.int r71), .val (.int (-1 : Int32))]) rfl ?_
    show Steps p.tables e below (T39.setTop (mkF m 79 #[.val (.int p0), .val (.int p1), .val (.int p2), .val (.int p3), .val (.int p4), .val (.int p5), .val (.ref a3), .val (.int fr), .val (.int en), .val (.int r71), .val (.int (-1 : Int32))] [])) t
    refine XS.aload Y40.here hx rfl (hb hby at_79) rfl rfl ?_
    show Steps p.tables e below (T39.setTop (mkF m 81 #[.val (.int p0), .val (.int p1), .val (.int p2), .val (.int p3), .val (.int p4), .val (.int p5), .val (.ref a3), .val (.int fr), .val (.int en), .val (.int r71), .val (.int (-1 : Int32))] [(.ref a3)])) t
    refine XS.iconst Y40.here hx rfl (hb hby at_81) ?_
    show Steps p.tables e below (T39.setTop (mkF m 82 #[.val (.int p0), .val (.int p1), .val (.int p2), .val (.int p3), .val (.int p4), .val (.int p5), .val (.ref a3), .val (.int fr), .val (.int en), .val (.int r71), .val (.int (-1 : Int32))] [(.int (4 : Int32)), (.ref a3)])) t
    refine XS.iload Y40.here hx rfl (hb hby at_82) rfl ?_
    show Steps p.tables e below (T39.setTop (mkF m 84 #[.val (.int p0), .val (.int p1), .val (.int p2), .val (.int p3), .val (.int p4), .val (.int p5), .val (.ref a3), .val (.int fr), .val (.int en), .val (.int r71), .val (.int (-1 : Int32))] [(.int fr), (.int (4 : Int32)), (.ref a3)])) t
    refine XS.iload Y40.here hx rfl (hb hby at_84) rfl ?_
    show Steps p.tables e below (T39.setTop (mkF m 86 #[.val (.int p0), .val (.int p1), .val (.int p2), .val (.int p3), .val (.int p4), .val (.int p5), .val (.ref a3), .val (.int fr), .val (.int en), .val (.int r71), .val (.int (-1 : Int32))] [(.int en), (.int fr), (.int (4 : Int32)), (.ref a3)])) t
    exact k
  refine On.static Y40 hx hZ (y := (⟨"com/example/nishati/nishati/io/LineReaderAsciiLineEndPinLaw", "good", "([BIII)Z"⟩ : MethodName)) hown (w9 hw) (w10 hw) (w11 hw) (w3 hw) (by decide) (argsL := [(.ref a3), (.int (4 : Int32)), (.int fr), (.int en)]) (rest := []) (rm3 l Z a0 hw n0 a3 (4 : Int32) fr en (5 : Int32) [r9.toInt8.toInt32, r17.toInt8.toInt32, r25.toInt8.toInt32, r33.toInt8.toInt32, r42.toInt8.toInt32] [] rfl hbf.1 hbe.2) (W := 0) (by decide) (by decide) (by decide) (by decide) (g := (mkF m 86 #[.val (.int p0), .val (.int p1), .val (.int p2), .val (.int p3), .val (.int p4), .val (.int p5), .val (.ref a3), .val (.int fr), .val (.int en), .val (.int r71), .val (.int (-1 : Int32))] [(.int en), (.int fr), (.int (4 : Int32)), (.ref a3)])) rfl (by rw [hml]; rfl) (lenOf pd1 rfl) rfl (by show 2 * 0 + _ ≤ _; exact Nat.le_of_eq rfl) (hb hby at_86) ?_
  intro T44 u46 D47 hp48 Y45
  obtain ⟨r86, hr86, rfl, rfl⟩ : ∃ z : Int32, z = (own_good [r9.toInt8.toInt32, r17.toInt8.toInt32, r25.toInt8.toInt32, r33.toInt8.toInt32, r42.toInt8.toInt32] (4 : Int32) fr en) ∧ u46 = some (.int z) ∧ D47 = _ := ⟨_, rfl, hp48.1, hp48.2⟩
  replace Y45 : On p l e _ s m _ below meth c Z n0 T44 1 5 [ari a3 .byte (5 : Int32) [r9.toInt8.toInt32, r17.toInt8.toInt32, r25.toInt8.toInt32, r33.toInt8.toInt32, r42.toInt8.toInt32]] := Y45
  show Rn p e below F T44 (mkF m 89 #[.val (.int p0), .val (.int p1), .val (.int p2), .val (.int p3), .val (.int p4), .val (.int p5), .val (.ref a3), .val (.int fr), .val (.int en), .val (.int r71), .val (.int (-1 : Int32))] [(.int r86)])
  obtain ⟨v95l10, hv95l10⟩ : ∃ z : Int32, z = (if r86 = (0 : Int32) then (-1 : Int32) else (4 : Int32)) := ⟨_, rfl⟩
  refine Rn.go (T' := T44) (g' := (mkF m 95 #[.val (.int p0), .val (.int p1), .val (.int p2), .val (.int p3), .val (.int p4), .val (.int p5), .val (.ref a3), .val (.int fr), .val (.int en), .val (.int r71), .val (.int v95l10)] [])) (fun t k => ?_) ?_
  · show Steps p.tables e below (T44.setTop (mkF m 89 #[.val (.int p0), .val (.int p1), .val (.int p2), .val (.int p3), .val (.int p4), .val (.int p5), .val (.ref a3), .val (.int fr), .val (.int en), .val (.int r71), .val (.int (-1 : Int32))] [(.int r86)])) t
    by_cases hc89 : r86 = (0 : Int32)
    · refine XS.ifYes Y45.here hx rfl (pc0 := 89) (pc' := 95) rfl (hb hby at_89) rfl ((if0 _ _).trans (teq hc89).1) (by decide) (by decide) ?_
      show Steps p.tables e below (T44.setTop (mkF m 95 #[.val (.int p0), .val (.int p1), .val (.int p2), .val (.int p3), .val (.int p4), .val (.int p5), .val (.ref a3), .val (.int fr), .val (.int en), .val (.int r71), .val (.int (-1 : Int32))] [])) t
      rw [hv95l10, if_pos hc89] at k
      exact k
    · refine XS.ifNo Y45.here hx rfl (hb hby at_89) rfl ((if0 _ _).trans (feq hc89).1) ?_
      show Steps p.tables e below (T44.setTop (mkF m 92 #[.val (.int p0), .val (.int p1), .val (.int p2), .val (.int p3), .val (.int p4), .val (.int p5), .val (.ref a3), .val (.int fr), .val (.int en), .val (.int r71), .val (.int (-1 : Int32))] [])) t
      refine XS.iconst Y45.here hx rfl (hb hby at_92) ?_
      show Steps p.tables e below (T44.setTop (mkF m 93 #[.val (.int p0), .val (.int p1), .val (.int p2), .val (.int p3), .val (.int p4), .val (.int p5), .val (.ref a3), .val (.int fr), .val (.int en), .val (.int r71), .val (.int (-1 : Int32))] [(.int (4 : Int32))])) t
      refine XS.istore Y45.here hx rfl (hb hby at_93) rfl (l' := #[.val (.int p0), .val (.int p1), .val (.int p2), .val (.int p3), .val (.int p4), .val (.int p5), .val (.ref a3), .val (.int fr), .val (.int en), .val (.int r71), .val (.int (4 : Int32))]) rfl ?_
      show Steps p.tables e below (T44.setTop (mkF m 95 #[.val (.int p0), .val (.int p1), .val (.int p2), .val (.int p3), .val (.int p4), .val (.int p5), .val (.ref a3), .val (.int fr), .val (.int en), .val (.int r71), .val (.int (4 : Int32))] [])) t
      rw [hv95l10, if_neg hc89] at k
      exact k
  refine Rn.go (T' := T44) (g' := (mkF m 102 #[.val (.int p0), .val (.int p1), .val (.int p2), .val (.int p3), .val (.int p4), .val (.int p5), .val (.ref a3), .val (.int fr), .val (.int en), .val (.int r71), .val (.int v95l10)] [(.int en), (.int fr), (.int (3 : Int32)), (.ref a3)])) (fun t k => ?_) ?_
  · show Steps p.tables e below (T44.setTop (mkF m 95 #[.val (.int p0), .val (.int p1), .val (.int p2), .val (.int p3), .val (.int p4), .val (.int p5), .val (.ref a3), .val (.int fr), .val (.int en), .val (.int r71), .val (.int v95l10)] [])) t
    refine XS.aload Y45.here hx rfl (hb hby at_95) rfl rfl ?_
    show Steps p.tables e below (T44.setTop (mkF m 97 #[.val (.int p0), .val (.int p1), .val (.int p2), .val (.int p3), .val (.int p4), .val (.int p5), .val (.ref a3), .val (.int fr), .val (.int en), .val (.int r71), .val (.int v95l10)] [(.ref a3)])) t
    refine XS.iconst Y45.here hx rfl (hb hby at_97) ?_
    show Steps p.tables e below (T44.setTop (mkF m 98 #[.val (.int p0), .val (.int p1), .val (.int p2), .val (.int p3), .val (.int p4), .val (.int p5), .val (.ref a3), .val (.int fr), .val (.int en), .val (.int r71), .val (.int v95l10)] [(.int (3 : Int32)), (.ref a3)])) t
    refine XS.iload Y45.here hx rfl (hb hby at_98) rfl ?_
    show Steps p.tables e below (T44.setTop (mkF m 100 #[.val (.int p0), .val (.int p1), .val (.int p2), .val (.int p3), .val (.int p4), .val (.int p5), .val (.ref a3), .val (.int fr), .val (.int en), .val (.int r71), .val (.int v95l10)] [(.int fr), (.int (3 : Int32)), (.ref a3)])) t
    refine XS.iload Y45.here hx rfl (hb hby at_100) rfl ?_
    show Steps p.tables e below (T44.setTop (mkF m 102 #[.val (.int p0), .val (.int p1), .val (.int p2), .val (.int p3), .val (.int p4), .val (.int p5), .val (.ref a3), .val (.int fr), .val (.int en), .val (.int r71), .val (.int v95l10)] [(.int en), (.int fr), (.int (3 : Int32)), (.ref a3)])) t
    exact k
  refine On.static Y45 hx hZ (y := (⟨"com/example/nishati/nishati/io/LineReaderAsciiLineEndPinLaw", "good", "([BIII)Z"⟩ : MethodName)) hown (w9 hw) (w10 hw) (w11 hw) (w3 hw) (by decide) (argsL := [(.ref a3), (.int (3 : Int32)), (.int fr), (.int en)]) (rest := []) (rm3 l Z a0 hw n0 a3 (3 : Int32) fr en (5 : Int32) [r9.toInt8.toInt32, r17.toInt8.toInt32, r25.toInt8.toInt32, r33.toInt8.toInt32, r42.toInt8.toInt32] [] rfl hbf.1 hbe.2) (W := 0) (by decide) (by decide) (by decide) (by decide) (g := (mkF m 102 #[.val (.int p0), .val (.int p1), .val (.int p2), .val (.int p3), .val (.int p4), .val (.int p5), .val (.ref a3), .val (.int fr), .val (.int en), .val (.int r71), .val (.int v95l10)] [(.int en), (.int fr), (.int (3 : Int32)), (.ref a3)])) rfl (by rw [hml]; rfl) (lenOf pd1 rfl) rfl (by show 2 * 0 + _ ≤ _; exact Nat.le_of_eq rfl) (hb hby at_102) ?_
  intro T49 u51 D52 hp53 Y50
  obtain ⟨r102, hr102, rfl, rfl⟩ : ∃ z : Int32, z = (own_good [r9.toInt8.toInt32, r17.toInt8.toInt32, r25.toInt8.toInt32, r33.toInt8.toInt32, r42.toInt8.toInt32] (3 : Int32) fr en) ∧ u51 = some (.int z) ∧ D52 = _ := ⟨_, rfl, hp53.1, hp53.2⟩
  replace Y50 : On p l e _ s m _ below meth c Z n0 T49 1 5 [ari a3 .byte (5 : Int32) [r9.toInt8.toInt32, r17.toInt8.toInt32, r25.toInt8.toInt32, r33.toInt8.toInt32, r42.toInt8.toInt32]] := Y50
  show Rn p e below F T49 (mkF m 105 #[.val (.int p0), .val (.int p1), .val (.int p2), .val (.int p3), .val (.int p4), .val (.int p5), .val (.ref a3), .val (.int fr), .val (.int en), .val (.int r71), .val (.int v95l10)] [(.int r102)])
  obtain ⟨v111l10, hv111l10⟩ : ∃ z : Int32, z = (if r102 = (0 : Int32) then v95l10 else (3 : Int32)) := ⟨_, rfl⟩
  refine Rn.go (T' := T49) (g' := (mkF m 111 #[.val (.int p0), .val (.int p1), .val (.int p2), .val (.int p3), .val (.int p4), .val (.int p5), .val (.ref a3), .val (.int fr), .val (.int en), .val (.int r71), .val (.int v111l10)] [])) (fun t k => ?_) ?_
  · show Steps p.tables e below (T49.setTop (mkF m 105 #[.val (.int p0), .val (.int p1), .val (.int p2), .val (.int p3), .val (.int p4), .val (.int p5), .val (.ref a3), .val (.int fr), .val (.int en), .val (.int r71), .val (.int v95l10)] [(.int r102)])) t
    by_cases hc105 : r102 = (0 : Int32)
    · refine XS.ifYes Y50.here hx rfl (pc0 := 105) (pc' := 111) rfl (hb hby at_105) rfl ((if0 _ _).trans (teq hc105).1) (by decide) (by decide) ?_
      show Steps p.tables e below (T49.setTop (mkF m 111 #[.val (.int p0), .val (.int p1), .val (.int p2), .val (.int p3), .val (.int p4), .val (.int p5), .val (.ref a3), .val (.int fr), .val (.int en), .val (.int r71), .val (.int v95l10)] [])) t
      rw [hv111l10, if_pos hc105] at k
      exact k
    · refine XS.ifNo Y50.here hx rfl (hb hby at_105) rfl ((if0 _ _).trans (feq hc105).1) ?_
      show Steps p.tables e below (T49.setTop (mkF m 108 #[.val (.int p0), .val (.int p1), .val (.int p2), .val (.int p3), .val (.int p4), .val (.int p5), .val (.ref a3), .val (.int fr), .val (.int en), .val (.int r71), .val (.int v95l10)] [])) t
      refine XS.iconst Y50.here hx rfl (hb hby at_108) ?_
      show Steps p.tables e below (T49.setTop (mkF m 109 #[.val (.int p0), .val (.int p1), .val (.int p2), .val (.int p3), .val (.int p4), .val (.int p5), .val (.ref a3), .val (.int fr), .val (.int en), .val (.int r71), .val (.int v95l10)] [(.int (3 : Int32))])) t
      refine XS.istore Y50.here hx rfl (hb hby at_109) rfl (l' := #[.val (.int p0), .val (.int p1), .val (.int p2), .val (.int p3), .val (.int p4), .val (.int p5), .val (.ref a3), .val (.int fr), .val (.int en), .val (.int r71), .val (.int (3 : Int32))]) rfl ?_
      show Steps p.tables e below (T49.setTop (mkF m 111 #[.val (.int p0), .val (.int p1), .val (.int p2), .val (.int p3), .val (.int p4), .val (.int p5), .val (.ref a3), .val (.int fr), .val (.int en), .val (.int r71), .val (.int (3 : Int32))] [])) t
      rw [hv111l10, if_neg hc105] at k
      exact k
  refine Rn.go (T' := T49) (g' := (mkF m 118 #[.val (.int p0), .val (.int p1), .val (.int p2), .val (.int p3), .val (.int p4), .val (.int p5), .val (.ref a3), .val (.int fr), .val (.int en), .val (.int r71), .val (.int v111l10)] [(.int en), (.int fr), (.int (2 : Int32)), (.ref a3)])) (fun t k => ?_) ?_
  · show Steps p.tables e below (T49.setTop (mkF m 111 #[.val (.int p0), .val (.int p1), .val (.int p2), .val (.int p3), .val (.int p4), .val (.int p5), .val (.ref a3), .val (.int fr), .val (.int en), .val (.int r71), .val (.int v111l10)] [])) t
    refine XS.aload Y50.here hx rfl (hb hby at_111) rfl rfl ?_
    show Steps p.tables e below (T49.setTop (mkF m 113 #[.val (.int p0), .val (.int p1), .val (.int p2), .val (.int p3), .val (.int p4), .val (.int p5), .val (.ref a3), .val (.int fr), .val (.int en), .val (.int r71), .val (.int v111l10)] [(.ref a3)])) t
    refine XS.iconst Y50.here hx rfl (hb hby at_113) ?_
    show Steps p.tables e below (T49.setTop (mkF m 114 #[.val (.int p0), .val (.int p1), .val (.int p2), .val (.int p3), .val (.int p4), .val (.int p5), .val (.ref a3), .val (.int fr), .val (.int en), .val (.int r71), .val (.int v111l10)] [(.int (2 : Int32)), (.ref a3)])) t
    refine XS.iload Y50.here hx rfl (hb hby at_114) rfl ?_
    show Steps p.tables e below (T49.setTop (mkF m 116 #[.val (.int p0), .val (.int p1), .val (.int p2), .val (.int p3), .val (.int p4), .val (.int p5), .val (.ref a3), .val (.int fr), .val (.int en), .val (.int r71), .val (.int v111l10)] [(.int fr), (.int (2 : Int32)), (.ref a3)])) t
    refine XS.iload Y50.here hx rfl (hb hby at_116) rfl ?_
    show Steps p.tables e below (T49.setTop (mkF m 118 #[.val (.int p0), .val (.int p1), .val (.int p2), .val (.int p3), .val (.int p4), .val (.int p5), .val (.ref a3), .val (.int fr), .val (.int en), .val (.int r71), .val (.int v111l10)] [(.int en), (.int fr), (.int (2 : Int32)), (.ref a3)])) t
    exact k
  refine On.static Y50 hx hZ (y := (⟨"com/example/nishati/nishati/io/LineReaderAsciiLineEndPinLaw", "good", "([BIII)Z"⟩ : MethodName)) hown (w9 hw) (w10 hw) (w11 hw) (w3 hw) (by decide) (argsL := [(.ref a3), (.int (2 : Int32)), (.int fr), (.int en)]) (rest := []) (rm3 l Z a0 hw n0 a3 (2 : Int32) fr en (5 : Int32) [r9.toInt8.toInt32, r17.toInt8.toInt32, r25.toInt8.toInt32, r33.toInt8.toInt32, r42.toInt8.toInt32] [] rfl hbf.1 hbe.2) (W := 0) (by decide) (by decide) (by decide) (by decide) (g := (mkF m 118 #[.val (.int p0), .val (.int p1), .val (.int p2), .val (.int p3), .val (.int p4), .val (.int p5), .val (.ref a3), .val (.int fr), .val (.int en), .val (.int r71), .val (.int v111l10)] [(.int en), (.int fr), (.int (2 : Int32)), (.ref a3)])) rfl (by rw [hml]; rfl) (lenOf pd1 rfl) rfl (by show 2 * 0 + _ ≤ _; exact Nat.le_of_eq rfl) (hb hby at_118) ?_
  intro T54 u56 D57 hp58 Y55
  obtain ⟨r118, hr118, rfl, rfl⟩ : ∃ z : Int32, z = (own_good [r9.toInt8.toInt32, r17.toInt8.toInt32, r25.toInt8.toInt32, r33.toInt8.toInt32, r42.toInt8.toInt32] (2 : Int32) fr en) ∧ u56 = some (.int z) ∧ D57 = _ := ⟨_, rfl, hp58.1, hp58.2⟩
  replace Y55 : On p l e _ s m _ below meth c Z n0 T54 1 5 [ari a3 .byte (5 : Int32) [r9.toInt8.toInt32, r17.toInt8.toInt32, r25.toInt8.toInt32, r33.toInt8.toInt32, r42.toInt8.toInt32]] := Y55
  show Rn p e below F T54 (mkF m 121 #[.val (.int p0), .val (.int p1), .val (.int p2), .val (.int p3), .val (.int p4), .val (.int p5), .val (.ref a3), .val (.int fr), .val (.int en), .val (.int r71), .val (.int v111l10)] [(.int r118)])
  obtain ⟨v127l10, hv127l10⟩ : ∃ z : Int32, z = (if r118 = (0 : Int32) then v111l10 else (2 : Int32)) := ⟨_, rfl⟩
  refine Rn.go (T' := T54) (g' := (mkF m 127 #[.val (.int p0), .val (.int p1), .val (.int p2), .val (.int p3), .val (.int p4), .val (.int p5), .val (.ref a3), .val (.int fr), .val (.int en), .val (.int r71), .val (.int v127l10)] [])) (fun t k => ?_) ?_
  · show Steps p.tables e below (T54.setTop (mkF m 121 #[.val (.int p0), .val (.int p1), .val (.int p2), .val (.int p3), .val (.int p4), .val (.int p5), .val (.ref a3), .val (.int fr), .val (.int en), .val (.int r71), .val (.int v111l10)] [(.int r118)])) t
    by_cases hc121 : r118 = (0 : Int32)
    · refine XS.ifYes Y55.here hx rfl (pc0 := 121) (pc' := 127) rfl (hb hby at_121) rfl ((if0 _ _).trans (teq hc121).1) (by decide) (by decide) ?_
      show Steps p.tables e below (T54.setTop (mkF m 127 #[.val (.int p0), .val (.int p1), .val (.int p2), .val (.int p3), .val (.int p4), .val (.int p5), .val (.ref a3), .val (.int fr), .val (.int en), .val (.int r71), .val (.int v111l10)] [])) t
      rw [hv127l10, if_pos hc121] at k
      exact k
    · refine XS.ifNo Y55.here hx rfl (hb hby at_121) rfl ((if0 _ _).trans (feq hc121).1) ?_
      show Steps p.tables e below (T54.setTop (mkF m 124 #[.val (.int p0), .val (.int p1), .val (.int p2), .val (.int p3), .val (.int p4), .val (.int p5), .val (.ref a3), .val (.int fr), .val (.int en), .val (.int r71), .val (.int v111l10)] [])) t
      refine XS.iconst Y55.here hx rfl (hb hby at_124) ?_
      show Steps p.tables e below (T54.setTop (mkF m 125 #[.val (.int p0), .val (.int p1), .val (.int p2), .val (.int p3), .val (.int p4), .val (.int p5), .val (.ref a3), .val (.int fr), .val (.int en), .val (.int r71), .val (.int v111l10)] [(.int (2 : Int32))])) t
      refine XS.istore Y55.here hx rfl (hb hby at_125) rfl (l' := #[.val (.int p0), .val (.int p1), .val (.int p2), .val (.int p3), .val (.int p4), .val (.int p5), .val (.ref a3), .val (.int fr), .val (.int en), .val (.int r71), .val (.int (2 : Int32))]) rfl ?_
      show Steps p.tables e below (T54.setTop (mkF m 127 #[.val (.int p0), .val (.int p1), .val (.int p2), .val (.int p3), .val (.int p4), .val (.int p5), .val (.ref a3), .val (.int fr), .val (.int en), .val (.int r71), .val (.int (2 : Int32))] [])) t
      rw [hv127l10, if_neg hc121] at k
      exact k
  refine Rn.go (T' := T54) (g' := (mkF m 134 #[.val (.int p0), .val (.int p1), .val (.int p2), .val (.int p3), .val (.int p4), .val (.int p5), .val (.ref a3), .val (.int fr), .val (.int en), .val (.int r71), .val (.int v127l10)] [(.int en), (.int fr), (.int (1 : Int32)), (.ref a3)])) (fun t k => ?_) ?_
  · show Steps p.tables e below (T54.setTop (mkF m 127 #[.val (.int p0), .val (.int p1), .val (.int p2), .val (.int p3), .val (.int p4), .val (.int p5), .val (.ref a3), .val (.int fr), .val (.int en), .val (.int r71), .val (.int v127l10)] [])) t
    refine XS.aload Y55.here hx rfl (hb hby at_127) rfl rfl ?_
    show Steps p.tables e below (T54.setTop (mkF m 129 #[.val (.int p0), .val (.int p1), .val (.int p2), .val (.int p3), .val (.int p4), .val (.int p5), .val (.ref a3), .val (.int fr), .val (.int en), .val (.int r71), .val (.int v127l10)] [(.ref a3)])) t
    refine XS.iconst Y55.here hx rfl (hb hby at_129) ?_
    show Steps p.tables e below (T54.setTop (mkF m 130 #[.val (.int p0), .val (.int p1), .val (.int p2), .val (.int p3), .val (.int p4), .val (.int p5), .val (.ref a3), .val (.int fr), .val (.int en), .val (.int r71), .val (.int v127l10)] [(.int (1 : Int32)), (.ref a3)])) t
    refine XS.iload Y55.here hx rfl (hb hby at_130) rfl ?_
    show Steps p.tables e below (T54.setTop (mkF m 132 #[.val (.int p0), .val (.int p1), .val (.int p2), .val (.int p3), .val (.int p4), .val (.int p5), .val (.ref a3), .val (.int fr), .val (.int en), .val (.int r71), .val (.int v127l10)] [(.int fr), (.int (1 : Int32)), (.ref a3)])) t
    refine XS.iload Y55.here hx rfl (hb hby at_132) rfl ?_
    show Steps p.tables e below (T54.setTop (mkF m 134 #[.val (.int p0), .val (.int p1), .val (.int p2), .val (.int p3), .val (.int p4), .val (.int p5), .val (.ref a3), .val (.int fr), .val (.int en), .val (.int r71), .val (.int v127l10)] [(.int en), (.int fr), (.int (1 : Int32)), (.ref a3)])) t
    exact k
  refine On.static Y55 hx hZ (y := (⟨"com/example/nishati/nishati/io/LineReaderAsciiLineEndPinLaw", "good", "([BIII)Z"⟩ : MethodName)) hown (w9 hw) (w10 hw) (w11 hw) (w3 hw) (by decide) (argsL := [(.ref a3), (.int (1 : Int32)), (.int fr), (.int en)]) (rest := []) (rm3 l Z a0 hw n0 a3 (1 : Int32) fr en (5 : Int32) [r9.toInt8.toInt32, r17.toInt8.toInt32, r25.toInt8.toInt32, r33.toInt8.toInt32, r42.toInt8.toInt32] [] rfl hbf.1 hbe.2) (W := 0) (by decide) (by decide) (by decide) (by decide) (g := (mkF m 134 #[.val (.int p0), .val (.int p1), .val (.int p2), .val (.int p3), .val (.int p4), .val (.int p5), .val (.ref a3), .val (.int fr), .val (.int en), .val (.int r71), .val (.int v127l10)] [(.int en), (.int fr), (.int (1 : Int32)), (.ref a3)])) rfl (by rw [hml]; rfl) (lenOf pd1 rfl) rfl (by show 2 * 0 + _ ≤ _; exact Nat.le_of_eq rfl) (hb hby at_134) ?_
  intro T59 u61 D62 hp63 Y60
  obtain ⟨r134, hr134, rfl, rfl⟩ : ∃ z : Int32, z = (own_good [r9.toInt8.toInt32, r17.toInt8.toInt32, r25.toInt8.toInt32, r33.toInt8.toInt32, r42.toInt8.toInt32] (1 : Int32) fr en) ∧ u61 = some (.int z) ∧ D62 = _ := ⟨_, rfl, hp63.1, hp63.2⟩
  replace Y60 : On p l e _ s m _ below meth c Z n0 T59 1 5 [ari a3 .byte (5 : Int32) [r9.toInt8.toInt32, r17.toInt8.toInt32, r25.toInt8.toInt32, r33.toInt8.toInt32, r42.toInt8.toInt32]] := Y60
  show Rn p e below F T59 (mkF m 137 #[.val (.int p0), .val (.int p1), .val (.int p2), .val (.int p3), .val (.int p4), .val (.int p5), .val (.ref a3), .val (.int fr), .val (.int en), .val (.int r71), .val (.int v127l10)] [(.int r134)])
  obtain ⟨v143l10, hv143l10⟩ : ∃ z : Int32, z = (if r134 = (0 : Int32) then v127l10 else (1 : Int32)) := ⟨_, rfl⟩
  refine Rn.go (T' := T59) (g' := (mkF m 143 #[.val (.int p0), .val (.int p1), .val (.int p2), .val (.int p3), .val (.int p4), .val (.int p5), .val (.ref a3), .val (.int fr), .val (.int en), .val (.int r71), .val (.int v143l10)] [])) (fun t k => ?_) ?_
  · show Steps p.tables e below (T59.setTop (mkF m 137 #[.val (.int p0), .val (.int p1), .val (.int p2), .val (.int p3), .val (.int p4), .val (.int p5), .val (.ref a3), .val (.int fr), .val (.int en), .val (.int r71), .val (.int v127l10)] [(.int r134)])) t
    by_cases hc137 : r134 = (0 : Int32)
    · refine XS.ifYes Y60.here hx rfl (pc0 := 137) (pc' := 143) rfl (hb hby at_137) rfl ((if0 _ _).trans (teq hc137).1) (by decide) (by decide) ?_
      show Steps p.tables e below (T59.setTop (mkF m 143 #[.val (.int p0), .val (.int p1), .val (.int p2), .val (.int p3), .val (.int p4), .val (.int p5), .val (.ref a3), .val (.int fr), .val (.int en), .val (.int r71), .val (.int v127l10)] [])) t
      rw [hv143l10, if_pos hc137] at k
      exact k
    · refine XS.ifNo Y60.here hx rfl (hb hby at_137) rfl ((if0 _ _).trans (feq hc137).1) ?_
      show Steps p.tables e below (T59.setTop (mkF m 140 #[.val (.int p0), .val (.int p1), .val (.int p2), .val (.int p3), .val (.int p4), .val (.int p5), .val (.ref a3), .val (.int fr), .val (.int en), .val (.int r71), .val (.int v127l10)] [])) t
      refine XS.iconst Y60.here hx rfl (hb hby at_140) ?_
      show Steps p.tables e below (T59.setTop (mkF m 141 #[.val (.int p0), .val (.int p1), .val (.int p2), .val (.int p3), .val (.int p4), .val (.int p5), .val (.ref a3), .val (.int fr), .val (.int en), .val (.int r71), .val (.int v127l10)] [(.int (1 : Int32))])) t
      refine XS.istore Y60.here hx rfl (hb hby at_141) rfl (l' := #[.val (.int p0), .val (.int p1), .val (.int p2), .val (.int p3), .val (.int p4), .val (.int p5), .val (.ref a3), .val (.int fr), .val (.int en), .val (.int r71), .val (.int (1 : Int32))]) rfl ?_
      show Steps p.tables e below (T59.setTop (mkF m 143 #[.val (.int p0), .val (.int p1), .val (.int p2), .val (.int p3), .val (.int p4), .val (.int p5), .val (.ref a3), .val (.int fr), .val (.int en), .val (.int r71), .val (.int (1 : Int32))] [])) t
      rw [hv143l10, if_neg hc137] at k
      exact k
  refine Rn.go (T' := T59) (g' := (mkF m 150 #[.val (.int p0), .val (.int p1), .val (.int p2), .val (.int p3), .val (.int p4), .val (.int p5), .val (.ref a3), .val (.int fr), .val (.int en), .val (.int r71), .val (.int v143l10)] [(.int en), (.int fr), (.int (0 : Int32)), (.ref a3)])) (fun t k => ?_) ?_
  · show Steps p.tables e below (T59.setTop (mkF m 143 #[.val (.int p0), .val (.int p1), .val (.int p2), .val (.int p3), .val (.int p4), .val (.int p5), .val (.ref a3), .val (.int fr), .val (.int en), .val (.int r71), .val (.int v143l10)] [])) t
    refine XS.aload Y60.here hx rfl (hb hby at_143) rfl rfl ?_
    show Steps p.tables e below (T59.setTop (mkF m 145 #[.val (.int p0), .val (.int p1), .val (.int p2), .val (.int p3), .val (.int p4), .val (.int p5), .val (.ref a3), .val (.int fr), .val (.int en), .val (.int r71), .val (.int v143l10)] [(.ref a3)])) t
    refine XS.iconst Y60.here hx rfl (hb hby at_145) ?_
    show Steps p.tables e below (T59.setTop (mkF m 146 #[.val (.int p0), .val (.int p1), .val (.int p2), .val (.int p3), .val (.int p4), .val (.int p5), .val (.ref a3), .val (.int fr), .val (.int en), .val (.int r71), .val (.int v143l10)] [(.int (0 : Int32)), (.ref a3)])) t
    refine XS.iload Y60.here hx rfl (hb hby at_146) rfl ?_
    show Steps p.tables e below (T59.setTop (mkF m 148 #[.val (.int p0), .val (.int p1), .val (.int p2), .val (.int p3), .val (.int p4), .val (.int p5), .val (.ref a3), .val (.int fr), .val (.int en), .val (.int r71), .val (.int v143l10)] [(.int fr), (.int (0 : Int32)), (.ref a3)])) t
    refine XS.iload Y60.here hx rfl (hb hby at_148) rfl ?_
    show Steps p.tables e below (T59.setTop (mkF m 150 #[.val (.int p0), .val (.int p1), .val (.int p2), .val (.int p3), .val (.int p4), .val (.int p5), .val (.ref a3), .val (.int fr), .val (.int en), .val (.int r71), .val (.int v143l10)] [(.int en), (.int fr), (.int (0 : Int32)), (.ref a3)])) t
    exact k
  refine On.static Y60 hx hZ (y := (⟨"com/example/nishati/nishati/io/LineReaderAsciiLineEndPinLaw", "good", "([BIII)Z"⟩ : MethodName)) hown (w9 hw) (w10 hw) (w11 hw) (w3 hw) (by decide) (argsL := [(.ref a3), (.int (0 : Int32)), (.int fr), (.int en)]) (rest := []) (rm3 l Z a0 hw n0 a3 (0 : Int32) fr en (5 : Int32) [r9.toInt8.toInt32, r17.toInt8.toInt32, r25.toInt8.toInt32, r33.toInt8.toInt32, r42.toInt8.toInt32] [] rfl hbf.1 hbe.2) (W := 0) (by decide) (by decide) (by decide) (by decide) (g := (mkF m 150 #[.val (.int p0), .val (.int p1), .val (.int p2), .val (.int p3), .val (.int p4), .val (.int p5), .val (.ref a3), .val (.int fr), .val (.int en), .val (.int r71), .val (.int v143l10)] [(.int en), (.int fr), (.int (0 : Int32)), (.ref a3)])) rfl (by rw [hml]; rfl) (lenOf pd1 rfl) rfl (by show 2 * 0 + _ ≤ _; exact Nat.le_of_eq rfl) (hb hby at_150) ?_
  intro T64 u66 D67 hp68 Y65
  obtain ⟨r150, hr150, rfl, rfl⟩ : ∃ z : Int32, z = (own_good [r9.toInt8.toInt32, r17.toInt8.toInt32, r25.toInt8.toInt32, r33.toInt8.toInt32, r42.toInt8.toInt32] (0 : Int32) fr en) ∧ u66 = some (.int z) ∧ D67 = _ := ⟨_, rfl, hp68.1, hp68.2⟩
  replace Y65 : On p l e _ s m _ below meth c Z n0 T64 1 5 [ari a3 .byte (5 : Int32) [r9.toInt8.toInt32, r17.toInt8.toInt32, r25.toInt8.toInt32, r33.toInt8.toInt32, r42.toInt8.toInt32]] := Y65
  show Rn p e below F T64 (mkF m 153 #[.val (.int p0), .val (.int p1), .val (.int p2), .val (.int p3), .val (.int p4), .val (.int p5), .val (.ref a3), .val (.int fr), .val (.int en), .val (.int r71), .val (.int v143l10)] [(.int r150)])
  obtain ⟨v159l10, hv159l10⟩ : ∃ z : Int32, z = (if r150 = (0 : Int32) then v143l10 else (0 : Int32)) := ⟨_, rfl⟩
  refine Rn.go (T' := T64) (g' := (mkF m 159 #[.val (.int p0), .val (.int p1), .val (.int p2), .val (.int p3), .val (.int p4), .val (.int p5), .val (.ref a3), .val (.int fr), .val (.int en), .val (.int r71), .val (.int v159l10)] [])) (fun t k => ?_) ?_
  · show Steps p.tables e below (T64.setTop (mkF m 153 #[.val (.int p0), .val (.int p1), .val (.int p2), .val (.int p3), .val (.int p4), .val (.int p5), .val (.ref a3), .val (.int fr), .val (.int en), .val (.int r71), .val (.int v143l10)] [(.int r150)])) t
    by_cases hc153 : r150 = (0 : Int32)
    · refine XS.ifYes Y65.here hx rfl (pc0 := 153) (pc' := 159) rfl (hb hby at_153) rfl ((if0 _ _).trans (teq hc153).1) (by decide) (by decide) ?_
      show Steps p.tables e below (T64.setTop (mkF m 159 #[.val (.int p0), .val (.int p1), .val (.int p2), .val (.int p3), .val (.int p4), .val (.int p5), .val (.ref a3), .val (.int fr), .val (.int en), .val (.int r71), .val (.int v143l10)] [])) t
      rw [hv159l10, if_pos hc153] at k
      exact k
    · refine XS.ifNo Y65.here hx rfl (hb hby at_153) rfl ((if0 _ _).trans (feq hc153).1) ?_
      show Steps p.tables e below (T64.setTop (mkF m 156 #[.val (.int p0), .val (.int p1), .val (.int p2), .val (.int p3), .val (.int p4), .val (.int p5), .val (.ref a3), .val (.int fr), .val (.int en), .val (.int r71), .val (.int v143l10)] [])) t
      refine XS.iconst Y65.here hx rfl (hb hby at_156) ?_
      show Steps p.tables e below (T64.setTop (mkF m 157 #[.val (.int p0), .val (.int p1), .val (.int p2), .val (.int p3), .val (.int p4), .val (.int p5), .val (.ref a3), .val (.int fr), .val (.int en), .val (.int r71), .val (.int v143l10)] [(.int (0 : Int32))])) t
      refine XS.istore Y65.here hx rfl (hb hby at_157) rfl (l' := #[.val (.int p0), .val (.int p1), .val (.int p2), .val (.int p3), .val (.int p4), .val (.int p5), .val (.ref a3), .val (.int fr), .val (.int en), .val (.int r71), .val (.int (0 : Int32))]) rfl ?_
      show Steps p.tables e below (T64.setTop (mkF m 159 #[.val (.int p0), .val (.int p1), .val (.int p2), .val (.int p3), .val (.int p4), .val (.int p5), .val (.ref a3), .val (.int fr), .val (.int en), .val (.int r71), .val (.int (0 : Int32))] [])) t
      rw [hv159l10, if_neg hc153] at k
      exact k
  refine Rn.go (T' := T64) (g' := (mkF m 163 #[.val (.int p0), .val (.int p1), .val (.int p2), .val (.int p3), .val (.int p4), .val (.int p5), .val (.ref a3), .val (.int fr), .val (.int en), .val (.int r71), .val (.int v159l10)] [(.int v159l10), (.int r71)])) (fun t k => ?_) ?_
  · show Steps p.tables e below (T64.setTop (mkF m 159 #[.val (.int p0), .val (.int p1), .val (.int p2), .val (.int p3), .val (.int p4), .val (.int p5), .val (.ref a3), .val (.int fr), .val (.int en), .val (.int r71), .val (.int v159l10)] [])) t
    refine XS.iload Y65.here hx rfl (hb hby at_159) rfl ?_
    show Steps p.tables e below (T64.setTop (mkF m 161 #[.val (.int p0), .val (.int p1), .val (.int p2), .val (.int p3), .val (.int p4), .val (.int p5), .val (.ref a3), .val (.int fr), .val (.int en), .val (.int r71), .val (.int v159l10)] [(.int r71)])) t
    refine XS.iload Y65.here hx rfl (hb hby at_161) rfl ?_
    show Steps p.tables e below (T64.setTop (mkF m 163 #[.val (.int p0), .val (.int p1), .val (.int p2), .val (.int p3), .val (.int p4), .val (.int p5), .val (.ref a3), .val (.int fr), .val (.int en), .val (.int r71), .val (.int v159l10)] [(.int v159l10), (.int r71)])) t
    exact k
  refine Rn.go (T' := T64) (g' := (mkF m 166 #[.val (.int p0), .val (.int p1), .val (.int p2), .val (.int p3), .val (.int p4), .val (.int p5), .val (.ref a3), .val (.int fr), .val (.int en), .val (.int r71), .val (.int v159l10)] [])) (fun t k => XS.icmpNo Y65.here hx rfl (hb hby at_163) rfl (teq (by rw [hr71]; exact own_fin _ _ _ _ _ _ _ _ _ _ _ _ _ _ _ _ _ hbf hbe hr86 hr102 hr118 hr134 hr150 hv95l10 hv111l10 hv127l10 hv143l10 hv159l10)).2 k) ?_
  refine Rn.go (T' := T64) (g' := (mkF m 171 #[.val (.int p0), .val (.int p1), .val (.int p2), .val (.int p3), .val (.int p4), .val (.int p5), .val (.ref a3), .val (.int fr), .val (.int en), .val (.int r71), .val (.int v159l10)] [(.int (1 : Int32))])) (fun t k => ?_) ?_
  · show Steps p.tables e below (T64.setTop (mkF m 166 #[.val (.int p0), .val (.int p1), .val (.int p2), .val (.int p3), .val (.int p4), .val (.int p5), .val (.ref a3), .val (.int fr), .val (.int en), .val (.int r71), .val (.int v159l10)] [])) t
    refine XS.iconst Y65.here hx rfl (hb hby at_166) ?_
    show Steps p.tables e below (T64.setTop (mkF m 167 #[.val (.int p0), .val (.int p1), .val (.int p2), .val (.int p3), .val (.int p4), .val (.int p5), .val (.ref a3), .val (.int fr), .val (.int en), .val (.int r71), .val (.int v159l10)] [(.int (1 : Int32))])) t
    refine XS.goto Y65.here hx rfl (pc0 := 167) (pc' := 171) rfl (hb hby at_167) (by decide) (by decide) ?_
    show Steps p.tables e below (T64.setTop (mkF m 171 #[.val (.int p0), .val (.int p1), .val (.int p2), .val (.int p3), .val (.int p4), .val (.int p5), .val (.ref a3), .val (.int fr), .val (.int en), .val (.int r71), .val (.int v159l10)] [(.int (1 : Int32))])) t
    exact k
  rw [← hF]; exact On.retn Y65 hx hret (by simp) hlk (z' := (1 : Int32)) (by decide) (hb hby at_171) (by decide) (by decide) rfl
set_option maxRecDepth 65536 in
set_option maxHeartbeats 40000000 in
theorem comes_1 {Post : Tables → Env → Array Value → State → Outcome → State → Prop} (hpost : ∀ tb e args s v u, (limb_1_1.after args s (.returned v) u = true ∧ limb_1_2.after args s (.returned v) u = true ∧ True) → FrameEnd s (.returned v) u (Jvm.fieldLocs frame_1_writes args s ++ Jvm.arrayLocs frame_1_arrays args s ++ Jvm.staticLocs frame_1_statics s) 16 128 → Post tb e args s (.returned v) u) :
    ArmFor flags0 classFile x code maxLocals ret World_1 tables_1 room_1 Calls_1 rest_1 Pre_1 Post := by
  intro l hfl _ _ p e ha hc hk s m args below hf hA hF happ hP
  obtain ⟨hcalls, hrest, hpre⟩ := hP
  obtain ⟨-, -, -, hnamed, -, -, -, hat⟩ := (Spec.applies_iff hf).mp happ
  obtain ⟨hg, hn⟩ := and_e (Cond.before_iff.mp (show (Jvm.Cond.and given_1 narrow_1).before args s = true from hpre))
  obtain ⟨g1, g2⟩ := and_e hg
  obtain ⟨g3, g4⟩ := and_e g2
  obtain ⟨g5, g6⟩ := and_e g4
  obtain ⟨g7, g8⟩ := and_e g6
  obtain ⟨g9, g10⟩ := and_e g8
  obtain ⟨g11, g12⟩ := and_e g10
  obtain ⟨w0, w1, w2, w3, w4, w5, rfl⟩ : ∃ w0 w1 w2 w3 w4 w5 : Value, args = #[w0, w1, w2, w3, w4, w5] := by
    have hs : args.size = 6 := by simpa [Cond.value, given_1] using g1
    obtain ⟨L⟩ := args
    match L, hs with
    | [w0, w1, w2, w3, w4, w5], _ => exact ⟨w0, w1, w2, w3, w4, w5, rfl⟩
  have hw := fun d (hd : d ∈ tables_1) => atoms_spec (ws := Jvm.Cond.code x code maxLocals ret :: tables_1) hat d (List.mem_cons_of_mem _ hd)
  obtain ⟨i0, ei0⟩ := is_v g3
  obtain rfl : w0 = (.int i0) := Option.some.inj ei0
  obtain ⟨i1, ei1⟩ := is_v g5
  obtain rfl : w1 = (.int i1) := Option.some.inj ei1
  obtain ⟨i2, ei2⟩ := is_v g7
  obtain rfl : w2 = (.int i2) := Option.some.inj ei2
  obtain ⟨i3, ei3⟩ := is_v g9
  obtain rfl : w3 = (.int i3) := Option.some.inj ei3
  obtain ⟨i4, ei4⟩ := is_v g11
  obtain rfl : w4 = (.int i4) := Option.some.inj ei4
  obtain ⟨i5, ei5⟩ := is_v g12
  obtain rfl : w5 = (.int i5) := Option.some.inj ei5
  obtain ⟨n, o, h1, h2, h3, _, L, rfl, ⟨D', rfl, N, -⟩, hq⟩ := rm0 l s _ hw s.heap.size i0 i1 i2 i3 i4 i5 tables_1 s.heap (Hp.nil s) p e ha hc hk s m _ below hf ((Spec.applies_iff_loose hf).mp happ).1 ⟨rfl, State.Warmed39.refl s, rfl⟩ trivial
  refine ⟨n, _, h1, h2, h3, hpost _ _ _ _ _ _ ⟨Cond.after_iff.mpr rfl, Cond.after_iff.mpr (eq_i res_at (Term.int_eval (1)) rfl), trivial⟩ ⟨hq.1, hq.2.1, (hq.2.2.sift fun y hy => Or.inr (N y hy)).mono (by decide) (by decide)⟩⟩
theorem main_1_1 : Claimed_1_1 := comes_1 fun _ _ _ _ _ _ h hF => ⟨h.1, hF⟩
theorem main_1_2 : Claimed_1_2 := comes_1 fun _ _ _ _ _ _ h hF => ⟨h.2.1, hF⟩
end Jvm.Pilot.@@N@@
namespace Jvm.Pilot.@@N@@
open Jvm Jvm.ClassFile Sem Op Lib Jvm.Free Jvm.Stand Jvm.Pilot.@@N@@.Jvm.D
/-! MADE BY PROGRAM (witnessworld.py) out of the Statement's table words and the real class files: 11 classes; the members and pool entries that the words name. The judged class is class 1, her method 1. -/
namespace start1
open Jvm.ClassFile
def u (s : String) : CpInfo := .utf8 (stringToUtf16 s)
/-- a pool by its gaps: so many unusable entries, then the entry; so many at the end -/
def gap : Nat → List CpInfo → List CpInfo
  | 0, r => r
  | n + 1, r => .unusable :: gap n r
def poolList (es : List (Nat × CpInfo)) (last : Nat) : List CpInfo := es.foldr (fun e r => gap e.1 (e.2 :: r)) (gap last [])
def pool (es : List (Nat × CpInfo)) (last : Nat) : Array CpInfo := ⟨poolList es last⟩
def fileOf (pool : Array CpInfo) (this : Nat) (attrs : Array Attribute := #[]) (ms : Array MethodInfo := #[]) (fl : Nat := 33) (sup : Nat := 0) (ifs : Array Nat := #[]) (fds : Array FieldInfo := #[]) : ClassFile where
  minorVersion := 0
  majorVersion := 65
  constantPool := pool
  accessFlags := fl
  thisClass := this
  superClass := sup
  interfaces := ifs
  fields := fds
  methods := ms
  attributes := attrs
def plain (name : String) (sup : Option ClassId) : Class where
  name := name
  kind := .ordinary
  loader := none
  accessFlags := 33
  super := sup
  interfaces := #[]
  cf := none
  fields := #[]
  methods := #[]
  instanceTypes := #[]
  staticTypes := #[]
  resolved := #[]
  callSites := []
  init := .initialized
  statics := none
  mirror := none

def pool0 : Array CpInfo := pool [(5, u "<init>"), (0, u "()V"), (1, .class_ 10), (1, u "java/lang/Object")] 113

def k0m0 : Method := { name := "<init>", desc := "()V", sig := { parameters := [], returnType := none }, accessFlags := 1, code := none }
/-- java/lang/Object -/
def k0 : Class := { plain "java/lang/Object" none with
  accessFlags := 33
  interfaces := #[]
  cf := some (fileOf pool0 8 #[] #[{ accessFlags := 1, nameIndex := 5, descriptorIndex := 6, attributes := #[] }] 33 0 #[] #[])
  fields := #[]
  methods := #[k0m0]
  instanceTypes := #[]
  staticTypes := #[]
  resolved := Array.replicate 124 none
  statics := none }

def pool1 : Array CpInfo := pool [(2, .class_ 4), (1, u "java/lang/Object"), (0, u "<init>"), (0, u "()V"), (0, .methodref 8 9), (0, .class_ 10), (0, .nameAndType 11 12), (0, u "com/example/nishati/nishati/io/LineReaderAsciiLineEndPinLaw"), (0, u "draw"), (0, u "(I)B"), (0, .methodref 14 15), (0, .class_ 16), (0, .nameAndType 17 18), (0, u "com/example/nishati/nishati/io/LineReader"), (0, u "asciiLineEnd"), (0, u "([BII)I"), (0, .methodref 8 20), (0, .nameAndType 21 22), (0, u "good"), (0, u "([BIII)Z"), (0, .methodref 8 24), (0, .nameAndType 25 26), (0, u "isEnd"), (0, u "([BII)Z"), (0, .methodref 8 28), (0, .nameAndType 29 22), (0, u "plainAt"), (2, u "law"), (0, u "(IIIIII)Z")] 5

def k1m0 : Method := { name := "<init>", desc := "()V", sig := { parameters := [], returnType := none }, accessFlags := 1, code := none }
def k1c1 : Code := { maxStack := 4, maxLocals := 11, code := code, exceptionTable := #[], attributes := #[] }
def k1m1 : Method := { name := "law", desc := "(IIIIII)Z", sig := { parameters := [.int, .int, .int, .int, .int, .int], returnType := some .boolean }, accessFlags := 9, code := some k1c1 }
def k1c2 : Code := { maxStack := 2, maxLocals := 2, code := method_3_code, exceptionTable := #[], attributes := #[] }
def k1m2 : Method := { name := "draw", desc := "(I)B", sig := { parameters := [.int], returnType := some .byte }, accessFlags := 10, code := some k1c2 }
def k1c3 : Code := { maxStack := 3, maxLocals := 3, code := method_4_code, exceptionTable := #[], attributes := #[] }
def k1m3 : Method := { name := "isEnd", desc := "([BII)Z", sig := { parameters := [(.array .byte), .int, .int], returnType := some .boolean }, accessFlags := 10, code := some k1c3 }
def k1c4 : Code := { maxStack := 2, maxLocals := 4, code := method_5_code, exceptionTable := #[], attributes := #[] }
def k1m4 : Method := { name := "plainAt", desc := "([BIII)Z", sig := { parameters := [(.array .byte), .int, .int, .int], returnType := some .boolean }, accessFlags := 10, code := some k1c4 }
def k1c5 : Code := { maxStack := 4, maxLocals := 4, code := method_6_code, exceptionTable := #[], attributes := #[] }
def k1m5 : Method := { name := "good", desc := "([BIII)Z", sig := { parameters := [(.array .byte), .int, .int, .int], returnType := some .boolean }, accessFlags := 10, code := some k1c5 }
/-- com/example/nishati/nishati/io/LineReaderAsciiLineEndPinLaw -/
def k1 : Class := { plain "com/example/nishati/nishati/io/LineReaderAsciiLineEndPinLaw" (some 0) with
  accessFlags := 49
  interfaces := #[]
  cf := some (fileOf pool1 8 #[] #[{ accessFlags := 1, nameIndex := 5, descriptorIndex := 6, attributes := #[] }, { accessFlags := 9, nameIndex := 32, descriptorIndex := 33, attributes := #[] }, { accessFlags := 10, nameIndex := 11, descriptorIndex := 12, attributes := #[] }, { accessFlags := 10, nameIndex := 25, descriptorIndex := 26, attributes := #[] }, { accessFlags := 10, nameIndex := 29, descriptorIndex := 22, attributes := #[] }, { accessFlags := 10, nameIndex := 21, descriptorIndex := 22, attributes := #[] }] 49 2 #[] #[])
  fields := #[]
  methods := #[k1m0, k1m1, k1m2, k1m3, k1m4, k1m5]
  instanceTypes := #[]
  staticTypes := #[]
  resolved := Array.replicate 39 none
  statics := none }

def pool2 : Array CpInfo := pool [(1, .class_ 2), (0, u "java/lang/AutoCloseable"), (0, .class_ 4), (0, u "java/lang/Object")] 7

/-- java/lang/AutoCloseable -/
def k2 : Class := { plain "java/lang/AutoCloseable" (some 0) with
  accessFlags := 1537
  interfaces := #[]
  cf := some (fileOf pool2 1 #[] #[] 1537 3 #[] #[])
  fields := #[]
  methods := #[]
  instanceTypes := #[]
  staticTypes := #[]
  resolved := Array.replicate 12 none
  statics := none }

def pool3 : Array CpInfo := pool [(1, .class_ 2), (0, u "java/io/Closeable"), (0, .class_ 4), (0, u "java/lang/Object"), (0, .class_ 6), (0, u "java/lang/AutoCloseable")] 7

/-- java/io/Closeable -/
def k3 : Class := { plain "java/io/Closeable" (some 0) with
  accessFlags := 1537
  interfaces := #[2]
  cf := some (fileOf pool3 1 #[] #[] 1537 3 #[5] #[])
  fields := #[]
  methods := #[]
  instanceTypes := #[]
  staticTypes := #[]
  resolved := Array.replicate 14 none
  statics := none }

def pool4 : Array CpInfo := pool [(2, .class_ 4), (1, u "java/lang/Object"), (3, .class_ 10), (1, u "com/example/nishati/nishati/io/LineReader"), (0, u "text"), (0, u "Ljava/io/InputStream;"), (2, u "longest"), (0, u "I"), (9, u "buffer"), (0, u "[B"), (2, u "beyondAscii"), (0, u "Z"), (2, u "start"), (6, u "end"), (4, .class_ 47), (0, u "com/example/nishati/nishati/io/LineReader$TooLong"), (11, .class_ 60), (0, u "com/example/nishati/nishati/io/LineReader$Unclosed"), (3, u "lineStart"), (2, u "lineEnd"), (2, u "passed"), (0, u "J"), (10, .class_ 84), (1, u "com/example/nishati/nishati/io/LineReader$Taker"), (1, u "([BII)I"), (26, u "decoded"), (0, u "Ljava/nio/CharBuffer;"), (8, u "decoder"), (0, u "Ljava/nio/charset/CharsetDecoder;"), (53, .class_ 179), (0, u "java/io/Closeable"), (0, u "LEAST_BUFFER"), (1, u "MOST_BYTES_A_CHAR"), (18, u "asciiLineEnd")] 7

def k4c0 : Code := { maxStack := 3, maxLocals := 7, code := prog_81_method_14_code, exceptionTable := #[], attributes := #[] }
def k4m0 : Method := { name := "asciiLineEnd", desc := "([BII)I", sig := { parameters := [(.array .byte), .int, .int], returnType := some .int }, accessFlags := 8, code := some k4c0 }
/-- com/example/nishati/nishati/io/LineReader -/
def k4 : Class := { plain "com/example/nishati/nishati/io/LineReader" (some 0) with
  accessFlags := 32
  interfaces := #[3]
  cf := some (fileOf pool4 8 #[.nestMembers #[59, 46, 82]] #[{ accessFlags := 8, nameIndex := 201, descriptorIndex := 86, attributes := #[] }] 32 2 #[178] #[{ accessFlags := 26, nameIndex := 180, descriptorIndex := 16, attributes := #[] }, { accessFlags := 26, nameIndex := 182, descriptorIndex := 16, attributes := #[] }, { accessFlags := 18, nameIndex := 11, descriptorIndex := 12, attributes := #[] }, { accessFlags := 18, nameIndex := 15, descriptorIndex := 16, attributes := #[] }, { accessFlags := 18, nameIndex := 26, descriptorIndex := 27, attributes := #[] }, { accessFlags := 2, nameIndex := 34, descriptorIndex := 16, attributes := #[] }, { accessFlags := 2, nameIndex := 41, descriptorIndex := 16, attributes := #[] }, { accessFlags := 2, nameIndex := 70, descriptorIndex := 71, attributes := #[] }, { accessFlags := 2, nameIndex := 64, descriptorIndex := 16, attributes := #[] }, { accessFlags := 2, nameIndex := 67, descriptorIndex := 16, attributes := #[] }, { accessFlags := 2, nameIndex := 30, descriptorIndex := 31, attributes := #[] }, { accessFlags := 2, nameIndex := 123, descriptorIndex := 124, attributes := #[] }, { accessFlags := 2, nameIndex := 113, descriptorIndex := 114, attributes := #[] }])
  fields := #[{ name := "LEAST_BUFFER", type := .int, accessFlags := 26, slot := 0, constantValue := 0 }, { name := "MOST_BYTES_A_CHAR", type := .int, accessFlags := 26, slot := 1, constantValue := 0 }, { name := "text", type := (.object "java/io/InputStream"), accessFlags := 18, slot := 0, constantValue := 0 }, { name := "longest", type := .int, accessFlags := 18, slot := 1, constantValue := 0 }, { name := "buffer", type := (.array .byte), accessFlags := 18, slot := 2, constantValue := 0 }, { name := "start", type := .int, accessFlags := 2, slot := 3, constantValue := 0 }, { name := "end", type := .int, accessFlags := 2, slot := 4, constantValue := 0 }, { name := "passed", type := .long, accessFlags := 2, slot := 5, constantValue := 0 }, { name := "lineStart", type := .int, accessFlags := 2, slot := 6, constantValue := 0 }, { name := "lineEnd", type := .int, accessFlags := 2, slot := 7, constantValue := 0 }, { name := "beyondAscii", type := .boolean, accessFlags := 2, slot := 8, constantValue := 0 }, { name := "decoder", type := (.object "java/nio/charset/CharsetDecoder"), accessFlags := 2, slot := 9, constantValue := 0 }, { name := "decoded", type := (.object "java/nio/CharBuffer"), accessFlags := 2, slot := 10, constantValue := 0 }]
  methods := #[k4m0]
  instanceTypes := #[(.object "java/io/InputStream"), .int, (.array .byte), .int, .int, .long, .int, .int, .boolean, (.object "java/nio/charset/CharsetDecoder"), (.object "java/nio/CharBuffer")]
  staticTypes := #[.int, .int]
  resolved := Array.replicate 209 none
  statics := none }

def pool5 : Array CpInfo := pool [(1, u "java/lang/Cloneable"), (0, .class_ 1), (0, u "java/lang/Object"), (0, .class_ 3)] 3

/-- java/lang/Cloneable -/
def k5 : Class := { plain "java/lang/Cloneable" (some 0) with
  accessFlags := 1537
  interfaces := #[]
  cf := some (fileOf pool5 2 #[] #[] 1537 4 #[] #[])
  fields := #[]
  methods := #[]
  instanceTypes := #[]
  staticTypes := #[]
  resolved := Array.replicate 8 none
  statics := none }

def pool6 : Array CpInfo := pool [(1, u "java/io/Serializable"), (0, .class_ 1), (0, u "java/lang/Object"), (0, .class_ 3)] 3

/-- java/io/Serializable -/
def k6 : Class := { plain "java/io/Serializable" (some 0) with
  accessFlags := 1537
  interfaces := #[]
  cf := some (fileOf pool6 2 #[] #[] 1537 4 #[] #[])
  fields := #[]
  methods := #[]
  instanceTypes := #[]
  staticTypes := #[]
  resolved := Array.replicate 8 none
  statics := none }

/-- the primitive byte -/
def k7 : Class := { plain "byte" none with kind := .primitive 'B', accessFlags := 0x411 }
/-- [B -/
def k8 : Class := { plain "[B" (some 0) with kind := .array 7 .byte, interfaces := #[5, 6], accessFlags := 1041 }

/-- the primitive int -/
def k9 : Class := { plain "int" none with kind := .primitive 'I', accessFlags := 0x411 }
/-- [I -/
def k10 : Class := { plain "[I" (some 0) with kind := .array 9 .int, interfaces := #[5, 6], accessFlags := 1041 }

def heap : Heap := #[]
def classes : Array Class := #[k0, k1, k2, k3, k4, k5, k6, k7, k8, k9, k10]
def interned : List (Array UInt16 × Addr) := []
def slotsUsed : Nat := 0
def theMethod : MethodId := ⟨1, 1⟩
def args0 : Array Value := #[.int 1, .int 2, .int 3, .int 4, .int 5, .int 6]
def aboutOver (below : List Frame) : State where
  vm := { classes := classes, interned := interned.toArray }
  heap := heap
  slotsUsed := slotsUsed
  threads := #[{ frames := .invoking theMethod args0 :: below }]
def below0 : List Frame := [.native { method := ⟨0, 0⟩, args := #[] }]
def about1 : State := aboutOver below0
def p0 : Program := .bare "" "" ""
def e0 : Env := launch0.env 0 0 0
theorem w_frames : about1.frames = Frame.invoking theMethod args0 :: below0 := rfl
set_option maxRecDepth 65536 in
theorem w_args : argsFit about1.vm theMethod args0 = true := by decide +kernel
set_option maxRecDepth 65536 in
theorem w_heap : heapFits about1 = true := by decide +kernel
set_option maxRecDepth 65536 in
theorem w_runnable : about1.curStatus? = some .runnable := by decide +kernel
set_option maxRecDepth 65536 in
theorem w_alone : about1.alone = true := by decide +kernel
set_option maxRecDepth 65536 in
theorem w_named : about1.methodNamed? x = some theMethod := by decide +kernel
set_option maxRecDepth 65536 in
theorem w_hears : about1.hears theMethod below0 = true := by decide +kernel
set_option maxRecDepth 65536 in
theorem w_ripe : about1.ripe theMethod args0 below0 = true := by decide +kernel
theorem w_running : about1.status = .running := rfl
set_option maxRecDepth 65536 in
theorem w_room : about1.hasRoom e0.platform room_1 = true :=
  launch0.hasRoom_least _ room_1 (by decide +kernel) (by decide +kernel) (by decide +kernel) (by decide +kernel) (by decide +kernel) (by decide +kernel)
theorem allAtoms_all (ts : List Jvm.Cond) (a : Array Jvm.Value) (st : Jvm.State) : (allAtoms ts).before a st = ts.all (fun c => c.before a st) := by
  induction ts with
  | nil => rfl
  | cons c t ih =>
    show (Jvm.Cond.and c (allAtoms t)).before a st = _
    rw [Jvm.Cond.before_and, ih, List.all_cons]
def words1 : List Jvm.Cond := Jvm.Cond.code x code maxLocals ret :: tables_1
/-- a 'code' word, met by the world's own term for the bytes: nothing is compared byte by byte -/
theorem code_word {y : MethodName} {bytes : ByteArray} {mx : Nat} {rt : Option FieldType} {a : Array Value} {s : State} {m : MethodId} {meth : Method} {c : Code} (h1 : s.methodNamed? y = some m) (h2 : s.vm.method? m = some meth) (h3 : meth.code = some c) (h4 : c.code = bytes)
    (h5 : (c.maxLocals == mx && c.exceptionTable.isEmpty && decide (c.maxStack ≤ mostOperands) && decide (meth.sig.returnType = rt) && !meth.locks && decide (parseMethodDescriptor y.desc = some meth.sig)) = true) : (Jvm.Cond.code y bytes mx rt).before a s = true := by
  simp only [Bool.and_eq_true, beq_iff_eq, Bool.not_eq_true', decide_eq_true_eq] at h5
  obtain ⟨⟨⟨⟨⟨g1, g2⟩, g3⟩, g4⟩, g5⟩, g6⟩ := h5
  simp [Cond.before, Cond.holds, Cond.value, h1, h2, h3, h4, g1, g2, g3, g4, g5, g6]
def isCode : Jvm.Cond → Bool
  | .code _ _ _ _ => true
  | _ => false
theorem all_split {L : List Jvm.Cond} {P : Jvm.Cond → Bool} (h1 : L.all (fun c => isCode c || P c) = true) (h2 : ∀ c ∈ L.filter isCode, P c = true) : L.all P = true := by
  refine List.all_eq_true.mpr fun c hc => ?_
  have h := List.all_eq_true.mp h1 c hc
  rcases Bool.eq_false_or_eq_true (isCode c) with hi | hi
  · exact h2 c (List.mem_filter.mpr ⟨hc, hi⟩)
  · simpa [hi] using h
set_option maxRecDepth 65536 in
theorem w_c0 : (Jvm.Cond.code x code maxLocals ret).before args0 about1 = true := code_word (m := ⟨1, 1⟩) (meth := k1m1) (c := k1c1) (by decide +kernel) rfl rfl rfl (by decide +kernel)
set_option maxRecDepth 65536 in
theorem w_c1 : (Jvm.Cond.code ({ cls := "com/example/nishati/nishati/io/LineReaderAsciiLineEndPinLaw", name := "draw", desc := "(I)B" } : Jvm.MethodName) method_3_code (2 : Nat) (Option.some Jvm.ClassFile.FieldType.byte)).before args0 about1 = true := code_word (m := ⟨1, 2⟩) (meth := k1m2) (c := k1c2) (by decide +kernel) rfl rfl rfl (by decide +kernel)
set_option maxRecDepth 65536 in
theorem w_c2 : (Jvm.Cond.code ({ cls := "com/example/nishati/nishati/io/LineReader", name := "asciiLineEnd", desc := "([BII)I" } : Jvm.MethodName) prog_81_method_14_code (7 : Nat) (Option.some Jvm.ClassFile.FieldType.int)).before args0 about1 = true := code_word (m := ⟨4, 0⟩) (meth := k4m0) (c := k4c0) (by decide +kernel) rfl rfl rfl (by decide +kernel)
set_option maxRecDepth 65536 in
theorem w_c3 : (Jvm.Cond.code ({ cls := "com/example/nishati/nishati/io/LineReaderAsciiLineEndPinLaw", name := "good", desc := "([BIII)Z" } : Jvm.MethodName) method_6_code (4 : Nat) (Option.some Jvm.ClassFile.FieldType.boolean)).before args0 about1 = true := code_word (m := ⟨1, 5⟩) (meth := k1m5) (c := k1c5) (by decide +kernel) rfl rfl rfl (by decide +kernel)
set_option maxRecDepth 65536 in
theorem w_c4 : (Jvm.Cond.code ({ cls := "com/example/nishati/nishati/io/LineReaderAsciiLineEndPinLaw", name := "isEnd", desc := "([BII)Z" } : Jvm.MethodName) method_4_code (3 : Nat) (Option.some Jvm.ClassFile.FieldType.boolean)).before args0 about1 = true := code_word (m := ⟨1, 3⟩) (meth := k1m3) (c := k1c3) (by decide +kernel) rfl rfl rfl (by decide +kernel)
set_option maxRecDepth 65536 in
theorem w_c5 : (Jvm.Cond.code ({ cls := "com/example/nishati/nishati/io/LineReaderAsciiLineEndPinLaw", name := "plainAt", desc := "([BIII)Z" } : Jvm.MethodName) method_5_code (4 : Nat) (Option.some Jvm.ClassFile.FieldType.boolean)).before args0 about1 = true := code_word (m := ⟨1, 4⟩) (meth := k1m4) (c := k1c4) (by decide +kernel) rfl rfl rfl (by decide +kernel)
def codes1 : List Jvm.Cond := [Jvm.Cond.code x code maxLocals ret, Jvm.Cond.code ({ cls := "com/example/nishati/nishati/io/LineReaderAsciiLineEndPinLaw", name := "draw", desc := "(I)B" } : Jvm.MethodName) method_3_code (2 : Nat) (Option.some Jvm.ClassFile.FieldType.byte), Jvm.Cond.code ({ cls := "com/example/nishati/nishati/io/LineReader", name := "asciiLineEnd", desc := "([BII)I" } : Jvm.MethodName) prog_81_method_14_code (7 : Nat) (Option.some Jvm.ClassFile.FieldType.int), Jvm.Cond.code ({ cls := "com/example/nishati/nishati/io/LineReaderAsciiLineEndPinLaw", name := "good", desc := "([BIII)Z" } : Jvm.MethodName) method_6_code (4 : Nat) (Option.some Jvm.ClassFile.FieldType.boolean), Jvm.Cond.code ({ cls := "com/example/nishati/nishati/io/LineReaderAsciiLineEndPinLaw", name := "isEnd", desc := "([BII)Z" } : Jvm.MethodName) method_4_code (3 : Nat) (Option.some Jvm.ClassFile.FieldType.boolean), Jvm.Cond.code ({ cls := "com/example/nishati/nishati/io/LineReaderAsciiLineEndPinLaw", name := "plainAt", desc := "([BIII)Z" } : Jvm.MethodName) method_5_code (4 : Nat) (Option.some Jvm.ClassFile.FieldType.boolean)]
set_option maxRecDepth 65536 in
theorem codes_eq : words1.filter isCode = codes1 := rfl
theorem w_codes : ∀ c ∈ words1.filter isCode, c.before args0 about1 = true := by
  rw [codes_eq]
  intro c hc
  simp only [codes1, List.mem_cons, List.not_mem_nil, or_false] at hc
  rcases hc with rfl | rfl | rfl | rfl | rfl | rfl
  · exact w_c0
  · exact w_c1
  · exact w_c2
  · exact w_c3
  · exact w_c4
  · exact w_c5
set_option maxRecDepth 65536 in
theorem w_t1 : words1.all (fun c => isCode c || c.before args0 about1) = true := by decide +kernel
theorem w_tables : (allAtoms (Jvm.Cond.code x code maxLocals ret :: tables_1)).before args0 about1 = true := by
  rw [allAtoms_all]
  show words1.all (fun c => c.before args0 about1) = true
  refine all_split ?_ w_codes
  rw [w_t1]
set_option maxRecDepth 65536 in
theorem w_case : (Jvm.Cond.and given_1 narrow_1).before args0 about1 = true := by decide +kernel
theorem w_applies : (headSpec (Jvm.Cond.code x code maxLocals ret :: tables_1) room_1).applies x e0.platform about1 = true :=
  (Spec.applies_iff w_frames).mpr ⟨w_running, w_runnable, w_alone, w_named, w_hears, w_ripe, w_room, w_tables⟩
theorem atStart : AtStart classFile x code maxLocals ret World_1 tables_1 room_1 Calls_1 rest_1 Pre_1 launch0 p0 e0 about1 theMethod args0 below0 :=
  ⟨lists_1, trivial, launch0.admits_env _ _ _, launch0.least_env, fairChoices_fair.cas, fairChoices_fair.clock, w_frames, w_args, w_heap, w_applies, trivial, trivial, w_case⟩
end start1
theorem witness_1 : WitnessClaimed_1 := ⟨start1.p0, start1.e0, start1.about1, start1.theMethod, start1.args0, start1.below0, start1.atStart⟩
end Jvm.Pilot.@@N@@
