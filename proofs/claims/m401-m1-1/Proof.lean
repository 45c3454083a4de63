import JvmDerived
import JvmDerived.Pilot.@@N@@Statement
import JvmDerived.Pilot.@@N@@Code
set_option linter.unusedVariables false
set_option linter.unusedSimpArgs false
@@BLOCK:NumsL.lean.txt@@
namespace Jvm.Pilot.@@N@@
open Jvm Jvm.ClassFile Sem Op Lib Jvm.Free Jvm.Stand Jvm.LawKit Jvm.RoadKit Bundle Jvm.Pilot.@@N@@.Jvm.D
/-! ## A. The run goes on: a walk in steps, its end left open -/
section Base
variable {p : Program} {l : Launch} {e : Env} {R : Room} {s : State} {m : MethodId} {args : Array Value} {below : List Frame} {meth : Method} {c : Code} {T T' : State} {locs : List Loc} {cells slots : Nat} {Z : State} {a0 : Array Value} {F : State → Prop} {g g' : JFrame} {n0 : Nat} {h h' : Heap} {a b : Addr} {C n d : String} {v w : Value} {sl : Nat}
/-- the run from T with the frame g on top comes to a state of which F holds -/
def Rn (p : Program) (e : Env) (below : List Frame) (F : State → Prop) (T : State) (g : JFrame) : Prop := ∃ U, Steps p.tables e below (T.setTop g) U ∧ F U
theorem Rn.go (st : ∀ t, Steps p.tables e below (T'.setTop g') t → Steps p.tables e below (T.setTop g) t) (k : Rn p e below F T' g') : Rn p e below F T g := by
  obtain ⟨U, h1, h2⟩ := k; exact ⟨U, st _ h1, h2⟩
theorem Rn.to (st : Steps p.tables e below (T.setTop g) (T'.setTop g')) (k : Rn p e below F T' g') : Rn p e below F T g := by
  obtain ⟨U, h1, h2⟩ := k; exact ⟨U, st.trans h1, h2⟩
theorem own_lcW (x y : Int64) : lcmpW x y = if x > y then 1 else if x = y then 0 else -1 := rfl
theorem own_nat (x : Int32) : x.toNatClampNeg = x.toInt.toNat := rfl
theorem own_remI {x y : Int32} {k : Int} (hy : y.toInt = k) (hx : 0 ≤ x.toInt) : (x % y).toInt = x.toInt % k := by rw [Jvm.Kit.i32_rem_nonneg hx, hy]
theorem own_irem {g : JFrame} {target : State} (h : At T m c below) (hx : p.tables.exec = Jvm.exec) (hg : g.method = m) {x y : Int32} {rest : List Value} (hd : decode c.code g.pc = .ok (.irem, 1)) (hs : g.stack = .int y :: .int x :: rest) (hy : y ≠ 0)
    (hr : Steps p.tables e below (T.setTop { g with pc := g.pc + 1, stack := .int (x % y) :: rest }) target) : Steps p.tables e below (T.setTop g) target := by
  have q : x - x / y * y = x % y := irem_eq_mod x y
  exact XS.irem h hx hg hd hs hy (by rw [q]; exact hr)
/-! ## B. What the heap holds: a list of the objects and arrays that the law has made -/
abbrev Itm : Type := (String × List (String × String × Value)) ⊕ (FieldType × Int32 × List Value)
abbrev ob (a : Addr) (C : String) (fs : List (String × String × Value)) : Addr × Itm := (a, .inl (C, fs))
abbrev ar (a : Addr) (ty : FieldType) (n : Int32) (vs : List Value) : Addr × Itm := (a, .inr (ty, n, vs))
abbrev ari (a : Addr) (ty : FieldType) (n : Int32) (xs : List Int32) : Addr × Itm := ar a ty n (xs.map Value.int)
abbrev arj (a : Addr) (n : Int32) (xs : List Int64) : Addr × Itm := ar a .long n (xs.map Value.long)
def Obj (Z : State) (h : Heap) (a : Addr) (C : String) (fs : List (String × String × Value)) : Prop := Exa Z h a C ∧ (∀ f ∈ fs, Fld Z h a C f.1 f.2.1 f.2.2) ∧ (fs.map fun f => Jvm.RoadKit.slotOf Z C f.1 f.2.1).Nodup
def Ary (Z : State) (h : Heap) (a : Addr) (ty : FieldType) (n : Int32) (vs : List Value) : Prop := (∃ k, Arv Z h a k ty n vs (defaultValue ty) ∧ ∀ C, ty = .object C → Ovr Z k C) ∧ vs.length = n.toNatClampNeg
def itm (Z : State) (h : Heap) (x : Addr × Itm) : Prop := match x.2 with
  | .inl o => Obj Z h x.1 o.1 o.2
  | .inr o => Ary Z h x.1 o.1 o.2.1 o.2.2
/-- made by the law, or an array of no places (which nobody can write) -/
def Frs (n0 : Nat) (x : Addr × Itm) : Prop := n0 ≤ x.1 ∨ ∃ ty n, x.2 = .inr (ty, n, [])
def Hp (Z : State) (n0 : Nat) (h : Heap) (D : List (Addr × Itm)) : Prop := Old Z n0 h ∧ (∀ x ∈ D, Frs n0 x ∧ itm Z h x) ∧ (D.map (·.1)).Nodup
variable {fs : List (String × String × Value)} {vs : List Value} {ty : FieldType} {z : Int32} {x : Addr × Itm} {D : List (Addr × Itm)} {I J : Itm} {i j : Nat}
theorem map_same {α β : Type} (f : α → β) (L : List α) (i : Nat) (x y : α) (h : L[i]? = some x) (q : f y = f x) : (L.set i y).map f = L.map f := by
  apply List.ext_getElem?
  intro k
  rw [List.getElem?_map, List.getElem?_map, List.getElem?_set]
  by_cases e : i = k
  · subst e
    rw [if_pos rfl, if_pos (List.getElem?_eq_some_iff.mp h).1, h]; simp [q]
  · rw [if_neg e]
theorem Obj.lt (O : Obj Z h a C fs) : a < h.size := O.1.lt
theorem Ary.lt (O : Ary Z h a ty z vs) : a < h.size := by obtain ⟨⟨k, V, -⟩, -⟩ := O; exact V.lt
theorem itm.lt (O : itm Z h x) : x.1 < h.size := by
  obtain ⟨a, I⟩ := x
  cases I with
  | inl o => exact Obj.lt (show Obj Z h a o.1 o.2 from O)
  | inr o => exact Ary.lt (show Ary Z h a o.1 o.2.1 o.2.2 from O)
theorem itm.ext (E : Ext h h') (O : itm Z h x) : itm Z h' x := by
  obtain ⟨a, I⟩ := x
  cases I with
  | inl o =>
    have O' : Obj Z h a o.1 o.2 := O
    exact (show Obj Z h' a o.1 o.2 from ⟨O'.1.ext E, fun f hf => (O'.2.1 f hf).ext E, O'.2.2⟩)
  | inr o =>
    have O' : Ary Z h a o.1 o.2.1 o.2.2 := O
    obtain ⟨⟨k, V, u⟩, q⟩ := O'
    exact (show Ary Z h' a o.1 o.2.1 o.2.2 from ⟨⟨k, V.ext E, u⟩, q⟩)
theorem itm.other (W : Wr h h' b sl v) (q : x.1 ≠ b) (O : itm Z h x) : itm Z h' x := by
  obtain ⟨a, I⟩ := x
  cases I with
  | inl o =>
    have O' : Obj Z h a o.1 o.2 := O
    exact (show Obj Z h' a o.1 o.2 from ⟨O'.1.wr W, fun f hf => (O'.2.1 f hf).other W (Or.inl q), O'.2.2⟩)
  | inr o =>
    have O' : Ary Z h a o.1 o.2.1 o.2.2 := O
    obtain ⟨⟨k, V, u⟩, r⟩ := O'
    exact (show Ary Z h' a o.1 o.2.1 o.2.2 from ⟨⟨k, V.other W q, u⟩, r⟩)
theorem Obj.put (hj : fs[j]? = some (n, d, w)) (W : Wr h h' a (Jvm.RoadKit.slotOf Z C n d) v) (O : Obj Z h a C fs) : Obj Z h' a C (fs.set j (n, d, v)) := by
  have hjl : j < fs.length := (List.getElem?_eq_some_iff.mp hj).1
  refine ⟨O.1.wr W, fun f hf => ?_, ?_⟩
  · obtain ⟨i, hi⟩ := List.mem_iff_getElem?.mp hf
    by_cases e : j = i
    · subst e
      rw [List.getElem?_set_self hjl] at hi
      cases hi
      exact (O.2.1 _ (List.mem_of_getElem? hj)).same W
    · rw [List.getElem?_set_ne e] at hi
      refine (O.2.1 f (List.mem_of_getElem? hi)).other W (Or.inr fun q => e ?_)
      have hil : i < fs.length := (List.getElem?_eq_some_iff.mp hi).1
      refine ((List.getElem?_inj (i := i) (j := j) (by simpa using hil) O.2.2).mp ?_).symm
      rw [List.getElem?_map, List.getElem?_map, hi, hj]
      simp [q]
  · rw [map_same _ fs j (n, d, w) (n, d, v) hj rfl]; exact O.2.2
theorem Ary.put {k : Int32} (hk : ¬ k < 0) (hl : k.toNatClampNeg < vs.length) (hv : fits ty v = true) (W : Wr h h' a k.toNatClampNeg v) (O : Ary Z h a ty z vs) : Ary Z h' a ty z (vs.set k.toNatClampNeg v) := by
  obtain ⟨⟨kc, ⟨cl, A, q1, S, q3, H, G⟩, u⟩, q⟩ := O
  exact ⟨⟨kc, Arv.set A q1 S q3 H G hv W _ rfl hl, u⟩, by rw [List.length_set]; exact q⟩
theorem Frs.obj (q : Frs n0 (ob a C fs)) : n0 ≤ a := q.elim id fun ⟨_, _, r⟩ => by cases r
theorem Frs.arr {k : Nat} (q : Frs n0 (ar a ty z vs)) (hl : k < vs.length) : n0 ≤ a := q.elim id fun ⟨_, _, r⟩ => by cases r; cases hl
theorem Hp.get (H : Hp Z n0 h D) (hi : D[i]? = some x) : Frs n0 x ∧ itm Z h x := H.2.1 _ (List.mem_of_getElem? hi)
theorem Hp.obj (H : Hp Z n0 h D) (hi : D[i]? = some (ob a C fs)) : Obj Z h a C fs := (H.get hi).2
theorem Hp.ary (H : Hp Z n0 h D) (hi : D[i]? = some (ar a ty z vs)) : Ary Z h a ty z vs := (H.get hi).2
theorem Hp.fld (H : Hp Z n0 h D) (hi : D[i]? = some (ob a C fs)) (hj : fs[j]? = some (n, d, v)) : Fld Z h a C n d v := (H.obj hi).2.1 _ (List.mem_of_getElem? hj)
theorem Hp.exa (H : Hp Z n0 h D) (hi : D[i]? = some (ob a C fs)) : Exa Z h a C := (H.obj hi).1
theorem Hp.upd (H : Hp Z n0 h D) (hi : D[i]? = some (a, I)) (hfr : n0 ≤ a) (W : Wr h h' a sl v) (q : itm Z h (a, I) → itm Z h' (a, J)) : Hp Z n0 h' (D.set i (a, J)) := by
  have hil : i < D.length := (List.getElem?_eq_some_iff.mp hi).1
  refine ⟨H.1.wr W hfr, fun x hx => ?_, ?_⟩
  · obtain ⟨k, hk⟩ := List.mem_iff_getElem?.mp hx
    by_cases e : i = k
    · subst e
      rw [List.getElem?_set_self hil] at hk
      cases hk
      exact ⟨Or.inl hfr, q (H.get hi).2⟩
    · rw [List.getElem?_set_ne e] at hk
      refine ⟨(H.get hk).1, (H.get hk).2.other W fun r => e ?_⟩
      refine (List.getElem?_inj (i := i) (j := k) (by simpa using hil) H.2.2).mp ?_
      rw [List.getElem?_map, List.getElem?_map, hi, hk]
      simp [r]
  · rw [map_same _ D i (a, I) (a, J) hi rfl]; exact H.2.2
theorem Hp.new (H : Hp Z n0 h D) (E : Ext h h') (q : itm Z h' (h.size, I)) : Hp Z n0 h' (D ++ [(h.size, I)]) := by
  have hsz : n0 ≤ h.size := by rw [← H.1.1]; exact H.1.2.1
  refine ⟨H.1.ext E, fun x hx => ?_, ?_⟩
  · rcases List.mem_append.mp hx with r | r
    · exact ⟨(H.2.1 x r).1, (H.2.1 x r).2.ext E⟩
    · cases List.mem_singleton.mp r; exact ⟨Or.inl hsz, q⟩
  · rw [List.map_append, List.nodup_append]
    refine ⟨H.2.2, by simp, fun y hy z hz => ?_⟩
    obtain ⟨x, hx, rfl⟩ := List.mem_map.mp hy
    have : z = h.size := by simpa using hz
    rw [this]
    exact Nat.ne_of_lt (H.2.1 x hx).2.lt
theorem Hp.nil (Z : State) : Hp Z Z.heap.size Z.heap [] := ⟨Old.start Z, (fun _ q => by cases q), List.nodup_nil⟩
theorem Hp.ext (H : Hp Z n0 h D) (E : Ext h h') : Hp Z n0 h' D := ⟨H.1.ext E, fun x hx => ⟨(H.2.1 x hx).1, (H.2.1 x hx).2.ext E⟩, H.2.2⟩
/-- a walk stands at T, has made so many cells and slots, has written nothing old, and its heap holds D -/
def On (p : Program) (l : Launch) (e : Env) (R : Room) (s : State) (m : MethodId) (args : Array Value) (below : List Frame) (meth : Method) (c : Code) (Z : State) (n0 : Nat) (T : State) (cells slots : Nat) (D : List (Addr × Itm)) : Prop := ∃ locs, Stand p l e R s m args below meth c T locs cells slots ∧ Fr n0 locs ∧ Hp Z n0 T.heap D
theorem On.here (Y : On p l e R s m args below meth c Z n0 T cells slots D) : At T m c below := by obtain ⟨_, X, -⟩ := Y; exact X.here
/-- what is known of the heap may be forgotten -/
theorem On.weak {D D' : List (Addr × Itm)} (Y : On p l e R s m args below meth c Z n0 T cells slots D) (q : D'.Sublist D) : On p l e R s m args below meth c Z n0 T cells slots D' := by
  obtain ⟨locs, X, N, H⟩ := Y
  exact ⟨locs, X, N, H.1, fun x hx => H.2.1 x (q.subset hx), H.2.2.sublist (q.map _)⟩
/-! ## C. One law a step -/
theorem On.getf (Y : On p l e R s m args below meth c Z n0 T cells slots D) (hx : p.tables.exec = Jvm.exec) (hZ : Z.Warmed39 s.vm) {own : String} {index : Nat} (hown : s.vm.findClass own = some m.cls) (w : (Cond.fieldLink own index C n d).before a0 Z = true) (hi : D[i]? = some (ob a C fs)) (hj : fs[j]? = some (n, d, v))
    {g : JFrame} (hg : g.method = m) {rest : List Value} (hs : g.stack = .ref a :: rest) (hd : decode c.code g.pc = .ok (.getfield index, 3)) (k : ∀ T', On p l e R s m args below meth c Z n0 T' cells slots D → Rn p e below F T' { g with pc := g.pc + 3, stack := v :: rest }) : Rn p e below F T g := by
  obtain ⟨locs, X, N, H⟩ := Y
  obtain ⟨T', X', e', st⟩ := getF X hx hZ hown (host := "") (Or.inl w) Via.refl rfl (H.fld hi hj) hg hs hd
  exact Rn.go st (k T' ⟨locs, X', N, by rw [e']; exact H⟩)
theorem On.putf (Y : On p l e R s m args below meth c Z n0 T cells slots D) (hx : p.tables.exec = Jvm.exec) (hZ : Z.Warmed39 s.vm) {own : String} {index kk : Nat} (hown : s.vm.findClass own = some m.cls) (wl : (Cond.fieldLink own index C n d).before a0 Z = true) (hi : D[i]? = some (ob a C fs)) (hj : fs[j]? = some (n, d, w))
    (L : (Cond.lays C C n d).before a0 Z = true ∨ ((Cond.laysFinal C C n d).before a0 Z = true ∧ own = C ∧ meth.name = "<init>")) (wi : (Cond.instantiable C kk).before a0 Z = true) (hty : parseFieldDescriptor d = some ty) {v v' : Value} (hn : narrow ty v = v') (hf : fits ty v' = true)
    {g : JFrame} (hg : g.method = m) {rest : List Value} (hs : g.stack = v :: .ref a :: rest) (hd : decode c.code g.pc = .ok (.putfield index, 3)) (k : ∀ T', On p l e R s m args below meth c Z n0 T' cells slots (D.set i (ob a C (fs.set j (n, d, v')))) → Rn p e below F T' { g with pc := g.pc + 3, stack := rest }) : Rn p e below F T g := by
  obtain ⟨locs, X, N, H⟩ := Y
  obtain ⟨T', h', X', e', W, st⟩ := putFN X hx hZ hown wl Via.refl rfl (H.fld hi hj) (H.exa hi) L wi hty hn hf hg hs hd
  have hfr := (H.get hi).1.obj
  refine Rn.go st (k T' ⟨_, X', Fr.snoc X' N hfr, ?_⟩)
  rw [e']
  exact H.upd hi hfr W fun O => Obj.put hj W O
theorem On.newo (Y : On p l e R s m args below meth c Z n0 T cells slots D) (hx : p.tables.exec = Jvm.exec) (hZ : Z.Warmed39 s.vm) {own : String} {index k : Nat} (hown : s.vm.findClass own = some m.cls) (w : (Cond.classLink own index C).before a0 Z = true) (wi : (Cond.instantiable C k).before a0 Z = true) (wz : (Cond.initialized C).before a0 Z = true)
    (fs : List (String × String × Value)) (hl : ∀ f ∈ fs, Laid Z a0 C C f.1 f.2.1 ∧ ∃ ty, parseFieldDescriptor f.2.1 = some ty ∧ f.2.2 = defaultValue ty) (hn : (fs.map (·.1)).Nodup)
    {g : JFrame} (hg : g.method = m) (hd : decode c.code g.pc = .ok (.new index, 3)) (hc : cells + 1 ≤ R.cells) (hs : slots + k ≤ R.slots)
    (kk : ∀ T' a, On p l e R s m args below meth c Z n0 T' (cells + 1) (slots + k) (D ++ [ob a C fs]) → Rn p e below F T' { g with pc := g.pc + 3, stack := .ref a :: g.stack }) : Rn p e below F T g := by
  obtain ⟨locs, X, N, H⟩ := Y
  obtain ⟨T', h', X', e', E, A, Df, -, st⟩ := newO X hx hZ hown w wi wz rfl hg hd hc hs
  refine Rn.go st (kk T' _ ⟨_, X', N, ?_⟩)
  rw [e']
  refine H.new E (show Obj Z h' _ C fs from ⟨A, fun f hf => ?_, ?_⟩)
  · obtain ⟨L, ty, h1, h2⟩ := hl f hf
    rw [h2]; exact Df L h1
  · rw [List.nodup_iff_pairwise_ne, List.pairwise_map] at hn ⊢
    refine List.Pairwise.imp_of_mem (fun {x y} hx hy q => ?_) hn
    obtain ⟨L, ty, h1, -⟩ := hl x hx
    obtain ⟨L', ty', h1', -⟩ := hl y hy
    exact slot_ne L L' q h1 h1'
theorem On.newp (Y : On p l e R s m args below meth c Z n0 T cells slots D) (hx : p.tables.exec = Jvm.exec) (hZ : Z.Warmed39 s.vm) {aty : ArrayType} (w : (Cond.arrayClass (newarray.typeOf aty)).before a0 Z = true) {g : JFrame} (hg : g.method = m) (hd : decode c.code g.pc = .ok (.newarray aty, 2)) {z : Int32} {rest : List Value} (hs : g.stack = .int z :: rest)
    (hn : ¬ z < 0) {cap N : Nat} (hN : z.toNatClampNeg = N) (hcap : N ≤ cap) (hb : cap * 8 ≤ 536870912) (hc : cells + 1 ≤ R.cells) (hl : slots + cap ≤ R.slots) {dv : Value} (hdv : defaultValue (newarray.typeOf aty) = dv)
    (k : ∀ T' a, On p l e R s m args below meth c Z n0 T' (cells + 1) (slots + cap) (D ++ [ar a (newarray.typeOf aty) z (List.replicate N dv)]) → Rn p e below F T' { g with pc := g.pc + 2, stack := .ref a :: rest }) : Rn p e below F T g := by
  obtain ⟨locs, X, Nl, H⟩ := Y
  subst hN hdv
  obtain ⟨T', h', cA, X', e', E, A, st⟩ := newP X hx hZ w rfl hg hd hs hn hcap hb hc hl
  refine Rn.go st (k T' _ ⟨_, X', Nl, ?_⟩)
  rw [e']
  exact H.new E (show Ary Z h' _ _ z _ from ⟨⟨_, (Arv.new A hn).pad (pad_rep [] _ _), fun C hC => by cases aty <;> cases hC⟩, by simp⟩)
theorem On.newr (Y : On p l e R s m args below meth c Z n0 T cells slots D) (hx : p.tables.exec = Jvm.exec) (hZ : Z.Warmed39 s.vm) {own : String} {index : Nat} (hown : s.vm.findClass own = some m.cls) (w1 : (Cond.classLink own index C).before a0 Z = true) (w2 : (Cond.arrayOver (.object C)).before a0 Z = true) {g : JFrame} (hg : g.method = m) (hd : decode c.code g.pc = .ok (.anewarray index, 3)) {z : Int32} {rest : List Value} (hs : g.stack = .int z :: rest)
    (hn : ¬ z < 0) {cap N : Nat} (hN : z.toNatClampNeg = N) (hcap : N ≤ cap) (hb : cap * 8 ≤ 536870912) (hc : cells + 1 ≤ R.cells) (hl : slots + cap ≤ R.slots)
    (k : ∀ T' a, On p l e R s m args below meth c Z n0 T' (cells + 1) (slots + cap) (D ++ [ar a (.object C) z (List.replicate N .null)]) → Rn p e below F T' { g with pc := g.pc + 3, stack := .ref a :: rest }) : Rn p e below F T g := by
  obtain ⟨locs, X, Nl, H⟩ := Y
  subst hN
  obtain ⟨T', h', cA, X', e', E, A, O, st⟩ := newR X hx hZ hown w1 w2 rfl hg hd hs hn hcap hb hc hl
  refine Rn.go st (k T' _ ⟨_, X', Nl, ?_⟩)
  rw [e']
  exact H.new E (show Ary Z h' _ _ z _ from ⟨⟨_, (Arv.new A hn).pad (pad_rep [] _ _), fun C' hC => by cases hC; exact O⟩, by simp⟩)
theorem On.isto (Y : On p l e R s m args below meth c Z n0 T cells slots D) (hx : p.tables.exec = Jvm.exec) (hZ : Z.Warmed39 s.vm) {xs : List Int32} (hi : D[i]? = some (ari a .int z xs)) {k x : Int32} (hk : ¬ k < 0) (hl : k.toNatClampNeg < xs.length)
    {g : JFrame} (hg : g.method = m) {rest : List Value} (hs : g.stack = .int x :: .int k :: .ref a :: rest) (hd : decode c.code g.pc = .ok (.iastore, 1))
    (kk : ∀ T', On p l e R s m args below meth c Z n0 T' cells slots (D.set i (ari a .int z (xs.set k.toNatClampNeg x))) → Rn p e below F T' { g with pc := g.pc + 1, stack := rest }) : Rn p e below F T g := by
  obtain ⟨locs, X, N, H⟩ := Y
  obtain ⟨⟨kc, ⟨cl, A, q1, S, q3, Hh, G⟩, -⟩, q⟩ := H.ary hi
  have hl' : k.toNatClampNeg < (xs.map Value.int).length := by simpa using hl
  obtain ⟨T', h', X', e', W, st⟩ := stI X hx hZ rfl A (fun r => r.elim hk fun r => absurd hl' (by rw [q, ← S]; exact Nat.not_lt.mpr r)) hg hs hd
  have hfr := (H.get hi).1.arr hl'
  refine Rn.go st (kk T' ⟨_, X', Fr.snoc X' N hfr, ?_⟩)
  rw [e']
  refine H.upd hi hfr W fun O => ?_
  have := Ary.put hk hl' rfl W O
  rw [← List.map_set] at this
  exact this
theorem On.bsto (Y : On p l e R s m args below meth c Z n0 T cells slots D) (hx : p.tables.exec = Jvm.exec) (hZ : Z.Warmed39 s.vm) {xs : List Int32} (hi : D[i]? = some (ari a .byte z xs)) {k x : Int32} (hk : ¬ k < 0) (hl : k.toNatClampNeg < xs.length)
    {g : JFrame} (hg : g.method = m) {rest : List Value} (hs : g.stack = .int x :: .int k :: .ref a :: rest) (hd : decode c.code g.pc = .ok (.bastore, 1))
    (kk : ∀ T', On p l e R s m args below meth c Z n0 T' cells slots (D.set i (ari a .byte z (xs.set k.toNatClampNeg x.toInt8.toInt32))) → Rn p e below F T' { g with pc := g.pc + 1, stack := rest }) : Rn p e below F T g := by
  obtain ⟨locs, X, N, H⟩ := Y
  obtain ⟨⟨kc, ⟨cl, A, q1, S, q3, Hh, G⟩, -⟩, q⟩ := H.ary hi
  have hl' : k.toNatClampNeg < (xs.map Value.int).length := by simpa using hl
  obtain ⟨T', h', X', e', W, st⟩ := stB X hx hZ rfl A (fun r => r.elim hk fun r => absurd hl' (by rw [q, ← S]; exact Nat.not_lt.mpr r)) hg hs hd
  have hfr := (H.get hi).1.arr hl'
  refine Rn.go st (kk T' ⟨_, X', Fr.snoc X' N hfr, ?_⟩)
  rw [e']
  refine H.upd hi hfr W fun O => ?_
  have := Ary.put hk hl' (fits_nar_byte _) W O
  rw [← List.map_set] at this
  exact this
theorem On.zsto (Y : On p l e R s m args below meth c Z n0 T cells slots D) (hx : p.tables.exec = Jvm.exec) (hZ : Z.Warmed39 s.vm) {xs : List Int32} (hi : D[i]? = some (ari a .boolean z xs)) {k x : Int32} (hk : ¬ k < 0) (hl : k.toNatClampNeg < xs.length)
    {g : JFrame} (hg : g.method = m) {rest : List Value} (hs : g.stack = .int x :: .int k :: .ref a :: rest) (hd : decode c.code g.pc = .ok (.bastore, 1))
    (kk : ∀ T', On p l e R s m args below meth c Z n0 T' cells slots (D.set i (ari a .boolean z (xs.set k.toNatClampNeg (x &&& 1)))) → Rn p e below F T' { g with pc := g.pc + 1, stack := rest }) : Rn p e below F T g := by
  obtain ⟨locs, X, N, H⟩ := Y
  obtain ⟨⟨kc, ⟨cl, A, q1, S, q3, Hh, G⟩, -⟩, q⟩ := H.ary hi
  have hl' : k.toNatClampNeg < (xs.map Value.int).length := by simpa using hl
  obtain ⟨T', h', X', e', W, st⟩ := stZ X hx hZ rfl A (fun r => r.elim hk fun r => absurd hl' (by rw [q, ← S]; exact Nat.not_lt.mpr r)) hg hs hd
  have hfr := (H.get hi).1.arr hl'
  refine Rn.go st (kk T' ⟨_, X', Fr.snoc X' N hfr, ?_⟩)
  rw [e']
  refine H.upd hi hfr W fun O => ?_
  have := Ary.put hk hl' (fits_nar_bool _) W O
  rw [← List.map_set] at this
  exact this
theorem On.jsto (Y : On p l e R s m args below meth c Z n0 T cells slots D) (hx : p.tables.exec = Jvm.exec) (hZ : Z.Warmed39 s.vm) {xs : List Int64} (hi : D[i]? = some (arj a z xs)) {k : Int32} {x : Int64} (hk : ¬ k < 0) (hl : k.toNatClampNeg < xs.length)
    {g : JFrame} (hg : g.method = m) {rest : List Value} (hs : g.stack = .long x :: .int k :: .ref a :: rest) (hd : decode c.code g.pc = .ok (.lastore, 1))
    (kk : ∀ T', On p l e R s m args below meth c Z n0 T' cells slots (D.set i (arj a z (xs.set k.toNatClampNeg x))) → Rn p e below F T' { g with pc := g.pc + 1, stack := rest }) : Rn p e below F T g := by
  obtain ⟨locs, X, N, H⟩ := Y
  obtain ⟨⟨kc, ⟨cl, A, q1, S, q3, Hh, G⟩, -⟩, q⟩ := H.ary hi
  have hl' : k.toNatClampNeg < (xs.map Value.long).length := by simpa using hl
  obtain ⟨T', h', X', e', W, st⟩ := stJ X hx hZ rfl A (fun r => r.elim hk fun r => absurd hl' (by rw [q, ← S]; exact Nat.not_lt.mpr r)) hg hs hd
  have hfr := (H.get hi).1.arr hl'
  refine Rn.go st (kk T' ⟨_, X', Fr.snoc X' N hfr, ?_⟩)
  rw [e']
  refine H.upd hi hfr W fun O => ?_
  have := Ary.put hk hl' rfl W O
  rw [← List.map_set] at this
  exact this
/-- the cell of an array, opened for a load -/
theorem Ary.at (O : Ary Z h a ty z vs) {k : Int32} (hk : ¬ k < 0) (hv : vs[k.toNatClampNeg]? = some v) : ∃ cl, Arr Z h a cl ty ∧ ¬ (k < 0 ∨ cl.slots.size ≤ k.toNatClampNeg) ∧ cl.slots[k.toNatClampNeg]? = some v := by
  obtain ⟨⟨kc, ⟨cl, A, q1, S, q3, H, G⟩, -⟩, q⟩ := O
  have hl := (List.getElem?_eq_some_iff.mp hv).1
  have hl2 : k.toNatClampNeg < cl.slots.size := by rw [S, ← q]; exact hl
  exact ⟨cl, A, fun r => r.elim hk (Nat.not_le.mpr hl2), by rw [H _ hl2, List.getD_eq_getElem?_getD, hv]; rfl⟩
theorem On.ild (Y : On p l e R s m args below meth c Z n0 T cells slots D) (hx : p.tables.exec = Jvm.exec) (hZ : Z.Warmed39 s.vm) {xs : List Int32} (hi : D[i]? = some (ari a .int z xs)) {k x : Int32} (hk : ¬ k < 0) (hv : xs[k.toNatClampNeg]? = some x)
    {g : JFrame} (hg : g.method = m) {rest : List Value} (hs : g.stack = .int k :: .ref a :: rest) (hd : decode c.code g.pc = .ok (.iaload, 1))
    (kk : Rn p e below F T { g with pc := g.pc + 1, stack := .int x :: rest }) : Rn p e below F T g := by
  obtain ⟨locs, X, N, H⟩ := Y
  obtain ⟨cl, A, h1, h2⟩ := (H.ary hi).at (v := .int x) hk (by simp [List.getElem?_map, hv])
  exact Rn.go (fun t kt => X.iaload hx A.1 (State.isArrayOf_alike hZ.alike A.2.1) A.2.2 h1 h2 hg hs hd t kt) kk
theorem On.bld (Y : On p l e R s m args below meth c Z n0 T cells slots D) (hx : p.tables.exec = Jvm.exec) (hZ : Z.Warmed39 s.vm) {xs : List Int32} (hi : D[i]? = some (ari a .byte z xs)) {k x : Int32} (hk : ¬ k < 0) (hv : xs[k.toNatClampNeg]? = some x)
    {g : JFrame} (hg : g.method = m) {rest : List Value} (hs : g.stack = .int k :: .ref a :: rest) (hd : decode c.code g.pc = .ok (.baload, 1))
    (kk : Rn p e below F T { g with pc := g.pc + 1, stack := .int x :: rest }) : Rn p e below F T g := by
  obtain ⟨locs, X, N, H⟩ := Y
  obtain ⟨cl, A, h1, h2⟩ := (H.ary hi).at (v := .int x) hk (by simp [List.getElem?_map, hv])
  exact Rn.go (fun t kt => X.baloadBytes hx A.1 (State.isArrayOf_alike hZ.alike A.2.1) A.2.2 h1 h2 hg hs hd t kt) kk
theorem On.zld (Y : On p l e R s m args below meth c Z n0 T cells slots D) (hx : p.tables.exec = Jvm.exec) (hZ : Z.Warmed39 s.vm) {xs : List Int32} (hi : D[i]? = some (ari a .boolean z xs)) {k x : Int32} (hk : ¬ k < 0) (hv : xs[k.toNatClampNeg]? = some x)
    {g : JFrame} (hg : g.method = m) {rest : List Value} (hs : g.stack = .int k :: .ref a :: rest) (hd : decode c.code g.pc = .ok (.baload, 1))
    (kk : Rn p e below F T { g with pc := g.pc + 1, stack := .int x :: rest }) : Rn p e below F T g := by
  obtain ⟨locs, X, N, H⟩ := Y
  obtain ⟨cl, A, h1, h2⟩ := (H.ary hi).at (v := .int x) hk (by simp [List.getElem?_map, hv])
  exact Rn.go (fun t kt => X.baloadBooleans hx A.1 (State.isArrayOf_alike hZ.alike A.2.1) A.2.2 h1 h2 hg hs hd t kt) kk
theorem On.jld (Y : On p l e R s m args below meth c Z n0 T cells slots D) (hx : p.tables.exec = Jvm.exec) (hZ : Z.Warmed39 s.vm) {xs : List Int64} (hi : D[i]? = some (arj a z xs)) {k : Int32} {x : Int64} (hk : ¬ k < 0) (hv : xs[k.toNatClampNeg]? = some x)
    {g : JFrame} (hg : g.method = m) {rest : List Value} (hs : g.stack = .int k :: .ref a :: rest) (hd : decode c.code g.pc = .ok (.laload, 1))
    (kk : Rn p e below F T { g with pc := g.pc + 1, stack := .long x :: rest }) : Rn p e below F T g := by
  obtain ⟨locs, X, N, H⟩ := Y
  obtain ⟨cl, A, h1, h2⟩ := (H.ary hi).at (v := .long x) hk (by simp [List.getElem?_map, hv])
  exact Rn.go (fun t kt => X.laload hx A.1 (State.isArrayOf_alike hZ.alike A.2.1) A.2.2 h1 h2 hg hs hd t kt) kk
theorem On.alen (Y : On p l e R s m args below meth c Z n0 T cells slots D) (hx : p.tables.exec = Jvm.exec) (hZ : Z.Warmed39 s.vm) (hi : D[i]? = some (ar a ty z vs))
    {g : JFrame} (hg : g.method = m) {rest : List Value} (hs : g.stack = .ref a :: rest) (hd : decode c.code g.pc = .ok (.arraylength, 1))
    (kk : Rn p e below F T { g with pc := g.pc + 1, stack := .int z :: rest }) : Rn p e below F T g := by
  obtain ⟨locs, X, N, H⟩ := Y
  obtain ⟨⟨kc, ⟨cl, A, q1, S, q3, Hh, G⟩, -⟩, q⟩ := H.ary hi
  refine Rn.go (fun t kt => X.arraylength hx A.1 (State.isArrayOf_alike hZ.alike A.2.1) hg hs hd t kt) ?_
  rw [len_of S q3]; exact kk
theorem On.ldcI (Y : On p l e R s m args below meth c Z n0 T cells slots D) (hx : p.tables.exec = Jvm.exec) (hZ : Z.Warmed39 s.vm) {own : String} {index : Nat} {x : Int32} (hown : s.vm.findClass own = some m.cls) (w : (Cond.constant own index x).before a0 Z = true)
    {g : JFrame} (hg : g.method = m) (hd : decode c.code g.pc = .ok (.ldc index, 2)) (kk : Rn p e below F T { g with pc := g.pc + 2, stack := .int x :: g.stack }) : Rn p e below F T g := by
  obtain ⟨locs, X, N, H⟩ := Y
  exact Rn.go (X.ldcInt hx hown (mvT hZ w) hg hd) kk
theorem On.ldcJ (Y : On p l e R s m args below meth c Z n0 T cells slots D) (hx : p.tables.exec = Jvm.exec) (hZ : Z.Warmed39 s.vm) {own : String} {index : Nat} {x : Int64} (hown : s.vm.findClass own = some m.cls) (w : (Cond.constantLong own index x).before a0 Z = true)
    {g : JFrame} (hg : g.method = m) (hd : decode c.code g.pc = .ok (.ldc2_w index, 3)) (kk : Rn p e below F T { g with pc := g.pc + 3, stack := .long x :: g.stack }) : Rn p e below F T g := by
  obtain ⟨locs, X, N, H⟩ := Y
  exact Rn.go (X.ldc2Long hx hown (mvT hZ w) hg hd) kk
theorem On.sldcI (Y : On p l e R s m args below meth c Z n0 T cells slots D) (hx : p.tables.exec = Jvm.exec) (hZ : Z.Warmed39 s.vm) {own : String} {index : Nat} {x : Int32} (hown : s.vm.findClass own = some m.cls) (w : (Cond.constant own index x).before a0 Z = true)
    {g : JFrame} (hg : g.method = m) (hd : decode c.code g.pc = .ok (.ldc index, 2)) : ∀ t, Steps p.tables e below (T.setTop { g with pc := g.pc + 2, stack := .int x :: g.stack }) t → Steps p.tables e below (T.setTop g) t := by
  obtain ⟨locs, X, N, H⟩ := Y
  exact X.ldcInt hx hown (mvT hZ w) hg hd
theorem On.sldcJ (Y : On p l e R s m args below meth c Z n0 T cells slots D) (hx : p.tables.exec = Jvm.exec) (hZ : Z.Warmed39 s.vm) {own : String} {index : Nat} {x : Int64} (hown : s.vm.findClass own = some m.cls) (w : (Cond.constantLong own index x).before a0 Z = true)
    {g : JFrame} (hg : g.method = m) (hd : decode c.code g.pc = .ok (.ldc2_w index, 3)) : ∀ t, Steps p.tables e below (T.setTop { g with pc := g.pc + 3, stack := .long x :: g.stack }) t → Steps p.tables e below (T.setTop g) t := by
  obtain ⟨locs, X, N, H⟩ := Y
  exact X.ldc2Long hx hown (mvT hZ w) hg hd
theorem On.ini (Y : On p l e R s m args below meth c Z n0 T cells slots D) (hx : p.tables.exec = Jvm.exec) (hZ : Z.Warmed39 s.vm) {own : String} {idx : Nat} (hown : s.vm.findClass own = some m.cls) (w1 : (Cond.methodLink own idx Lib.objectInit).before a0 Z = true) (w2 : (Cond.instanceMethod Lib.objectInit).before a0 Z = true)
    (w3 : (Cond.code Lib.objectInit ⟨#[0xb1]⟩ 1 none).before a0 Z = true) {g : JFrame} (hg : g.method = m) (hsize : g.locals.size = c.maxLocals) {a : Addr} {rest : List Value} (hs : g.stack = .ref a :: rest) (hd : decode c.code g.pc = .ok (.invokespecial idx, 3))
    (hf : 1 ≤ R.frames) {W : Nat} (hW : 2 * g.monitorRoom + (rest.map fun v => v.category).sum ≤ W) (hl : W + 12 ≤ R.locals)
    (k : ∀ T', On p l e R s m args below meth c Z n0 T' cells slots D → Rn p e below F T' { g with pc := g.pc + 3, stack := rest }) : Rn p e below F T g := by
  obtain ⟨locs, X, N, H⟩ := Y
  obtain ⟨T', X', e', st⟩ := initO X hx hZ hown w1 w2 w3 rfl hg hsize hs hd hf hW hl
  exact Rn.go st (k T' ⟨locs, X', N, by rw [e']; exact H⟩)
/-! ## D. A method's contract: from a heap that holds D, with these arguments, it returns v and leaves a heap that holds D', where P v D' -/
def QP (Z : State) (n0 : Nat) (P : Option Value → List (Addr × Itm) → Prop) (v : Option Value) (h : Heap) (L : List Loc) : Prop := ∃ D', P v D' ∧ Fr n0 L ∧ Hp Z n0 h D'
def Con (l : Launch) (Z : State) (n0 : Nat) (y : MethodName) (bytes : ByteArray) (maxL : Nat) (ret : Option FieldType) (rm : Room) (as : Array Value) (D : List (Addr × Itm)) (P : Option Value → List (Addr × Itm) → Prop) : Prop :=
  ∀ (ws : List Cond) (h0 : Heap), Hp Z n0 h0 D → MetFree l y (head1 (Cond.code y bytes maxL ret :: ws) rm) (fun a U => a = as ∧ Z.Warmed39 U.vm ∧ U.heap = h0) (fun _ _ _ _ _ => True) (fun _ U o U' => ∃ v L, o = .returned v ∧ QP Z n0 P v U'.heap L ∧ FrameEnd U o U' L rm.cells rm.slots)
def Cx (p : Program) (s : State) (m : MethodId) (meth : Method) (c : Code) (Z : State) (y : MethodName) (bytes : ByteArray) (maxL : Nat) (ret : Option FieldType) : Prop :=
  p.tables.exec = Jvm.exec ∧ c.code = bytes ∧ c.maxLocals = maxL ∧ s.vm.findClass y.cls = some m.cls ∧ meth.name = y.name ∧ meth.sig.returnType = ret ∧ meth.locks = false ∧ Z.Warmed39 s.vm
def Fi (Z : State) (n0 : Nat) (below : List Frame) (s : State) (kc ks : Nat) (P : Option Value → List (Addr × Itm) → Prop) (U : State) : Prop := ∃ o, U.status = .running ∧ Ended U below o ∧ ∃ v L, o = .returned v ∧ QP Z n0 P v U.heap L ∧ FrameEnd s o U L kc ks
variable {y : MethodName} {bytes : ByteArray} {maxL : Nat} {ret : Option FieldType} {rm : Room} {as : Array Value} {P : Option Value → List (Addr × Itm) → Prop} {kc ks : Nat}
theorem Con.of (hp : plainFor y = true) (body : ∀ {p : Program} {e : Env} {s : State} {m : MethodId} {below : List Frame} {meth : Method} {c : Code} {T : State}, Cx p s m meth c Z y bytes maxL ret → On p l e rm s m as below meth c Z n0 T 0 0 D → Rn p e below (Fi Z n0 below s rm.cells rm.slots P) T (entryFrame m as maxL)) :
    Con l Z n0 y bytes maxL ret rm as D P := by
  intro ws h0 H
  refine MetFree.of_bodySF hp hisR ?_
  intro p e s m args below meth c s₁ Bd hml0 hP hK
  obtain ⟨rfl, hZ, hh⟩ := hP
  have X0 : Stand p l e rm s m args below meth c s₁ [] 0 0 := Stand.of_body Bd
  have e0 : s₁.heap = h0 := by rw [← hh, Bd.state]; rfl
  obtain ⟨U, h1, o, h2, h3, h4⟩ := body ⟨Bd.exec, Bd.bytes, hml0, findClass_of_methodNamed Bd.named, (name_of_methodNamed Bd.named Bd.method).1, Bd.returns, Bd.notSynchronized, hZ⟩ ⟨[], X0, Fr.nil n0, by rw [e0]; exact H⟩
  exact ⟨U, o, h1, h2, h3, h4⟩
theorem On.out (Y : On p l e R s m args below meth c Z n0 T cells slots D) {v : Option Value} (hv : meth.sig.returnType = none → v = none) (hlk : meth.locks = false) (hc : cells ≤ kc) (hs : slots ≤ ks) (hP : P v D)
    (st : ∀ locs fs, Stand p l e R s m args below meth c T locs cells slots → (∀ (f : JFrame) (acts : List Action), f.method = m → f.locked = none → f.entered = [] → (doReturn e (T.setTop f) acts v).1 = T.setFrames fs) → Steps p.tables e below (T.setTop g) (T.setFrames fs)) : Rn p e below (Fi Z n0 below s kc ks P) T g := by
  obtain ⟨locs, X, N, H⟩ := Y
  obtain ⟨fs, hr, hrun, hended, hW, hsame⟩ := X.leave hv hlk
  exact ⟨_, st locs fs X hr, _, hrun, hended, _, _, rfl, ⟨D, hP, N, H⟩, ⟨_, rfl⟩, hW, hsame.mono hc hs⟩
theorem On.retv (Y : On p l e R s m args below meth c Z n0 T cells slots D) (hx : p.tables.exec = Jvm.exec) (hret : meth.sig.returnType = none) (hlk : meth.locks = false) {pc : Nat} {Ls : Array Slot} (hd : decode c.code pc = .ok (.return_, 1)) (hc : cells ≤ kc) (hs : slots ≤ ks) (hP : P none D) : Rn p e below (Fi Z n0 below s kc ks P) T (mkF m pc Ls []) :=
  Y.out (fun _ => rfl) hlk hc hs hP fun locs fs X hr => X.returnOut hx hret hd hr
theorem On.reti (Y : On p l e R s m args below meth c Z n0 T cells slots D) (hx : p.tables.exec = Jvm.exec) (hret : meth.sig.returnType = some .int) (hlk : meth.locks = false) {pc : Nat} {Ls : Array Slot} {z : Int32} {rest : List Value} (hd : decode c.code pc = .ok (.ireturn, 1)) (hc : cells ≤ kc) (hs : slots ≤ ks) (hP : P (some (.int z)) D) : Rn p e below (Fi Z n0 below s kc ks P) T (mkF m pc Ls (.int z :: rest)) :=
  Y.out (fun q => by rw [hret] at q; cases q) hlk hc hs hP fun locs fs X hr => retOut X hx hret rfl (Or.inl ⟨rfl, Or.inl rfl, _, rfl⟩) hd hr
theorem On.retn (Y : On p l e R s m args below meth c Z n0 T cells slots D) (hx : p.tables.exec = Jvm.exec) {t : FieldType} (hret : meth.sig.returnType = some t) (ht : t = .boolean ∨ t = .byte ∨ t = .char ∨ t = .short) (hlk : meth.locks = false) {pc : Nat} {Ls : Array Slot} {z z' : Int32} (hz : nar t z = z') {rest : List Value} (hd : decode c.code pc = .ok (.ireturn, 1)) (hc : cells ≤ kc) (hs : slots ≤ ks) (hP : P (some (.int z')) D) : Rn p e below (Fi Z n0 below s kc ks P) T (mkF m pc Ls (.int z :: rest)) := by
  subst hz
  exact Y.out (fun q => by rw [hret] at q; cases q) hlk hc hs hP fun locs fs X hr => retN X hx hret ht hd hr
theorem On.retj (Y : On p l e R s m args below meth c Z n0 T cells slots D) (hx : p.tables.exec = Jvm.exec) (hret : meth.sig.returnType = some .long) (hlk : meth.locks = false) {pc : Nat} {Ls : Array Slot} {z : Int64} {rest : List Value} (hd : decode c.code pc = .ok (.lreturn, 1)) (hc : cells ≤ kc) (hs : slots ≤ ks) (hP : P (some (.long z)) D) : Rn p e below (Fi Z n0 below s kc ks P) T (mkF m pc Ls (.long z :: rest)) :=
  Y.out (fun q => by rw [hret] at q; cases q) hlk hc hs hP fun locs fs X hr => retOut X hx hret rfl (Or.inr (Or.inl ⟨rfl, rfl, _, rfl⟩)) hd hr
theorem On.reta (Y : On p l e R s m args below meth c Z n0 T cells slots D) (hx : p.tables.exec = Jvm.exec) {t : FieldType} (hret : meth.sig.returnType = some t) (ht : t.isReference = true) (hlk : meth.locks = false) {pc : Nat} {Ls : Array Slot} {z : Value} (hz : z.isRef = true) (hn : narrow t z = z) {rest : List Value} (hd : decode c.code pc = .ok (.areturn, 1)) (hc : cells ≤ kc) (hs : slots ≤ ks) (hP : P (some z) D) : Rn p e below (Fi Z n0 below s kc ks P) T (mkF m pc Ls (z :: rest)) :=
  Y.out (fun q => by rw [hret] at q; cases q) hlk hc hs hP fun locs fs X hr => retOut X hx hret hn (Or.inr (Or.inr (Or.inr (Or.inr ⟨rfl, ht, hz⟩)))) hd hr
/-! ## E. Calls -/
theorem On.special (Y : On p l e R s m args below meth c Z n0 T cells slots D) (hx : p.tables.exec = Jvm.exec) (hZ : Z.Warmed39 s.vm) {own : String} {index : Nat} (hy1 : y.name = "<init>") (hown : s.vm.findClass own = some m.cls) (w1 : (Cond.methodLink own index y).before a0 Z = true) (w2 : (Cond.instanceMethod y).before a0 Z = true) (w3 : (Cond.code y bytes maxL none).before a0 Z = true) (w4 : (Cond.initialized y.cls).before a0 Z = true)
    (hy : y.cls ≠ "java/lang/invoke/MethodHandle" ∧ y.cls ≠ "java/lang/invoke/VarHandle") {a : Addr} {argsL rest : List Value} (K : Con l Z n0 y bytes maxL none rm (.ref a :: argsL).toArray D P)
    {W : Nat} (hf : rm.frames + 1 ≤ R.frames) (hl : W + (maxL + 11) + rm.locals ≤ R.locals) (hc : cells + rm.cells ≤ R.cells) (hs : slots + rm.slots ≤ R.slots)
    {g : JFrame} (hg : g.method = m) (hsize : g.locals.size = c.maxLocals) (hlen : ∀ sig, parseMethodDescriptor y.desc = some sig → argsL.length = sig.parameters.length) (hstack : g.stack = argsL.reverse ++ .ref a :: rest) (hW : 2 * g.monitorRoom + (rest.map fun v => v.category).sum ≤ W) (hd : decode c.code g.pc = .ok (.invokespecial index, 3))
    (k : ∀ T' v D', P v D' → On p l e R s m args below meth c Z n0 T' (cells + rm.cells) (slots + rm.slots) D' → Rn p e below F T' { g with pc := g.pc + 3, stack := v.toList ++ rest }) : Rn p e below F T g := by
  obtain ⟨locs, X, N, H⟩ := Y
  obtain ⟨v, _, ⟨T', L', k', n'⟩, -, X', ⟨Lc, hQ, l', y', z'⟩, st⟩ := X.specialBack hx hy1 hown (mvT hZ w1) (mvT hZ w2) (mvT hZ w3) hy (backOf (W := W) (K [] T.heap H) hZ w3 w4 hf hl) hg hsize (Steps.refl _) (a := a) (argsL := argsL) (rest := rest) hlen hstack hW hd (fun _ _ => ⟨rfl, rfl, hc, hs⟩)
  dsimp only [Pt.U, Pt.locs, Pt.cells, Pt.slots] at X' l' y' z' st hQ
  subst l' y' z'
  obtain ⟨D', hP, N', H'⟩ := hQ
  exact Rn.to st (k T' v D' hP ⟨_, X', Fr.app N N', H'⟩)
theorem On.virtual (Y : On p l e R s m args below meth c Z n0 T cells slots D) (hx : p.tables.exec = Jvm.exec) (hZ : Z.Warmed39 s.vm) {own : String} {index : Nat} (hown : s.vm.findClass own = some m.cls) (w1 : (Cond.methodLink own index y).before a0 Z = true) (w2 : (Cond.declares y).before a0 Z = true) (w3 : (Cond.instanceMethod y).before a0 Z = true) (w4 : (Cond.selects C y y).before a0 Z = true) (w5 : (Cond.code y bytes maxL ret).before a0 Z = true) (w6 : (Cond.initialized y.cls).before a0 Z = true)
    (hy : y.cls ≠ "java/lang/invoke/MethodHandle" ∧ y.cls ≠ "java/lang/invoke/VarHandle") {a : Addr} {argsL rest : List Value} (hi : D[i]? = some (ob a C fs)) (K : Con l Z n0 y bytes maxL ret rm (.ref a :: argsL).toArray D P)
    {W : Nat} (hf : rm.frames + 1 ≤ R.frames) (hl : W + (maxL + 11) + rm.locals ≤ R.locals) (hc : cells + rm.cells ≤ R.cells) (hs : slots + rm.slots ≤ R.slots)
    {g : JFrame} (hg : g.method = m) (hsize : g.locals.size = c.maxLocals) (hlen : ∀ sig, parseMethodDescriptor y.desc = some sig → argsL.length = sig.parameters.length) (hstack : g.stack = argsL.reverse ++ .ref a :: rest) (hW : 2 * g.monitorRoom + (rest.map fun v => v.category).sum ≤ W) (hd : decode c.code g.pc = .ok (.invokevirtual index, 3))
    (k : ∀ T' v D', P v D' → On p l e R s m args below meth c Z n0 T' (cells + rm.cells) (slots + rm.slots) D' → Rn p e below F T' { g with pc := g.pc + 3, stack := v.toList ++ rest }) : Rn p e below F T g := by
  obtain ⟨locs, X, N, H⟩ := Y
  obtain ⟨cq, kq, qa, qb, qc⟩ := isOf hZ rfl (H.exa hi)
  obtain ⟨v, _, ⟨T', L', k', n'⟩, -, X', ⟨Lc, hQ, l', y', z'⟩, st⟩ := X.virtualBack hx (y := y) (z := y) hown (mvT hZ w1) (mvT hZ w2) (notFace_of_selects (args := #[]) (mvT hZ w4)) (mvT hZ w4) (mvT hZ w3) hy (backOf (W := W) (K [] T.heap H) hZ w5 w6 hf hl) qa qc hg hsize (Steps.refl _) (argsL := argsL) (rest := rest) hlen hstack hW hd (fun _ _ => ⟨rfl, rfl, hc, hs⟩)
  dsimp only [Pt.U, Pt.locs, Pt.cells, Pt.slots] at X' l' y' z' st hQ
  subst l' y' z'
  obtain ⟨D', hP, N', H'⟩ := hQ
  exact Rn.to st (k T' v D' hP ⟨_, X', Fr.app N N', H'⟩)
theorem On.static (Y : On p l e R s m args below meth c Z n0 T cells slots D) (hx : p.tables.exec = Jvm.exec) (hZ : Z.Warmed39 s.vm) {own : String} {index : Nat} (hown : s.vm.findClass own = some m.cls) (w1 : (Cond.methodLink own index y).before a0 Z = true) (w2 : (Cond.static y).before a0 Z = true) (w3 : (Cond.code y bytes maxL ret).before a0 Z = true) (w4 : (Cond.initialized y.cls).before a0 Z = true)
    (hy : y.cls ≠ "java/lang/invoke/MethodHandle" ∧ y.cls ≠ "java/lang/invoke/VarHandle") {argsL rest : List Value} (K : Con l Z n0 y bytes maxL ret rm argsL.toArray D P)
    {W : Nat} (hf : rm.frames + 1 ≤ R.frames) (hl : W + (maxL + 11) + rm.locals ≤ R.locals) (hc : cells + rm.cells ≤ R.cells) (hs : slots + rm.slots ≤ R.slots)
    {g : JFrame} (hg : g.method = m) (hsize : g.locals.size = c.maxLocals) (hlen : ∀ sig, parseMethodDescriptor y.desc = some sig → argsL.length = sig.parameters.length) (hstack : g.stack = argsL.reverse ++ rest) (hW : 2 * g.monitorRoom + (rest.map fun v => v.category).sum ≤ W) (hd : decode c.code g.pc = .ok (.invokestatic index, 3))
    (k : ∀ T' v D', P v D' → On p l e R s m args below meth c Z n0 T' (cells + rm.cells) (slots + rm.slots) D' → Rn p e below F T' { g with pc := g.pc + 3, stack := v.toList ++ rest }) : Rn p e below F T g := by
  obtain ⟨locs, X, N, H⟩ := Y
  obtain ⟨v, _, ⟨T', L', k', n'⟩, -, X', ⟨Lc, hQ, l', y', z'⟩, st⟩ := Jvm.LawKit.callS X hx hown (mvT hZ w1) (mvT hZ w2) (mvT hZ w4) (mvT hZ w3) hy (backOf (W := W) (K [] T.heap H) hZ w3 w4 hf hl) hg hsize (argsL := argsL) (rest := rest) hlen hstack hW hd (fun _ _ => ⟨rfl, rfl, hc, hs⟩)
  dsimp only [Pt.U, Pt.locs, Pt.cells, Pt.slots] at X' l' y' z' st hQ
  subst l' y' z'
  obtain ⟨D', hP, N', H'⟩ := hQ
  exact Rn.go st (k T' v D' hP ⟨_, X', Fr.app N N', H'⟩)
theorem On.priv (Y : On p l e R s m args below meth c Z n0 T cells slots D) (hx : p.tables.exec = Jvm.exec) (hZ : Z.Warmed39 s.vm) {own : String} {index kk : Nat} (hown : s.vm.findClass own = some m.cls) (w1 : (Cond.methodLink own index y).before a0 Z = true) (w2 : (Cond.instanceMethod y).before a0 Z = true) (w3 : (Cond.privateMethod y).before a0 Z = true) (wi : (Cond.instantiable y.cls kk).before a0 Z = true) (w4 : (Cond.code y bytes maxL ret).before a0 Z = true) (w5 : (Cond.initialized y.cls).before a0 Z = true)
    (hy : y.cls ≠ "java/lang/invoke/MethodHandle" ∧ y.cls ≠ "java/lang/invoke/VarHandle") {a : Addr} {argsL rest : List Value} (hi : D[i]? = some (ob a C fs)) (K : Con l Z n0 y bytes maxL ret rm (.ref a :: argsL).toArray D P)
    {W : Nat} (hf : rm.frames + 1 ≤ R.frames) (hl : W + (maxL + 11) + rm.locals ≤ R.locals) (hc : cells + rm.cells ≤ R.cells) (hs : slots + rm.slots ≤ R.slots)
    {g : JFrame} (hg : g.method = m) (hsize : g.locals.size = c.maxLocals) (hlen : ∀ sig, parseMethodDescriptor y.desc = some sig → argsL.length = sig.parameters.length) (hstack : g.stack = argsL.reverse ++ .ref a :: rest) (hW : 2 * g.monitorRoom + (rest.map fun v => v.category).sum ≤ W) (hd : decode c.code g.pc = .ok (.invokevirtual index, 3))
    (k : ∀ T' v D', P v D' → On p l e R s m args below meth c Z n0 T' (cells + rm.cells) (slots + rm.slots) D' → Rn p e below F T' { g with pc := g.pc + 3, stack := v.toList ++ rest }) : Rn p e below F T g := by
  obtain ⟨locs, X, N, H⟩ := Y
  have hp : s.PrivateAt y := Cond.privateMethod_at (mvP hZ w3 (args := #[]))
  have wi' : (Cond.instantiable y.cls kk).before args s = true := mvT hZ wi
  obtain ⟨cc, kc, i1, i2, -, i4, -⟩ := Cond.instantiable_spec wi'
  have hsel : (Cond.selects y.cls y y).before args s = true := selects_self_of_private i1 i2 (by simp at i4; exact i4.1) hp (mvT hZ w2) hy
  obtain ⟨cq, q, q'⟩ := (H.exa hi).cell
  obtain ⟨v, _, ⟨T', L', k', n'⟩, -, X', ⟨Lc, hQ, l', y', z'⟩, st⟩ := X.privateBack hx (y := y) hown (mvT hZ w1) (mvT hZ w2) hsel hp (mvT hZ w4) hy (backOf (W := W) (K [] T.heap H) hZ w4 w5 hf hl) hg hsize (Steps.refl _) (a := a) q q' (argsL := argsL) (rest := rest) hlen hstack hW hd (fun _ _ => ⟨rfl, rfl, hc, hs⟩)
  dsimp only [Pt.U, Pt.locs, Pt.cells, Pt.slots] at X' l' y' z' st hQ
  subst l' y' z'
  obtain ⟨D', hP, N', H'⟩ := hQ
  exact Rn.to st (k T' v D' hP ⟨_, X', Fr.app N N', H'⟩)
theorem On.insY (Y : On p l e R s m args below meth c Z n0 T cells slots D) (hx : p.tables.exec = Jvm.exec) (hZ : Z.Warmed39 s.vm) {own : String} {index : Nat} (hown : s.vm.findClass own = some m.cls) (w : (Cond.classLink own index C).before a0 Z = true) (hi : D[i]? = some (ob a C fs))
    {g : JFrame} (hg : g.method = m) {rest : List Value} (hs : g.stack = .ref a :: rest) (hd : decode c.code g.pc = .ok (.instanceof index, 3)) (k : ∀ T', On p l e R s m args below meth c Z n0 T' cells slots D → Rn p e below F T' { g with pc := g.pc + 3, stack := .int 1 :: rest }) : Rn p e below F T g := by
  obtain ⟨locs, X, N, H⟩ := Y
  obtain ⟨T', X', e', st⟩ := instY X hx hZ hown w rfl (Ins.self (H.exa hi)) hg hs hd
  exact Rn.go st (k T' ⟨locs, X', N, by rw [e']; exact H⟩)
theorem On.castS (Y : On p l e R s m args below meth c Z n0 T cells slots D) (hx : p.tables.exec = Jvm.exec) (hZ : Z.Warmed39 s.vm) {own : String} {index : Nat} (hown : s.vm.findClass own = some m.cls) (w : (Cond.classLink own index C).before a0 Z = true) (hi : D[i]? = some (ob a C fs))
    {g : JFrame} (hg : g.method = m) {rest : List Value} (hs : g.stack = .ref a :: rest) (hd : decode c.code g.pc = .ok (.checkcast index, 3)) (k : ∀ T', On p l e R s m args below meth c Z n0 T' cells slots D → Rn p e below F T' { g with pc := g.pc + 3 }) : Rn p e below F T g := by
  obtain ⟨locs, X, N, H⟩ := Y
  obtain ⟨T', X', e', st⟩ := castY X hx hZ hown w rfl (Ins.self (H.exa hi)) hg hs hd
  exact Rn.go st (k T' ⟨locs, X', N, by rw [e']; exact H⟩)
theorem On.insN (Y : On p l e R s m args below meth c Z n0 T cells slots D) (hx : p.tables.exec = Jvm.exec) (hZ : Z.Warmed39 s.vm) {own K : String} {index kk : Nat} (hown : s.vm.findClass own = some m.cls) (w : (Cond.classLink own index K).before a0 Z = true) (hi : D[i]? = some (ob a C fs)) (wi : (Cond.instantiable K kk).before a0 Z = true) {ch : List String} (hw : ∀ w ∈ Cond.chainWords (C :: ch), w.before a0 Z = true) (hn : K ∉ C :: ch)
    {g : JFrame} (hg : g.method = m) {rest : List Value} (hs : g.stack = .ref a :: rest) (hd : decode c.code g.pc = .ok (.instanceof index, 3)) (k : ∀ T', On p l e R s m args below meth c Z n0 T' cells slots D → Rn p e below F T' { g with pc := g.pc + 3, stack := .int 0 :: rest }) : Rn p e below F T g := by
  obtain ⟨locs, X, N, H⟩ := Y
  obtain ⟨cy, ky, i1, i2, i3, i4, -⟩ := Cond.instantiable_spec wi
  obtain ⟨cx, kx, j1, -⟩ := Cond.chain_head hw
  obtain ⟨T', X', e', st⟩ := instNo X hx hZ hown w rfl (H.exa hi) ⟨cx, cy, j1, i1, Vm.notAssignable_of_chain j1 i1 i2 i3 (by simp at i4; exact i4.1) hw hn⟩ hg hs hd
  exact Rn.go st (k T' ⟨locs, X', N, by rw [e']; exact H⟩)
theorem On.insNull (Y : On p l e R s m args below meth c Z n0 T cells slots D) (hx : p.tables.exec = Jvm.exec) {index : Nat}
    {g : JFrame} (hg : g.method = m) {rest : List Value} (hs : g.stack = .null :: rest) (hd : decode c.code g.pc = .ok (.instanceof index, 3)) (k : Rn p e below F T { g with pc := g.pc + 3, stack := .int 0 :: rest }) : Rn p e below F T g := by
  obtain ⟨locs, X, N, H⟩ := Y
  exact Rn.go (fun t kt => X.instanceofNull hx hg hs hd t kt) k
end Base
theorem own_arz {a : Addr} {ty : FieldType} {z : Int32} {n : Nat} : ari a ty z (List.replicate n (0 : Int32)) = ar a ty z (List.replicate n (.int 0)) := by
  show ar a ty z ((List.replicate n (0 : Int32)).map Value.int) = _
  rw [List.map_replicate]
theorem own_le4 {v : Int32} (h1 : 0 ≤ v.toInt) (h2 : v.toInt ≤ 4) : v = 0 ∨ v = 1 ∨ v = 2 ∨ v = 3 ∨ v = 4 := by
  have : v.toInt = 0 ∨ v.toInt = 1 ∨ v.toInt = 2 ∨ v.toInt = 3 ∨ v.toInt = 4 := by omega
  rcases this with h | h | h | h | h
  · exact Or.inl (Int32.toInt_inj.mp (h.trans rfl))
  · exact Or.inr (Or.inl (Int32.toInt_inj.mp (h.trans rfl)))
  · exact Or.inr (Or.inr (Or.inl (Int32.toInt_inj.mp (h.trans rfl))))
  · exact Or.inr (Or.inr (Or.inr (Or.inl (Int32.toInt_inj.mp (h.trans rfl)))))
  · exact Or.inr (Or.inr (Or.inr (Or.inr (Int32.toInt_inj.mp (h.trans rfl)))))
/-! ## F. The words, the instructions, the names -/
abbrev own_C0 : String := "com/example/arborplan/arborplan/tree/Tree"
abbrev own_F0 (v0 v1 v2 v3 v4 v5 v6 : Value) : List (String × String × Value) := [("vertexNames", "[Ljava/lang/String;", v0), ("edgeNames", "[Ljava/lang/String;", v1), ("edgeIndex", "Ljava/util/Map;", v2), ("edgeEnds", "[I", v3), ("lengths", "[D", v4), ("pairEnds", "[I", v5), ("weights", "[D", v6)]
theorem w0 {Z : State} {a0 : Array Value} (hw : ∀ d ∈ tables_1, d.before a0 Z = true) : (Jvm.Cond.methodLink "com/example/arborplan/arborplan/tree/TreeIsEdgeOrderPinLaw" (7 : Nat) ({ cls := "com/example/arborplan/arborplan/tree/TreeIsEdgeOrderPinLaw", name := "pick", desc := "(I)I" } : Jvm.MethodName)).before a0 Z = true := hw _ (List.mem_of_getElem? (i := 0) rfl)
theorem w1 {Z : State} {a0 : Array Value} (hw : ∀ d ∈ tables_1, d.before a0 Z = true) : (Jvm.Cond.static ({ cls := "com/example/arborplan/arborplan/tree/TreeIsEdgeOrderPinLaw", name := "pick", desc := "(I)I" } : Jvm.MethodName)).before a0 Z = true := hw _ (List.mem_of_getElem? (i := 1) rfl)
theorem w2 {Z : State} {a0 : Array Value} (hw : ∀ d ∈ tables_1, d.before a0 Z = true) : (Jvm.Cond.initialized "com/example/arborplan/arborplan/tree/TreeIsEdgeOrderPinLaw").before a0 Z = true := hw _ (List.mem_of_getElem? (i := 2) rfl)
theorem w3 {Z : State} {a0 : Array Value} (hw : ∀ d ∈ tables_1, d.before a0 Z = true) : (Jvm.Cond.code ({ cls := "com/example/arborplan/arborplan/tree/TreeIsEdgeOrderPinLaw", name := "pick", desc := "(I)I" } : Jvm.MethodName) method_2_code (1 : Nat) (Option.some Jvm.ClassFile.FieldType.int)).before a0 Z = true := hw _ (List.mem_of_getElem? (i := 3) rfl)
theorem w4 {Z : State} {a0 : Array Value} (hw : ∀ d ∈ tables_1, d.before a0 Z = true) : (Jvm.Cond.classLink "com/example/arborplan/arborplan/tree/TreeIsEdgeOrderPinLaw" (13 : Nat) "java/lang/String").before a0 Z = true := hw _ (List.mem_of_getElem? (i := 4) rfl)
theorem w5 {Z : State} {a0 : Array Value} (hw : ∀ d ∈ tables_1, d.before a0 Z = true) : (Jvm.Cond.arrayOver (Jvm.ClassFile.FieldType.object "java/lang/String")).before a0 Z = true := hw _ (List.mem_of_getElem? (i := 5) rfl)
theorem w6 {Z : State} {a0 : Array Value} (hw : ∀ d ∈ tables_1, d.before a0 Z = true) : (Jvm.Cond.classLink "com/example/arborplan/arborplan/tree/TreeIsEdgeOrderPinLaw" (15 : Nat) "com/example/arborplan/arborplan/tree/Tree").before a0 Z = true := hw _ (List.mem_of_getElem? (i := 6) rfl)
theorem w7 {Z : State} {a0 : Array Value} (hw : ∀ d ∈ tables_1, d.before a0 Z = true) : (Jvm.Cond.instantiable "com/example/arborplan/arborplan/tree/Tree" (7 : Nat)).before a0 Z = true := hw _ (List.mem_of_getElem? (i := 7) rfl)
theorem w8 {Z : State} {a0 : Array Value} (hw : ∀ d ∈ tables_1, d.before a0 Z = true) : (Jvm.Cond.initialized "com/example/arborplan/arborplan/tree/Tree").before a0 Z = true := hw _ (List.mem_of_getElem? (i := 8) rfl)
theorem w9 {Z : State} {a0 : Array Value} (hw : ∀ d ∈ tables_1, d.before a0 Z = true) : (Jvm.Cond.arrayClass Jvm.ClassFile.FieldType.int).before a0 Z = true := hw _ (List.mem_of_getElem? (i := 9) rfl)
theorem w10 {Z : State} {a0 : Array Value} (hw : ∀ d ∈ tables_1, d.before a0 Z = true) : (Jvm.Cond.arrayClass Jvm.ClassFile.FieldType.double).before a0 Z = true := hw _ (List.mem_of_getElem? (i := 10) rfl)
theorem w11 {Z : State} {a0 : Array Value} (hw : ∀ d ∈ tables_1, d.before a0 Z = true) : (Jvm.Cond.methodLink "com/example/arborplan/arborplan/tree/TreeIsEdgeOrderPinLaw" (17 : Nat) ({ cls := "com/example/arborplan/arborplan/tree/Tree", name := "<init>", desc := "([Ljava/lang/String;[Ljava/lang/String;Ljava/util/Map;[I[D[I[D)V" } : Jvm.MethodName)).before a0 Z = true := hw _ (List.mem_of_getElem? (i := 11) rfl)
theorem w12 {Z : State} {a0 : Array Value} (hw : ∀ d ∈ tables_1, d.before a0 Z = true) : (Jvm.Cond.instanceMethod ({ cls := "com/example/arborplan/arborplan/tree/Tree", name := "<init>", desc := "([Ljava/lang/String;[Ljava/lang/String;Ljava/util/Map;[I[D[I[D)V" } : Jvm.MethodName)).before a0 Z = true := hw _ (List.mem_of_getElem? (i := 12) rfl)
theorem w13 {Z : State} {a0 : Array Value} (hw : ∀ d ∈ tables_1, d.before a0 Z = true) : (Jvm.Cond.code ({ cls := "com/example/arborplan/arborplan/tree/Tree", name := "<init>", desc := "([Ljava/lang/String;[Ljava/lang/String;Ljava/util/Map;[I[D[I[D)V" } : Jvm.MethodName) prog_42_method_1_code (8 : Nat) (Option.none : Option Jvm.ClassFile.FieldType)).before a0 Z = true := hw _ (List.mem_of_getElem? (i := 13) rfl)
theorem w14 {Z : State} {a0 : Array Value} (hw : ∀ d ∈ tables_1, d.before a0 Z = true) : (Jvm.Cond.methodLink "com/example/arborplan/arborplan/tree/Tree" (1 : Nat) ({ cls := "java/lang/Object", name := "<init>", desc := "()V" } : Jvm.MethodName)).before a0 Z = true := hw _ (List.mem_of_getElem? (i := 14) rfl)
theorem w15 {Z : State} {a0 : Array Value} (hw : ∀ d ∈ tables_1, d.before a0 Z = true) : (Jvm.Cond.instanceMethod ({ cls := "java/lang/Object", name := "<init>", desc := "()V" } : Jvm.MethodName)).before a0 Z = true := hw _ (List.mem_of_getElem? (i := 15) rfl)
theorem w16 {Z : State} {a0 : Array Value} (hw : ∀ d ∈ tables_1, d.before a0 Z = true) : (Jvm.Cond.code ({ cls := "java/lang/Object", name := "<init>", desc := "()V" } : Jvm.MethodName) object_method_1_code (1 : Nat) (Option.none : Option Jvm.ClassFile.FieldType)).before a0 Z = true := hw _ (List.mem_of_getElem? (i := 16) rfl)
theorem w17 {Z : State} {a0 : Array Value} (hw : ∀ d ∈ tables_1, d.before a0 Z = true) : (Jvm.Cond.fieldLink "com/example/arborplan/arborplan/tree/Tree" (7 : Nat) "com/example/arborplan/arborplan/tree/Tree" "vertexNames" "[Ljava/lang/String;").before a0 Z = true := hw _ (List.mem_of_getElem? (i := 17) rfl)
theorem w18 {Z : State} {a0 : Array Value} (hw : ∀ d ∈ tables_1, d.before a0 Z = true) : (Jvm.Cond.laysFinal "com/example/arborplan/arborplan/tree/Tree" "com/example/arborplan/arborplan/tree/Tree" "vertexNames" "[Ljava/lang/String;").before a0 Z = true := hw _ (List.mem_of_getElem? (i := 18) rfl)
theorem w19 {Z : State} {a0 : Array Value} (hw : ∀ d ∈ tables_1, d.before a0 Z = true) : (Jvm.Cond.fieldLink "com/example/arborplan/arborplan/tree/Tree" (13 : Nat) "com/example/arborplan/arborplan/tree/Tree" "edgeNames" "[Ljava/lang/String;").before a0 Z = true := hw _ (List.mem_of_getElem? (i := 19) rfl)
theorem w20 {Z : State} {a0 : Array Value} (hw : ∀ d ∈ tables_1, d.before a0 Z = true) : (Jvm.Cond.laysFinal "com/example/arborplan/arborplan/tree/Tree" "com/example/arborplan/arborplan/tree/Tree" "edgeNames" "[Ljava/lang/String;").before a0 Z = true := hw _ (List.mem_of_getElem? (i := 20) rfl)
theorem w21 {Z : State} {a0 : Array Value} (hw : ∀ d ∈ tables_1, d.before a0 Z = true) : (Jvm.Cond.fieldLink "com/example/arborplan/arborplan/tree/Tree" (16 : Nat) "com/example/arborplan/arborplan/tree/Tree" "edgeIndex" "Ljava/util/Map;").before a0 Z = true := hw _ (List.mem_of_getElem? (i := 21) rfl)
theorem w22 {Z : State} {a0 : Array Value} (hw : ∀ d ∈ tables_1, d.before a0 Z = true) : (Jvm.Cond.laysFinal "com/example/arborplan/arborplan/tree/Tree" "com/example/arborplan/arborplan/tree/Tree" "edgeIndex" "Ljava/util/Map;").before a0 Z = true := hw _ (List.mem_of_getElem? (i := 22) rfl)
theorem w23 {Z : State} {a0 : Array Value} (hw : ∀ d ∈ tables_1, d.before a0 Z = true) : (Jvm.Cond.fieldLink "com/example/arborplan/arborplan/tree/Tree" (20 : Nat) "com/example/arborplan/arborplan/tree/Tree" "edgeEnds" "[I").before a0 Z = true := hw _ (List.mem_of_getElem? (i := 23) rfl)
theorem w24 {Z : State} {a0 : Array Value} (hw : ∀ d ∈ tables_1, d.before a0 Z = true) : (Jvm.Cond.laysFinal "com/example/arborplan/arborplan/tree/Tree" "com/example/arborplan/arborplan/tree/Tree" "edgeEnds" "[I").before a0 Z = true := hw _ (List.mem_of_getElem? (i := 24) rfl)
theorem w25 {Z : State} {a0 : Array Value} (hw : ∀ d ∈ tables_1, d.before a0 Z = true) : (Jvm.Cond.fieldLink "com/example/arborplan/arborplan/tree/Tree" (24 : Nat) "com/example/arborplan/arborplan/tree/Tree" "lengths" "[D").before a0 Z = true := hw _ (List.mem_of_getElem? (i := 25) rfl)
theorem w26 {Z : State} {a0 : Array Value} (hw : ∀ d ∈ tables_1, d.before a0 Z = true) : (Jvm.Cond.laysFinal "com/example/arborplan/arborplan/tree/Tree" "com/example/arborplan/arborplan/tree/Tree" "lengths" "[D").before a0 Z = true := hw _ (List.mem_of_getElem? (i := 26) rfl)
theorem w27 {Z : State} {a0 : Array Value} (hw : ∀ d ∈ tables_1, d.before a0 Z = true) : (Jvm.Cond.fieldLink "com/example/arborplan/arborplan/tree/Tree" (28 : Nat) "com/example/arborplan/arborplan/tree/Tree" "pairEnds" "[I").before a0 Z = true := hw _ (List.mem_of_getElem? (i := 27) rfl)
theorem w28 {Z : State} {a0 : Array Value} (hw : ∀ d ∈ tables_1, d.before a0 Z = true) : (Jvm.Cond.laysFinal "com/example/arborplan/arborplan/tree/Tree" "com/example/arborplan/arborplan/tree/Tree" "pairEnds" "[I").before a0 Z = true := hw _ (List.mem_of_getElem? (i := 28) rfl)
theorem w29 {Z : State} {a0 : Array Value} (hw : ∀ d ∈ tables_1, d.before a0 Z = true) : (Jvm.Cond.fieldLink "com/example/arborplan/arborplan/tree/Tree" (31 : Nat) "com/example/arborplan/arborplan/tree/Tree" "weights" "[D").before a0 Z = true := hw _ (List.mem_of_getElem? (i := 29) rfl)
theorem w30 {Z : State} {a0 : Array Value} (hw : ∀ d ∈ tables_1, d.before a0 Z = true) : (Jvm.Cond.laysFinal "com/example/arborplan/arborplan/tree/Tree" "com/example/arborplan/arborplan/tree/Tree" "weights" "[D").before a0 Z = true := hw _ (List.mem_of_getElem? (i := 30) rfl)
theorem w31 {Z : State} {a0 : Array Value} (hw : ∀ d ∈ tables_1, d.before a0 Z = true) : (Jvm.Cond.methodLink "com/example/arborplan/arborplan/tree/TreeIsEdgeOrderPinLaw" (24 : Nat) ({ cls := "com/example/arborplan/arborplan/tree/Tree", name := "isEdgeOrder", desc := "([I)Z" } : Jvm.MethodName)).before a0 Z = true := hw _ (List.mem_of_getElem? (i := 31) rfl)
theorem w32 {Z : State} {a0 : Array Value} (hw : ∀ d ∈ tables_1, d.before a0 Z = true) : (Jvm.Cond.declares ({ cls := "com/example/arborplan/arborplan/tree/Tree", name := "isEdgeOrder", desc := "([I)Z" } : Jvm.MethodName)).before a0 Z = true := hw _ (List.mem_of_getElem? (i := 32) rfl)
theorem w33 {Z : State} {a0 : Array Value} (hw : ∀ d ∈ tables_1, d.before a0 Z = true) : (Jvm.Cond.instanceMethod ({ cls := "com/example/arborplan/arborplan/tree/Tree", name := "isEdgeOrder", desc := "([I)Z" } : Jvm.MethodName)).before a0 Z = true := hw _ (List.mem_of_getElem? (i := 33) rfl)
theorem w34 {Z : State} {a0 : Array Value} (hw : ∀ d ∈ tables_1, d.before a0 Z = true) : (Jvm.Cond.selects "com/example/arborplan/arborplan/tree/Tree" ({ cls := "com/example/arborplan/arborplan/tree/Tree", name := "isEdgeOrder", desc := "([I)Z" } : Jvm.MethodName) ({ cls := "com/example/arborplan/arborplan/tree/Tree", name := "isEdgeOrder", desc := "([I)Z" } : Jvm.MethodName)).before a0 Z = true := hw _ (List.mem_of_getElem? (i := 34) rfl)
theorem w35 {Z : State} {a0 : Array Value} (hw : ∀ d ∈ tables_1, d.before a0 Z = true) : (Jvm.Cond.code ({ cls := "com/example/arborplan/arborplan/tree/Tree", name := "isEdgeOrder", desc := "([I)Z" } : Jvm.MethodName) prog_42_method_7_code (7 : Nat) (Option.some Jvm.ClassFile.FieldType.boolean)).before a0 Z = true := hw _ (List.mem_of_getElem? (i := 35) rfl)
theorem w36 {Z : State} {a0 : Array Value} (hw : ∀ d ∈ tables_1, d.before a0 Z = true) : (Jvm.Cond.arrayClass Jvm.ClassFile.FieldType.boolean).before a0 Z = true := hw _ (List.mem_of_getElem? (i := 36) rfl)
theorem w37 {Z : State} {a0 : Array Value} (hw : ∀ d ∈ tables_1, d.before a0 Z = true) : (Jvm.Cond.methodLink "com/example/arborplan/arborplan/tree/TreeIsEdgeOrderPinLaw" (20 : Nat) ({ cls := "com/example/arborplan/arborplan/tree/TreeIsEdgeOrderPinLaw", name := "in", desc := "(II)Z" } : Jvm.MethodName)).before a0 Z = true := hw _ (List.mem_of_getElem? (i := 37) rfl)
theorem w38 {Z : State} {a0 : Array Value} (hw : ∀ d ∈ tables_1, d.before a0 Z = true) : (Jvm.Cond.static ({ cls := "com/example/arborplan/arborplan/tree/TreeIsEdgeOrderPinLaw", name := "in", desc := "(II)Z" } : Jvm.MethodName)).before a0 Z = true := hw _ (List.mem_of_getElem? (i := 38) rfl)
theorem w39 {Z : State} {a0 : Array Value} (hw : ∀ d ∈ tables_1, d.before a0 Z = true) : (Jvm.Cond.code ({ cls := "com/example/arborplan/arborplan/tree/TreeIsEdgeOrderPinLaw", name := "in", desc := "(II)Z" } : Jvm.MethodName) method_3_code (2 : Nat) (Option.some Jvm.ClassFile.FieldType.boolean)).before a0 Z = true := hw _ (List.mem_of_getElem? (i := 39) rfl)
theorem d1_0 : decode method_2_code 0 = .ok (.iload_n 0, 1) := by decide +kernel
theorem d1_1 : decode method_2_code 1 = .ok (.bipush 8, 2) := by decide +kernel
theorem d1_3 : decode method_2_code 3 = .ok (.iand, 1) := by decide +kernel
theorem d1_4 : decode method_2_code 4 = .ok (.ifCond .eq 5, 3) := by decide +kernel
theorem d1_7 : decode method_2_code 7 = .ok (.iload_n 0, 1) := by decide +kernel
theorem d1_8 : decode method_2_code 8 = .ok (.ireturn, 1) := by decide +kernel
theorem d1_9 : decode method_2_code 9 = .ok (.iload_n 0, 1) := by decide +kernel
theorem d1_10 : decode method_2_code 10 = .ok (.bipush 7, 2) := by decide +kernel
theorem d1_12 : decode method_2_code 12 = .ok (.iand, 1) := by decide +kernel
theorem d1_13 : decode method_2_code 13 = .ok (.iconst 2, 1) := by decide +kernel
theorem d1_14 : decode method_2_code 14 = .ok (.isub, 1) := by decide +kernel
theorem d1_15 : decode method_2_code 15 = .ok (.ireturn, 1) := by decide +kernel
theorem d2_0 : decode prog_42_method_1_code 0 = .ok (.aload_n 0, 1) := by decide +kernel
theorem d2_1 : decode prog_42_method_1_code 1 = .ok (.invokespecial 1, 3) := by decide +kernel
theorem d2_4 : decode prog_42_method_1_code 4 = .ok (.aload_n 0, 1) := by decide +kernel
theorem d2_5 : decode prog_42_method_1_code 5 = .ok (.aload_n 1, 1) := by decide +kernel
theorem d2_6 : decode prog_42_method_1_code 6 = .ok (.putfield 7, 3) := by decide +kernel
theorem d2_9 : decode prog_42_method_1_code 9 = .ok (.aload_n 0, 1) := by decide +kernel
theorem d2_10 : decode prog_42_method_1_code 10 = .ok (.aload_n 2, 1) := by decide +kernel
theorem d2_11 : decode prog_42_method_1_code 11 = .ok (.putfield 13, 3) := by decide +kernel
theorem d2_14 : decode prog_42_method_1_code 14 = .ok (.aload_n 0, 1) := by decide +kernel
theorem d2_15 : decode prog_42_method_1_code 15 = .ok (.aload_n 3, 1) := by decide +kernel
theorem d2_16 : decode prog_42_method_1_code 16 = .ok (.putfield 16, 3) := by decide +kernel
theorem d2_19 : decode prog_42_method_1_code 19 = .ok (.aload_n 0, 1) := by decide +kernel
theorem d2_20 : decode prog_42_method_1_code 20 = .ok (.aload 4, 2) := by decide +kernel
theorem d2_22 : decode prog_42_method_1_code 22 = .ok (.putfield 20, 3) := by decide +kernel
theorem d2_25 : decode prog_42_method_1_code 25 = .ok (.aload_n 0, 1) := by decide +kernel
theorem d2_26 : decode prog_42_method_1_code 26 = .ok (.aload 5, 2) := by decide +kernel
theorem d2_28 : decode prog_42_method_1_code 28 = .ok (.putfield 24, 3) := by decide +kernel
theorem d2_31 : decode prog_42_method_1_code 31 = .ok (.aload_n 0, 1) := by decide +kernel
theorem d2_32 : decode prog_42_method_1_code 32 = .ok (.aload 6, 2) := by decide +kernel
theorem d2_34 : decode prog_42_method_1_code 34 = .ok (.putfield 28, 3) := by decide +kernel
theorem d2_37 : decode prog_42_method_1_code 37 = .ok (.aload_n 0, 1) := by decide +kernel
theorem d2_38 : decode prog_42_method_1_code 38 = .ok (.aload 7, 2) := by decide +kernel
theorem d2_40 : decode prog_42_method_1_code 40 = .ok (.putfield 31, 3) := by decide +kernel
theorem d2_43 : decode prog_42_method_1_code 43 = .ok (.return_, 1) := by decide +kernel
theorem d4_0 : decode prog_42_method_7_code 0 = .ok (.aload_n 1, 1) := by decide +kernel
theorem d4_1 : decode prog_42_method_7_code 1 = .ok (.arraylength, 1) := by decide +kernel
theorem d4_2 : decode prog_42_method_7_code 2 = .ok (.aload_n 0, 1) := by decide +kernel
theorem d4_3 : decode prog_42_method_7_code 3 = .ok (.getfield 13, 3) := by decide +kernel
theorem d4_6 : decode prog_42_method_7_code 6 = .ok (.arraylength, 1) := by decide +kernel
theorem d4_7 : decode prog_42_method_7_code 7 = .ok (.if_icmp .eq 5, 3) := by decide +kernel
theorem d4_10 : decode prog_42_method_7_code 10 = .ok (.iconst 0, 1) := by decide +kernel
theorem d4_11 : decode prog_42_method_7_code 11 = .ok (.ireturn, 1) := by decide +kernel
theorem d4_12 : decode prog_42_method_7_code 12 = .ok (.aload_n 0, 1) := by decide +kernel
theorem d4_13 : decode prog_42_method_7_code 13 = .ok (.getfield 13, 3) := by decide +kernel
theorem d4_16 : decode prog_42_method_7_code 16 = .ok (.arraylength, 1) := by decide +kernel
theorem d4_17 : decode prog_42_method_7_code 17 = .ok (.newarray .boolean, 2) := by decide +kernel
theorem d4_19 : decode prog_42_method_7_code 19 = .ok (.astore_n 2, 1) := by decide +kernel
theorem d4_20 : decode prog_42_method_7_code 20 = .ok (.aload_n 1, 1) := by decide +kernel
theorem d4_21 : decode prog_42_method_7_code 21 = .ok (.astore_n 3, 1) := by decide +kernel
theorem d4_22 : decode prog_42_method_7_code 22 = .ok (.aload_n 3, 1) := by decide +kernel
theorem d4_23 : decode prog_42_method_7_code 23 = .ok (.arraylength, 1) := by decide +kernel
theorem d4_24 : decode prog_42_method_7_code 24 = .ok (.istore 4, 2) := by decide +kernel
theorem d4_26 : decode prog_42_method_7_code 26 = .ok (.iconst 0, 1) := by decide +kernel
theorem d4_27 : decode prog_42_method_7_code 27 = .ok (.istore 5, 2) := by decide +kernel
theorem d4_29 : decode prog_42_method_7_code 29 = .ok (.iload 5, 2) := by decide +kernel
theorem d4_31 : decode prog_42_method_7_code 31 = .ok (.iload 4, 2) := by decide +kernel
theorem d4_33 : decode prog_42_method_7_code 33 = .ok (.if_icmp .ge 44, 3) := by decide +kernel
theorem d4_36 : decode prog_42_method_7_code 36 = .ok (.aload_n 3, 1) := by decide +kernel
theorem d4_37 : decode prog_42_method_7_code 37 = .ok (.iload 5, 2) := by decide +kernel
theorem d4_39 : decode prog_42_method_7_code 39 = .ok (.iaload, 1) := by decide +kernel
theorem d4_40 : decode prog_42_method_7_code 40 = .ok (.istore 6, 2) := by decide +kernel
theorem d4_42 : decode prog_42_method_7_code 42 = .ok (.iload 6, 2) := by decide +kernel
theorem d4_44 : decode prog_42_method_7_code 44 = .ok (.ifCond .lt 20, 3) := by decide +kernel
theorem d4_47 : decode prog_42_method_7_code 47 = .ok (.iload 6, 2) := by decide +kernel
theorem d4_49 : decode prog_42_method_7_code 49 = .ok (.aload_n 0, 1) := by decide +kernel
theorem d4_50 : decode prog_42_method_7_code 50 = .ok (.getfield 13, 3) := by decide +kernel
theorem d4_53 : decode prog_42_method_7_code 53 = .ok (.arraylength, 1) := by decide +kernel
theorem d4_54 : decode prog_42_method_7_code 54 = .ok (.if_icmp .ge 10, 3) := by decide +kernel
theorem d4_57 : decode prog_42_method_7_code 57 = .ok (.aload_n 2, 1) := by decide +kernel
theorem d4_58 : decode prog_42_method_7_code 58 = .ok (.iload 6, 2) := by decide +kernel
theorem d4_60 : decode prog_42_method_7_code 60 = .ok (.baload, 1) := by decide +kernel
theorem d4_61 : decode prog_42_method_7_code 61 = .ok (.ifCond .eq 5, 3) := by decide +kernel
theorem d4_64 : decode prog_42_method_7_code 64 = .ok (.iconst 0, 1) := by decide +kernel
theorem d4_65 : decode prog_42_method_7_code 65 = .ok (.ireturn, 1) := by decide +kernel
theorem d4_66 : decode prog_42_method_7_code 66 = .ok (.aload_n 2, 1) := by decide +kernel
theorem d4_67 : decode prog_42_method_7_code 67 = .ok (.iload 6, 2) := by decide +kernel
theorem d4_69 : decode prog_42_method_7_code 69 = .ok (.iconst 1, 1) := by decide +kernel
theorem d4_70 : decode prog_42_method_7_code 70 = .ok (.bastore, 1) := by decide +kernel
theorem d4_71 : decode prog_42_method_7_code 71 = .ok (.iinc 5 1, 3) := by decide +kernel
theorem d4_74 : decode prog_42_method_7_code 74 = .ok (.goto (-45), 3) := by decide +kernel
theorem d4_77 : decode prog_42_method_7_code 77 = .ok (.iconst 1, 1) := by decide +kernel
theorem d4_78 : decode prog_42_method_7_code 78 = .ok (.ireturn, 1) := by decide +kernel
theorem d5_0 : decode method_3_code 0 = .ok (.iload_n 0, 1) := by decide +kernel
theorem d5_1 : decode method_3_code 1 = .ok (.ifCond .lt 12, 3) := by decide +kernel
theorem d5_4 : decode method_3_code 4 = .ok (.iload_n 0, 1) := by decide +kernel
theorem d5_5 : decode method_3_code 5 = .ok (.iload_n 1, 1) := by decide +kernel
theorem d5_6 : decode method_3_code 6 = .ok (.if_icmp .ge 7, 3) := by decide +kernel
theorem d5_9 : decode method_3_code 9 = .ok (.iconst 1, 1) := by decide +kernel
theorem d5_10 : decode method_3_code 10 = .ok (.goto 4, 3) := by decide +kernel
theorem d5_13 : decode method_3_code 13 = .ok (.iconst 0, 1) := by decide +kernel
theorem d5_14 : decode method_3_code 14 = .ok (.ireturn, 1) := by decide +kernel
theorem pd0 : parseMethodDescriptor "(I)I" = some ⟨[.int], some .int⟩ := by decide +kernel
theorem pd1 : parseMethodDescriptor "([Ljava/lang/String;[Ljava/lang/String;Ljava/util/Map;[I[D[I[D)V" = some ⟨[(.array (.object "java/lang/String")), (.array (.object "java/lang/String")), (.object "java/util/Map"), (.array .int), (.array .double), (.array .int), (.array .double)], none⟩ := by decide +kernel
theorem pd2 : parseMethodDescriptor "(II)Z" = some ⟨[.int, .int], some .boolean⟩ := by decide +kernel
theorem pd3 : parseMethodDescriptor "([I)Z" = some ⟨[(.array .int)], some .boolean⟩ := by decide +kernel
theorem pn0 : plainName "com/example/arborplan/arborplan/tree/TreeIsEdgeOrderPinLaw" = true := by first | (simp [plainName, overriddenIn]; done) | decide +kernel
theorem pn1 : plainName "com/example/arborplan/arborplan/tree/Tree" = true := by first | (simp [plainName, overriddenIn]; done) | decide +kernel
theorem own_lay_0 {Z : State} {a0 : Array Value} (hw : ∀ d ∈ tables_1, d.before a0 Z = true) : ∀ f ∈ ([("vertexNames", "[Ljava/lang/String;", .null), ("edgeNames", "[Ljava/lang/String;", .null), ("edgeIndex", "Ljava/util/Map;", .null), ("edgeEnds", "[I", .null), ("lengths", "[D", .null), ("pairEnds", "[I", .null), ("weights", "[D", .null)] : List (String × String × Value)), Laid Z a0 "com/example/arborplan/arborplan/tree/Tree" "com/example/arborplan/arborplan/tree/Tree" f.1 f.2.1 ∧ ∃ ty, parseFieldDescriptor f.2.1 = some ty ∧ f.2.2 = defaultValue ty := by
  intro f hf
  simp only [List.mem_cons, List.not_mem_nil, or_false] at hf
  rcases hf with rfl | rfl | rfl | rfl | rfl | rfl | rfl
  · exact ⟨Or.inr (w18 hw), (.array (.object "java/lang/String")), by decide, rfl⟩
  · exact ⟨Or.inr (w20 hw), (.array (.object "java/lang/String")), by decide, rfl⟩
  · exact ⟨Or.inr (w22 hw), (.object "java/util/Map"), by decide, rfl⟩
  · exact ⟨Or.inr (w24 hw), (.array .int), by decide, rfl⟩
  · exact ⟨Or.inr (w26 hw), (.array .double), by decide, rfl⟩
  · exact ⟨Or.inr (w28 hw), (.array .int), by decide, rfl⟩
  · exact ⟨Or.inr (w30 hw), (.array .double), by decide, rfl⟩
def own_pick (x0 : Int32) : Int32 := (if (x0 &&& (8 : Int32)) = (0 : Int32) then ((x0 &&& (7 : Int32)) - (2 : Int32)) else x0)
theorem ef_rm1 (m : MethodId) (x0 : Int32) : entryFrame m #[(.int x0)] 1 = (mkF m 0 #[.val (.int x0)] []) := by first | (simp [entryFrame, mkF, argsToLocals, Value.category]; done) | rfl
set_option maxRecDepth 65536 in
set_option maxHeartbeats 40000000 in
theorem rm1 (l : Launch) (Z : State) (a0 : Array Value) (hw : ∀ d ∈ tables_1, d.before a0 Z = true) (n0 : Nat) (x0 : Int32) (Dr : List (Addr × Itm)) :
    Con l Z n0 (⟨"com/example/arborplan/arborplan/tree/TreeIsEdgeOrderPinLaw", "pick", "(I)I"⟩ : MethodName) method_2_code 1 (some .int) ({ frames := 0, cells := 0, slots := 0, locals := 0 } : Room) #[(.int x0)] Dr (fun v D' => v = some (.int (own_pick x0)) ∧ D' = Dr) := by
  refine Con.of (plainFor_of_name pn0) ?_
  intro p e s m below meth c T cx Y
  obtain ⟨hx, hby, hml, hown, hnm, hret, hlk, hZ⟩ := cx
  rw [ef_rm1]
  generalize hF : Fi Z n0 below s _ _ _ = F
  refine Rn.go (T' := T) (g' := (mkF m 4 #[.val (.int x0)] [(.int (x0 &&& (8 : Int32)))])) (fun t k => ?_) ?_
  · show Steps p.tables e below (T.setTop (mkF m 0 #[.val (.int x0)] [])) t
    refine XS.iloadN Y.here hx rfl (hb hby d1_0) rfl ?_
    show Steps p.tables e below (T.setTop (mkF m 1 #[.val (.int x0)] [(.int x0)])) t
    refine XS.bipush Y.here hx rfl (hb hby d1_1) ?_
    show Steps p.tables e below (T.setTop (mkF m 3 #[.val (.int x0)] [(.int (8 : Int32)), (.int x0)])) t
    refine XS.iand Y.here hx rfl (hb hby d1_3) rfl ?_
    show Steps p.tables e below (T.setTop (mkF m 4 #[.val (.int x0)] [(.int (x0 &&& (8 : Int32)))])) t
    exact k
  by_cases hc4 : (x0 &&& (8 : Int32)) = (0 : Int32)
  · refine Rn.go (T' := T) (g' := (mkF m 9 #[.val (.int x0)] [])) (fun t k => XS.ifYes Y.here hx rfl (pc0 := 4) (pc' := 9) rfl (hb hby d1_4) rfl ((if0 _ _).trans (teq hc4).1) (by decide) (by decide) k) ?_
    refine Rn.go (T' := T) (g' := (mkF m 15 #[.val (.int x0)] [(.int ((x0 &&& (7 : Int32)) - (2 : Int32)))])) (fun t k => ?_) ?_
    · show Steps p.tables e below (T.setTop (mkF m 9 #[.val (.int x0)] [])) t
      refine XS.iloadN Y.here hx rfl (hb hby d1_9) rfl ?_
      show Steps p.tables e below (T.setTop (mkF m 10 #[.val (.int x0)] [(.int x0)])) t
      refine XS.bipush Y.here hx rfl (hb hby d1_10) ?_
      show Steps p.tables e below (T.setTop (mkF m 12 #[.val (.int x0)] [(.int (7 : Int32)), (.int x0)])) t
      refine XS.iand Y.here hx rfl (hb hby d1_12) rfl ?_
      show Steps p.tables e below (T.setTop (mkF m 13 #[.val (.int x0)] [(.int (x0 &&& (7 : Int32)))])) t
      refine XS.iconst Y.here hx rfl (hb hby d1_13) ?_
      show Steps p.tables e below (T.setTop (mkF m 14 #[.val (.int x0)] [(.int (2 : Int32)), (.int (x0 &&& (7 : Int32)))])) t
      refine XS.isub Y.here hx rfl (hb hby d1_14) rfl ?_
      show Steps p.tables e below (T.setTop (mkF m 15 #[.val (.int x0)] [(.int ((x0 &&& (7 : Int32)) - (2 : Int32)))])) t
      exact k
    rw [← hF]; exact On.reti Y hx hret hlk (hb hby d1_15) (by decide) (by decide) ⟨by unfold own_pick; rw [if_pos hc4] <;> rfl, rfl⟩
  · refine Rn.go (T' := T) (g' := (mkF m 7 #[.val (.int x0)] [])) (fun t k => XS.ifNo Y.here hx rfl (hb hby d1_4) rfl ((if0 _ _).trans (feq hc4).1) k) ?_
    refine Rn.go (T' := T) (g' := (mkF m 8 #[.val (.int x0)] [(.int x0)])) (fun t k => ?_) ?_
    · show Steps p.tables e below (T.setTop (mkF m 7 #[.val (.int x0)] [])) t
      refine XS.iloadN Y.here hx rfl (hb hby d1_7) rfl ?_
      show Steps p.tables e below (T.setTop (mkF m 8 #[.val (.int x0)] [(.int x0)])) t
      exact k
    rw [← hF]; exact On.reti Y hx hret hlk (hb hby d1_8) (by decide) (by decide) ⟨by unfold own_pick; rw [if_neg hc4] <;> rfl, rfl⟩
def own_in (x0 : Int32) (x1 : Int32) : Int32 := (if x0 < (0 : Int32) then (0 : Int32) else (if x0 < x1 then (1 : Int32) else (0 : Int32)))
theorem ef_rm5 (m : MethodId) (x0 : Int32) (x1 : Int32) : entryFrame m #[(.int x0), (.int x1)] 2 = (mkF m 0 #[.val (.int x0), .val (.int x1)] []) := by first | (simp [entryFrame, mkF, argsToLocals, Value.category]; done) | rfl
set_option maxRecDepth 65536 in
set_option maxHeartbeats 40000000 in
theorem rm5 (l : Launch) (Z : State) (a0 : Array Value) (hw : ∀ d ∈ tables_1, d.before a0 Z = true) (n0 : Nat) (x0 : Int32) (x1 : Int32) (Dr : List (Addr × Itm)) :
    Con l Z n0 (⟨"com/example/arborplan/arborplan/tree/TreeIsEdgeOrderPinLaw", "in", "(II)Z"⟩ : MethodName) method_3_code 2 (some .boolean) ({ frames := 0, cells := 0, slots := 0, locals := 0 } : Room) #[(.int x0), (.int x1)] Dr (fun v D' => v = some (.int (own_in x0 x1)) ∧ D' = Dr) := by
  refine Con.of (plainFor_of_name pn0) ?_
  intro p e s m below meth c T cx Y
  obtain ⟨hx, hby, hml, hown, hnm, hret, hlk, hZ⟩ := cx
  rw [ef_rm5]
  generalize hF : Fi Z n0 below s _ _ _ = F
  refine Rn.go (T' := T) (g' := (mkF m 1 #[.val (.int x0), .val (.int x1)] [(.int x0)])) (fun t k => ?_) ?_
  · show Steps p.tables e below (T.setTop (mkF m 0 #[.val (.int x0), .val (.int x1)] [])) t
    refine XS.iloadN Y.here hx rfl (hb hby d5_0) rfl ?_
    show Steps p.tables e below (T.setTop (mkF m 1 #[.val (.int x0), .val (.int x1)] [(.int x0)])) t
    exact k
  by_cases hc1 : x0 < (0 : Int32)
  · refine Rn.go (T' := T) (g' := (mkF m 13 #[.val (.int x0), .val (.int x1)] [])) (fun t k => XS.ifYes Y.here hx rfl (pc0 := 1) (pc' := 13) rfl (hb hby d5_1) rfl ((if0 _ _).trans (tlt hc1).1) (by decide) (by decide) k) ?_
    refine Rn.go (T' := T) (g' := (mkF m 14 #[.val (.int x0), .val (.int x1)] [(.int (0 : Int32))])) (fun t k => ?_) ?_
    · show Steps p.tables e below (T.setTop (mkF m 13 #[.val (.int x0), .val (.int x1)] [])) t
      refine XS.iconst Y.here hx rfl (hb hby d5_13) ?_
      show Steps p.tables e below (T.setTop (mkF m 14 #[.val (.int x0), .val (.int x1)] [(.int (0 : Int32))])) t
      exact k
    rw [← hF]; exact On.retn Y hx hret (by simp) hlk (z' := (0 : Int32)) (by decide) (hb hby d5_14) (by decide) (by decide) ⟨by unfold own_in; rw [if_pos hc1] <;> rfl, rfl⟩
  · refine Rn.go (T' := T) (g' := (mkF m 4 #[.val (.int x0), .val (.int x1)] [])) (fun t k => XS.ifNo Y.here hx rfl (hb hby d5_1) rfl ((if0 _ _).trans (flt hc1).1) k) ?_
    refine Rn.go (T' := T) (g' := (mkF m 6 #[.val (.int x0), .val (.int x1)] [(.int x1), (.int x0)])) (fun t k => ?_) ?_
    · show Steps p.tables e below (T.setTop (mkF m 4 #[.val (.int x0), .val (.int x1)] [])) t
      refine XS.iloadN Y.here hx rfl (hb hby d5_4) rfl ?_
      show Steps p.tables e below (T.setTop (mkF m 5 #[.val (.int x0), .val (.int x1)] [(.int x0)])) t
      refine XS.iloadN Y.here hx rfl (hb hby d5_5) rfl ?_
      show Steps p.tables e below (T.setTop (mkF m 6 #[.val (.int x0), .val (.int x1)] [(.int x1), (.int x0)])) t
      exact k
    by_cases hc6 : x0 < x1
    · refine Rn.go (T' := T) (g' := (mkF m 9 #[.val (.int x0), .val (.int x1)] [])) (fun t k => XS.icmpNo Y.here hx rfl (hb hby d5_6) rfl (tlt hc6).2.1 k) ?_
      refine Rn.go (T' := T) (g' := (mkF m 14 #[.val (.int x0), .val (.int x1)] [(.int (1 : Int32))])) (fun t k => ?_) ?_
      · show Steps p.tables e below (T.setTop (mkF m 9 #[.val (.int x0), .val (.int x1)] [])) t
        refine XS.iconst Y.here hx rfl (hb hby d5_9) ?_
        show Steps p.tables e below (T.setTop (mkF m 10 #[.val (.int x0), .val (.int x1)] [(.int (1 : Int32))])) t
        refine XS.goto Y.here hx rfl (pc0 := 10) (pc' := 14) rfl (hb hby d5_10) (by decide) (by decide) ?_
        show Steps p.tables e below (T.setTop (mkF m 14 #[.val (.int x0), .val (.int x1)] [(.int (1 : Int32))])) t
        exact k
      rw [← hF]; exact On.retn Y hx hret (by simp) hlk (z' := (1 : Int32)) (by decide) (hb hby d5_14) (by decide) (by decide) ⟨by unfold own_in; rw [if_neg hc1, if_pos hc6] <;> rfl, rfl⟩
    · refine Rn.go (T' := T) (g' := (mkF m 13 #[.val (.int x0), .val (.int x1)] [])) (fun t k => XS.icmpYes Y.here hx rfl (pc0 := 6) (pc' := 13) rfl (hb hby d5_6) rfl (flt hc6).2.1 (by decide) (by decide) k) ?_
      refine Rn.go (T' := T) (g' := (mkF m 14 #[.val (.int x0), .val (.int x1)] [(.int (0 : Int32))])) (fun t k => ?_) ?_
      · show Steps p.tables e below (T.setTop (mkF m 13 #[.val (.int x0), .val (.int x1)] [])) t
        refine XS.iconst Y.here hx rfl (hb hby d5_13) ?_
        show Steps p.tables e below (T.setTop (mkF m 14 #[.val (.int x0), .val (.int x1)] [(.int (0 : Int32))])) t
        exact k
      rw [← hF]; exact On.retn Y hx hret (by simp) hlk (z' := (0 : Int32)) (by decide) (hb hby d5_14) (by decide) (by decide) ⟨by unfold own_in; rw [if_neg hc1, if_neg hc6] <;> rfl, rfl⟩
theorem ef_rm2 (m : MethodId) (t0 : Addr) (f0 : Addr) (bn : Addr) (f3 : Addr) (f4 : Addr) (f5 : Addr) (f6 : Addr) : entryFrame m #[(.ref t0), (.ref f0), (.ref bn), .null, (.ref f3), (.ref f4), (.ref f5), (.ref f6)] 8 = (mkF m 0 #[.val (.ref t0), .val (.ref f0), .val (.ref bn), .val .null, .val (.ref f3), .val (.ref f4), .val (.ref f5), .val (.ref f6)] []) := by first | (simp [entryFrame, mkF, argsToLocals, Value.category]; done) | rfl
set_option maxRecDepth 65536 in
set_option maxHeartbeats 40000000 in
theorem rm2 (l : Launch) (Z : State) (a0 : Array Value) (hw : ∀ d ∈ tables_1, d.before a0 Z = true) (n0 : Nat) (t0 : Addr) (f0 : Addr) (bn : Addr) (f3 : Addr) (f4 : Addr) (f5 : Addr) (f6 : Addr) (it0 : Addr × Itm) (Dr : List (Addr × Itm)) :
    Con l Z n0 (⟨"com/example/arborplan/arborplan/tree/Tree", "<init>", "([Ljava/lang/String;[Ljava/lang/String;Ljava/util/Map;[I[D[I[D)V"⟩ : MethodName) prog_42_method_1_code 8 none ({ frames := 1, cells := 0, slots := 0, locals := 12 } : Room) #[(.ref t0), (.ref f0), (.ref bn), .null, (.ref f3), (.ref f4), (.ref f5), (.ref f6)] ((it0) :: (ob t0 own_C0 (own_F0 .null .null .null .null .null .null .null)) :: Dr) (fun v D' => v = none ∧ D' = ((it0) :: (ob t0 own_C0 (own_F0 (.ref f0) (.ref bn) .null (.ref f3) (.ref f4) (.ref f5) (.ref f6))) :: Dr)) := by
  refine Con.of (plainFor_of_name pn1) ?_
  intro p e s m below meth c T cx Y
  obtain ⟨hx, hby, hml, hown, hnm, hret, hlk, hZ⟩ := cx
  rw [ef_rm2]
  generalize hF : Fi Z n0 below s _ _ _ = F
  refine Rn.go (T' := T) (g' := (mkF m 1 #[.val (.ref t0), .val (.ref f0), .val (.ref bn), .val .null, .val (.ref f3), .val (.ref f4), .val (.ref f5), .val (.ref f6)] [(.ref t0)])) (fun t k => ?_) ?_
  · show Steps p.tables e below (T.setTop (mkF m 0 #[.val (.ref t0), .val (.ref f0), .val (.ref bn), .val .null, .val (.ref f3), .val (.ref f4), .val (.ref f5), .val (.ref f6)] [])) t
    refine XS.aloadN Y.here hx rfl (hb hby d2_0) rfl rfl ?_
    show Steps p.tables e below (T.setTop (mkF m 1 #[.val (.ref t0), .val (.ref f0), .val (.ref bn), .val .null, .val (.ref f3), .val (.ref f4), .val (.ref f5), .val (.ref f6)] [(.ref t0)])) t
    exact k
  refine On.ini Y hx hZ hown (w14 hw) (w15 hw) (w16 hw) (g := (mkF m 1 #[.val (.ref t0), .val (.ref f0), .val (.ref bn), .val .null, .val (.ref f3), .val (.ref f4), .val (.ref f5), .val (.ref f6)] [(.ref t0)])) rfl (by rw [hml]; rfl) rfl (hb hby d2_1) (by decide) (W := 0) (by show 2 * 0 + _ ≤ _; exact Nat.le_of_eq rfl) (by decide) fun T1 Y2 => ?_
  show Rn p e below F T1 (mkF m 4 #[.val (.ref t0), .val (.ref f0), .val (.ref bn), .val .null, .val (.ref f3), .val (.ref f4), .val (.ref f5), .val (.ref f6)] [])
  refine Rn.go (T' := T1) (g' := (mkF m 6 #[.val (.ref t0), .val (.ref f0), .val (.ref bn), .val .null, .val (.ref f3), .val (.ref f4), .val (.ref f5), .val (.ref f6)] [(.ref f0), (.ref t0)])) (fun t k => ?_) ?_
  · show Steps p.tables e below (T1.setTop (mkF m 4 #[.val (.ref t0), .val (.ref f0), .val (.ref bn), .val .null, .val (.ref f3), .val (.ref f4), .val (.ref f5), .val (.ref f6)] [])) t
    refine XS.aloadN Y2.here hx rfl (hb hby d2_4) rfl rfl ?_
    show Steps p.tables e below (T1.setTop (mkF m 5 #[.val (.ref t0), .val (.ref f0), .val (.ref bn), .val .null, .val (.ref f3), .val (.ref f4), .val (.ref f5), .val (.ref f6)] [(.ref t0)])) t
    refine XS.aloadN Y2.here hx rfl (hb hby d2_5) rfl rfl ?_
    show Steps p.tables e below (T1.setTop (mkF m 6 #[.val (.ref t0), .val (.ref f0), .val (.ref bn), .val .null, .val (.ref f3), .val (.ref f4), .val (.ref f5), .val (.ref f6)] [(.ref f0), (.ref t0)])) t
    exact k
  refine On.putf Y2 hx hZ hown (w17 hw) (i := 1) (j := 0) rfl rfl (Or.inr ⟨(w18 hw), rfl, hnm⟩) (w7 hw) (ty := (.array (.object "java/lang/String"))) (by decide) (v' := (.ref f0)) rfl rfl (g := (mkF m 6 #[.val (.ref t0), .val (.ref f0), .val (.ref bn), .val .null, .val (.ref f3), .val (.ref f4), .val (.ref f5), .val (.ref f6)] [(.ref f0), (.ref t0)])) rfl rfl (hb hby d2_6) fun T3 Y4 => ?_
  replace Y4 : On p l e _ s m _ below meth c Z n0 T3 0 0 ((it0) :: (ob t0 own_C0 (own_F0 (.ref f0) .null .null .null .null .null .null)) :: Dr) := Y4
  show Rn p e below F T3 (mkF m 9 #[.val (.ref t0), .val (.ref f0), .val (.ref bn), .val .null, .val (.ref f3), .val (.ref f4), .val (.ref f5), .val (.ref f6)] [])
  refine Rn.go (T' := T3) (g' := (mkF m 11 #[.val (.ref t0), .val (.ref f0), .val (.ref bn), .val .null, .val (.ref f3), .val (.ref f4), .val (.ref f5), .val (.ref f6)] [(.ref bn), (.ref t0)])) (fun t k => ?_) ?_
  · show Steps p.tables e below (T3.setTop (mkF m 9 #[.val (.ref t0), .val (.ref f0), .val (.ref bn), .val .null, .val (.ref f3), .val (.ref f4), .val (.ref f5), .val (.ref f6)] [])) t
    refine XS.aloadN Y4.here hx rfl (hb hby d2_9) rfl rfl ?_
    show Steps p.tables e below (T3.setTop (mkF m 10 #[.val (.ref t0), .val (.ref f0), .val (.ref bn), .val .null, .val (.ref f3), .val (.ref f4), .val (.ref f5), .val (.ref f6)] [(.ref t0)])) t
    refine XS.aloadN Y4.here hx rfl (hb hby d2_10) rfl rfl ?_
    show Steps p.tables e below (T3.setTop (mkF m 11 #[.val (.ref t0), .val (.ref f0), .val (.ref bn), .val .null, .val (.ref f3), .val (.ref f4), .val (.ref f5), .val (.ref f6)] [(.ref bn), (.ref t0)])) t
    exact k
  refine On.putf Y4 hx hZ hown (w19 hw) (i := 1) (j := 1) rfl rfl (Or.inr ⟨(w20 hw), rfl, hnm⟩) (w7 hw) (ty := (.array (.object "java/lang/String"))) (by decide) (v' := (.ref bn)) rfl rfl (g := (mkF m 11 #[.val (.ref t0), .val (.ref f0), .val (.ref bn), .val .null, .val (.ref f3), .val (.ref f4), .val (.ref f5), .val (.ref f6)] [(.ref bn), (.ref t0)])) rfl rfl (hb hby d2_11) fun T5 Y6 => ?_
  replace Y6 : On p l e _ s m _ below meth c Z n0 T5 0 0 ((it0) :: (ob t0 own_C0 (own_F0 (.ref f0) (.ref bn) .null .null .null .null .null)) :: Dr) := Y6
  show Rn p e below F T5 (mkF m 14 #[.val (.ref t0), .val (.ref f0), .val (.ref bn), .val .null, .val (.ref f3), .val (.ref f4), .val (.ref f5), .val (.ref f6)] [])
  refine Rn.go (T' := T5) (g' := (mkF m 16 #[.val (.ref t0), .val (.ref f0), .val (.ref bn), .val .null, .val (.ref f3), .val (.ref f4), .val (.ref f5), .val (.ref f6)] [.null, (.ref t0)])) (fun t k => ?_) ?_
  · show Steps p.tables e below (T5.setTop (mkF m 14 #[.val (.ref t0), .val (.ref f0), .val (.ref bn), .val .null, .val (.ref f3), .val (.ref f4), .val (.ref f5), .val (.ref f6)] [])) t
    refine XS.aloadN Y6.here hx rfl (hb hby d2_14) rfl rfl ?_
    show Steps p.tables e below (T5.setTop (mkF m 15 #[.val (.ref t0), .val (.ref f0), .val (.ref bn), .val .null, .val (.ref f3), .val (.ref f4), .val (.ref f5), .val (.ref f6)] [(.ref t0)])) t
    refine XS.aloadN Y6.here hx rfl (hb hby d2_15) rfl rfl ?_
    show Steps p.tables e below (T5.setTop (mkF m 16 #[.val (.ref t0), .val (.ref f0), .val (.ref bn), .val .null, .val (.ref f3), .val (.ref f4), .val (.ref f5), .val (.ref f6)] [.null, (.ref t0)])) t
    exact k
  refine On.putf Y6 hx hZ hown (w21 hw) (i := 1) (j := 2) rfl rfl (Or.inr ⟨(w22 hw), rfl, hnm⟩) (w7 hw) (ty := (.object "java/util/Map")) (by decide) (v' := .null) rfl rfl (g := (mkF m 16 #[.val (.ref t0), .val (.ref f0), .val (.ref bn), .val .null, .val (.ref f3), .val (.ref f4), .val (.ref f5), .val (.ref f6)] [.null, (.ref t0)])) rfl rfl (hb hby d2_16) fun T7 Y8 => ?_
  replace Y8 : On p l e _ s m _ below meth c Z n0 T7 0 0 ((it0) :: (ob t0 own_C0 (own_F0 (.ref f0) (.ref bn) .null .null .null .null .null)) :: Dr) := Y8
  show Rn p e below F T7 (mkF m 19 #[.val (.ref t0), .val (.ref f0), .val (.ref bn), .val .null, .val (.ref f3), .val (.ref f4), .val (.ref f5), .val (.ref f6)] [])
  refine Rn.go (T' := T7) (g' := (mkF m 22 #[.val (.ref t0), .val (.ref f0), .val (.ref bn), .val .null, .val (.ref f3), .val (.ref f4), .val (.ref f5), .val (.ref f6)] [(.ref f3), (.ref t0)])) (fun t k => ?_) ?_
  · show Steps p.tables e below (T7.setTop (mkF m 19 #[.val (.ref t0), .val (.ref f0), .val (.ref bn), .val .null, .val (.ref f3), .val (.ref f4), .val (.ref f5), .val (.ref f6)] [])) t
    refine XS.aloadN Y8.here hx rfl (hb hby d2_19) rfl rfl ?_
    show Steps p.tables e below (T7.setTop (mkF m 20 #[.val (.ref t0), .val (.ref f0), .val (.ref bn), .val .null, .val (.ref f3), .val (.ref f4), .val (.ref f5), .val (.ref f6)] [(.ref t0)])) t
    refine XS.aload Y8.here hx rfl (hb hby d2_20) rfl rfl ?_
    show Steps p.tables e below (T7.setTop (mkF m 22 #[.val (.ref t0), .val (.ref f0), .val (.ref bn), .val .null, .val (.ref f3), .val (.ref f4), .val (.ref f5), .val (.ref f6)] [(.ref f3), (.ref t0)])) t
    exact k
  refine On.putf Y8 hx hZ hown (w23 hw) (i := 1) (j := 3) rfl rfl (Or.inr ⟨(w24 hw), rfl, hnm⟩) (w7 hw) (ty := (.array .int)) (by decide) (v' := (.ref f3)) rfl rfl (g := (mkF m 22 #[.val (.ref t0), .val (.ref f0), .val (.ref bn), .val .null, .val (.ref f3), .val (.ref f4), .val (.ref f5), .val (.ref f6)] [(.ref f3), (.ref t0)])) rfl rfl (hb hby d2_22) fun T9 Y10 => ?_
  replace Y10 : On p l e _ s m _ below meth c Z n0 T9 0 0 ((it0) :: (ob t0 own_C0 (own_F0 (.ref f0) (.ref bn) .null (.ref f3) .null .null .null)) :: Dr) := Y10
  show Rn p e below F T9 (mkF m 25 #[.val (.ref t0), .val (.ref f0), .val (.ref bn), .val .null, .val (.ref f3), .val (.ref f4), .val (.ref f5), .val (.ref f6)] [])
  refine Rn.go (T' := T9) (g' := (mkF m 28 #[.val (.ref t0), .val (.ref f0), .val (.ref bn), .val .null, .val (.ref f3), .val (.ref f4), .val (.ref f5), .val (.ref f6)] [(.ref f4), (.ref t0)])) (fun t k => ?_) ?_
  · show Steps p.tables e below (T9.setTop (mkF m 25 #[.val (.ref t0), .val (.ref f0), .val (.ref bn), .val .null, .val (.ref f3), .val (.ref f4), .val (.ref f5), .val (.ref f6)] [])) t
    refine XS.aloadN Y10.here hx rfl (hb hby d2_25) rfl rfl ?_
    show Steps p.tables e below (T9.setTop (mkF m 26 #[.val (.ref t0), .val (.ref f0), .val (.ref bn), .val .null, .val (.ref f3), .val (.ref f4), .val (.ref f5), .val (.ref f6)] [(.ref t0)])) t
    refine XS.aload Y10.here hx rfl (hb hby d2_26) rfl rfl ?_
    show Steps p.tables e below (T9.setTop (mkF m 28 #[.val (.ref t0), .val (.ref f0), .val (.ref bn), .val .null, .val (.ref f3), .val (.ref f4), .val (.ref f5), .val (.ref f6)] [(.ref f4), (.ref t0)])) t
    exact k
  refine On.putf Y10 hx hZ hown (w25 hw) (i := 1) (j := 4) rfl rfl (Or.inr ⟨(w26 hw), rfl, hnm⟩) (w7 hw) (ty := (.array .double)) (by decide) (v' := (.ref f4)) rfl rfl (g := (mkF m 28 #[.val (.ref t0), .val (.ref f0), .val (.ref bn), .val .null, .val (.ref f3), .val (.ref f4), .val (.ref f5), .val (.ref f6)] [(.ref f4), (.ref t0)])) rfl rfl (hb hby d2_28) fun T11 Y12 => ?_
  replace Y12 : On p l e _ s m _ below meth c Z n0 T11 0 0 ((it0) :: (ob t0 own_C0 (own_F0 (.ref f0) (.ref bn) .null (.ref f3) (.ref f4) .null .null)) :: Dr) := Y12
  show Rn p e below F T11 (mkF m 31 #[.val (.ref t0), .val (.ref f0), .val (.ref bn), .val .null, .val (.ref f3), .val (.ref f4), .val (.ref f5), .val (.ref f6)] [])
  refine Rn.go (T' := T11) (g' := (mkF m 34 #[.val (.ref t0), .val (.ref f0), .val (.ref bn), .val .null, .val (.ref f3), .val (.ref f4), .val (.ref f5), .val (.ref f6)] [(.ref f5), (.ref t0)])) (fun t k => ?_) ?_
  · show Steps p.tables e below (T11.setTop (mkF m 31 #[.val (.ref t0), .val (.ref f0), .val (.ref bn), .val .null, .val (.ref f3), .val (.ref f4), .val (.ref f5), .val (.ref f6)] [])) t
    refine XS.aloadN Y12.here hx rfl (hb hby d2_31) rfl rfl ?_
    show Steps p.tables e below (T11.setTop (mkF m 32 #[.val (.ref t0), .val (.ref f0), .val (.ref bn), .val .null, .val (.ref f3), .val (.ref f4), .val (.ref f5), .val (.ref f6)] [(.ref t0)])) t
    refine XS.aload Y12.here hx rfl (hb hby d2_32) rfl rfl ?_
    show Steps p.tables e below (T11.setTop (mkF m 34 #[.val (.ref t0), .val (.ref f0), .val (.ref bn), .val .null, .val (.ref f3), .val (.ref f4), .val (.ref f5), .val (.ref f6)] [(.ref f5), (.ref t0)])) t
    exact k
  refine On.putf Y12 hx hZ hown (w27 hw) (i := 1) (j := 5) rfl rfl (Or.inr ⟨(w28 hw), rfl, hnm⟩) (w7 hw) (ty := (.array .int)) (by decide) (v' := (.ref f5)) rfl rfl (g := (mkF m 34 #[.val (.ref t0), .val (.ref f0), .val (.ref bn), .val .null, .val (.ref f3), .val (.ref f4), .val (.ref f5), .val (.ref f6)] [(.ref f5), (.ref t0)])) rfl rfl (hb hby d2_34) fun T13 Y14 => ?_
  replace Y14 : On p l e _ s m _ below meth c Z n0 T13 0 0 ((it0) :: (ob t0 own_C0 (own_F0 (.ref f0) (.ref bn) .null (.ref f3) (.ref f4) (.ref f5) .null)) :: Dr) := Y14
  show Rn p e below F T13 (mkF m 37 #[.val (.ref t0), .val (.ref f0), .val (.ref bn), .val .null, .val (.ref f3), .val (.ref f4), .val (.ref f5), .val (.ref f6)] [])
  refine Rn.go (T' := T13) (g' := (mkF m 40 #[.val (.ref t0), .val (.ref f0), .val (.ref bn), .val .null, .val (.ref f3), .val (.ref f4), .val (.ref f5), .val (.ref f6)] [(.ref f6), (.ref t0)])) (fun t k => ?_) ?_
  · show Steps p.tables e below (T13.setTop (mkF m 37 #[.val (.ref t0), .val (.ref f0), .val (.ref bn), .val .null, .val (.ref f3), .val (.ref f4), .val (.ref f5), .val (.ref f6)] [])) t
    refine XS.aloadN Y14.here hx rfl (hb hby d2_37) rfl rfl ?_
    show Steps p.tables e below (T13.setTop (mkF m 38 #[.val (.ref t0), .val (.ref f0), .val (.ref bn), .val .null, .val (.ref f3), .val (.ref f4), .val (.ref f5), .val (.ref f6)] [(.ref t0)])) t
    refine XS.aload Y14.here hx rfl (hb hby d2_38) rfl rfl ?_
    show Steps p.tables e below (T13.setTop (mkF m 40 #[.val (.ref t0), .val (.ref f0), .val (.ref bn), .val .null, .val (.ref f3), .val (.ref f4), .val (.ref f5), .val (.ref f6)] [(.ref f6), (.ref t0)])) t
    exact k
  refine On.putf Y14 hx hZ hown (w29 hw) (i := 1) (j := 6) rfl rfl (Or.inr ⟨(w30 hw), rfl, hnm⟩) (w7 hw) (ty := (.array .double)) (by decide) (v' := (.ref f6)) rfl rfl (g := (mkF m 40 #[.val (.ref t0), .val (.ref f0), .val (.ref bn), .val .null, .val (.ref f3), .val (.ref f4), .val (.ref f5), .val (.ref f6)] [(.ref f6), (.ref t0)])) rfl rfl (hb hby d2_40) fun T15 Y16 => ?_
  replace Y16 : On p l e _ s m _ below meth c Z n0 T15 0 0 ((it0) :: (ob t0 own_C0 (own_F0 (.ref f0) (.ref bn) .null (.ref f3) (.ref f4) (.ref f5) (.ref f6))) :: Dr) := Y16
  show Rn p e below F T15 (mkF m 43 #[.val (.ref t0), .val (.ref f0), .val (.ref bn), .val .null, .val (.ref f3), .val (.ref f4), .val (.ref f5), .val (.ref f6)] [])
  rw [← hF]; exact On.retv Y16 hx hret hlk (hb hby d2_43) (by decide) (by decide) ⟨rfl, rfl⟩
/-! ## G. isEdgeOrder, plainly: the places met so far in a list -/
def own_ev (nn : Int32) (xs : List Int32) : Nat → Nat → List Int32 → Int32
  | 0, _, _ => 1
  | k + 1, i, vis => if xs.getD i 0 < 0 then 0 else if xs.getD i 0 < nn then (if xs.getD i 0 ∈ vis then 0 else own_ev nn xs k (i + 1) (xs.getD i 0 :: vis)) else 0
theorem own_ev0 (nn : Int32) (xs : List Int32) (i : Nat) (vis : List Int32) : own_ev nn xs 0 i vis = 1 := rfl
theorem own_evS (nn : Int32) (xs : List Int32) (k i : Nat) (vis : List Int32) : own_ev nn xs (k + 1) i vis = if xs.getD i 0 < 0 then 0 else if xs.getD i 0 < nn then (if xs.getD i 0 ∈ vis then 0 else own_ev nn xs k (i + 1) (xs.getD i 0 :: vis)) else 0 := rfl
def own_seen (nn : Int32) (sn vis : List Int32) : Prop := sn.length = nn.toNatClampNeg ∧ ∀ j : Int32, ¬ j < 0 → j < nn → (sn.getD j.toNatClampNeg 0 = 0 ↔ j ∉ vis)
theorem own_at {xs : List Int32} {j : Int32} (h0 : 0 ≤ j.toInt) (h1 : j.toInt < xs.length) : ¬ j < 0 ∧ xs[j.toNatClampNeg]? = some (xs.getD j.toNatClampNeg 0) := by
  refine ⟨?_, ?_⟩
  · rw [Int32.lt_iff_toInt_lt]; have : (0 : Int32).toInt = 0 := rfl; omega
  · have hl : j.toNatClampNeg < xs.length := by rw [own_nat]; omega
    rw [List.getD_eq_getElem?_getD, List.getElem?_eq_getElem hl]; rfl
theorem own_pos {j nn : Int32} (h0 : ¬ j < 0) (h1 : j < nn) : 0 ≤ j.toInt ∧ j.toInt < nn.toInt := by
  rw [Int32.lt_iff_toInt_lt] at h0 h1; have : (0 : Int32).toInt = 0 := rfl; omega
theorem own_mark {nn : Int32} {sn vis : List Int32} {q : Int32} (h : own_seen nn sn vis) (h0 : ¬ q < 0) (h1 : q < nn) : own_seen nn (sn.set q.toNatClampNeg 1) (q :: vis) := by
  have hq := own_pos h0 h1
  refine ⟨by rw [List.length_set]; exact h.1, fun j j0 j1 => ?_⟩
  have hj := own_pos j0 j1
  have hl : q.toNatClampNeg < sn.length := by rw [h.1, own_nat, own_nat]; omega
  rw [List.getD_eq_getElem?_getD, List.getElem?_set]
  by_cases e : q.toNatClampNeg = j.toNatClampNeg
  · have e2 : j = q := Int32.toInt_inj.mp (by rw [own_nat, own_nat] at e; omega)
    subst e2
    simp [hl]
  · have e2 : j ≠ q := fun z => e (by rw [z])
    have := h.2 j j0 j1
    rw [List.getD_eq_getElem?_getD] at this
    simp only [e, if_false, List.mem_cons, e2, false_or]
    exact this
theorem own_seen0 (nn : Int32) : own_seen nn (List.replicate nn.toNatClampNeg 0) [] := by
  refine ⟨by simp, fun j j0 j1 => ?_⟩
  have hj := own_pos j0 j1
  have : j.toNatClampNeg < nn.toNatClampNeg := by rw [own_nat, own_nat]; omega
  simp [List.getD_eq_getElem?_getD, List.getElem?_replicate, this]
theorem own_os6 {z0 z1 z2 z3 z4 z5 : Value} {sl : Slot} {v : Int32} (h : One sl) : storeLocals #[.val z0, .val z1, .val z2, .val z3, .val z4, .val z5, sl] 6 (.int v) = some #[.val z0, .val z1, .val z2, .val z3, .val z4, .val z5, .val (.int v)] := by
  rcases h with rfl | ⟨w, rfl, hw⟩
  · rfl
  · cases w <;> first | rfl | (simp [Value.category] at hw)
theorem own_P {D : List (Addr × Itm)} {z z' : Int32} (h : z = z') (P : True) : (fun v (_ : List (Addr × Itm)) => v = some (Value.int z')) (some (.int z)) D := by subst h; rfl
theorem own_nn {z : Int32} (h : 0 ≤ z.toInt) : ¬ z < 0 := by rw [Int32.lt_iff_toInt_lt]; have : (0 : Int32).toInt = 0 := rfl; omega
set_option maxRecDepth 65536 in
set_option maxHeartbeats 40000000 in
theorem own_loop {p : Program} {l : Launch} {e : Env} {R : Room} {s : State} {m : MethodId} {args : Array Value} {below : List Frame} {meth : Method} {c : Code} {Z : State} {a0 : Array Value} {n0 : Nat} {F : State → Prop} {cells slots : Nat} (hx : p.tables.exec = Jvm.exec) (hby : c.code = prog_42_method_7_code) (hml : c.maxLocals = 7) (hown : s.vm.findClass "com/example/arborplan/arborplan/tree/Tree" = some m.cls) (hZ : Z.Warmed39 s.vm) (hw : ∀ d ∈ tables_1, d.before a0 Z = true) (bn t0 od sb f0 f3 f4 f5 f6 : Addr) (nn mm : Int32) (vs : List Value) (xs : List Int32) (hxl : xs.length = mm.toNatClampNeg) (hm : 0 ≤ mm.toInt ∧ mm.toInt ≤ 1000) :
    ∀ (k : Nat) (i : Int32) (s6 : Slot) (sn vis : List Int32) {T : State}, One s6 → i.toInt + k = mm.toInt → 0 ≤ i.toInt → own_seen nn sn vis → On p l e R s m args below meth c Z n0 T cells slots [ar bn (.object "java/lang/String") nn vs, ob t0 own_C0 (own_F0 (.ref f0) (.ref bn) .null (.ref f3) (.ref f4) (.ref f5) (.ref f6)), ari od .int mm xs, ari sb .boolean nn sn] → (∀ (T' : State) (i' : Int32) (s6' : Slot) (sn' : List Int32), own_ev nn xs k i.toNatClampNeg vis = 0 → On p l e R s m args below meth c Z n0 T' cells slots [ar bn (.object "java/lang/String") nn vs, ob t0 own_C0 (own_F0 (.ref f0) (.ref bn) .null (.ref f3) (.ref f4) (.ref f5) (.ref f6)), ari od .int mm xs, ari sb .boolean nn sn'] → Rn p e below F T' (mkF m 64 #[.val (.ref t0), .val (.ref od), .val (.ref sb), .val (.ref od), .val (.int mm), .val (.int i'), s6'] [])) → (∀ (T' : State) (i' : Int32) (s6' : Slot) (sn' : List Int32), own_ev nn xs k i.toNatClampNeg vis = 1 → On p l e R s m args below meth c Z n0 T' cells slots [ar bn (.object "java/lang/String") nn vs, ob t0 own_C0 (own_F0 (.ref f0) (.ref bn) .null (.ref f3) (.ref f4) (.ref f5) (.ref f6)), ari od .int mm xs, ari sb .boolean nn sn'] → Rn p e below F T' (mkF m 77 #[.val (.ref t0), .val (.ref od), .val (.ref sb), .val (.ref od), .val (.int mm), .val (.int i'), s6'] [])) → Rn p e below F T (mkF m 29 #[.val (.ref t0), .val (.ref od), .val (.ref sb), .val (.ref od), .val (.int mm), .val (.int i), s6] []) := by
  intro k
  induction k with
  | zero =>
    intro i s6 sn vis T hs6 he hi hsn Y kk0 kk1
    refine Rn.go (T' := T) (g' := (mkF m 33 #[.val (.ref t0), .val (.ref od), .val (.ref sb), .val (.ref od), .val (.int mm), .val (.int i), s6] [(.int mm), (.int i)])) (fun t k => ?_) ?_
    · show Steps p.tables e below (T.setTop (mkF m 29 #[.val (.ref t0), .val (.ref od), .val (.ref sb), .val (.ref od), .val (.int mm), .val (.int i), s6] [])) t
      refine XS.iload Y.here hx rfl (hb hby d4_29) rfl ?_
      show Steps p.tables e below (T.setTop (mkF m 31 #[.val (.ref t0), .val (.ref od), .val (.ref sb), .val (.ref od), .val (.int mm), .val (.int i), s6] [(.int i)])) t
      refine XS.iload Y.here hx rfl (hb hby d4_31) rfl ?_
      show Steps p.tables e below (T.setTop (mkF m 33 #[.val (.ref t0), .val (.ref od), .val (.ref sb), .val (.ref od), .val (.int mm), .val (.int i), s6] [(.int mm), (.int i)])) t
      exact k
    refine Rn.go (T' := T) (g' := (mkF m 77 #[.val (.ref t0), .val (.ref od), .val (.ref sb), .val (.ref od), .val (.int mm), .val (.int i), s6] [])) (fun t k => XS.icmpYes Y.here hx rfl (pc0 := 33) (pc' := 77) rfl (hb hby d4_33) rfl (flt (by rw [Int32.lt_iff_toInt_lt]; omega)).2.1 (by decide) (by decide) k) ?_
    exact kk1 _ _ _ _ rfl Y
  | succ k ih =>
    intro i s6 sn vis T hs6 he hi hsn Y kk0 kk1
    have h1 : (1 : Int32).toInt = 1 := rfl
    have ei : (i + 1).toInt = i.toInt + 1 := by rw [Jvm.Kit.i32_add (by rw [h1]; omega) (by rw [h1]; omega), h1]
    have eni : i.toNatClampNeg + 1 = (i + 1).toNatClampNeg := by rw [own_nat, own_nat]; omega
    have ha := own_at (xs := xs) hi (by rw [hxl, own_nat]; omega)
    refine Rn.go (T' := T) (g' := (mkF m 33 #[.val (.ref t0), .val (.ref od), .val (.ref sb), .val (.ref od), .val (.int mm), .val (.int i), s6] [(.int mm), (.int i)])) (fun t k => ?_) ?_
    · show Steps p.tables e below (T.setTop (mkF m 29 #[.val (.ref t0), .val (.ref od), .val (.ref sb), .val (.ref od), .val (.int mm), .val (.int i), s6] [])) t
      refine XS.iload Y.here hx rfl (hb hby d4_29) rfl ?_
      show Steps p.tables e below (T.setTop (mkF m 31 #[.val (.ref t0), .val (.ref od), .val (.ref sb), .val (.ref od), .val (.int mm), .val (.int i), s6] [(.int i)])) t
      refine XS.iload Y.here hx rfl (hb hby d4_31) rfl ?_
      show Steps p.tables e below (T.setTop (mkF m 33 #[.val (.ref t0), .val (.ref od), .val (.ref sb), .val (.ref od), .val (.int mm), .val (.int i), s6] [(.int mm), (.int i)])) t
      exact k
    refine Rn.go (T' := T) (g' := (mkF m 36 #[.val (.ref t0), .val (.ref od), .val (.ref sb), .val (.ref od), .val (.int mm), .val (.int i), s6] [])) (fun t k => XS.icmpNo Y.here hx rfl (hb hby d4_33) rfl (tlt (by rw [Int32.lt_iff_toInt_lt]; omega)).2.1 k) ?_
    refine Rn.go (T' := T) (g' := (mkF m 39 #[.val (.ref t0), .val (.ref od), .val (.ref sb), .val (.ref od), .val (.int mm), .val (.int i), s6] [(.int i), (.ref od)])) (fun t k => ?_) ?_
    · show Steps p.tables e below (T.setTop (mkF m 36 #[.val (.ref t0), .val (.ref od), .val (.ref sb), .val (.ref od), .val (.int mm), .val (.int i), s6] [])) t
      refine XS.aloadN Y.here hx rfl (hb hby d4_36) rfl rfl ?_
      show Steps p.tables e below (T.setTop (mkF m 37 #[.val (.ref t0), .val (.ref od), .val (.ref sb), .val (.ref od), .val (.int mm), .val (.int i), s6] [(.ref od)])) t
      refine XS.iload Y.here hx rfl (hb hby d4_37) rfl ?_
      show Steps p.tables e below (T.setTop (mkF m 39 #[.val (.ref t0), .val (.ref od), .val (.ref sb), .val (.ref od), .val (.int mm), .val (.int i), s6] [(.int i), (.ref od)])) t
      exact k
    refine On.ild Y hx hZ (i := 2) rfl (k := i) (x := (xs.getD i.toNatClampNeg 0)) ha.1 ha.2 (g := (mkF m 39 #[.val (.ref t0), .val (.ref od), .val (.ref sb), .val (.ref od), .val (.int mm), .val (.int i), s6] [(.int i), (.ref od)])) rfl rfl (hb hby d4_39) ?_
    show Rn p e below F T (mkF m 40 #[.val (.ref t0), .val (.ref od), .val (.ref sb), .val (.ref od), .val (.int mm), .val (.int i), s6] [(.int (xs.getD i.toNatClampNeg 0))])
    refine Rn.go (T' := T) (g' := (mkF m 44 #[.val (.ref t0), .val (.ref od), .val (.ref sb), .val (.ref od), .val (.int mm), .val (.int i), .val (.int (xs.getD i.toNatClampNeg 0))] [(.int (xs.getD i.toNatClampNeg 0))])) (fun t k => ?_) ?_
    · show Steps p.tables e below (T.setTop (mkF m 40 #[.val (.ref t0), .val (.ref od), .val (.ref sb), .val (.ref od), .val (.int mm), .val (.int i), s6] [(.int (xs.getD i.toNatClampNeg 0))])) t
      refine XS.istore Y.here hx rfl (hb hby d4_40) rfl (l' := #[.val (.ref t0), .val (.ref od), .val (.ref sb), .val (.ref od), .val (.int mm), .val (.int i), .val (.int (xs.getD i.toNatClampNeg 0))]) (own_os6 hs6) ?_
      show Steps p.tables e below (T.setTop (mkF m 42 #[.val (.ref t0), .val (.ref od), .val (.ref sb), .val (.ref od), .val (.int mm), .val (.int i), .val (.int (xs.getD i.toNatClampNeg 0))] [])) t
      refine XS.iload Y.here hx rfl (hb hby d4_42) rfl ?_
      show Steps p.tables e below (T.setTop (mkF m 44 #[.val (.ref t0), .val (.ref od), .val (.ref sb), .val (.ref od), .val (.int mm), .val (.int i), .val (.int (xs.getD i.toNatClampNeg 0))] [(.int (xs.getD i.toNatClampNeg 0))])) t
      exact k
    by_cases hc44 : (xs.getD i.toNatClampNeg 0) < (0 : Int32)
    · refine Rn.go (T' := T) (g' := (mkF m 64 #[.val (.ref t0), .val (.ref od), .val (.ref sb), .val (.ref od), .val (.int mm), .val (.int i), .val (.int (xs.getD i.toNatClampNeg 0))] [])) (fun t k => XS.ifYes Y.here hx rfl (pc0 := 44) (pc' := 64) rfl (hb hby d4_44) rfl ((if0 _ _).trans (tlt hc44).1) (by decide) (by decide) k) ?_
      exact kk0 _ _ _ _ (by rw [own_evS, if_pos hc44]) Y
    · refine Rn.go (T' := T) (g' := (mkF m 47 #[.val (.ref t0), .val (.ref od), .val (.ref sb), .val (.ref od), .val (.int mm), .val (.int i), .val (.int (xs.getD i.toNatClampNeg 0))] [])) (fun t k => XS.ifNo Y.here hx rfl (hb hby d4_44) rfl ((if0 _ _).trans (flt hc44).1) k) ?_
      refine Rn.go (T' := T) (g' := (mkF m 50 #[.val (.ref t0), .val (.ref od), .val (.ref sb), .val (.ref od), .val (.int mm), .val (.int i), .val (.int (xs.getD i.toNatClampNeg 0))] [(.ref t0), (.int (xs.getD i.toNatClampNeg 0))])) (fun t k => ?_) ?_
      · show Steps p.tables e below (T.setTop (mkF m 47 #[.val (.ref t0), .val (.ref od), .val (.ref sb), .val (.ref od), .val (.int mm), .val (.int i), .val (.int (xs.getD i.toNatClampNeg 0))] [])) t
        refine XS.iload Y.here hx rfl (hb hby d4_47) rfl ?_
        show Steps p.tables e below (T.setTop (mkF m 49 #[.val (.ref t0), .val (.ref od), .val (.ref sb), .val (.ref od), .val (.int mm), .val (.int i), .val (.int (xs.getD i.toNatClampNeg 0))] [(.int (xs.getD i.toNatClampNeg 0))])) t
        refine XS.aloadN Y.here hx rfl (hb hby d4_49) rfl rfl ?_
        show Steps p.tables e below (T.setTop (mkF m 50 #[.val (.ref t0), .val (.ref od), .val (.ref sb), .val (.ref od), .val (.int mm), .val (.int i), .val (.int (xs.getD i.toNatClampNeg 0))] [(.ref t0), (.int (xs.getD i.toNatClampNeg 0))])) t
        exact k
      refine On.getf Y hx hZ hown (w19 hw) (i := 1) (j := 1) rfl rfl (g := (mkF m 50 #[.val (.ref t0), .val (.ref od), .val (.ref sb), .val (.ref od), .val (.int mm), .val (.int i), .val (.int (xs.getD i.toNatClampNeg 0))] [(.ref t0), (.int (xs.getD i.toNatClampNeg 0))])) rfl rfl (hb hby d4_50) fun T1 Y2 => ?_
      show Rn p e below F T1 (mkF m 53 #[.val (.ref t0), .val (.ref od), .val (.ref sb), .val (.ref od), .val (.int mm), .val (.int i), .val (.int (xs.getD i.toNatClampNeg 0))] [(.ref bn), (.int (xs.getD i.toNatClampNeg 0))])
      refine On.alen Y2 hx hZ (i := 0) rfl (g := (mkF m 53 #[.val (.ref t0), .val (.ref od), .val (.ref sb), .val (.ref od), .val (.int mm), .val (.int i), .val (.int (xs.getD i.toNatClampNeg 0))] [(.ref bn), (.int (xs.getD i.toNatClampNeg 0))])) rfl rfl (hb hby d4_53) ?_
      show Rn p e below F T1 (mkF m 54 #[.val (.ref t0), .val (.ref od), .val (.ref sb), .val (.ref od), .val (.int mm), .val (.int i), .val (.int (xs.getD i.toNatClampNeg 0))] [(.int nn), (.int (xs.getD i.toNatClampNeg 0))])
      by_cases hc54 : (xs.getD i.toNatClampNeg 0) < nn
      · refine Rn.go (T' := T1) (g' := (mkF m 57 #[.val (.ref t0), .val (.ref od), .val (.ref sb), .val (.ref od), .val (.int mm), .val (.int i), .val (.int (xs.getD i.toNatClampNeg 0))] [])) (fun t k => XS.icmpNo Y2.here hx rfl (hb hby d4_54) rfl (tlt hc54).2.1 k) ?_
        have hp := own_pos hc44 hc54
        have hb1 : ¬ (xs.getD i.toNatClampNeg 0) < 0 ∧ sn[(xs.getD i.toNatClampNeg 0).toNatClampNeg]? = some (sn.getD (xs.getD i.toNatClampNeg 0).toNatClampNeg 0) := own_at hp.1 (by rw [hsn.1]; have h1 := own_nat nn; omega)
        refine Rn.go (T' := T1) (g' := (mkF m 60 #[.val (.ref t0), .val (.ref od), .val (.ref sb), .val (.ref od), .val (.int mm), .val (.int i), .val (.int (xs.getD i.toNatClampNeg 0))] [(.int (xs.getD i.toNatClampNeg 0)), (.ref sb)])) (fun t k => ?_) ?_
        · show Steps p.tables e below (T1.setTop (mkF m 57 #[.val (.ref t0), .val (.ref od), .val (.ref sb), .val (.ref od), .val (.int mm), .val (.int i), .val (.int (xs.getD i.toNatClampNeg 0))] [])) t
          refine XS.aloadN Y2.here hx rfl (hb hby d4_57) rfl rfl ?_
          show Steps p.tables e below (T1.setTop (mkF m 58 #[.val (.ref t0), .val (.ref od), .val (.ref sb), .val (.ref od), .val (.int mm), .val (.int i), .val (.int (xs.getD i.toNatClampNeg 0))] [(.ref sb)])) t
          refine XS.iload Y2.here hx rfl (hb hby d4_58) rfl ?_
          show Steps p.tables e below (T1.setTop (mkF m 60 #[.val (.ref t0), .val (.ref od), .val (.ref sb), .val (.ref od), .val (.int mm), .val (.int i), .val (.int (xs.getD i.toNatClampNeg 0))] [(.int (xs.getD i.toNatClampNeg 0)), (.ref sb)])) t
          exact k
        refine On.zld Y2 hx hZ (i := 3) rfl (k := (xs.getD i.toNatClampNeg 0)) (x := (sn.getD (xs.getD i.toNatClampNeg 0).toNatClampNeg 0)) hb1.1 hb1.2 (g := (mkF m 60 #[.val (.ref t0), .val (.ref od), .val (.ref sb), .val (.ref od), .val (.int mm), .val (.int i), .val (.int (xs.getD i.toNatClampNeg 0))] [(.int (xs.getD i.toNatClampNeg 0)), (.ref sb)])) rfl rfl (hb hby d4_60) ?_
        show Rn p e below F T1 (mkF m 61 #[.val (.ref t0), .val (.ref od), .val (.ref sb), .val (.ref od), .val (.int mm), .val (.int i), .val (.int (xs.getD i.toNatClampNeg 0))] [(.int (sn.getD (xs.getD i.toNatClampNeg 0).toNatClampNeg 0))])
        by_cases hc61 : (sn.getD (xs.getD i.toNatClampNeg 0).toNatClampNeg 0) = (0 : Int32)
        · refine Rn.go (T' := T1) (g' := (mkF m 66 #[.val (.ref t0), .val (.ref od), .val (.ref sb), .val (.ref od), .val (.int mm), .val (.int i), .val (.int (xs.getD i.toNatClampNeg 0))] [])) (fun t k => XS.ifYes Y2.here hx rfl (pc0 := 61) (pc' := 66) rfl (hb hby d4_61) rfl ((if0 _ _).trans (teq hc61).1) (by decide) (by decide) k) ?_
          refine Rn.go (T' := T1) (g' := (mkF m 70 #[.val (.ref t0), .val (.ref od), .val (.ref sb), .val (.ref od), .val (.int mm), .val (.int i), .val (.int (xs.getD i.toNatClampNeg 0))] [(.int (1 : Int32)), (.int (xs.getD i.toNatClampNeg 0)), (.ref sb)])) (fun t k => ?_) ?_
          · show Steps p.tables e below (T1.setTop (mkF m 66 #[.val (.ref t0), .val (.ref od), .val (.ref sb), .val (.ref od), .val (.int mm), .val (.int i), .val (.int (xs.getD i.toNatClampNeg 0))] [])) t
            refine XS.aloadN Y2.here hx rfl (hb hby d4_66) rfl rfl ?_
            show Steps p.tables e below (T1.setTop (mkF m 67 #[.val (.ref t0), .val (.ref od), .val (.ref sb), .val (.ref od), .val (.int mm), .val (.int i), .val (.int (xs.getD i.toNatClampNeg 0))] [(.ref sb)])) t
            refine XS.iload Y2.here hx rfl (hb hby d4_67) rfl ?_
            show Steps p.tables e below (T1.setTop (mkF m 69 #[.val (.ref t0), .val (.ref od), .val (.ref sb), .val (.ref od), .val (.int mm), .val (.int i), .val (.int (xs.getD i.toNatClampNeg 0))] [(.int (xs.getD i.toNatClampNeg 0)), (.ref sb)])) t
            refine XS.iconst Y2.here hx rfl (hb hby d4_69) ?_
            show Steps p.tables e below (T1.setTop (mkF m 70 #[.val (.ref t0), .val (.ref od), .val (.ref sb), .val (.ref od), .val (.int mm), .val (.int i), .val (.int (xs.getD i.toNatClampNeg 0))] [(.int (1 : Int32)), (.int (xs.getD i.toNatClampNeg 0)), (.ref sb)])) t
            exact k
          refine On.zsto Y2 hx hZ (i := 3) rfl hc44 (by rw [hsn.1]; have h1 := own_nat nn; have h2 := own_nat (xs.getD i.toNatClampNeg 0); omega) (g := (mkF m 70 #[.val (.ref t0), .val (.ref od), .val (.ref sb), .val (.ref od), .val (.int mm), .val (.int i), .val (.int (xs.getD i.toNatClampNeg 0))] [(.int (1 : Int32)), (.int (xs.getD i.toNatClampNeg 0)), (.ref sb)])) rfl rfl (hb hby d4_70) fun T3 Y4 => ?_
          replace Y4 : On p l e _ s m _ below meth c Z n0 T3 cells slots [ar bn (.object "java/lang/String") nn vs, ob t0 own_C0 (own_F0 (.ref f0) (.ref bn) .null (.ref f3) (.ref f4) (.ref f5) (.ref f6)), ari od .int mm xs, ari sb .boolean nn (sn.set (xs.getD i.toNatClampNeg 0).toNatClampNeg (((1 : Int32) &&& 1)))] := Y4
          replace Y4 : On p l e R s m args below meth c Z n0 T3 cells slots [ar bn (.object "java/lang/String") nn vs, ob t0 own_C0 (own_F0 (.ref f0) (.ref bn) .null (.ref f3) (.ref f4) (.ref f5) (.ref f6)), ari od .int mm xs, ari sb .boolean nn (sn.set (xs.getD i.toNatClampNeg 0).toNatClampNeg 1)] := by exact Y4
          show Rn p e below F T3 (mkF m 71 #[.val (.ref t0), .val (.ref od), .val (.ref sb), .val (.ref od), .val (.int mm), .val (.int i), .val (.int (xs.getD i.toNatClampNeg 0))] [])
          refine Rn.go (T' := T3) (g' := (mkF m 29 #[.val (.ref t0), .val (.ref od), .val (.ref sb), .val (.ref od), .val (.int mm), .val (.int (i + (1 : Int32))), .val (.int (xs.getD i.toNatClampNeg 0))] [])) (fun t k => ?_) ?_
          · show Steps p.tables e below (T3.setTop (mkF m 71 #[.val (.ref t0), .val (.ref od), .val (.ref sb), .val (.ref od), .val (.int mm), .val (.int i), .val (.int (xs.getD i.toNatClampNeg 0))] [])) t
            refine XS.iinc Y4.here hx rfl (hb hby d4_71) rfl (l' := #[.val (.ref t0), .val (.ref od), .val (.ref sb), .val (.ref od), .val (.int mm), .val (.int (i + (1 : Int32))), .val (.int (xs.getD i.toNatClampNeg 0))]) rfl ?_
            show Steps p.tables e below (T3.setTop (mkF m 74 #[.val (.ref t0), .val (.ref od), .val (.ref sb), .val (.ref od), .val (.int mm), .val (.int (i + (1 : Int32))), .val (.int (xs.getD i.toNatClampNeg 0))] [])) t
            refine XS.goto Y4.here hx rfl (pc0 := 74) (pc' := 29) rfl (hb hby d4_74) (by decide) (by decide) ?_
            show Steps p.tables e below (T3.setTop (mkF m 29 #[.val (.ref t0), .val (.ref od), .val (.ref sb), .val (.ref od), .val (.int mm), .val (.int (i + (1 : Int32))), .val (.int (xs.getD i.toNatClampNeg 0))] [])) t
            exact k
          have hnm : (xs.getD i.toNatClampNeg 0) ∉ vis := (hsn.2 _ hc44 hc54).mp hc61
          refine ih (i + 1) _ _ _ (One.val rfl) (by omega) (by omega) (own_mark hsn hc44 hc54) Y4 ?_ ?_
          · intro T' i' s6' sn' q Y'; refine kk0 T' i' s6' sn' ?_ Y'; rw [own_evS, if_neg hc44, if_pos hc54, if_neg hnm, eni]; exact q
          · intro T' i' s6' sn' q Y'; refine kk1 T' i' s6' sn' ?_ Y'; rw [own_evS, if_neg hc44, if_pos hc54, if_neg hnm, eni]; exact q
        · refine Rn.go (T' := T1) (g' := (mkF m 64 #[.val (.ref t0), .val (.ref od), .val (.ref sb), .val (.ref od), .val (.int mm), .val (.int i), .val (.int (xs.getD i.toNatClampNeg 0))] [])) (fun t k => XS.ifNo Y2.here hx rfl (hb hby d4_61) rfl ((if0 _ _).trans (feq hc61).1) k) ?_
          exact kk0 _ _ _ _ (by rw [own_evS, if_neg hc44, if_pos hc54, if_pos (Classical.byContradiction fun z => hc61 ((hsn.2 _ hc44 hc54).mpr z))]) Y2
      · refine Rn.go (T' := T1) (g' := (mkF m 64 #[.val (.ref t0), .val (.ref od), .val (.ref sb), .val (.ref od), .val (.int mm), .val (.int i), .val (.int (xs.getD i.toNatClampNeg 0))] [])) (fun t k => XS.icmpYes Y2.here hx rfl (pc0 := 54) (pc' := 64) rfl (hb hby d4_54) rfl (flt hc54).2.1 (by decide) (by decide) k) ?_
        exact kk0 _ _ _ _ (by rw [own_evS, if_neg hc44, if_neg hc54]) Y2
theorem ef_rm4 (m : MethodId) (t0 : Addr) (od : Addr) : entryFrame m #[(.ref t0), (.ref od)] 7 = (mkF m 0 #[.val (.ref t0), .val (.ref od), .unset, .unset, .unset, .unset, .unset] []) := by first | (simp [entryFrame, mkF, argsToLocals, Value.category]; done) | rfl
set_option maxRecDepth 65536 in
set_option maxHeartbeats 40000000 in
theorem rm4 (l : Launch) (Z : State) (a0 : Array Value) (hw : ∀ d ∈ tables_1, d.before a0 Z = true) (n0 : Nat) (t0 : Addr) (od : Addr) (bn : Addr) (f0 : Addr) (f3 : Addr) (f4 : Addr) (f5 : Addr) (f6 : Addr) (nn : Int32) (mm : Int32) (vs : List Value) (xs : List Int32) (hxl : xs.length = mm.toNatClampNeg) (hm : 0 ≤ mm.toInt ∧ mm.toInt ≤ 1000) (hn : 0 ≤ nn.toInt ∧ nn.toInt ≤ 4) :
    Con l Z n0 (⟨"com/example/arborplan/arborplan/tree/Tree", "isEdgeOrder", "([I)Z"⟩ : MethodName) prog_42_method_7_code 7 (some .boolean) ({ frames := 0, cells := 1, slots := 4, locals := 0 } : Room) #[(.ref t0), (.ref od)] [ar bn (.object "java/lang/String") nn vs, ob t0 own_C0 (own_F0 (.ref f0) (.ref bn) .null (.ref f3) (.ref f4) (.ref f5) (.ref f6)), ari od .int mm xs] (fun v _ => v = some (.int (if mm = nn then own_ev nn xs mm.toNatClampNeg 0 [] else 0))) := by
  refine Con.of (plainFor_of_name pn1) ?_
  intro p e s m below meth c T cx Y
  obtain ⟨hx, hby, hml, hown, hnm, hret, hlk, hZ⟩ := cx
  rw [ef_rm4]
  generalize hF : Fi Z n0 below s _ _ _ = F
  refine Rn.go (T' := T) (g' := (mkF m 1 #[.val (.ref t0), .val (.ref od), .unset, .unset, .unset, .unset, .unset] [(.ref od)])) (fun t k => ?_) ?_
  · show Steps p.tables e below (T.setTop (mkF m 0 #[.val (.ref t0), .val (.ref od), .unset, .unset, .unset, .unset, .unset] [])) t
    refine XS.aloadN Y.here hx rfl (hb hby d4_0) rfl rfl ?_
    show Steps p.tables e below (T.setTop (mkF m 1 #[.val (.ref t0), .val (.ref od), .unset, .unset, .unset, .unset, .unset] [(.ref od)])) t
    exact k
  refine On.alen Y hx hZ (i := 2) rfl (g := (mkF m 1 #[.val (.ref t0), .val (.ref od), .unset, .unset, .unset, .unset, .unset] [(.ref od)])) rfl rfl (hb hby d4_1) ?_
  show Rn p e below F T (mkF m 2 #[.val (.ref t0), .val (.ref od), .unset, .unset, .unset, .unset, .unset] [(.int mm)])
  refine Rn.go (T' := T) (g' := (mkF m 3 #[.val (.ref t0), .val (.ref od), .unset, .unset, .unset, .unset, .unset] [(.ref t0), (.int mm)])) (fun t k => ?_) ?_
  · show Steps p.tables e below (T.setTop (mkF m 2 #[.val (.ref t0), .val (.ref od), .unset, .unset, .unset, .unset, .unset] [(.int mm)])) t
    refine XS.aloadN Y.here hx rfl (hb hby d4_2) rfl rfl ?_
    show Steps p.tables e below (T.setTop (mkF m 3 #[.val (.ref t0), .val (.ref od), .unset, .unset, .unset, .unset, .unset] [(.ref t0), (.int mm)])) t
    exact k
  refine On.getf Y hx hZ hown (w19 hw) (i := 1) (j := 1) rfl rfl (g := (mkF m 3 #[.val (.ref t0), .val (.ref od), .unset, .unset, .unset, .unset, .unset] [(.ref t0), (.int mm)])) rfl rfl (hb hby d4_3) fun T1 Y2 => ?_
  show Rn p e below F T1 (mkF m 6 #[.val (.ref t0), .val (.ref od), .unset, .unset, .unset, .unset, .unset] [(.ref bn), (.int mm)])
  refine On.alen Y2 hx hZ (i := 0) rfl (g := (mkF m 6 #[.val (.ref t0), .val (.ref od), .unset, .unset, .unset, .unset, .unset] [(.ref bn), (.int mm)])) rfl rfl (hb hby d4_6) ?_
  show Rn p e below F T1 (mkF m 7 #[.val (.ref t0), .val (.ref od), .unset, .unset, .unset, .unset, .unset] [(.int nn), (.int mm)])
  by_cases hc7 : mm = nn
  · refine Rn.go (T' := T1) (g' := (mkF m 12 #[.val (.ref t0), .val (.ref od), .unset, .unset, .unset, .unset, .unset] [])) (fun t k => XS.icmpYes Y2.here hx rfl (pc0 := 7) (pc' := 12) rfl (hb hby d4_7) rfl (teq hc7).1 (by decide) (by decide) k) ?_
    refine Rn.go (T' := T1) (g' := (mkF m 13 #[.val (.ref t0), .val (.ref od), .unset, .unset, .unset, .unset, .unset] [(.ref t0)])) (fun t k => ?_) ?_
    · show Steps p.tables e below (T1.setTop (mkF m 12 #[.val (.ref t0), .val (.ref od), .unset, .unset, .unset, .unset, .unset] [])) t
      refine XS.aloadN Y2.here hx rfl (hb hby d4_12) rfl rfl ?_
      show Steps p.tables e below (T1.setTop (mkF m 13 #[.val (.ref t0), .val (.ref od), .unset, .unset, .unset, .unset, .unset] [(.ref t0)])) t
      exact k
    refine On.getf Y2 hx hZ hown (w19 hw) (i := 1) (j := 1) rfl rfl (g := (mkF m 13 #[.val (.ref t0), .val (.ref od), .unset, .unset, .unset, .unset, .unset] [(.ref t0)])) rfl rfl (hb hby d4_13) fun T3 Y4 => ?_
    show Rn p e below F T3 (mkF m 16 #[.val (.ref t0), .val (.ref od), .unset, .unset, .unset, .unset, .unset] [(.ref bn)])
    refine On.alen Y4 hx hZ (i := 0) rfl (g := (mkF m 16 #[.val (.ref t0), .val (.ref od), .unset, .unset, .unset, .unset, .unset] [(.ref bn)])) rfl rfl (hb hby d4_16) ?_
    show Rn p e below F T3 (mkF m 17 #[.val (.ref t0), .val (.ref od), .unset, .unset, .unset, .unset, .unset] [(.int nn)])
    refine On.newp Y4 hx hZ (aty := .boolean) (w36 hw) (g := (mkF m 17 #[.val (.ref t0), .val (.ref od), .unset, .unset, .unset, .unset, .unset] [(.int nn)])) rfl (hb hby d4_17) rfl (own_nn hn.1) (N := nn.toNatClampNeg) (cap := 4) rfl (by rw [own_nat]; omega) (by decide) (by decide) (by decide) (dv := (.int (0 : Int32))) rfl fun T5 a7 Y6 => ?_
    replace Y6 : On p l e ({ frames := 0, cells := 1, slots := 4, locals := 0 } : Room) s m #[(.ref t0), (.ref od)] below meth c Z n0 T5 1 4 [ar bn (.object "java/lang/String") nn vs, ob t0 own_C0 (own_F0 (.ref f0) (.ref bn) .null (.ref f3) (.ref f4) (.ref f5) (.ref f6)), ari od .int mm xs, ari a7 .boolean nn (List.replicate nn.toNatClampNeg (0 : Int32))] := by first | exact Y6 | (simpa using Y6) | (rw [own_arz (a := a7)]; exact Y6) | (simp only [ari, arj, List.map_replicate]; exact Y6)
    show Rn p e below F T5 (mkF m 19 #[.val (.ref t0), .val (.ref od), .unset, .unset, .unset, .unset, .unset] [(.ref a7)])
    refine Rn.go (T' := T5) (g' := (mkF m 23 #[.val (.ref t0), .val (.ref od), .val (.ref a7), .val (.ref od), .unset, .unset, .unset] [(.ref od)])) (fun t k => ?_) ?_
    · show Steps p.tables e below (T5.setTop (mkF m 19 #[.val (.ref t0), .val (.ref od), .unset, .unset, .unset, .unset, .unset] [(.ref a7)])) t
      refine XS.astoreN Y6.here hx rfl (hb hby d4_19) rfl rfl (l' := #[.val (.ref t0), .val (.ref od), .val (.ref a7), .unset, .unset, .unset, .unset]) rfl ?_
      show Steps p.tables e below (T5.setTop (mkF m 20 #[.val (.ref t0), .val (.ref od), .val (.ref a7), .unset, .unset, .unset, .unset] [])) t
      refine XS.aloadN Y6.here hx rfl (hb hby d4_20) rfl rfl ?_
      show Steps p.tables e below (T5.setTop (mkF m 21 #[.val (.ref t0), .val (.ref od), .val (.ref a7), .unset, .unset, .unset, .unset] [(.ref od)])) t
      refine XS.astoreN Y6.here hx rfl (hb hby d4_21) rfl rfl (l' := #[.val (.ref t0), .val (.ref od), .val (.ref a7), .val (.ref od), .unset, .unset, .unset]) rfl ?_
      show Steps p.tables e below (T5.setTop (mkF m 22 #[.val (.ref t0), .val (.ref od), .val (.ref a7), .val (.ref od), .unset, .unset, .unset] [])) t
      refine XS.aloadN Y6.here hx rfl (hb hby d4_22) rfl rfl ?_
      show Steps p.tables e below (T5.setTop (mkF m 23 #[.val (.ref t0), .val (.ref od), .val (.ref a7), .val (.ref od), .unset, .unset, .unset] [(.ref od)])) t
      exact k
    refine On.alen Y6 hx hZ (i := 2) rfl (g := (mkF m 23 #[.val (.ref t0), .val (.ref od), .val (.ref a7), .val (.ref od), .unset, .unset, .unset] [(.ref od)])) rfl rfl (hb hby d4_23) ?_
    show Rn p e below F T5 (mkF m 24 #[.val (.ref t0), .val (.ref od), .val (.ref a7), .val (.ref od), .unset, .unset, .unset] [(.int mm)])
    refine Rn.go (T' := T5) (g' := (mkF m 29 #[.val (.ref t0), .val (.ref od), .val (.ref a7), .val (.ref od), .val (.int mm), .val (.int (0 : Int32)), .unset] [])) (fun t k => ?_) ?_
    · show Steps p.tables e below (T5.setTop (mkF m 24 #[.val (.ref t0), .val (.ref od), .val (.ref a7), .val (.ref od), .unset, .unset, .unset] [(.int mm)])) t
      refine XS.istore Y6.here hx rfl (hb hby d4_24) rfl (l' := #[.val (.ref t0), .val (.ref od), .val (.ref a7), .val (.ref od), .val (.int mm), .unset, .unset]) rfl ?_
      show Steps p.tables e below (T5.setTop (mkF m 26 #[.val (.ref t0), .val (.ref od), .val (.ref a7), .val (.ref od), .val (.int mm), .unset, .unset] [])) t
      refine XS.iconst Y6.here hx rfl (hb hby d4_26) ?_
      show Steps p.tables e below (T5.setTop (mkF m 27 #[.val (.ref t0), .val (.ref od), .val (.ref a7), .val (.ref od), .val (.int mm), .unset, .unset] [(.int (0 : Int32))])) t
      refine XS.istore Y6.here hx rfl (hb hby d4_27) rfl (l' := #[.val (.ref t0), .val (.ref od), .val (.ref a7), .val (.ref od), .val (.int mm), .val (.int (0 : Int32)), .unset]) rfl ?_
      show Steps p.tables e below (T5.setTop (mkF m 29 #[.val (.ref t0), .val (.ref od), .val (.ref a7), .val (.ref od), .val (.int mm), .val (.int (0 : Int32)), .unset] [])) t
      exact k
    refine own_loop hx hby hml hown hZ hw bn t0 od a7 f0 f3 f4 f5 f6 nn mm vs xs hxl hm mm.toNatClampNeg 0 .unset _ [] One.u (by rw [own_nat]; have : (0 : Int32).toInt = 0 := rfl; omega) (by decide) (own_seen0 nn) Y6 ?_ ?_
    · intro T9 i9 s9 sn9 q9 Y9
      refine Rn.go (T' := T9) (g' := (mkF m 65 #[.val (.ref t0), .val (.ref od), .val (.ref a7), .val (.ref od), .val (.int mm), .val (.int i9), s9] [(.int (0 : Int32))])) (fun t k => ?_) ?_
      · show Steps p.tables e below (T9.setTop (mkF m 64 #[.val (.ref t0), .val (.ref od), .val (.ref a7), .val (.ref od), .val (.int mm), .val (.int i9), s9] [])) t
        refine XS.iconst Y9.here hx rfl (hb hby d4_64) ?_
        show Steps p.tables e below (T9.setTop (mkF m 65 #[.val (.ref t0), .val (.ref od), .val (.ref a7), .val (.ref od), .val (.int mm), .val (.int i9), s9] [(.int (0 : Int32))])) t
        exact k
      rw [← hF]; exact On.retn Y9 hx hret (by simp) hlk (z' := (0 : Int32)) (by decide) (hb hby d4_65) (by decide) (by decide) (congrArg (fun z => some (Value.int z)) (by rw [if_pos hc7]; exact q9.symm))
    · intro T9 i9 s9 sn9 q9 Y9
      refine Rn.go (T' := T9) (g' := (mkF m 78 #[.val (.ref t0), .val (.ref od), .val (.ref a7), .val (.ref od), .val (.int mm), .val (.int i9), s9] [(.int (1 : Int32))])) (fun t k => ?_) ?_
      · show Steps p.tables e below (T9.setTop (mkF m 77 #[.val (.ref t0), .val (.ref od), .val (.ref a7), .val (.ref od), .val (.int mm), .val (.int i9), s9] [])) t
        refine XS.iconst Y9.here hx rfl (hb hby d4_77) ?_
        show Steps p.tables e below (T9.setTop (mkF m 78 #[.val (.ref t0), .val (.ref od), .val (.ref a7), .val (.ref od), .val (.int mm), .val (.int i9), s9] [(.int (1 : Int32))])) t
        exact k
      rw [← hF]; exact On.retn Y9 hx hret (by simp) hlk (z' := (1 : Int32)) (by decide) (hb hby d4_78) (by decide) (by decide) (congrArg (fun z => some (Value.int z)) (by rw [if_pos hc7]; exact q9.symm))
  · refine Rn.go (T' := T1) (g' := (mkF m 10 #[.val (.ref t0), .val (.ref od), .unset, .unset, .unset, .unset, .unset] [])) (fun t k => XS.icmpNo Y2.here hx rfl (hb hby d4_7) rfl (feq hc7).1 k) ?_
    refine Rn.go (T' := T1) (g' := (mkF m 11 #[.val (.ref t0), .val (.ref od), .unset, .unset, .unset, .unset, .unset] [(.int (0 : Int32))])) (fun t k => ?_) ?_
    · show Steps p.tables e below (T1.setTop (mkF m 10 #[.val (.ref t0), .val (.ref od), .unset, .unset, .unset, .unset, .unset] [])) t
      refine XS.iconst Y2.here hx rfl (hb hby d4_10) ?_
      show Steps p.tables e below (T1.setTop (mkF m 11 #[.val (.ref t0), .val (.ref od), .unset, .unset, .unset, .unset, .unset] [(.int (0 : Int32))])) t
      exact k
    rw [← hF]; exact On.retn Y2 hx hret (by simp) hlk (z' := (0 : Int32)) (by decide) (hb hby d4_11) (by decide) (by decide) (congrArg (fun z => some (Value.int z)) (by rw [if_neg hc7]))

theorem own_5 (x : Int32) : 0 ≤ ((x &&& (7 : Int32)) % (5 : Int32)).toInt ∧ ((x &&& (7 : Int32)) % (5 : Int32)).toInt ≤ 4 := by
  have h := Jvm.Kit.i32_mask x 7 (k := 3) (by decide) (by decide)
  rw [own_remI (k := 5) rfl (by omega)]; omega
theorem own_il {mm k : Int32} {xs : List Int32} (hl : xs.length = mm.toNatClampNeg) (hk : 0 ≤ k.toInt) (h : k < mm) : k.toNatClampNeg < xs.length := by
  rw [Int32.lt_iff_toInt_lt] at h; rw [hl, own_nat, own_nat]; omega
theorem own_ns {mm k v : Int32} {xs : List Int32} (hl : xs.length = mm.toNatClampNeg) (hk : 0 ≤ k.toInt) (h : ¬ k < mm) : xs.set k.toNatClampNeg v = xs := by
  rw [Int32.lt_iff_toInt_lt] at h
  exact List.set_eq_of_length_le (by rw [hl, own_nat, own_nat]; omega)
theorem own_2n {n : Int32} (h : 0 ≤ n.toInt ∧ n.toInt ≤ 4) : ((2 : Int32) * n).toInt = 2 * n.toInt := by
  have h2 : (2 : Int32).toInt = 2 := rfl
  rw [Jvm.Kit.i32_mul (by rw [h2]; omega) (by rw [h2]; omega), h2]
theorem own_fin {nn mm r19 r25 r31 r38 v147 v176l14 v211l14 v253l14 v302l14 : Int32} {x0 x1 x2 x3 x4 : List Int32} (bnn : 0 ≤ nn.toInt ∧ nn.toInt ≤ 4) (bmm : 0 ≤ mm.toInt ∧ mm.toInt ≤ 4) (hx0 : x0 = (List.replicate mm.toNatClampNeg (0 : Int32))) (hx1 : x1 = (x0.set (0 : Int32).toNatClampNeg r19)) (hx2 : x2 = (x1.set (1 : Int32).toNatClampNeg r25)) (hx3 : x3 = (x2.set (2 : Int32).toNatClampNeg r31)) (hx4 : x4 = (x3.set (3 : Int32).toNatClampNeg r38)) (hv147 : v147 = (if mm = nn then (1 : Int32) else (0 : Int32))) (hv176l14 : v176l14 = (if (0 : Int32) < mm then (if v147 = (0 : Int32) then (0 : Int32) else (if (own_in r19 nn) = (0 : Int32) then (0 : Int32) else (1 : Int32))) else v147)) (hv211l14 : v211l14 = (if (1 : Int32) < mm then (if v176l14 = (0 : Int32) then (0 : Int32) else (if (own_in r25 nn) = (0 : Int32) then (0 : Int32) else (if r19 = r25 then (0 : Int32) else (1 : Int32)))) else v176l14)) (hv253l14 : v253l14 = (if (2 : Int32) < mm then (if v211l14 = (0 : Int32) then (0 : Int32) else (if (own_in r31 nn) = (0 : Int32) then (0 : Int32) else (if r19 = r31 then (0 : Int32) else (if r25 = r31 then (0 : Int32) else (1 : Int32))))) else v211l14)) (hv302l14 : v302l14 = (if (3 : Int32) < mm then (if v253l14 = (0 : Int32) then (0 : Int32) else (if (own_in r38 nn) = (0 : Int32) then (0 : Int32) else (if r19 = r38 then (0 : Int32) else (if r25 = r38 then (0 : Int32) else (if r31 = r38 then (0 : Int32) else (1 : Int32)))))) else v253l14)) :
    (if mm = nn then own_ev nn x4 mm.toNatClampNeg 0 [] else 0) = v302l14 := by
  by_cases hmn : mm = nn
  · subst hmn
    rw [if_pos rfl] at hv147 ⊢
    rcases own_le4 bmm.1 bmm.2 with rfl | rfl | rfl | rfl | rfl
    · have hx : x4 = [] := by rw [hx4, hx3, hx2, hx1, hx0]; rfl
      have hn : (0 : Int32).toNatClampNeg = 0 := rfl
      rw [hx, hn]
      clear hx hx4 hx3 hx2 hx1 hx0 bmm bnn
      subst hv147 hv176l14 hv211l14 hv253l14 hv302l14
      simp [-Int32.not_lt, own_ev, own_in]
    · have hx : x4 = [r19] := by rw [hx4, hx3, hx2, hx1, hx0]; rfl
      have hn : (1 : Int32).toNatClampNeg = 1 := rfl
      rw [hx, hn]
      clear hx hx4 hx3 hx2 hx1 hx0 bmm bnn
      subst hv147 hv176l14 hv211l14 hv253l14 hv302l14
      by_cases a0 : r19 < 0
      · simp [-Int32.not_lt, own_ev, own_in, a0]
      by_cases b0 : r19 < 1
      case neg => simp [-Int32.not_lt, own_ev, own_in, a0, b0]
      simp [-Int32.not_lt, own_ev, own_in, a0, b0]
    · have hx : x4 = [r19, r25] := by rw [hx4, hx3, hx2, hx1, hx0]; rfl
      have hn : (2 : Int32).toNatClampNeg = 2 := rfl
      rw [hx, hn]
      clear hx hx4 hx3 hx2 hx1 hx0 bmm bnn
      subst hv147 hv176l14 hv211l14 hv253l14 hv302l14
      by_cases a0 : r19 < 0
      · simp [-Int32.not_lt, own_ev, own_in, a0]
      by_cases b0 : r19 < 2
      case neg => simp [-Int32.not_lt, own_ev, own_in, a0, b0]
      by_cases a1 : r25 < 0
      · simp [-Int32.not_lt, own_ev, own_in, a0, b0, a1]
      by_cases b1 : r25 < 2
      case neg => simp [-Int32.not_lt, own_ev, own_in, a0, b0, a1, b1]
      by_cases d01 : r19 = r25
      · simp [-Int32.not_lt, own_ev, own_in, a0, b0, a1, b1, d01]
      have d01' : ¬ r25 = r19 := fun z => d01 z.symm
      simp [-Int32.not_lt, own_ev, own_in, a0, b0, a1, b1, d01, d01']
    · have hx : x4 = [r19, r25, r31] := by rw [hx4, hx3, hx2, hx1, hx0]; rfl
      have hn : (3 : Int32).toNatClampNeg = 3 := rfl
      rw [hx, hn]
      clear hx hx4 hx3 hx2 hx1 hx0 bmm bnn
      subst hv147 hv176l14 hv211l14 hv253l14 hv302l14
      by_cases a0 : r19 < 0
      · simp [-Int32.not_lt, own_ev, own_in, a0]
      by_cases b0 : r19 < 3
      case neg => simp [-Int32.not_lt, own_ev, own_in, a0, b0]
      by_cases a1 : r25 < 0
      · simp [-Int32.not_lt, own_ev, own_in, a0, b0, a1]
      by_cases b1 : r25 < 3
      case neg => simp [-Int32.not_lt, own_ev, own_in, a0, b0, a1, b1]
      by_cases d01 : r19 = r25
      · simp [-Int32.not_lt, own_ev, own_in, a0, b0, a1, b1, d01]
      have d01' : ¬ r25 = r19 := fun z => d01 z.symm
      by_cases a2 : r31 < 0
      · simp [-Int32.not_lt, own_ev, own_in, a0, b0, a1, b1, d01, d01', a2]
      by_cases b2 : r31 < 3
      case neg => simp [-Int32.not_lt, own_ev, own_in, a0, b0, a1, b1, d01, d01', a2, b2]
      by_cases d02 : r19 = r31
      · simp [-Int32.not_lt, own_ev, own_in, a0, b0, a1, b1, d01, d01', a2, b2, d02]
      have d02' : ¬ r31 = r19 := fun z => d02 z.symm
      by_cases d12 : r25 = r31
      · simp [-Int32.not_lt, own_ev, own_in, a0, b0, a1, b1, d01, d01', a2, b2, d02, d02', d12]
      have d12' : ¬ r31 = r25 := fun z => d12 z.symm
      simp [-Int32.not_lt, own_ev, own_in, a0, b0, a1, b1, d01, d01', a2, b2, d02, d02', d12, d12']
    · have hx : x4 = [r19, r25, r31, r38] := by rw [hx4, hx3, hx2, hx1, hx0]; rfl
      have hn : (4 : Int32).toNatClampNeg = 4 := rfl
      rw [hx, hn]
      clear hx hx4 hx3 hx2 hx1 hx0 bmm bnn
      subst hv147 hv176l14 hv211l14 hv253l14 hv302l14
      by_cases a0 : r19 < 0
      · simp [-Int32.not_lt, own_ev, own_in, a0]
      by_cases b0 : r19 < 4
      case neg => simp [-Int32.not_lt, own_ev, own_in, a0, b0]
      by_cases a1 : r25 < 0
      · simp [-Int32.not_lt, own_ev, own_in, a0, b0, a1]
      by_cases b1 : r25 < 4
      case neg => simp [-Int32.not_lt, own_ev, own_in, a0, b0, a1, b1]
      by_cases d01 : r19 = r25
      · simp [-Int32.not_lt, own_ev, own_in, a0, b0, a1, b1, d01]
      have d01' : ¬ r25 = r19 := fun z => d01 z.symm
      by_cases a2 : r31 < 0
      · simp [-Int32.not_lt, own_ev, own_in, a0, b0, a1, b1, d01, d01', a2]
      by_cases b2 : r31 < 4
      case neg => simp [-Int32.not_lt, own_ev, own_in, a0, b0, a1, b1, d01, d01', a2, b2]
      by_cases d02 : r19 = r31
      · simp [-Int32.not_lt, own_ev, own_in, a0, b0, a1, b1, d01, d01', a2, b2, d02]
      have d02' : ¬ r31 = r19 := fun z => d02 z.symm
      by_cases d12 : r25 = r31
      · simp [-Int32.not_lt, own_ev, own_in, a0, b0, a1, b1, d01, d01', a2, b2, d02, d02', d12]
      have d12' : ¬ r31 = r25 := fun z => d12 z.symm
      by_cases a3 : r38 < 0
      · simp [-Int32.not_lt, own_ev, own_in, a0, b0, a1, b1, d01, d01', a2, b2, d02, d02', d12, d12', a3]
      by_cases b3 : r38 < 4
      case neg => simp [-Int32.not_lt, own_ev, own_in, a0, b0, a1, b1, d01, d01', a2, b2, d02, d02', d12, d12', a3, b3]
      by_cases d03 : r19 = r38
      · simp [-Int32.not_lt, own_ev, own_in, a0, b0, a1, b1, d01, d01', a2, b2, d02, d02', d12, d12', a3, b3, d03]
      have d03' : ¬ r38 = r19 := fun z => d03 z.symm
      by_cases d13 : r25 = r38
      · simp [-Int32.not_lt, own_ev, own_in, a0, b0, a1, b1, d01, d01', a2, b2, d02, d02', d12, d12', a3, b3, d03, d03', d13]
      have d13' : ¬ r38 = r25 := fun z => d13 z.symm
      by_cases d23 : r31 = r38
      · simp [-Int32.not_lt, own_ev, own_in, a0, b0, a1, b1, d01, d01', a2, b2, d02, d02', d12, d12', a3, b3, d03, d03', d13, d13', d23]
      have d23' : ¬ r38 = r31 := fun z => d23 z.symm
      simp [-Int32.not_lt, own_ev, own_in, a0, b0, a1, b1, d01, d01', a2, b2, d02, d02', d12, d12', a3, b3, d03, d03', d13, d13', d23, d23']
  · rw [if_neg hmn] at hv147 ⊢
    subst hv147 hv176l14 hv211l14 hv253l14 hv302l14
    simp
theorem ef_rm0 (m : MethodId) (p0 : Int32) (p1 : Int32) (p2 : Int32) (p3 : Int32) (p4 : Int32) : entryFrame m #[(.int p0), (.int p1), (.int p2), (.int p3), (.int p4)] maxLocals = (mkF m 0 #[.val (.int p0), .val (.int p1), .val (.int p2), .val (.int p3), .val (.int p4), .unset, .unset, .unset, .unset, .unset, .unset, .unset, .unset, .unset, .unset, .unset] []) := by first | (simp [entryFrame, mkF, argsToLocals, Value.category, maxLocals]; done) | rfl
set_option maxRecDepth 65536 in
set_option maxHeartbeats 40000000 in
theorem rm0 (l : Launch) (Z : State) (a0 : Array Value) (hw : ∀ d ∈ tables_1, d.before a0 Z = true) (n0 : Nat) (p0 : Int32) (p1 : Int32) (p2 : Int32) (p3 : Int32) (p4 : Int32) :
    Con l Z n0 x code maxLocals ret room_1 #[(.int p0), (.int p1), (.int p2), (.int p3), (.int p4)] [] (fun v _ => v = some (.int 1)) := by
  refine Con.of (plainFor_of_name pn0) ?_
  intro p e s m below meth c T cx Y
  obtain ⟨hx, hby, hml, hown, hnm, hret, hlk, hZ⟩ := cx
  rw [ef_rm0]
  generalize hF : Fi Z n0 below s _ _ _ = F
  refine Rn.go (T' := T) (g' := (mkF m 8 #[.val (.int p0), .val (.int p1), .val (.int p2), .val (.int p3), .val (.int p4), .val (.int ((p0 &&& (7 : Int32)) % (5 : Int32))), .unset, .unset, .unset, .unset, .unset, .unset, .unset, .unset, .unset, .unset] [])) (fun t k => ?_) ?_
  · show Steps p.tables e below (T.setTop (mkF m 0 #[.val (.int p0), .val (.int p1), .val (.int p2), .val (.int p3), .val (.int p4), .unset, .unset, .unset, .unset, .unset, .unset, .unset, .unset, .unset, .unset, .unset] [])) t
    refine XS.iloadN Y.here hx rfl (hb hby at_0) rfl ?_
    show Steps p.tables e below (T.setTop (mkF m 1 #[.val (.int p0), .val (.int p1), .val (.int p2), .val (.int p3), .val (.int p4), .unset, .unset, .unset, .unset, .unset, .unset, .unset, .unset, .unset, .unset, .unset] [(.int p0)])) t
    refine XS.bipush Y.here hx rfl (hb hby at_1) ?_
    show Steps p.tables e below (T.setTop (mkF m 3 #[.val (.int p0), .val (.int p1), .val (.int p2), .val (.int p3), .val (.int p4), .unset, .unset, .unset, .unset, .unset, .unset, .unset, .unset, .unset, .unset, .unset] [(.int (7 : Int32)), (.int p0)])) t
    refine XS.iand Y.here hx rfl (hb hby at_3) rfl ?_
    show Steps p.tables e below (T.setTop (mkF m 4 #[.val (.int p0), .val (.int p1), .val (.int p2), .val (.int p3), .val (.int p4), .unset, .unset, .unset, .unset, .unset, .unset, .unset, .unset, .unset, .unset, .unset] [(.int (p0 &&& (7 : Int32)))])) t
    refine XS.iconst Y.here hx rfl (hb hby at_4) ?_
    show Steps p.tables e below (T.setTop (mkF m 5 #[.val (.int p0), .val (.int p1), .val (.int p2), .val (.int p3), .val (.int p4), .unset, .unset, .unset, .unset, .unset, .unset, .unset, .unset, .unset, .unset, .unset] [(.int (5 : Int32)), (.int (p0 &&& (7 : Int32)))])) t
    refine own_irem Y.here hx rfl (hb hby at_5) rfl (by decide) ?_
    show Steps p.tables e below (T.setTop (mkF m 6 #[.val (.int p0), .val (.int p1), .val (.int p2), .val (.int p3), .val (.int p4), .unset, .unset, .unset, .unset, .unset, .unset, .unset, .unset, .unset, .unset, .unset] [(.int ((p0 &&& (7 : Int32)) % (5 : Int32)))])) t
    refine XS.istore Y.here hx rfl (hb hby at_6) rfl (l' := #[.val (.int p0), .val (.int p1), .val (.int p2), .val (.int p3), .val (.int p4), .val (.int ((p0 &&& (7 : Int32)) % (5 : Int32))), .unset, .unset, .unset, .unset, .unset, .unset, .unset, .unset, .unset, .unset]) rfl ?_
    show Steps p.tables e below (T.setTop (mkF m 8 #[.val (.int p0), .val (.int p1), .val (.int p2), .val (.int p3), .val (.int p4), .val (.int ((p0 &&& (7 : Int32)) % (5 : Int32))), .unset, .unset, .unset, .unset, .unset, .unset, .unset, .unset, .unset, .unset] [])) t
    exact k
  obtain ⟨nn, hnn⟩ : ∃ z : Int32, z = ((p0 &&& (7 : Int32)) % (5 : Int32)) := ⟨_, rfl⟩
  rw [← hnn]
  have bnn : 0 ≤ nn.toInt ∧ nn.toInt ≤ 4 := by rw [hnn]; exact own_5 _
  refine Rn.go (T' := T) (g' := (mkF m 18 #[.val (.int p0), .val (.int p1), .val (.int p2), .val (.int p3), .val (.int p4), .val (.int nn), .val (.int ((((p0.toUInt32 >>> ((3 : Int32) &&& 31).toUInt32).toInt32) &&& (7 : Int32)) % (5 : Int32))), .unset, .unset, .unset, .unset, .unset, .unset, .unset, .unset, .unset] [])) (fun t k => ?_) ?_
  · show Steps p.tables e below (T.setTop (mkF m 8 #[.val (.int p0), .val (.int p1), .val (.int p2), .val (.int p3), .val (.int p4), .val (.int nn), .unset, .unset, .unset, .unset, .unset, .unset, .unset, .unset, .unset, .unset] [])) t
    refine XS.iloadN Y.here hx rfl (hb hby at_8) rfl ?_
    show Steps p.tables e below (T.setTop (mkF m 9 #[.val (.int p0), .val (.int p1), .val (.int p2), .val (.int p3), .val (.int p4), .val (.int nn), .unset, .unset, .unset, .unset, .unset, .unset, .unset, .unset, .unset, .unset] [(.int p0)])) t
    refine XS.iconst Y.here hx rfl (hb hby at_9) ?_
    show Steps p.tables e below (T.setTop (mkF m 10 #[.val (.int p0), .val (.int p1), .val (.int p2), .val (.int p3), .val (.int p4), .val (.int nn), .unset, .unset, .unset, .unset, .unset, .unset, .unset, .unset, .unset, .unset] [(.int (3 : Int32)), (.int p0)])) t
    refine XS.iushr Y.here hx rfl (hb hby at_10) rfl ?_
    show Steps p.tables e below (T.setTop (mkF m 11 #[.val (.int p0), .val (.int p1), .val (.int p2), .val (.int p3), .val (.int p4), .val (.int nn), .unset, .unset, .unset, .unset, .unset, .unset, .unset, .unset, .unset, .unset] [(.int ((p0.toUInt32 >>> ((3 : Int32) &&& 31).toUInt32).toInt32))])) t
    refine XS.bipush Y.here hx rfl (hb hby at_11) ?_
    show Steps p.tables e below (T.setTop (mkF m 13 #[.val (.int p0), .val (.int p1), .val (.int p2), .val (.int p3), .val (.int p4), .val (.int nn), .unset, .unset, .unset, .unset, .unset, .unset, .unset, .unset, .unset, .unset] [(.int (7 : Int32)), (.int ((p0.toUInt32 >>> ((3 : Int32) &&& 31).toUInt32).toInt32))])) t
    refine XS.iand Y.here hx rfl (hb hby at_13) rfl ?_
    show Steps p.tables e below (T.setTop (mkF m 14 #[.val (.int p0), .val (.int p1), .val (.int p2), .val (.int p3), .val (.int p4), .val (.int nn), .unset, .unset, .unset, .unset, .unset, .unset, .unset, .unset, .unset, .unset] [(.int (((p0.toUInt32 >>> ((3 : Int32) &&& 31).toUInt32).toInt32) &&& (7 : Int32)))])) t
    refine XS.iconst Y.here hx rfl (hb hby at_14) ?_
    show Steps p.tables e below (T.setTop (mkF m 15 #[.val (.int p0), .val (.int p1), .val (.int p2), .val (.int p3), .val (.int p4), .val (.int nn), .unset, .unset, .unset, .unset, .unset, .unset, .unset, .unset, .unset, .unset] [(.int (5 : Int32)), (.int (((p0.toUInt32 >>> ((3 : Int32) &&& 31).toUInt32).toInt32) &&& (7 : Int32)))])) t
    refine own_irem Y.here hx rfl (hb hby at_15) rfl (by decide) ?_
    show Steps p.tables e below (T.setTop (mkF m 16 #[.val (.int p0), .val (.int p1), .val (.int p2), .val (.int p3), .val (.int p4), .val (.int nn), .unset, .unset, .unset, .unset, .unset, .unset, .unset, .unset, .unset, .unset] [(.int ((((p0.toUInt32 >>> ((3 : Int32) &&& 31).toUInt32).toInt32) &&& (7 : Int32)) % (5 : Int32)))])) t
    refine XS.istore Y.here hx rfl (hb hby at_16) rfl (l' := #[.val (.int p0), .val (.int p1), .val (.int p2), .val (.int p3), .val (.int p4), .val (.int nn), .val (.int ((((p0.toUInt32 >>> ((3 : Int32) &&& 31).toUInt32).toInt32) &&& (7 : Int32)) % (5 : Int32))), .unset, .unset, .unset, .unset, .unset, .unset, .unset, .unset, .unset]) rfl ?_
    show Steps p.tables e below (T.setTop (mkF m 18 #[.val (.int p0), .val (.int p1), .val (.int p2), .val (.int p3), .val (.int p4), .val (.int nn), .val (.int ((((p0.toUInt32 >>> ((3 : Int32) &&& 31).toUInt32).toInt32) &&& (7 : Int32)) % (5 : Int32))), .unset, .unset, .unset, .unset, .unset, .unset, .unset, .unset, .unset] [])) t
    exact k
  obtain ⟨mm, hmm⟩ : ∃ z : Int32, z = ((((p0.toUInt32 >>> ((3 : Int32) &&& 31).toUInt32).toInt32) &&& (7 : Int32)) % (5 : Int32)) := ⟨_, rfl⟩
  rw [← hmm]
  have bmm : 0 ≤ mm.toInt ∧ mm.toInt ≤ 4 := by rw [hmm]; exact own_5 _
  refine Rn.go (T' := T) (g' := (mkF m 19 #[.val (.int p0), .val (.int p1), .val (.int p2), .val (.int p3), .val (.int p4), .val (.int nn), .val (.int mm), .unset, .unset, .unset, .unset, .unset, .unset, .unset, .unset, .unset] [(.int p1)])) (fun t k => ?_) ?_
  · show Steps p.tables e below (T.setTop (mkF m 18 #[.val (.int p0), .val (.int p1), .val (.int p2), .val (.int p3), .val (.int p4), .val (.int nn), .val (.int mm), .unset, .unset, .unset, .unset, .unset, .unset, .unset, .unset, .unset] [])) t
    refine XS.iloadN Y.here hx rfl (hb hby at_18) rfl ?_
    show Steps p.tables e below (T.setTop (mkF m 19 #[.val (.int p0), .val (.int p1), .val (.int p2), .val (.int p3), .val (.int p4), .val (.int nn), .val (.int mm), .unset, .unset, .unset, .unset, .unset, .unset, .unset, .unset, .unset] [(.int p1)])) t
    exact k
  refine On.static Y hx hZ (y := (⟨"com/example/arborplan/arborplan/tree/TreeIsEdgeOrderPinLaw", "pick", "(I)I"⟩ : MethodName)) hown (w0 hw) (w1 hw) (w3 hw) (w2 hw) (by decide) (argsL := [(.int p1)]) (rest := []) (rm1 l Z a0 hw n0 p1 []) (W := 0) (by decide) (by decide) (by decide) (by decide) (g := (mkF m 19 #[.val (.int p0), .val (.int p1), .val (.int p2), .val (.int p3), .val (.int p4), .val (.int nn), .val (.int mm), .unset, .unset, .unset, .unset, .unset, .unset, .unset, .unset, .unset] [(.int p1)])) rfl (by rw [hml]; rfl) (lenOf pd0 rfl) rfl (by show 2 * 0 + _ ≤ _; exact Nat.le_of_eq rfl) (hb hby at_19) ?_
  intro T1 u3 D4 hp5 Y2
  obtain ⟨r19, hr19, rfl, rfl⟩ : ∃ z : Int32, z = (own_pick p1) ∧ u3 = some (.int z) ∧ D4 = _ := ⟨_, rfl, hp5.1, hp5.2⟩
  replace Y2 : On p l e _ s m _ below meth c Z n0 T1 0 0 [] := Y2
  show Rn p e below F T1 (mkF m 22 #[.val (.int p0), .val (.int p1), .val (.int p2), .val (.int p3), .val (.int p4), .val (.int nn), .val (.int mm), .unset, .unset, .unset, .unset, .unset, .unset, .unset, .unset, .unset] [(.int r19)])
  refine Rn.go (T' := T1) (g' := (mkF m 25 #[.val (.int p0), .val (.int p1), .val (.int p2), .val (.int p3), .val (.int p4), .val (.int nn), .val (.int mm), .val (.int r19), .unset, .unset, .unset, .unset, .unset, .unset, .unset, .unset] [(.int p2)])) (fun t k => ?_) ?_
  · show Steps p.tables e below (T1.setTop (mkF m 22 #[.val (.int p0), .val (.int p1), .val (.int p2), .val (.int p3), .val (.int p4), .val (.int nn), .val (.int mm), .unset, .unset, .unset, .unset, .unset, .unset, .unset, .unset, .unset] [(.int r19)])) t
    refine XS.istore Y2.here hx rfl (hb hby at_22) rfl (l' := #[.val (.int p0), .val (.int p1), .val (.int p2), .val (.int p3), .val (.int p4), .val (.int nn), .val (.int mm), .val (.int r19), .unset, .unset, .unset, .unset, .unset, .unset, .unset, .unset]) rfl ?_
    show Steps p.tables e below (T1.setTop (mkF m 24 #[.val (.int p0), .val (.int p1), .val (.int p2), .val (.int p3), .val (.int p4), .val (.int nn), .val (.int mm), .val (.int r19), .unset, .unset, .unset, .unset, .unset, .unset, .unset, .unset] [])) t
    refine XS.iloadN Y2.here hx rfl (hb hby at_24) rfl ?_
    show Steps p.tables e below (T1.setTop (mkF m 25 #[.val (.int p0), .val (.int p1), .val (.int p2), .val (.int p3), .val (.int p4), .val (.int nn), .val (.int mm), .val (.int r19), .unset, .unset, .unset, .unset, .unset, .unset, .unset, .unset] [(.int p2)])) t
    exact k
  refine On.static Y2 hx hZ (y := (⟨"com/example/arborplan/arborplan/tree/TreeIsEdgeOrderPinLaw", "pick", "(I)I"⟩ : MethodName)) hown (w0 hw) (w1 hw) (w3 hw) (w2 hw) (by decide) (argsL := [(.int p2)]) (rest := []) (rm1 l Z a0 hw n0 p2 []) (W := 0) (by decide) (by decide) (by decide) (by decide) (g := (mkF m 25 #[.val (.int p0), .val (.int p1), .val (.int p2), .val (.int p3), .val (.int p4), .val (.int nn), .val (.int mm), .val (.int r19), .unset, .unset, .unset, .unset, .unset, .unset, .unset, .unset] [(.int p2)])) rfl (by rw [hml]; rfl) (lenOf pd0 rfl) rfl (by show 2 * 0 + _ ≤ _; exact Nat.le_of_eq rfl) (hb hby at_25) ?_
  intro T6 u8 D9 hp10 Y7
  obtain ⟨r25, hr25, rfl, rfl⟩ : ∃ z : Int32, z = (own_pick p2) ∧ u8 = some (.int z) ∧ D9 = _ := ⟨_, rfl, hp10.1, hp10.2⟩
  replace Y7 : On p l e _ s m _ below meth c Z n0 T6 0 0 [] := Y7
  show Rn p e below F T6 (mkF m 28 #[.val (.int p0), .val (.int p1), .val (.int p2), .val (.int p3), .val (.int p4), .val (.int nn), .val (.int mm), .val (.int r19), .unset, .unset, .unset, .unset, .unset, .unset, .unset, .unset] [(.int r25)])
  refine Rn.go (T' := T6) (g' := (mkF m 31 #[.val (.int p0), .val (.int p1), .val (.int p2), .val (.int p3), .val (.int p4), .val (.int nn), .val (.int mm), .val (.int r19), .val (.int r25), .unset, .unset, .unset, .unset, .unset, .unset, .unset] [(.int p3)])) (fun t k => ?_) ?_
  · show Steps p.tables e below (T6.setTop (mkF m 28 #[.val (.int p0), .val (.int p1), .val (.int p2), .val (.int p3), .val (.int p4), .val (.int nn), .val (.int mm), .val (.int r19), .unset, .unset, .unset, .unset, .unset, .unset, .unset, .unset] [(.int r25)])) t
    refine XS.istore Y7.here hx rfl (hb hby at_28) rfl (l' := #[.val (.int p0), .val (.int p1), .val (.int p2), .val (.int p3), .val (.int p4), .val (.int nn), .val (.int mm), .val (.int r19), .val (.int r25), .unset, .unset, .unset, .unset, .unset, .unset, .unset]) rfl ?_
    show Steps p.tables e below (T6.setTop (mkF m 30 #[.val (.int p0), .val (.int p1), .val (.int p2), .val (.int p3), .val (.int p4), .val (.int nn), .val (.int mm), .val (.int r19), .val (.int r25), .unset, .unset, .unset, .unset, .unset, .unset, .unset] [])) t
    refine XS.iloadN Y7.here hx rfl (hb hby at_30) rfl ?_
    show Steps p.tables e below (T6.setTop (mkF m 31 #[.val (.int p0), .val (.int p1), .val (.int p2), .val (.int p3), .val (.int p4), .val (.int nn), .val (.int mm), .val (.int r19), .val (.int r25), .unset, .unset, .unset, .unset, .unset, .unset, .unset] [(.int p3)])) t
    exact k
  refine On.static Y7 hx hZ (y := (⟨"com/example/arborplan/arborplan/tree/TreeIsEdgeOrderPinLaw", "pick", "(I)I"⟩ : MethodName)) hown (w0 hw) (w1 hw) (w3 hw) (w2 hw) (by decide) (argsL := [(.int p3)]) (rest := []) (rm1 l Z a0 hw n0 p3 []) (W := 0) (by decide) (by decide) (by decide) (by decide) (g := (mkF m 31 #[.val (.int p0), .val (.int p1), .val (.int p2), .val (.int p3), .val (.int p4), .val (.int nn), .val (.int mm), .val (.int r19), .val (.int r25), .unset, .unset, .unset, .unset, .unset, .unset, .unset] [(.int p3)])) rfl (by rw [hml]; rfl) (lenOf pd0 rfl) rfl (by show 2 * 0 + _ ≤ _; exact Nat.le_of_eq rfl) (hb hby at_31) ?_
  intro T11 u13 D14 hp15 Y12
  obtain ⟨r31, hr31, rfl, rfl⟩ : ∃ z : Int32, z = (own_pick p3) ∧ u13 = some (.int z) ∧ D14 = _ := ⟨_, rfl, hp15.1, hp15.2⟩
  replace Y12 : On p l e _ s m _ below meth c Z n0 T11 0 0 [] := Y12
  show Rn p e below F T11 (mkF m 34 #[.val (.int p0), .val (.int p1), .val (.int p2), .val (.int p3), .val (.int p4), .val (.int nn), .val (.int mm), .val (.int r19), .val (.int r25), .unset, .unset, .unset, .unset, .unset, .unset, .unset] [(.int r31)])
  refine Rn.go (T' := T11) (g' := (mkF m 38 #[.val (.int p0), .val (.int p1), .val (.int p2), .val (.int p3), .val (.int p4), .val (.int nn), .val (.int mm), .val (.int r19), .val (.int r25), .val (.int r31), .unset, .unset, .unset, .unset, .unset, .unset] [(.int p4)])) (fun t k => ?_) ?_
  · show Steps p.tables e below (T11.setTop (mkF m 34 #[.val (.int p0), .val (.int p1), .val (.int p2), .val (.int p3), .val (.int p4), .val (.int nn), .val (.int mm), .val (.int r19), .val (.int r25), .unset, .unset, .unset, .unset, .unset, .unset, .unset] [(.int r31)])) t
    refine XS.istore Y12.here hx rfl (hb hby at_34) rfl (l' := #[.val (.int p0), .val (.int p1), .val (.int p2), .val (.int p3), .val (.int p4), .val (.int nn), .val (.int mm), .val (.int r19), .val (.int r25), .val (.int r31), .unset, .unset, .unset, .unset, .unset, .unset]) rfl ?_
    show Steps p.tables e below (T11.setTop (mkF m 36 #[.val (.int p0), .val (.int p1), .val (.int p2), .val (.int p3), .val (.int p4), .val (.int nn), .val (.int mm), .val (.int r19), .val (.int r25), .val (.int r31), .unset, .unset, .unset, .unset, .unset, .unset] [])) t
    refine XS.iload Y12.here hx rfl (hb hby at_36) rfl ?_
    show Steps p.tables e below (T11.setTop (mkF m 38 #[.val (.int p0), .val (.int p1), .val (.int p2), .val (.int p3), .val (.int p4), .val (.int nn), .val (.int mm), .val (.int r19), .val (.int r25), .val (.int r31), .unset, .unset, .unset, .unset, .unset, .unset] [(.int p4)])) t
    exact k
  refine On.static Y12 hx hZ (y := (⟨"com/example/arborplan/arborplan/tree/TreeIsEdgeOrderPinLaw", "pick", "(I)I"⟩ : MethodName)) hown (w0 hw) (w1 hw) (w3 hw) (w2 hw) (by decide) (argsL := [(.int p4)]) (rest := []) (rm1 l Z a0 hw n0 p4 []) (W := 0) (by decide) (by decide) (by decide) (by decide) (g := (mkF m 38 #[.val (.int p0), .val (.int p1), .val (.int p2), .val (.int p3), .val (.int p4), .val (.int nn), .val (.int mm), .val (.int r19), .val (.int r25), .val (.int r31), .unset, .unset, .unset, .unset, .unset, .unset] [(.int p4)])) rfl (by rw [hml]; rfl) (lenOf pd0 rfl) rfl (by show 2 * 0 + _ ≤ _; exact Nat.le_of_eq rfl) (hb hby at_38) ?_
  intro T16 u18 D19 hp20 Y17
  obtain ⟨r38, hr38, rfl, rfl⟩ : ∃ z : Int32, z = (own_pick p4) ∧ u18 = some (.int z) ∧ D19 = _ := ⟨_, rfl, hp20.1, hp20.2⟩
  replace Y17 : On p l e _ s m _ below meth c Z n0 T16 0 0 [] := Y17
  show Rn p e below F T16 (mkF m 41 #[.val (.int p0), .val (.int p1), .val (.int p2), .val (.int p3), .val (.int p4), .val (.int nn), .val (.int mm), .val (.int r19), .val (.int r25), .val (.int r31), .unset, .unset, .unset, .unset, .unset, .unset] [(.int r38)])
  refine Rn.go (T' := T16) (g' := (mkF m 45 #[.val (.int p0), .val (.int p1), .val (.int p2), .val (.int p3), .val (.int p4), .val (.int nn), .val (.int mm), .val (.int r19), .val (.int r25), .val (.int r31), .val (.int r38), .unset, .unset, .unset, .unset, .unset] [(.int nn)])) (fun t k => ?_) ?_
  · show Steps p.tables e below (T16.setTop (mkF m 41 #[.val (.int p0), .val (.int p1), .val (.int p2), .val (.int p3), .val (.int p4), .val (.int nn), .val (.int mm), .val (.int r19), .val (.int r25), .val (.int r31), .unset, .unset, .unset, .unset, .unset, .unset] [(.int r38)])) t
    refine XS.istore Y17.here hx rfl (hb hby at_41) rfl (l' := #[.val (.int p0), .val (.int p1), .val (.int p2), .val (.int p3), .val (.int p4), .val (.int nn), .val (.int mm), .val (.int r19), .val (.int r25), .val (.int r31), .val (.int r38), .unset, .unset, .unset, .unset, .unset]) rfl ?_
    show Steps p.tables e below (T16.setTop (mkF m 43 #[.val (.int p0), .val (.int p1), .val (.int p2), .val (.int p3), .val (.int p4), .val (.int nn), .val (.int mm), .val (.int r19), .val (.int r25), .val (.int r31), .val (.int r38), .unset, .unset, .unset, .unset, .unset] [])) t
    refine XS.iload Y17.here hx rfl (hb hby at_43) rfl ?_
    show Steps p.tables e below (T16.setTop (mkF m 45 #[.val (.int p0), .val (.int p1), .val (.int p2), .val (.int p3), .val (.int p4), .val (.int nn), .val (.int mm), .val (.int r19), .val (.int r25), .val (.int r31), .val (.int r38), .unset, .unset, .unset, .unset, .unset] [(.int nn)])) t
    exact k
  refine On.newr Y17 hx hZ hown (w4 hw) (w5 hw) (g := (mkF m 45 #[.val (.int p0), .val (.int p1), .val (.int p2), .val (.int p3), .val (.int p4), .val (.int nn), .val (.int mm), .val (.int r19), .val (.int r25), .val (.int r31), .val (.int r38), .unset, .unset, .unset, .unset, .unset] [(.int nn)])) rfl (hb hby at_45) rfl (own_nn bnn.1) (N := nn.toNatClampNeg) (cap := 4) rfl (by rw [own_nat]; omega) (by decide) (by decide) (by decide) fun T21 a23 Y22 => ?_
  replace Y22 : On p l e _ s m _ below meth c Z n0 T21 1 4 [ar a23 (.object "java/lang/String") nn (List.replicate nn.toNatClampNeg .null)] := Y22
  show Rn p e below F T21 (mkF m 48 #[.val (.int p0), .val (.int p1), .val (.int p2), .val (.int p3), .val (.int p4), .val (.int nn), .val (.int mm), .val (.int r19), .val (.int r25), .val (.int r31), .val (.int r38), .unset, .unset, .unset, .unset, .unset] [(.ref a23)])
  refine Rn.go (T' := T21) (g' := (mkF m 50 #[.val (.int p0), .val (.int p1), .val (.int p2), .val (.int p3), .val (.int p4), .val (.int nn), .val (.int mm), .val (.int r19), .val (.int r25), .val (.int r31), .val (.int r38), .val (.ref a23), .unset, .unset, .unset, .unset] [])) (fun t k => ?_) ?_
  · show Steps p.tables e below (T21.setTop (mkF m 48 #[.val (.int p0), .val (.int p1), .val (.int p2), .val (.int p3), .val (.int p4), .val (.int nn), .val (.int mm), .val (.int r19), .val (.int r25), .val (.int r31), .val (.int r38), .unset, .unset, .unset, .unset, .unset] [(.ref a23)])) t
    refine XS.astore Y22.here hx rfl (hb hby at_48) rfl rfl (l' := #[.val (.int p0), .val (.int p1), .val (.int p2), .val (.int p3), .val (.int p4), .val (.int nn), .val (.int mm), .val (.int r19), .val (.int r25), .val (.int r31), .val (.int r38), .val (.ref a23), .unset, .unset, .unset, .unset]) rfl ?_
    show Steps p.tables e below (T21.setTop (mkF m 50 #[.val (.int p0), .val (.int p1), .val (.int p2), .val (.int p3), .val (.int p4), .val (.int nn), .val (.int mm), .val (.int r19), .val (.int r25), .val (.int r31), .val (.int r38), .val (.ref a23), .unset, .unset, .unset, .unset] [])) t
    exact k
  refine On.newo Y22 hx hZ hown (w6 hw) (w7 hw) (w8 hw) _ (own_lay_0 hw) (by decide) (g := (mkF m 50 #[.val (.int p0), .val (.int p1), .val (.int p2), .val (.int p3), .val (.int p4), .val (.int nn), .val (.int mm), .val (.int r19), .val (.int r25), .val (.int r31), .val (.int r38), .val (.ref a23), .unset, .unset, .unset, .unset] [])) rfl (hb hby at_50) (by decide) (by decide) fun T24 a26 Y25 => ?_
  replace Y25 : On p l e _ s m _ below meth c Z n0 T24 2 11 [ar a23 (.object "java/lang/String") nn (List.replicate nn.toNatClampNeg .null), ob a26 own_C0 (own_F0 .null .null .null .null .null .null .null)] := Y25
  show Rn p e below F T24 (mkF m 53 #[.val (.int p0), .val (.int p1), .val (.int p2), .val (.int p3), .val (.int p4), .val (.int nn), .val (.int mm), .val (.int r19), .val (.int r25), .val (.int r31), .val (.int r38), .val (.ref a23), .unset, .unset, .unset, .unset] [(.ref a26)])
  refine Rn.go (T' := T24) (g' := (mkF m 55 #[.val (.int p0), .val (.int p1), .val (.int p2), .val (.int p3), .val (.int p4), .val (.int nn), .val (.int mm), .val (.int r19), .val (.int r25), .val (.int r31), .val (.int r38), .val (.ref a23), .unset, .unset, .unset, .unset] [(.int (0 : Int32)), (.ref a26), (.ref a26)])) (fun t k => ?_) ?_
  · show Steps p.tables e below (T24.setTop (mkF m 53 #[.val (.int p0), .val (.int p1), .val (.int p2), .val (.int p3), .val (.int p4), .val (.int nn), .val (.int mm), .val (.int r19), .val (.int r25), .val (.int r31), .val (.int r38), .val (.ref a23), .unset, .unset, .unset, .unset] [(.ref a26)])) t
    refine XS.dup Y25.here hx rfl (hb hby at_53) rfl rfl ?_
    show Steps p.tables e below (T24.setTop (mkF m 54 #[.val (.int p0), .val (.int p1), .val (.int p2), .val (.int p3), .val (.int p4), .val (.int nn), .val (.int mm), .val (.int r19), .val (.int r25), .val (.int r31), .val (.int r38), .val (.ref a23), .unset, .unset, .unset, .unset] [(.ref a26), (.ref a26)])) t
    refine XS.iconst Y25.here hx rfl (hb hby at_54) ?_
    show Steps p.tables e below (T24.setTop (mkF m 55 #[.val (.int p0), .val (.int p1), .val (.int p2), .val (.int p3), .val (.int p4), .val (.int nn), .val (.int mm), .val (.int r19), .val (.int r25), .val (.int r31), .val (.int r38), .val (.ref a23), .unset, .unset, .unset, .unset] [(.int (0 : Int32)), (.ref a26), (.ref a26)])) t
    exact k
  refine On.newr Y25 hx hZ hown (w4 hw) (w5 hw) (g := (mkF m 55 #[.val (.int p0), .val (.int p1), .val (.int p2), .val (.int p3), .val (.int p4), .val (.int nn), .val (.int mm), .val (.int r19), .val (.int r25), .val (.int r31), .val (.int r38), .val (.ref a23), .unset, .unset, .unset, .unset] [(.int (0 : Int32)), (.ref a26), (.ref a26)])) rfl (hb hby at_55) rfl (by decide) (N := 0) (cap := 0) rfl (by decide) (by decide) (by decide) (by decide) fun T27 a29 Y28 => ?_
  replace Y28 : On p l e _ s m _ below meth c Z n0 T27 3 11 [ar a23 (.object "java/lang/String") nn (List.replicate nn.toNatClampNeg .null), ob a26 own_C0 (own_F0 .null .null .null .null .null .null .null), ar a29 (.object "java/lang/String") (0 : Int32) (List.replicate 0 .null)] := Y28
  show Rn p e below F T27 (mkF m 58 #[.val (.int p0), .val (.int p1), .val (.int p2), .val (.int p3), .val (.int p4), .val (.int nn), .val (.int mm), .val (.int r19), .val (.int r25), .val (.int r31), .val (.int r38), .val (.ref a23), .unset, .unset, .unset, .unset] [(.ref a29), (.ref a26), (.ref a26)])
  refine Rn.go (T' := T27) (g' := (mkF m 65 #[.val (.int p0), .val (.int p1), .val (.int p2), .val (.int p3), .val (.int p4), .val (.int nn), .val (.int mm), .val (.int r19), .val (.int r25), .val (.int r31), .val (.int r38), .val (.ref a23), .unset, .unset, .unset, .unset] [(.int ((2 : Int32) * nn)), .null, (.ref a23), (.ref a29), (.ref a26), (.ref a26)])) (fun t k => ?_) ?_
  · show Steps p.tables e below (T27.setTop (mkF m 58 #[.val (.int p0), .val (.int p1), .val (.int p2), .val (.int p3), .val (.int p4), .val (.int nn), .val (.int mm), .val (.int r19), .val (.int r25), .val (.int r31), .val (.int r38), .val (.ref a23), .unset, .unset, .unset, .unset] [(.ref a29), (.ref a26), (.ref a26)])) t
    refine XS.aload Y28.here hx rfl (hb hby at_58) rfl rfl ?_
    show Steps p.tables e below (T27.setTop (mkF m 60 #[.val (.int p0), .val (.int p1), .val (.int p2), .val (.int p3), .val (.int p4), .val (.int nn), .val (.int mm), .val (.int r19), .val (.int r25), .val (.int r31), .val (.int r38), .val (.ref a23), .unset, .unset, .unset, .unset] [(.ref a23), (.ref a29), (.ref a26), (.ref a26)])) t
    refine XS.aconstNull Y28.here hx rfl (hb hby at_60) ?_
    show Steps p.tables e below (T27.setTop (mkF m 61 #[.val (.int p0), .val (.int p1), .val (.int p2), .val (.int p3), .val (.int p4), .val (.int nn), .val (.int mm), .val (.int r19), .val (.int r25), .val (.int r31), .val (.int r38), .val (.ref a23), .unset, .unset, .unset, .unset] [.null, (.ref a23), (.ref a29), (.ref a26), (.ref a26)])) t
    refine XS.iconst Y28.here hx rfl (hb hby at_61) ?_
    show Steps p.tables e below (T27.setTop (mkF m 62 #[.val (.int p0), .val (.int p1), .val (.int p2), .val (.int p3), .val (.int p4), .val (.int nn), .val (.int mm), .val (.int r19), .val (.int r25), .val (.int r31), .val (.int r38), .val (.ref a23), .unset, .unset, .unset, .unset] [(.int (2 : Int32)), .null, (.ref a23), (.ref a29), (.ref a26), (.ref a26)])) t
    refine XS.iload Y28.here hx rfl (hb hby at_62) rfl ?_
    show Steps p.tables e below (T27.setTop (mkF m 64 #[.val (.int p0), .val (.int p1), .val (.int p2), .val (.int p3), .val (.int p4), .val (.int nn), .val (.int mm), .val (.int r19), .val (.int r25), .val (.int r31), .val (.int r38), .val (.ref a23), .unset, .unset, .unset, .unset] [(.int nn), (.int (2 : Int32)), .null, (.ref a23), (.ref a29), (.ref a26), (.ref a26)])) t
    refine XS.imul Y28.here hx rfl (hb hby at_64) rfl ?_
    show Steps p.tables e below (T27.setTop (mkF m 65 #[.val (.int p0), .val (.int p1), .val (.int p2), .val (.int p3), .val (.int p4), .val (.int nn), .val (.int mm), .val (.int r19), .val (.int r25), .val (.int r31), .val (.int r38), .val (.ref a23), .unset, .unset, .unset, .unset] [(.int ((2 : Int32) * nn)), .null, (.ref a23), (.ref a29), (.ref a26), (.ref a26)])) t
    exact k
  refine On.newp Y28 hx hZ (aty := .int) (w9 hw) (g := (mkF m 65 #[.val (.int p0), .val (.int p1), .val (.int p2), .val (.int p3), .val (.int p4), .val (.int nn), .val (.int mm), .val (.int r19), .val (.int r25), .val (.int r31), .val (.int r38), .val (.ref a23), .unset, .unset, .unset, .unset] [(.int ((2 : Int32) * nn)), .null, (.ref a23), (.ref a29), (.ref a26), (.ref a26)])) rfl (hb hby at_65) rfl (own_nn (by rw [own_2n bnn]; omega)) (N := ((2 : Int32) * nn).toNatClampNeg) (cap := 8) rfl (by rw [own_nat, own_2n bnn]; omega) (by decide) (by decide) (by decide) (dv := (.int (0 : Int32))) rfl fun T30 a32 Y31 => ?_
  replace Y31 : On p l e room_1 s m #[(.int p0), (.int p1), (.int p2), (.int p3), (.int p4)] below meth c Z n0 T30 4 19 [ar a23 (.object "java/lang/String") nn (List.replicate nn.toNatClampNeg .null), ob a26 own_C0 (own_F0 .null .null .null .null .null .null .null), ar a29 (.object "java/lang/String") (0 : Int32) (List.replicate 0 .null), ari a32 .int ((2 : Int32) * nn) (List.replicate ((2 : Int32) * nn).toNatClampNeg (0 : Int32))] := by first | exact Y31 | (simpa using Y31) | (rw [own_arz (a := a32)]; exact Y31) | (simp only [ari, arj, List.map_replicate]; exact Y31)
  show Rn p e below F T30 (mkF m 67 #[.val (.int p0), .val (.int p1), .val (.int p2), .val (.int p3), .val (.int p4), .val (.int nn), .val (.int mm), .val (.int r19), .val (.int r25), .val (.int r31), .val (.int r38), .val (.ref a23), .unset, .unset, .unset, .unset] [(.ref a32), .null, (.ref a23), (.ref a29), (.ref a26), (.ref a26)])
  refine Rn.go (T' := T30) (g' := (mkF m 69 #[.val (.int p0), .val (.int p1), .val (.int p2), .val (.int p3), .val (.int p4), .val (.int nn), .val (.int mm), .val (.int r19), .val (.int r25), .val (.int r31), .val (.int r38), .val (.ref a23), .unset, .unset, .unset, .unset] [(.int nn), (.ref a32), .null, (.ref a23), (.ref a29), (.ref a26), (.ref a26)])) (fun t k => ?_) ?_
  · show Steps p.tables e below (T30.setTop (mkF m 67 #[.val (.int p0), .val (.int p1), .val (.int p2), .val (.int p3), .val (.int p4), .val (.int nn), .val (.int mm), .val (.int r19), .val (.int r25), .val (.int r31), .val (.int r38), .val (.ref a23), .unset, .unset, .unset, .unset] [(.ref a32), .null, (.ref a23), (.ref a29), (.ref a26), (.ref a26)])) t
    refine XS.iload Y31.here hx rfl (hb hby at_67) rfl ?_
    show Steps p.tables e below (T30.setTop (mkF m 69 #[.val (.int p0), .val (.int p1), .val (.int p2), .val (.int p3), .val (.int p4), .val (.int nn), .val (.int mm), .val (.int r19), .val (.int r25), .val (.int r31), .val (.int r38), .val (.ref a23), .unset, .unset, .unset, .unset] [(.int nn), (.ref a32), .null, (.ref a23), (.ref a29), (.ref a26), (.ref a26)])) t
    exact k
  refine On.newp Y31 hx hZ (aty := .double) (w10 hw) (g := (mkF m 69 #[.val (.int p0), .val (.int p1), .val (.int p2), .val (.int p3), .val (.int p4), .val (.int nn), .val (.int mm), .val (.int r19), .val (.int r25), .val (.int r31), .val (.int r38), .val (.ref a23), .unset, .unset, .unset, .unset] [(.int nn), (.ref a32), .null, (.ref a23), (.ref a29), (.ref a26), (.ref a26)])) rfl (hb hby at_69) rfl (own_nn bnn.1) (N := nn.toNatClampNeg) (cap := 4) rfl (by rw [own_nat]; omega) (by decide) (by decide) (by decide) (dv := (defaultValue .double)) rfl fun T33 a35 Y34 => ?_
  replace Y34 : On p l e _ s m _ below meth c Z n0 T33 5 23 [ar a23 (.object "java/lang/String") nn (List.replicate nn.toNatClampNeg .null), ob a26 own_C0 (own_F0 .null .null .null .null .null .null .null), ar a29 (.object "java/lang/String") (0 : Int32) (List.replicate 0 .null), ari a32 .int ((2 : Int32) * nn) (List.replicate ((2 : Int32) * nn).toNatClampNeg (0 : Int32)), ar a35 .double nn (List.replicate nn.toNatClampNeg (defaultValue .double))] := Y34
  show Rn p e below F T33 (mkF m 71 #[.val (.int p0), .val (.int p1), .val (.int p2), .val (.int p3), .val (.int p4), .val (.int nn), .val (.int mm), .val (.int r19), .val (.int r25), .val (.int r31), .val (.int r38), .val (.ref a23), .unset, .unset, .unset, .unset] [(.ref a35), (.ref a32), .null, (.ref a23), (.ref a29), (.ref a26), (.ref a26)])
  refine Rn.go (T' := T33) (g' := (mkF m 72 #[.val (.int p0), .val (.int p1), .val (.int p2), .val (.int p3), .val (.int p4), .val (.int nn), .val (.int mm), .val (.int r19), .val (.int r25), .val (.int r31), .val (.int r38), .val (.ref a23), .unset, .unset, .unset, .unset] [(.int (0 : Int32)), (.ref a35), (.ref a32), .null, (.ref a23), (.ref a29), (.ref a26), (.ref a26)])) (fun t k => ?_) ?_
  · show Steps p.tables e below (T33.setTop (mkF m 71 #[.val (.int p0), .val (.int p1), .val (.int p2), .val (.int p3), .val (.int p4), .val (.int nn), .val (.int mm), .val (.int r19), .val (.int r25), .val (.int r31), .val (.int r38), .val (.ref a23), .unset, .unset, .unset, .unset] [(.ref a35), (.ref a32), .null, (.ref a23), (.ref a29), (.ref a26), (.ref a26)])) t
    refine XS.iconst Y34.here hx rfl (hb hby at_71) ?_
    show Steps p.tables e below (T33.setTop (mkF m 72 #[.val (.int p0), .val (.int p1), .val (.int p2), .val (.int p3), .val (.int p4), .val (.int nn), .val (.int mm), .val (.int r19), .val (.int r25), .val (.int r31), .val (.int r38), .val (.ref a23), .unset, .unset, .unset, .unset] [(.int (0 : Int32)), (.ref a35), (.ref a32), .null, (.ref a23), (.ref a29), (.ref a26), (.ref a26)])) t
    exact k
  refine On.newp Y34 hx hZ (aty := .int) (w9 hw) (g := (mkF m 72 #[.val (.int p0), .val (.int p1), .val (.int p2), .val (.int p3), .val (.int p4), .val (.int nn), .val (.int mm), .val (.int r19), .val (.int r25), .val (.int r31), .val (.int r38), .val (.ref a23), .unset, .unset, .unset, .unset] [(.int (0 : Int32)), (.ref a35), (.ref a32), .null, (.ref a23), (.ref a29), (.ref a26), (.ref a26)])) rfl (hb hby at_72) rfl (by decide) (N := 0) (cap := 0) rfl (by decide) (by decide) (by decide) (by decide) (dv := (.int (0 : Int32))) rfl fun T36 a38 Y37 => ?_
  replace Y37 : On p l e _ s m _ below meth c Z n0 T36 6 23 [ar a23 (.object "java/lang/String") nn (List.replicate nn.toNatClampNeg .null), ob a26 own_C0 (own_F0 .null .null .null .null .null .null .null), ar a29 (.object "java/lang/String") (0 : Int32) (List.replicate 0 .null), ari a32 .int ((2 : Int32) * nn) (List.replicate ((2 : Int32) * nn).toNatClampNeg (0 : Int32)), ar a35 .double nn (List.replicate nn.toNatClampNeg (defaultValue .double)), ari a38 .int (0 : Int32) []] := Y37
  show Rn p e below F T36 (mkF m 74 #[.val (.int p0), .val (.int p1), .val (.int p2), .val (.int p3), .val (.int p4), .val (.int nn), .val (.int mm), .val (.int r19), .val (.int r25), .val (.int r31), .val (.int r38), .val (.ref a23), .unset, .unset, .unset, .unset] [(.ref a38), (.ref a35), (.ref a32), .null, (.ref a23), (.ref a29), (.ref a26), (.ref a26)])
  refine Rn.go (T' := T36) (g' := (mkF m 75 #[.val (.int p0), .val (.int p1), .val (.int p2), .val (.int p3), .val (.int p4), .val (.int nn), .val (.int mm), .val (.int r19), .val (.int r25), .val (.int r31), .val (.int r38), .val (.ref a23), .unset, .unset, .unset, .unset] [(.int (0 : Int32)), (.ref a38), (.ref a35), (.ref a32), .null, (.ref a23), (.ref a29), (.ref a26), (.ref a26)])) (fun t k => ?_) ?_
  · show Steps p.tables e below (T36.setTop (mkF m 74 #[.val (.int p0), .val (.int p1), .val (.int p2), .val (.int p3), .val (.int p4), .val (.int nn), .val (.int mm), .val (.int r19), .val (.int r25), .val (.int r31), .val (.int r38), .val (.ref a23), .unset, .unset, .unset, .unset] [(.ref a38), (.ref a35), (.ref a32), .null, (.ref a23), (.ref a29), (.ref a26), (.ref a26)])) t
    refine XS.iconst Y37.here hx rfl (hb hby at_74) ?_
    show Steps p.tables e below (T36.setTop (mkF m 75 #[.val (.int p0), .val (.int p1), .val (.int p2), .val (.int p3), .val (.int p4), .val (.int nn), .val (.int mm), .val (.int r19), .val (.int r25), .val (.int r31), .val (.int r38), .val (.ref a23), .unset, .unset, .unset, .unset] [(.int (0 : Int32)), (.ref a38), (.ref a35), (.ref a32), .null, (.ref a23), (.ref a29), (.ref a26), (.ref a26)])) t
    exact k
  refine On.newp Y37 hx hZ (aty := .double) (w10 hw) (g := (mkF m 75 #[.val (.int p0), .val (.int p1), .val (.int p2), .val (.int p3), .val (.int p4), .val (.int nn), .val (.int mm), .val (.int r19), .val (.int r25), .val (.int r31), .val (.int r38), .val (.ref a23), .unset, .unset, .unset, .unset] [(.int (0 : Int32)), (.ref a38), (.ref a35), (.ref a32), .null, (.ref a23), (.ref a29), (.ref a26), (.ref a26)])) rfl (hb hby at_75) rfl (by decide) (N := 0) (cap := 0) rfl (by decide) (by decide) (by decide) (by decide) (dv := (defaultValue .double)) rfl fun T39 a41 Y40 => ?_
  replace Y40 : On p l e _ s m _ below meth c Z n0 T39 7 23 [ar a23 (.object "java/lang/String") nn (List.replicate nn.toNatClampNeg .null), ob a26 own_C0 (own_F0 .null .null .null .null .null .null .null), ar a29 (.object "java/lang/String") (0 : Int32) (List.replicate 0 .null), ari a32 .int ((2 : Int32) * nn) (List.replicate ((2 : Int32) * nn).toNatClampNeg (0 : Int32)), ar a35 .double nn (List.replicate nn.toNatClampNeg (defaultValue .double)), ari a38 .int (0 : Int32) [], ar a41 .double (0 : Int32) (List.replicate 0 (defaultValue .double))] := Y40
  show Rn p e below F T39 (mkF m 77 #[.val (.int p0), .val (.int p1), .val (.int p2), .val (.int p3), .val (.int p4), .val (.int nn), .val (.int mm), .val (.int r19), .val (.int r25), .val (.int r31), .val (.int r38), .val (.ref a23), .unset, .unset, .unset, .unset] [(.ref a41), (.ref a38), (.ref a35), (.ref a32), .null, (.ref a23), (.ref a29), (.ref a26), (.ref a26)])
  refine On.special Y40 hx hZ (y := (⟨"com/example/arborplan/arborplan/tree/Tree", "<init>", "([Ljava/lang/String;[Ljava/lang/String;Ljava/util/Map;[I[D[I[D)V"⟩ : MethodName)) rfl hown (w11 hw) (w12 hw) (w13 hw) (w8 hw) (by decide) (a := a26) (argsL := [(.ref a29), (.ref a23), .null, (.ref a32), (.ref a35), (.ref a38), (.ref a41)]) (rest := [(.ref a26)]) (rm2 l Z a0 hw n0 a26 a29 a23 a32 a35 a38 a41 (ar a23 (.object "java/lang/String") nn (List.replicate nn.toNatClampNeg .null)) [ar a29 (.object "java/lang/String") (0 : Int32) (List.replicate 0 .null), ari a32 .int ((2 : Int32) * nn) (List.replicate ((2 : Int32) * nn).toNatClampNeg (0 : Int32)), ar a35 .double nn (List.replicate nn.toNatClampNeg (defaultValue .double)), ari a38 .int (0 : Int32) [], ar a41 .double (0 : Int32) (List.replicate 0 (defaultValue .double))]) (W := 1) (by decide) (by decide) (by decide) (by decide) (g := (mkF m 77 #[.val (.int p0), .val (.int p1), .val (.int p2), .val (.int p3), .val (.int p4), .val (.int nn), .val (.int mm), .val (.int r19), .val (.int r25), .val (.int r31), .val (.int r38), .val (.ref a23), .unset, .unset, .unset, .unset] [(.ref a41), (.ref a38), (.ref a35), (.ref a32), .null, (.ref a23), (.ref a29), (.ref a26), (.ref a26)])) rfl (by rw [hml]; rfl) (lenOf pd1 rfl) rfl (by show 2 * 0 + _ ≤ _; exact Nat.le_of_eq rfl) (hb hby at_77) ?_
  intro T42 u44 D45 hp46 Y43
  obtain ⟨rfl, rfl⟩ := hp46
  replace Y43 : On p l e _ s m _ below meth c Z n0 T42 7 23 [ar a23 (.object "java/lang/String") nn (List.replicate nn.toNatClampNeg .null), ob a26 own_C0 (own_F0 (.ref a29) (.ref a23) .null (.ref a32) (.ref a35) (.ref a38) (.ref a41)), ar a29 (.object "java/lang/String") (0 : Int32) (List.replicate 0 .null), ari a32 .int ((2 : Int32) * nn) (List.replicate ((2 : Int32) * nn).toNatClampNeg (0 : Int32)), ar a35 .double nn (List.replicate nn.toNatClampNeg (defaultValue .double)), ari a38 .int (0 : Int32) [], ar a41 .double (0 : Int32) (List.replicate 0 (defaultValue .double))] := Y43
  show Rn p e below F T42 (mkF m 80 #[.val (.int p0), .val (.int p1), .val (.int p2), .val (.int p3), .val (.int p4), .val (.int nn), .val (.int mm), .val (.int r19), .val (.int r25), .val (.int r31), .val (.int r38), .val (.ref a23), .unset, .unset, .unset, .unset] [(.ref a26)])
  refine Rn.go (T' := T42) (g' := (mkF m 84 #[.val (.int p0), .val (.int p1), .val (.int p2), .val (.int p3), .val (.int p4), .val (.int nn), .val (.int mm), .val (.int r19), .val (.int r25), .val (.int r31), .val (.int r38), .val (.ref a23), .val (.ref a26), .unset, .unset, .unset] [(.int mm)])) (fun t k => ?_) ?_
  · show Steps p.tables e below (T42.setTop (mkF m 80 #[.val (.int p0), .val (.int p1), .val (.int p2), .val (.int p3), .val (.int p4), .val (.int nn), .val (.int mm), .val (.int r19), .val (.int r25), .val (.int r31), .val (.int r38), .val (.ref a23), .unset, .unset, .unset, .unset] [(.ref a26)])) t
    refine XS.astore Y43.here hx rfl (hb hby at_80) rfl rfl (l' := #[.val (.int p0), .val (.int p1), .val (.int p2), .val (.int p3), .val (.int p4), .val (.int nn), .val (.int mm), .val (.int r19), .val (.int r25), .val (.int r31), .val (.int r38), .val (.ref a23), .val (.ref a26), .unset, .unset, .unset]) rfl ?_
    show Steps p.tables e below (T42.setTop (mkF m 82 #[.val (.int p0), .val (.int p1), .val (.int p2), .val (.int p3), .val (.int p4), .val (.int nn), .val (.int mm), .val (.int r19), .val (.int r25), .val (.int r31), .val (.int r38), .val (.ref a23), .val (.ref a26), .unset, .unset, .unset] [])) t
    refine XS.iload Y43.here hx rfl (hb hby at_82) rfl ?_
    show Steps p.tables e below (T42.setTop (mkF m 84 #[.val (.int p0), .val (.int p1), .val (.int p2), .val (.int p3), .val (.int p4), .val (.int nn), .val (.int mm), .val (.int r19), .val (.int r25), .val (.int r31), .val (.int r38), .val (.ref a23), .val (.ref a26), .unset, .unset, .unset] [(.int mm)])) t
    exact k
  refine On.newp Y43 hx hZ (aty := .int) (w9 hw) (g := (mkF m 84 #[.val (.int p0), .val (.int p1), .val (.int p2), .val (.int p3), .val (.int p4), .val (.int nn), .val (.int mm), .val (.int r19), .val (.int r25), .val (.int r31), .val (.int r38), .val (.ref a23), .val (.ref a26), .unset, .unset, .unset] [(.int mm)])) rfl (hb hby at_84) rfl (own_nn bmm.1) (N := mm.toNatClampNeg) (cap := 4) rfl (by rw [own_nat]; omega) (by decide) (by decide) (by decide) (dv := (.int (0 : Int32))) rfl fun T47 a49 Y48 => ?_
  replace Y48 : On p l e room_1 s m #[(.int p0), (.int p1), (.int p2), (.int p3), (.int p4)] below meth c Z n0 T47 8 27 [ar a23 (.object "java/lang/String") nn (List.replicate nn.toNatClampNeg .null), ob a26 own_C0 (own_F0 (.ref a29) (.ref a23) .null (.ref a32) (.ref a35) (.ref a38) (.ref a41)), ar a29 (.object "java/lang/String") (0 : Int32) (List.replicate 0 .null), ari a32 .int ((2 : Int32) * nn) (List.replicate ((2 : Int32) * nn).toNatClampNeg (0 : Int32)), ar a35 .double nn (List.replicate nn.toNatClampNeg (defaultValue .double)), ari a38 .int (0 : Int32) [], ar a41 .double (0 : Int32) (List.replicate 0 (defaultValue .double)), ari a49 .int mm (List.replicate mm.toNatClampNeg (0 : Int32))] := by first | exact Y48 | (simpa using Y48) | (rw [own_arz (a := a49)]; exact Y48) | (simp only [ari, arj, List.map_replicate]; exact Y48)
  show Rn p e below F T47 (mkF m 86 #[.val (.int p0), .val (.int p1), .val (.int p2), .val (.int p3), .val (.int p4), .val (.int nn), .val (.int mm), .val (.int r19), .val (.int r25), .val (.int r31), .val (.int r38), .val (.ref a23), .val (.ref a26), .unset, .unset, .unset] [(.ref a49)])
  refine Rn.go (T' := T47) (g' := (mkF m 88 #[.val (.int p0), .val (.int p1), .val (.int p2), .val (.int p3), .val (.int p4), .val (.int nn), .val (.int mm), .val (.int r19), .val (.int r25), .val (.int r31), .val (.int r38), .val (.ref a23), .val (.ref a26), .val (.ref a49), .unset, .unset] [])) (fun t k => ?_) ?_
  · show Steps p.tables e below (T47.setTop (mkF m 86 #[.val (.int p0), .val (.int p1), .val (.int p2), .val (.int p3), .val (.int p4), .val (.int nn), .val (.int mm), .val (.int r19), .val (.int r25), .val (.int r31), .val (.int r38), .val (.ref a23), .val (.ref a26), .unset, .unset, .unset] [(.ref a49)])) t
    refine XS.astore Y48.here hx rfl (hb hby at_86) rfl rfl (l' := #[.val (.int p0), .val (.int p1), .val (.int p2), .val (.int p3), .val (.int p4), .val (.int nn), .val (.int mm), .val (.int r19), .val (.int r25), .val (.int r31), .val (.int r38), .val (.ref a23), .val (.ref a26), .val (.ref a49), .unset, .unset]) rfl ?_
    show Steps p.tables e below (T47.setTop (mkF m 88 #[.val (.int p0), .val (.int p1), .val (.int p2), .val (.int p3), .val (.int p4), .val (.int nn), .val (.int mm), .val (.int r19), .val (.int r25), .val (.int r31), .val (.int r38), .val (.ref a23), .val (.ref a26), .val (.ref a49), .unset, .unset] [])) t
    exact k
  have Y50 : On p l e _ s m _ below meth c Z n0 T47 8 27 [ar a23 (.object "java/lang/String") nn (List.replicate nn.toNatClampNeg .null), ob a26 own_C0 (own_F0 (.ref a29) (.ref a23) .null (.ref a32) (.ref a35) (.ref a38) (.ref a41)), ari a49 .int mm (List.replicate mm.toNatClampNeg (0 : Int32))] := On.weak Y48 (.cons_cons _ (.cons_cons _ (.cons _ (.cons _ (.cons _ (.cons _ (.cons _ (.cons_cons _ .slnil))))))))
  obtain ⟨x0, hx0⟩ : ∃ z : List Int32, z = (List.replicate mm.toNatClampNeg (0 : Int32)) := ⟨_, rfl⟩
  rw [← hx0] at Y50
  have l0 : x0.length = mm.toNatClampNeg := by rw [hx0]; simp
  refine Rn.go (T' := T47) (g' := (mkF m 90 #[.val (.int p0), .val (.int p1), .val (.int p2), .val (.int p3), .val (.int p4), .val (.int nn), .val (.int mm), .val (.int r19), .val (.int r25), .val (.int r31), .val (.int r38), .val (.ref a23), .val (.ref a26), .val (.ref a49), .unset, .unset] [(.int mm)])) (fun t k => ?_) ?_
  · show Steps p.tables e below (T47.setTop (mkF m 88 #[.val (.int p0), .val (.int p1), .val (.int p2), .val (.int p3), .val (.int p4), .val (.int nn), .val (.int mm), .val (.int r19), .val (.int r25), .val (.int r31), .val (.int r38), .val (.ref a23), .val (.ref a26), .val (.ref a49), .unset, .unset] [])) t
    refine XS.iload Y50.here hx rfl (hb hby at_88) rfl ?_
    show Steps p.tables e below (T47.setTop (mkF m 90 #[.val (.int p0), .val (.int p1), .val (.int p2), .val (.int p3), .val (.int p4), .val (.int nn), .val (.int mm), .val (.int r19), .val (.int r25), .val (.int r31), .val (.int r38), .val (.ref a23), .val (.ref a26), .val (.ref a49), .unset, .unset] [(.int mm)])) t
    exact k
  suffices HJ99 : ∀ (T51 : State), On p l e room_1 s m #[(.int p0), (.int p1), (.int p2), (.int p3), (.int p4)] below meth c Z n0 T51 8 27 [ar a23 (.object "java/lang/String") nn (List.replicate nn.toNatClampNeg .null), ob a26 own_C0 (own_F0 (.ref a29) (.ref a23) .null (.ref a32) (.ref a35) (.ref a38) (.ref a41)), ari a49 .int mm (x0.set (0 : Int32).toNatClampNeg r19)] → Rn p e below F T51 (mkF m 99 #[.val (.int p0), .val (.int p1), .val (.int p2), .val (.int p3), .val (.int p4), .val (.int nn), .val (.int mm), .val (.int r19), .val (.int r25), .val (.int r31), .val (.int r38), .val (.ref a23), .val (.ref a26), .val (.ref a49), .unset, .unset] []) by
    by_cases hc90 : (0 : Int32) < mm
    · refine Rn.go (T' := T47) (g' := (mkF m 93 #[.val (.int p0), .val (.int p1), .val (.int p2), .val (.int p3), .val (.int p4), .val (.int nn), .val (.int mm), .val (.int r19), .val (.int r25), .val (.int r31), .val (.int r38), .val (.ref a23), .val (.ref a26), .val (.ref a49), .unset, .unset] [])) (fun t k => XS.ifNo Y50.here hx rfl (hb hby at_90) rfl ((if0 _ _).trans (tlt hc90).2.2.2) k) ?_
      refine Rn.go (T' := T47) (g' := (mkF m 98 #[.val (.int p0), .val (.int p1), .val (.int p2), .val (.int p3), .val (.int p4), .val (.int nn), .val (.int mm), .val (.int r19), .val (.int r25), .val (.int r31), .val (.int r38), .val (.ref a23), .val (.ref a26), .val (.ref a49), .unset, .unset] [(.int r19), (.int (0 : Int32)), (.ref a49)])) (fun t k => ?_) ?_
      · show Steps p.tables e below (T47.setTop (mkF m 93 #[.val (.int p0), .val (.int p1), .val (.int p2), .val (.int p3), .val (.int p4), .val (.int nn), .val (.int mm), .val (.int r19), .val (.int r25), .val (.int r31), .val (.int r38), .val (.ref a23), .val (.ref a26), .val (.ref a49), .unset, .unset] [])) t
        refine XS.aload Y50.here hx rfl (hb hby at_93) rfl rfl ?_
        show Steps p.tables e below (T47.setTop (mkF m 95 #[.val (.int p0), .val (.int p1), .val (.int p2), .val (.int p3), .val (.int p4), .val (.int nn), .val (.int mm), .val (.int r19), .val (.int r25), .val (.int r31), .val (.int r38), .val (.ref a23), .val (.ref a26), .val (.ref a49), .unset, .unset] [(.ref a49)])) t
        refine XS.iconst Y50.here hx rfl (hb hby at_95) ?_
        show Steps p.tables e below (T47.setTop (mkF m 96 #[.val (.int p0), .val (.int p1), .val (.int p2), .val (.int p3), .val (.int p4), .val (.int nn), .val (.int mm), .val (.int r19), .val (.int r25), .val (.int r31), .val (.int r38), .val (.ref a23), .val (.ref a26), .val (.ref a49), .unset, .unset] [(.int (0 : Int32)), (.ref a49)])) t
        refine XS.iload Y50.here hx rfl (hb hby at_96) rfl ?_
        show Steps p.tables e below (T47.setTop (mkF m 98 #[.val (.int p0), .val (.int p1), .val (.int p2), .val (.int p3), .val (.int p4), .val (.int nn), .val (.int mm), .val (.int r19), .val (.int r25), .val (.int r31), .val (.int r38), .val (.ref a23), .val (.ref a26), .val (.ref a49), .unset, .unset] [(.int r19), (.int (0 : Int32)), (.ref a49)])) t
        exact k
      refine On.isto Y50 hx hZ (i := 2) rfl (by decide) (own_il l0 (by decide) hc90) (g := (mkF m 98 #[.val (.int p0), .val (.int p1), .val (.int p2), .val (.int p3), .val (.int p4), .val (.int nn), .val (.int mm), .val (.int r19), .val (.int r25), .val (.int r31), .val (.int r38), .val (.ref a23), .val (.ref a26), .val (.ref a49), .unset, .unset] [(.int r19), (.int (0 : Int32)), (.ref a49)])) rfl rfl (hb hby at_98) fun T53 Y54 => ?_
      replace Y54 : On p l e _ s m _ below meth c Z n0 T53 8 27 [ar a23 (.object "java/lang/String") nn (List.replicate nn.toNatClampNeg .null), ob a26 own_C0 (own_F0 (.ref a29) (.ref a23) .null (.ref a32) (.ref a35) (.ref a38) (.ref a41)), ari a49 .int mm (x0.set (0 : Int32).toNatClampNeg r19)] := Y54
      show Rn p e below F T53 (mkF m 99 #[.val (.int p0), .val (.int p1), .val (.int p2), .val (.int p3), .val (.int p4), .val (.int nn), .val (.int mm), .val (.int r19), .val (.int r25), .val (.int r31), .val (.int r38), .val (.ref a23), .val (.ref a26), .val (.ref a49), .unset, .unset] [])
      exact HJ99 _ Y54
    · refine Rn.go (T' := T47) (g' := (mkF m 99 #[.val (.int p0), .val (.int p1), .val (.int p2), .val (.int p3), .val (.int p4), .val (.int nn), .val (.int mm), .val (.int r19), .val (.int r25), .val (.int r31), .val (.int r38), .val (.ref a23), .val (.ref a26), .val (.ref a49), .unset, .unset] [])) (fun t k => XS.ifYes Y50.here hx rfl (pc0 := 90) (pc' := 99) rfl (hb hby at_90) rfl ((if0 _ _).trans (flt hc90).2.2.2) (by decide) (by decide) k) ?_
      exact HJ99 _ (by rw [own_ns l0 (by decide) hc90]; exact Y50)
  intro T51 Y52
  obtain ⟨x1, hx1⟩ : ∃ z : List Int32, z = (x0.set (0 : Int32).toNatClampNeg r19) := ⟨_, rfl⟩
  rw [← hx1] at Y52
  have l1 : x1.length = mm.toNatClampNeg := by rw [hx1, List.length_set]; exact l0
  refine Rn.go (T' := T51) (g' := (mkF m 102 #[.val (.int p0), .val (.int p1), .val (.int p2), .val (.int p3), .val (.int p4), .val (.int nn), .val (.int mm), .val (.int r19), .val (.int r25), .val (.int r31), .val (.int r38), .val (.ref a23), .val (.ref a26), .val (.ref a49), .unset, .unset] [(.int (1 : Int32)), (.int mm)])) (fun t k => ?_) ?_
  · show Steps p.tables e below (T51.setTop (mkF m 99 #[.val (.int p0), .val (.int p1), .val (.int p2), .val (.int p3), .val (.int p4), .val (.int nn), .val (.int mm), .val (.int r19), .val (.int r25), .val (.int r31), .val (.int r38), .val (.ref a23), .val (.ref a26), .val (.ref a49), .unset, .unset] [])) t
    refine XS.iload Y52.here hx rfl (hb hby at_99) rfl ?_
    show Steps p.tables e below (T51.setTop (mkF m 101 #[.val (.int p0), .val (.int p1), .val (.int p2), .val (.int p3), .val (.int p4), .val (.int nn), .val (.int mm), .val (.int r19), .val (.int r25), .val (.int r31), .val (.int r38), .val (.ref a23), .val (.ref a26), .val (.ref a49), .unset, .unset] [(.int mm)])) t
    refine XS.iconst Y52.here hx rfl (hb hby at_101) ?_
    show Steps p.tables e below (T51.setTop (mkF m 102 #[.val (.int p0), .val (.int p1), .val (.int p2), .val (.int p3), .val (.int p4), .val (.int nn), .val (.int mm), .val (.int r19), .val (.int r25), .val (.int r31), .val (.int r38), .val (.ref a23), .val (.ref a26), .val (.ref a49), .unset, .unset] [(.int (1 : Int32)), (.int mm)])) t
    exact k
  suffices HJ111 : ∀ (T55 : State), On p l e room_1 s m #[(.int p0), (.int p1), (.int p2), (.int p3), (.int p4)] below meth c Z n0 T55 8 27 [ar a23 (.object "java/lang/String") nn (List.replicate nn.toNatClampNeg .null), ob a26 own_C0 (own_F0 (.ref a29) (.ref a23) .null (.ref a32) (.ref a35) (.ref a38) (.ref a41)), ari a49 .int mm (x1.set (1 : Int32).toNatClampNeg r25)] → Rn p e below F T55 (mkF m 111 #[.val (.int p0), .val (.int p1), .val (.int p2), .val (.int p3), .val (.int p4), .val (.int nn), .val (.int mm), .val (.int r19), .val (.int r25), .val (.int r31), .val (.int r38), .val (.ref a23), .val (.ref a26), .val (.ref a49), .unset, .unset] []) by
    by_cases hc102 : (1 : Int32) < mm
    · refine Rn.go (T' := T51) (g' := (mkF m 105 #[.val (.int p0), .val (.int p1), .val (.int p2), .val (.int p3), .val (.int p4), .val (.int nn), .val (.int mm), .val (.int r19), .val (.int r25), .val (.int r31), .val (.int r38), .val (.ref a23), .val (.ref a26), .val (.ref a49), .unset, .unset] [])) (fun t k => XS.icmpNo Y52.here hx rfl (hb hby at_102) rfl (tlt hc102).2.2.2 k) ?_
      refine Rn.go (T' := T51) (g' := (mkF m 110 #[.val (.int p0), .val (.int p1), .val (.int p2), .val (.int p3), .val (.int p4), .val (.int nn), .val (.int mm), .val (.int r19), .val (.int r25), .val (.int r31), .val (.int r38), .val (.ref a23), .val (.ref a26), .val (.ref a49), .unset, .unset] [(.int r25), (.int (1 : Int32)), (.ref a49)])) (fun t k => ?_) ?_
      · show Steps p.tables e below (T51.setTop (mkF m 105 #[.val (.int p0), .val (.int p1), .val (.int p2), .val (.int p3), .val (.int p4), .val (.int nn), .val (.int mm), .val (.int r19), .val (.int r25), .val (.int r31), .val (.int r38), .val (.ref a23), .val (.ref a26), .val (.ref a49), .unset, .unset] [])) t
        refine XS.aload Y52.here hx rfl (hb hby at_105) rfl rfl ?_
        show Steps p.tables e below (T51.setTop (mkF m 107 #[.val (.int p0), .val (.int p1), .val (.int p2), .val (.int p3), .val (.int p4), .val (.int nn), .val (.int mm), .val (.int r19), .val (.int r25), .val (.int r31), .val (.int r38), .val (.ref a23), .val (.ref a26), .val (.ref a49), .unset, .unset] [(.ref a49)])) t
        refine XS.iconst Y52.here hx rfl (hb hby at_107) ?_
        show Steps p.tables e below (T51.setTop (mkF m 108 #[.val (.int p0), .val (.int p1), .val (.int p2), .val (.int p3), .val (.int p4), .val (.int nn), .val (.int mm), .val (.int r19), .val (.int r25), .val (.int r31), .val (.int r38), .val (.ref a23), .val (.ref a26), .val (.ref a49), .unset, .unset] [(.int (1 : Int32)), (.ref a49)])) t
        refine XS.iload Y52.here hx rfl (hb hby at_108) rfl ?_
        show Steps p.tables e below (T51.setTop (mkF m 110 #[.val (.int p0), .val (.int p1), .val (.int p2), .val (.int p3), .val (.int p4), .val (.int nn), .val (.int mm), .val (.int r19), .val (.int r25), .val (.int r31), .val (.int r38), .val (.ref a23), .val (.ref a26), .val (.ref a49), .unset, .unset] [(.int r25), (.int (1 : Int32)), (.ref a49)])) t
        exact k
      refine On.isto Y52 hx hZ (i := 2) rfl (by decide) (own_il l1 (by decide) hc102) (g := (mkF m 110 #[.val (.int p0), .val (.int p1), .val (.int p2), .val (.int p3), .val (.int p4), .val (.int nn), .val (.int mm), .val (.int r19), .val (.int r25), .val (.int r31), .val (.int r38), .val (.ref a23), .val (.ref a26), .val (.ref a49), .unset, .unset] [(.int r25), (.int (1 : Int32)), (.ref a49)])) rfl rfl (hb hby at_110) fun T57 Y58 => ?_
      replace Y58 : On p l e _ s m _ below meth c Z n0 T57 8 27 [ar a23 (.object "java/lang/String") nn (List.replicate nn.toNatClampNeg .null), ob a26 own_C0 (own_F0 (.ref a29) (.ref a23) .null (.ref a32) (.ref a35) (.ref a38) (.ref a41)), ari a49 .int mm (x1.set (1 : Int32).toNatClampNeg r25)] := Y58
      show Rn p e below F T57 (mkF m 111 #[.val (.int p0), .val (.int p1), .val (.int p2), .val (.int p3), .val (.int p4), .val (.int nn), .val (.int mm), .val (.int r19), .val (.int r25), .val (.int r31), .val (.int r38), .val (.ref a23), .val (.ref a26), .val (.ref a49), .unset, .unset] [])
      exact HJ111 _ Y58
    · refine Rn.go (T' := T51) (g' := (mkF m 111 #[.val (.int p0), .val (.int p1), .val (.int p2), .val (.int p3), .val (.int p4), .val (.int nn), .val (.int mm), .val (.int r19), .val (.int r25), .val (.int r31), .val (.int r38), .val (.ref a23), .val (.ref a26), .val (.ref a49), .unset, .unset] [])) (fun t k => XS.icmpYes Y52.here hx rfl (pc0 := 102) (pc' := 111) rfl (hb hby at_102) rfl (flt hc102).2.2.2 (by decide) (by decide) k) ?_
      exact HJ111 _ (by rw [own_ns l1 (by decide) hc102]; exact Y52)
  intro T55 Y56
  obtain ⟨x2, hx2⟩ : ∃ z : List Int32, z = (x1.set (1 : Int32).toNatClampNeg r25) := ⟨_, rfl⟩
  rw [← hx2] at Y56
  have l2 : x2.length = mm.toNatClampNeg := by rw [hx2, List.length_set]; exact l1
  refine Rn.go (T' := T55) (g' := (mkF m 114 #[.val (.int p0), .val (.int p1), .val (.int p2), .val (.int p3), .val (.int p4), .val (.int nn), .val (.int mm), .val (.int r19), .val (.int r25), .val (.int r31), .val (.int r38), .val (.ref a23), .val (.ref a26), .val (.ref a49), .unset, .unset] [(.int (2 : Int32)), (.int mm)])) (fun t k => ?_) ?_
  · show Steps p.tables e below (T55.setTop (mkF m 111 #[.val (.int p0), .val (.int p1), .val (.int p2), .val (.int p3), .val (.int p4), .val (.int nn), .val (.int mm), .val (.int r19), .val (.int r25), .val (.int r31), .val (.int r38), .val (.ref a23), .val (.ref a26), .val (.ref a49), .unset, .unset] [])) t
    refine XS.iload Y56.here hx rfl (hb hby at_111) rfl ?_
    show Steps p.tables e below (T55.setTop (mkF m 113 #[.val (.int p0), .val (.int p1), .val (.int p2), .val (.int p3), .val (.int p4), .val (.int nn), .val (.int mm), .val (.int r19), .val (.int r25), .val (.int r31), .val (.int r38), .val (.ref a23), .val (.ref a26), .val (.ref a49), .unset, .unset] [(.int mm)])) t
    refine XS.iconst Y56.here hx rfl (hb hby at_113) ?_
    show Steps p.tables e below (T55.setTop (mkF m 114 #[.val (.int p0), .val (.int p1), .val (.int p2), .val (.int p3), .val (.int p4), .val (.int nn), .val (.int mm), .val (.int r19), .val (.int r25), .val (.int r31), .val (.int r38), .val (.ref a23), .val (.ref a26), .val (.ref a49), .unset, .unset] [(.int (2 : Int32)), (.int mm)])) t
    exact k
  suffices HJ123 : ∀ (T59 : State), On p l e room_1 s m #[(.int p0), (.int p1), (.int p2), (.int p3), (.int p4)] below meth c Z n0 T59 8 27 [ar a23 (.object "java/lang/String") nn (List.replicate nn.toNatClampNeg .null), ob a26 own_C0 (own_F0 (.ref a29) (.ref a23) .null (.ref a32) (.ref a35) (.ref a38) (.ref a41)), ari a49 .int mm (x2.set (2 : Int32).toNatClampNeg r31)] → Rn p e below F T59 (mkF m 123 #[.val (.int p0), .val (.int p1), .val (.int p2), .val (.int p3), .val (.int p4), .val (.int nn), .val (.int mm), .val (.int r19), .val (.int r25), .val (.int r31), .val (.int r38), .val (.ref a23), .val (.ref a26), .val (.ref a49), .unset, .unset] []) by
    by_cases hc114 : (2 : Int32) < mm
    · refine Rn.go (T' := T55) (g' := (mkF m 117 #[.val (.int p0), .val (.int p1), .val (.int p2), .val (.int p3), .val (.int p4), .val (.int nn), .val (.int mm), .val (.int r19), .val (.int r25), .val (.int r31), .val (.int r38), .val (.ref a23), .val (.ref a26), .val (.ref a49), .unset, .unset] [])) (fun t k => XS.icmpNo Y56.here hx rfl (hb hby at_114) rfl (tlt hc114).2.2.2 k) ?_
      refine Rn.go (T' := T55) (g' := (mkF m 122 #[.val (.int p0), .val (.int p1), .val (.int p2), .val (.int p3), .val (.int p4), .val (.int nn), .val (.int mm), .val (.int r19), .val (.int r25), .val (.int r31), .val (.int r38), .val (.ref a23), .val (.ref a26), .val (.ref a49), .unset, .unset] [(.int r31), (.int (2 : Int32)), (.ref a49)])) (fun t k => ?_) ?_
      · show Steps p.tables e below (T55.setTop (mkF m 117 #[.val (.int p0), .val (.int p1), .val (.int p2), .val (.int p3), .val (.int p4), .val (.int nn), .val (.int mm), .val (.int r19), .val (.int r25), .val (.int r31), .val (.int r38), .val (.ref a23), .val (.ref a26), .val (.ref a49), .unset, .unset] [])) t
        refine XS.aload Y56.here hx rfl (hb hby at_117) rfl rfl ?_
        show Steps p.tables e below (T55.setTop (mkF m 119 #[.val (.int p0), .val (.int p1), .val (.int p2), .val (.int p3), .val (.int p4), .val (.int nn), .val (.int mm), .val (.int r19), .val (.int r25), .val (.int r31), .val (.int r38), .val (.ref a23), .val (.ref a26), .val (.ref a49), .unset, .unset] [(.ref a49)])) t
        refine XS.iconst Y56.here hx rfl (hb hby at_119) ?_
        show Steps p.tables e below (T55.setTop (mkF m 120 #[.val (.int p0), .val (.int p1), .val (.int p2), .val (.int p3), .val (.int p4), .val (.int nn), .val (.int mm), .val (.int r19), .val (.int r25), .val (.int r31), .val (.int r38), .val (.ref a23), .val (.ref a26), .val (.ref a49), .unset, .unset] [(.int (2 : Int32)), (.ref a49)])) t
        refine XS.iload Y56.here hx rfl (hb hby at_120) rfl ?_
        show Steps p.tables e below (T55.setTop (mkF m 122 #[.val (.int p0), .val (.int p1), .val (.int p2), .val (.int p3), .val (.int p4), .val (.int nn), .val (.int mm), .val (.int r19), .val (.int r25), .val (.int r31), .val (.int r38), .val (.ref a23), .val (.ref a26), .val (.ref a49), .unset, .unset] [(.int r31), (.int (2 : Int32)), (.ref a49)])) t
        exact k
      refine On.isto Y56 hx hZ (i := 2) rfl (by decide) (own_il l2 (by decide) hc114) (g := (mkF m 122 #[.val (.int p0), .val (.int p1), .val (.int p2), .val (.int p3), .val (.int p4), .val (.int nn), .val (.int mm), .val (.int r19), .val (.int r25), .val (.int r31), .val (.int r38), .val (.ref a23), .val (.ref a26), .val (.ref a49), .unset, .unset] [(.int r31), (.int (2 : Int32)), (.ref a49)])) rfl rfl (hb hby at_122) fun T61 Y62 => ?_
      replace Y62 : On p l e _ s m _ below meth c Z n0 T61 8 27 [ar a23 (.object "java/lang/String") nn (List.replicate nn.toNatClampNeg .null), ob a26 own_C0 (own_F0 (.ref a29) (.ref a23) .null (.ref a32) (.ref a35) (.ref a38) (.ref a41)), ari a49 .int mm (x2.set (2 : Int32).toNatClampNeg r31)] := Y62
      show Rn p e below F T61 (mkF m 123 #[.val (.int p0), .val (.int p1), .val (.int p2), .val (.int p3), .val (.int p4), .val (.int nn), .val (.int mm), .val (.int r19), .val (.int r25), .val (.int r31), .val (.int r38), .val (.ref a23), .val (.ref a26), .val (.ref a49), .unset, .unset] [])
      exact HJ123 _ Y62
    · refine Rn.go (T' := T55) (g' := (mkF m 123 #[.val (.int p0), .val (.int p1), .val (.int p2), .val (.int p3), .val (.int p4), .val (.int nn), .val (.int mm), .val (.int r19), .val (.int r25), .val (.int r31), .val (.int r38), .val (.ref a23), .val (.ref a26), .val (.ref a49), .unset, .unset] [])) (fun t k => XS.icmpYes Y56.here hx rfl (pc0 := 114) (pc' := 123) rfl (hb hby at_114) rfl (flt hc114).2.2.2 (by decide) (by decide) k) ?_
      exact HJ123 _ (by rw [own_ns l2 (by decide) hc114]; exact Y56)
  intro T59 Y60
  obtain ⟨x3, hx3⟩ : ∃ z : List Int32, z = (x2.set (2 : Int32).toNatClampNeg r31) := ⟨_, rfl⟩
  rw [← hx3] at Y60
  have l3 : x3.length = mm.toNatClampNeg := by rw [hx3, List.length_set]; exact l2
  refine Rn.go (T' := T59) (g' := (mkF m 126 #[.val (.int p0), .val (.int p1), .val (.int p2), .val (.int p3), .val (.int p4), .val (.int nn), .val (.int mm), .val (.int r19), .val (.int r25), .val (.int r31), .val (.int r38), .val (.ref a23), .val (.ref a26), .val (.ref a49), .unset, .unset] [(.int (3 : Int32)), (.int mm)])) (fun t k => ?_) ?_
  · show Steps p.tables e below (T59.setTop (mkF m 123 #[.val (.int p0), .val (.int p1), .val (.int p2), .val (.int p3), .val (.int p4), .val (.int nn), .val (.int mm), .val (.int r19), .val (.int r25), .val (.int r31), .val (.int r38), .val (.ref a23), .val (.ref a26), .val (.ref a49), .unset, .unset] [])) t
    refine XS.iload Y60.here hx rfl (hb hby at_123) rfl ?_
    show Steps p.tables e below (T59.setTop (mkF m 125 #[.val (.int p0), .val (.int p1), .val (.int p2), .val (.int p3), .val (.int p4), .val (.int nn), .val (.int mm), .val (.int r19), .val (.int r25), .val (.int r31), .val (.int r38), .val (.ref a23), .val (.ref a26), .val (.ref a49), .unset, .unset] [(.int mm)])) t
    refine XS.iconst Y60.here hx rfl (hb hby at_125) ?_
    show Steps p.tables e below (T59.setTop (mkF m 126 #[.val (.int p0), .val (.int p1), .val (.int p2), .val (.int p3), .val (.int p4), .val (.int nn), .val (.int mm), .val (.int r19), .val (.int r25), .val (.int r31), .val (.int r38), .val (.ref a23), .val (.ref a26), .val (.ref a49), .unset, .unset] [(.int (3 : Int32)), (.int mm)])) t
    exact k
  suffices HJ135 : ∀ (T63 : State), On p l e room_1 s m #[(.int p0), (.int p1), (.int p2), (.int p3), (.int p4)] below meth c Z n0 T63 8 27 [ar a23 (.object "java/lang/String") nn (List.replicate nn.toNatClampNeg .null), ob a26 own_C0 (own_F0 (.ref a29) (.ref a23) .null (.ref a32) (.ref a35) (.ref a38) (.ref a41)), ari a49 .int mm (x3.set (3 : Int32).toNatClampNeg r38)] → Rn p e below F T63 (mkF m 135 #[.val (.int p0), .val (.int p1), .val (.int p2), .val (.int p3), .val (.int p4), .val (.int nn), .val (.int mm), .val (.int r19), .val (.int r25), .val (.int r31), .val (.int r38), .val (.ref a23), .val (.ref a26), .val (.ref a49), .unset, .unset] []) by
    by_cases hc126 : (3 : Int32) < mm
    · refine Rn.go (T' := T59) (g' := (mkF m 129 #[.val (.int p0), .val (.int p1), .val (.int p2), .val (.int p3), .val (.int p4), .val (.int nn), .val (.int mm), .val (.int r19), .val (.int r25), .val (.int r31), .val (.int r38), .val (.ref a23), .val (.ref a26), .val (.ref a49), .unset, .unset] [])) (fun t k => XS.icmpNo Y60.here hx rfl (hb hby at_126) rfl (tlt hc126).2.2.2 k) ?_
      refine Rn.go (T' := T59) (g' := (mkF m 134 #[.val (.int p0), .val (.int p1), .val (.int p2), .val (.int p3), .val (.int p4), .val (.int nn), .val (.int mm), .val (.int r19), .val (.int r25), .val (.int r31), .val (.int r38), .val (.ref a23), .val (.ref a26), .val (.ref a49), .unset, .unset] [(.int r38), (.int (3 : Int32)), (.ref a49)])) (fun t k => ?_) ?_
      · show Steps p.tables e below (T59.setTop (mkF m 129 #[.val (.int p0), .val (.int p1), .val (.int p2), .val (.int p3), .val (.int p4), .val (.int nn), .val (.int mm), .val (.int r19), .val (.int r25), .val (.int r31), .val (.int r38), .val (.ref a23), .val (.ref a26), .val (.ref a49), .unset, .unset] [])) t
        refine XS.aload Y60.here hx rfl (hb hby at_129) rfl rfl ?_
        show Steps p.tables e below (T59.setTop (mkF m 131 #[.val (.int p0), .val (.int p1), .val (.int p2), .val (.int p3), .val (.int p4), .val (.int nn), .val (.int mm), .val (.int r19), .val (.int r25), .val (.int r31), .val (.int r38), .val (.ref a23), .val (.ref a26), .val (.ref a49), .unset, .unset] [(.ref a49)])) t
        refine XS.iconst Y60.here hx rfl (hb hby at_131) ?_
        show Steps p.tables e below (T59.setTop (mkF m 132 #[.val (.int p0), .val (.int p1), .val (.int p2), .val (.int p3), .val (.int p4), .val (.int nn), .val (.int mm), .val (.int r19), .val (.int r25), .val (.int r31), .val (.int r38), .val (.ref a23), .val (.ref a26), .val (.ref a49), .unset, .unset] [(.int (3 : Int32)), (.ref a49)])) t
        refine XS.iload Y60.here hx rfl (hb hby at_132) rfl ?_
        show Steps p.tables e below (T59.setTop (mkF m 134 #[.val (.int p0), .val (.int p1), .val (.int p2), .val (.int p3), .val (.int p4), .val (.int nn), .val (.int mm), .val (.int r19), .val (.int r25), .val (.int r31), .val (.int r38), .val (.ref a23), .val (.ref a26), .val (.ref a49), .unset, .unset] [(.int r38), (.int (3 : Int32)), (.ref a49)])) t
        exact k
      refine On.isto Y60 hx hZ (i := 2) rfl (by decide) (own_il l3 (by decide) hc126) (g := (mkF m 134 #[.val (.int p0), .val (.int p1), .val (.int p2), .val (.int p3), .val (.int p4), .val (.int nn), .val (.int mm), .val (.int r19), .val (.int r25), .val (.int r31), .val (.int r38), .val (.ref a23), .val (.ref a26), .val (.ref a49), .unset, .unset] [(.int r38), (.int (3 : Int32)), (.ref a49)])) rfl rfl (hb hby at_134) fun T65 Y66 => ?_
      replace Y66 : On p l e _ s m _ below meth c Z n0 T65 8 27 [ar a23 (.object "java/lang/String") nn (List.replicate nn.toNatClampNeg .null), ob a26 own_C0 (own_F0 (.ref a29) (.ref a23) .null (.ref a32) (.ref a35) (.ref a38) (.ref a41)), ari a49 .int mm (x3.set (3 : Int32).toNatClampNeg r38)] := Y66
      show Rn p e below F T65 (mkF m 135 #[.val (.int p0), .val (.int p1), .val (.int p2), .val (.int p3), .val (.int p4), .val (.int nn), .val (.int mm), .val (.int r19), .val (.int r25), .val (.int r31), .val (.int r38), .val (.ref a23), .val (.ref a26), .val (.ref a49), .unset, .unset] [])
      exact HJ135 _ Y66
    · refine Rn.go (T' := T59) (g' := (mkF m 135 #[.val (.int p0), .val (.int p1), .val (.int p2), .val (.int p3), .val (.int p4), .val (.int nn), .val (.int mm), .val (.int r19), .val (.int r25), .val (.int r31), .val (.int r38), .val (.ref a23), .val (.ref a26), .val (.ref a49), .unset, .unset] [])) (fun t k => XS.icmpYes Y60.here hx rfl (pc0 := 126) (pc' := 135) rfl (hb hby at_126) rfl (flt hc126).2.2.2 (by decide) (by decide) k) ?_
      exact HJ135 _ (by rw [own_ns l3 (by decide) hc126]; exact Y60)
  intro T63 Y64
  obtain ⟨x4, hx4⟩ : ∃ z : List Int32, z = (x3.set (3 : Int32).toNatClampNeg r38) := ⟨_, rfl⟩
  rw [← hx4] at Y64
  have l4 : x4.length = mm.toNatClampNeg := by rw [hx4, List.length_set]; exact l3
  refine Rn.go (T' := T63) (g' := (mkF m 139 #[.val (.int p0), .val (.int p1), .val (.int p2), .val (.int p3), .val (.int p4), .val (.int nn), .val (.int mm), .val (.int r19), .val (.int r25), .val (.int r31), .val (.int r38), .val (.ref a23), .val (.ref a26), .val (.ref a49), .unset, .unset] [(.int nn), (.int mm)])) (fun t k => ?_) ?_
  · show Steps p.tables e below (T63.setTop (mkF m 135 #[.val (.int p0), .val (.int p1), .val (.int p2), .val (.int p3), .val (.int p4), .val (.int nn), .val (.int mm), .val (.int r19), .val (.int r25), .val (.int r31), .val (.int r38), .val (.ref a23), .val (.ref a26), .val (.ref a49), .unset, .unset] [])) t
    refine XS.iload Y64.here hx rfl (hb hby at_135) rfl ?_
    show Steps p.tables e below (T63.setTop (mkF m 137 #[.val (.int p0), .val (.int p1), .val (.int p2), .val (.int p3), .val (.int p4), .val (.int nn), .val (.int mm), .val (.int r19), .val (.int r25), .val (.int r31), .val (.int r38), .val (.ref a23), .val (.ref a26), .val (.ref a49), .unset, .unset] [(.int mm)])) t
    refine XS.iload Y64.here hx rfl (hb hby at_137) rfl ?_
    show Steps p.tables e below (T63.setTop (mkF m 139 #[.val (.int p0), .val (.int p1), .val (.int p2), .val (.int p3), .val (.int p4), .val (.int nn), .val (.int mm), .val (.int r19), .val (.int r25), .val (.int r31), .val (.int r38), .val (.ref a23), .val (.ref a26), .val (.ref a49), .unset, .unset] [(.int nn), (.int mm)])) t
    exact k
  obtain ⟨v147, hv147⟩ : ∃ z : Int32, z = (if mm = nn then (1 : Int32) else (0 : Int32)) := ⟨_, rfl⟩
  refine Rn.go (T' := T63) (g' := (mkF m 147 #[.val (.int p0), .val (.int p1), .val (.int p2), .val (.int p3), .val (.int p4), .val (.int nn), .val (.int mm), .val (.int r19), .val (.int r25), .val (.int r31), .val (.int r38), .val (.ref a23), .val (.ref a26), .val (.ref a49), .unset, .unset] [(.int v147)])) (fun t k => ?_) ?_
  · show Steps p.tables e below (T63.setTop (mkF m 139 #[.val (.int p0), .val (.int p1), .val (.int p2), .val (.int p3), .val (.int p4), .val (.int nn), .val (.int mm), .val (.int r19), .val (.int r25), .val (.int r31), .val (.int r38), .val (.ref a23), .val (.ref a26), .val (.ref a49), .unset, .unset] [(.int nn), (.int mm)])) t
    by_cases hc139 : mm = nn
    · refine XS.icmpNo Y64.here hx rfl (hb hby at_139) rfl (teq hc139).2 ?_
      show Steps p.tables e below (T63.setTop (mkF m 142 #[.val (.int p0), .val (.int p1), .val (.int p2), .val (.int p3), .val (.int p4), .val (.int nn), .val (.int mm), .val (.int r19), .val (.int r25), .val (.int r31), .val (.int r38), .val (.ref a23), .val (.ref a26), .val (.ref a49), .unset, .unset] [])) t
      refine XS.iconst Y64.here hx rfl (hb hby at_142) ?_
      show Steps p.tables e below (T63.setTop (mkF m 143 #[.val (.int p0), .val (.int p1), .val (.int p2), .val (.int p3), .val (.int p4), .val (.int nn), .val (.int mm), .val (.int r19), .val (.int r25), .val (.int r31), .val (.int r38), .val (.ref a23), .val (.ref a26), .val (.ref a49), .unset, .unset] [(.int (1 : Int32))])) t
      refine XS.goto Y64.here hx rfl (pc0 := 143) (pc' := 147) rfl (hb hby at_143) (by decide) (by decide) ?_
      show Steps p.tables e below (T63.setTop (mkF m 147 #[.val (.int p0), .val (.int p1), .val (.int p2), .val (.int p3), .val (.int p4), .val (.int nn), .val (.int mm), .val (.int r19), .val (.int r25), .val (.int r31), .val (.int r38), .val (.ref a23), .val (.ref a26), .val (.ref a49), .unset, .unset] [(.int (1 : Int32))])) t
      rw [hv147, if_pos hc139] at k
      exact k
    · refine XS.icmpYes Y64.here hx rfl (pc0 := 139) (pc' := 146) rfl (hb hby at_139) rfl (feq hc139).2 (by decide) (by decide) ?_
      show Steps p.tables e below (T63.setTop (mkF m 146 #[.val (.int p0), .val (.int p1), .val (.int p2), .val (.int p3), .val (.int p4), .val (.int nn), .val (.int mm), .val (.int r19), .val (.int r25), .val (.int r31), .val (.int r38), .val (.ref a23), .val (.ref a26), .val (.ref a49), .unset, .unset] [])) t
      refine XS.iconst Y64.here hx rfl (hb hby at_146) ?_
      show Steps p.tables e below (T63.setTop (mkF m 147 #[.val (.int p0), .val (.int p1), .val (.int p2), .val (.int p3), .val (.int p4), .val (.int nn), .val (.int mm), .val (.int r19), .val (.int r25), .val (.int r31), .val (.int r38), .val (.ref a23), .val (.ref a26), .val (.ref a49), .unset, .unset] [(.int (0 : Int32))])) t
      rw [hv147, if_neg hc139] at k
      exact k
  refine Rn.go (T' := T63) (g' := (mkF m 151 #[.val (.int p0), .val (.int p1), .val (.int p2), .val (.int p3), .val (.int p4), .val (.int nn), .val (.int mm), .val (.int r19), .val (.int r25), .val (.int r31), .val (.int r38), .val (.ref a23), .val (.ref a26), .val (.ref a49), .val (.int v147), .unset] [(.int mm)])) (fun t k => ?_) ?_
  · show Steps p.tables e below (T63.setTop (mkF m 147 #[.val (.int p0), .val (.int p1), .val (.int p2), .val (.int p3), .val (.int p4), .val (.int nn), .val (.int mm), .val (.int r19), .val (.int r25), .val (.int r31), .val (.int r38), .val (.ref a23), .val (.ref a26), .val (.ref a49), .unset, .unset] [(.int v147)])) t
    refine XS.istore Y64.here hx rfl (hb hby at_147) rfl (l' := #[.val (.int p0), .val (.int p1), .val (.int p2), .val (.int p3), .val (.int p4), .val (.int nn), .val (.int mm), .val (.int r19), .val (.int r25), .val (.int r31), .val (.int r38), .val (.ref a23), .val (.ref a26), .val (.ref a49), .val (.int v147), .unset]) rfl ?_
    show Steps p.tables e below (T63.setTop (mkF m 149 #[.val (.int p0), .val (.int p1), .val (.int p2), .val (.int p3), .val (.int p4), .val (.int nn), .val (.int mm), .val (.int r19), .val (.int r25), .val (.int r31), .val (.int r38), .val (.ref a23), .val (.ref a26), .val (.ref a49), .val (.int v147), .unset] [])) t
    refine XS.iload Y64.here hx rfl (hb hby at_149) rfl ?_
    show Steps p.tables e below (T63.setTop (mkF m 151 #[.val (.int p0), .val (.int p1), .val (.int p2), .val (.int p3), .val (.int p4), .val (.int nn), .val (.int mm), .val (.int r19), .val (.int r25), .val (.int r31), .val (.int r38), .val (.ref a23), .val (.ref a26), .val (.ref a49), .val (.int v147), .unset] [(.int mm)])) t
    exact k
  suffices HJ176 : ∀ (T67 : State) (v176l14 : Int32) (hv176l14 : v176l14 = (if (0 : Int32) < mm then (if v147 = (0 : Int32) then (0 : Int32) else (if (own_in r19 nn) = (0 : Int32) then (0 : Int32) else (1 : Int32))) else v147)), On p l e room_1 s m #[(.int p0), (.int p1), (.int p2), (.int p3), (.int p4)] below meth c Z n0 T67 8 27 [ar a23 (.object "java/lang/String") nn (List.replicate nn.toNatClampNeg .null), ob a26 own_C0 (own_F0 (.ref a29) (.ref a23) .null (.ref a32) (.ref a35) (.ref a38) (.ref a41)), ari a49 .int mm x4] → Rn p e below F T67 (mkF m 176 #[.val (.int p0), .val (.int p1), .val (.int p2), .val (.int p3), .val (.int p4), .val (.int nn), .val (.int mm), .val (.int r19), .val (.int r25), .val (.int r31), .val (.int r38), .val (.ref a23), .val (.ref a26), .val (.ref a49), .val (.int v176l14), .unset] []) by
    by_cases hc151 : (0 : Int32) < mm
    · refine Rn.go (T' := T63) (g' := (mkF m 154 #[.val (.int p0), .val (.int p1), .val (.int p2), .val (.int p3), .val (.int p4), .val (.int nn), .val (.int mm), .val (.int r19), .val (.int r25), .val (.int r31), .val (.int r38), .val (.ref a23), .val (.ref a26), .val (.ref a49), .val (.int v147), .unset] [])) (fun t k => XS.ifNo Y64.here hx rfl (hb hby at_151) rfl ((if0 _ _).trans (tlt hc151).2.2.2) k) ?_
      refine Rn.go (T' := T63) (g' := (mkF m 156 #[.val (.int p0), .val (.int p1), .val (.int p2), .val (.int p3), .val (.int p4), .val (.int nn), .val (.int mm), .val (.int r19), .val (.int r25), .val (.int r31), .val (.int r38), .val (.ref a23), .val (.ref a26), .val (.ref a49), .val (.int v147), .unset] [(.int v147)])) (fun t k => ?_) ?_
      · show Steps p.tables e below (T63.setTop (mkF m 154 #[.val (.int p0), .val (.int p1), .val (.int p2), .val (.int p3), .val (.int p4), .val (.int nn), .val (.int mm), .val (.int r19), .val (.int r25), .val (.int r31), .val (.int r38), .val (.ref a23), .val (.ref a26), .val (.ref a49), .val (.int v147), .unset] [])) t
        refine XS.iload Y64.here hx rfl (hb hby at_154) rfl ?_
        show Steps p.tables e below (T63.setTop (mkF m 156 #[.val (.int p0), .val (.int p1), .val (.int p2), .val (.int p3), .val (.int p4), .val (.int nn), .val (.int mm), .val (.int r19), .val (.int r25), .val (.int r31), .val (.int r38), .val (.ref a23), .val (.ref a26), .val (.ref a49), .val (.int v147), .unset] [(.int v147)])) t
        exact k
      by_cases hc156 : v147 = (0 : Int32)
      · refine Rn.go (T' := T63) (g' := (mkF m 173 #[.val (.int p0), .val (.int p1), .val (.int p2), .val (.int p3), .val (.int p4), .val (.int nn), .val (.int mm), .val (.int r19), .val (.int r25), .val (.int r31), .val (.int r38), .val (.ref a23), .val (.ref a26), .val (.ref a49), .val (.int v147), .unset] [])) (fun t k => XS.ifYes Y64.here hx rfl (pc0 := 156) (pc' := 173) rfl (hb hby at_156) rfl ((if0 _ _).trans (teq hc156).1) (by decide) (by decide) k) ?_
        refine Rn.go (T' := T63) (g' := (mkF m 176 #[.val (.int p0), .val (.int p1), .val (.int p2), .val (.int p3), .val (.int p4), .val (.int nn), .val (.int mm), .val (.int r19), .val (.int r25), .val (.int r31), .val (.int r38), .val (.ref a23), .val (.ref a26), .val (.ref a49), .val (.int (0 : Int32)), .unset] [])) (fun t k => ?_) ?_
        · show Steps p.tables e below (T63.setTop (mkF m 173 #[.val (.int p0), .val (.int p1), .val (.int p2), .val (.int p3), .val (.int p4), .val (.int nn), .val (.int mm), .val (.int r19), .val (.int r25), .val (.int r31), .val (.int r38), .val (.ref a23), .val (.ref a26), .val (.ref a49), .val (.int v147), .unset] [])) t
          refine XS.iconst Y64.here hx rfl (hb hby at_173) ?_
          show Steps p.tables e below (T63.setTop (mkF m 174 #[.val (.int p0), .val (.int p1), .val (.int p2), .val (.int p3), .val (.int p4), .val (.int nn), .val (.int mm), .val (.int r19), .val (.int r25), .val (.int r31), .val (.int r38), .val (.ref a23), .val (.ref a26), .val (.ref a49), .val (.int v147), .unset] [(.int (0 : Int32))])) t
          refine XS.istore Y64.here hx rfl (hb hby at_174) rfl (l' := #[.val (.int p0), .val (.int p1), .val (.int p2), .val (.int p3), .val (.int p4), .val (.int nn), .val (.int mm), .val (.int r19), .val (.int r25), .val (.int r31), .val (.int r38), .val (.ref a23), .val (.ref a26), .val (.ref a49), .val (.int (0 : Int32)), .unset]) rfl ?_
          show Steps p.tables e below (T63.setTop (mkF m 176 #[.val (.int p0), .val (.int p1), .val (.int p2), .val (.int p3), .val (.int p4), .val (.int nn), .val (.int mm), .val (.int r19), .val (.int r25), .val (.int r31), .val (.int r38), .val (.ref a23), .val (.ref a26), .val (.ref a49), .val (.int (0 : Int32)), .unset] [])) t
          exact k
        exact HJ176 _ _ (by rw [if_pos hc151, if_pos hc156]) Y64
      · refine Rn.go (T' := T63) (g' := (mkF m 159 #[.val (.int p0), .val (.int p1), .val (.int p2), .val (.int p3), .val (.int p4), .val (.int nn), .val (.int mm), .val (.int r19), .val (.int r25), .val (.int r31), .val (.int r38), .val (.ref a23), .val (.ref a26), .val (.ref a49), .val (.int v147), .unset] [])) (fun t k => XS.ifNo Y64.here hx rfl (hb hby at_156) rfl ((if0 _ _).trans (feq hc156).1) k) ?_
        refine Rn.go (T' := T63) (g' := (mkF m 163 #[.val (.int p0), .val (.int p1), .val (.int p2), .val (.int p3), .val (.int p4), .val (.int nn), .val (.int mm), .val (.int r19), .val (.int r25), .val (.int r31), .val (.int r38), .val (.ref a23), .val (.ref a26), .val (.ref a49), .val (.int v147), .unset] [(.int nn), (.int r19)])) (fun t k => ?_) ?_
        · show Steps p.tables e below (T63.setTop (mkF m 159 #[.val (.int p0), .val (.int p1), .val (.int p2), .val (.int p3), .val (.int p4), .val (.int nn), .val (.int mm), .val (.int r19), .val (.int r25), .val (.int r31), .val (.int r38), .val (.ref a23), .val (.ref a26), .val (.ref a49), .val (.int v147), .unset] [])) t
          refine XS.iload Y64.here hx rfl (hb hby at_159) rfl ?_
          show Steps p.tables e below (T63.setTop (mkF m 161 #[.val (.int p0), .val (.int p1), .val (.int p2), .val (.int p3), .val (.int p4), .val (.int nn), .val (.int mm), .val (.int r19), .val (.int r25), .val (.int r31), .val (.int r38), .val (.ref a23), .val (.ref a26), .val (.ref a49), .val (.int v147), .unset] [(.int r19)])) t
          refine XS.iload Y64.here hx rfl (hb hby at_161) rfl ?_
          show Steps p.tables e below (T63.setTop (mkF m 163 #[.val (.int p0), .val (.int p1), .val (.int p2), .val (.int p3), .val (.int p4), .val (.int nn), .val (.int mm), .val (.int r19), .val (.int r25), .val (.int r31), .val (.int r38), .val (.ref a23), .val (.ref a26), .val (.ref a49), .val (.int v147), .unset] [(.int nn), (.int r19)])) t
          exact k
        refine On.static Y64 hx hZ (y := (⟨"com/example/arborplan/arborplan/tree/TreeIsEdgeOrderPinLaw", "in", "(II)Z"⟩ : MethodName)) hown (w37 hw) (w38 hw) (w39 hw) (w2 hw) (by decide) (argsL := [(.int r19), (.int nn)]) (rest := []) (rm5 l Z a0 hw n0 r19 nn [ar a23 (.object "java/lang/String") nn (List.replicate nn.toNatClampNeg .null), ob a26 own_C0 (own_F0 (.ref a29) (.ref a23) .null (.ref a32) (.ref a35) (.ref a38) (.ref a41)), ari a49 .int mm x4]) (W := 0) (by decide) (by decide) (by decide) (by decide) (g := (mkF m 163 #[.val (.int p0), .val (.int p1), .val (.int p2), .val (.int p3), .val (.int p4), .val (.int nn), .val (.int mm), .val (.int r19), .val (.int r25), .val (.int r31), .val (.int r38), .val (.ref a23), .val (.ref a26), .val (.ref a49), .val (.int v147), .unset] [(.int nn), (.int r19)])) rfl (by rw [hml]; rfl) (lenOf pd2 rfl) rfl (by show 2 * 0 + _ ≤ _; exact Nat.le_of_eq rfl) (hb hby at_163) ?_
        intro T69 u71 D72 hp73 Y70
        obtain ⟨r163, hr163, rfl, rfl⟩ : ∃ z : Int32, z = (own_in r19 nn) ∧ u71 = some (.int z) ∧ D72 = _ := ⟨_, rfl, hp73.1, hp73.2⟩
        replace Y70 : On p l e _ s m _ below meth c Z n0 T69 8 27 [ar a23 (.object "java/lang/String") nn (List.replicate nn.toNatClampNeg .null), ob a26 own_C0 (own_F0 (.ref a29) (.ref a23) .null (.ref a32) (.ref a35) (.ref a38) (.ref a41)), ari a49 .int mm x4] := Y70
        show Rn p e below F T69 (mkF m 166 #[.val (.int p0), .val (.int p1), .val (.int p2), .val (.int p3), .val (.int p4), .val (.int nn), .val (.int mm), .val (.int r19), .val (.int r25), .val (.int r31), .val (.int r38), .val (.ref a23), .val (.ref a26), .val (.ref a49), .val (.int v147), .unset] [(.int r163)])
        by_cases hc166 : r163 = (0 : Int32)
        · refine Rn.go (T' := T69) (g' := (mkF m 173 #[.val (.int p0), .val (.int p1), .val (.int p2), .val (.int p3), .val (.int p4), .val (.int nn), .val (.int mm), .val (.int r19), .val (.int r25), .val (.int r31), .val (.int r38), .val (.ref a23), .val (.ref a26), .val (.ref a49), .val (.int v147), .unset] [])) (fun t k => XS.ifYes Y70.here hx rfl (pc0 := 166) (pc' := 173) rfl (hb hby at_166) rfl ((if0 _ _).trans (teq hc166).1) (by decide) (by decide) k) ?_
          refine Rn.go (T' := T69) (g' := (mkF m 176 #[.val (.int p0), .val (.int p1), .val (.int p2), .val (.int p3), .val (.int p4), .val (.int nn), .val (.int mm), .val (.int r19), .val (.int r25), .val (.int r31), .val (.int r38), .val (.ref a23), .val (.ref a26), .val (.ref a49), .val (.int (0 : Int32)), .unset] [])) (fun t k => ?_) ?_
          · show Steps p.tables e below (T69.setTop (mkF m 173 #[.val (.int p0), .val (.int p1), .val (.int p2), .val (.int p3), .val (.int p4), .val (.int nn), .val (.int mm), .val (.int r19), .val (.int r25), .val (.int r31), .val (.int r38), .val (.ref a23), .val (.ref a26), .val (.ref a49), .val (.int v147), .unset] [])) t
            refine XS.iconst Y70.here hx rfl (hb hby at_173) ?_
            show Steps p.tables e below (T69.setTop (mkF m 174 #[.val (.int p0), .val (.int p1), .val (.int p2), .val (.int p3), .val (.int p4), .val (.int nn), .val (.int mm), .val (.int r19), .val (.int r25), .val (.int r31), .val (.int r38), .val (.ref a23), .val (.ref a26), .val (.ref a49), .val (.int v147), .unset] [(.int (0 : Int32))])) t
            refine XS.istore Y70.here hx rfl (hb hby at_174) rfl (l' := #[.val (.int p0), .val (.int p1), .val (.int p2), .val (.int p3), .val (.int p4), .val (.int nn), .val (.int mm), .val (.int r19), .val (.int r25), .val (.int r31), .val (.int r38), .val (.ref a23), .val (.ref a26), .val (.ref a49), .val (.int (0 : Int32)), .unset]) rfl ?_
            show Steps p.tables e below (T69.setTop (mkF m 176 #[.val (.int p0), .val (.int p1), .val (.int p2), .val (.int p3), .val (.int p4), .val (.int nn), .val (.int mm), .val (.int r19), .val (.int r25), .val (.int r31), .val (.int r38), .val (.ref a23), .val (.ref a26), .val (.ref a49), .val (.int (0 : Int32)), .unset] [])) t
            exact k
          exact HJ176 _ _ (by rw [← hr163, if_pos hc151, if_neg hc156, if_pos hc166]) Y70
        · refine Rn.go (T' := T69) (g' := (mkF m 169 #[.val (.int p0), .val (.int p1), .val (.int p2), .val (.int p3), .val (.int p4), .val (.int nn), .val (.int mm), .val (.int r19), .val (.int r25), .val (.int r31), .val (.int r38), .val (.ref a23), .val (.ref a26), .val (.ref a49), .val (.int v147), .unset] [])) (fun t k => XS.ifNo Y70.here hx rfl (hb hby at_166) rfl ((if0 _ _).trans (feq hc166).1) k) ?_
          refine Rn.go (T' := T69) (g' := (mkF m 176 #[.val (.int p0), .val (.int p1), .val (.int p2), .val (.int p3), .val (.int p4), .val (.int nn), .val (.int mm), .val (.int r19), .val (.int r25), .val (.int r31), .val (.int r38), .val (.ref a23), .val (.ref a26), .val (.ref a49), .val (.int (1 : Int32)), .unset] [])) (fun t k => ?_) ?_
          · show Steps p.tables e below (T69.setTop (mkF m 169 #[.val (.int p0), .val (.int p1), .val (.int p2), .val (.int p3), .val (.int p4), .val (.int nn), .val (.int mm), .val (.int r19), .val (.int r25), .val (.int r31), .val (.int r38), .val (.ref a23), .val (.ref a26), .val (.ref a49), .val (.int v147), .unset] [])) t
            refine XS.iconst Y70.here hx rfl (hb hby at_169) ?_
            show Steps p.tables e below (T69.setTop (mkF m 170 #[.val (.int p0), .val (.int p1), .val (.int p2), .val (.int p3), .val (.int p4), .val (.int nn), .val (.int mm), .val (.int r19), .val (.int r25), .val (.int r31), .val (.int r38), .val (.ref a23), .val (.ref a26), .val (.ref a49), .val (.int v147), .unset] [(.int (1 : Int32))])) t
            refine XS.goto Y70.here hx rfl (pc0 := 170) (pc' := 174) rfl (hb hby at_170) (by decide) (by decide) ?_
            show Steps p.tables e below (T69.setTop (mkF m 174 #[.val (.int p0), .val (.int p1), .val (.int p2), .val (.int p3), .val (.int p4), .val (.int nn), .val (.int mm), .val (.int r19), .val (.int r25), .val (.int r31), .val (.int r38), .val (.ref a23), .val (.ref a26), .val (.ref a49), .val (.int v147), .unset] [(.int (1 : Int32))])) t
            refine XS.istore Y70.here hx rfl (hb hby at_174) rfl (l' := #[.val (.int p0), .val (.int p1), .val (.int p2), .val (.int p3), .val (.int p4), .val (.int nn), .val (.int mm), .val (.int r19), .val (.int r25), .val (.int r31), .val (.int r38), .val (.ref a23), .val (.ref a26), .val (.ref a49), .val (.int (1 : Int32)), .unset]) rfl ?_
            show Steps p.tables e below (T69.setTop (mkF m 176 #[.val (.int p0), .val (.int p1), .val (.int p2), .val (.int p3), .val (.int p4), .val (.int nn), .val (.int mm), .val (.int r19), .val (.int r25), .val (.int r31), .val (.int r38), .val (.ref a23), .val (.ref a26), .val (.ref a49), .val (.int (1 : Int32)), .unset] [])) t
            exact k
          exact HJ176 _ _ (by rw [← hr163, if_pos hc151, if_neg hc156, if_neg hc166]) Y70
    · refine Rn.go (T' := T63) (g' := (mkF m 176 #[.val (.int p0), .val (.int p1), .val (.int p2), .val (.int p3), .val (.int p4), .val (.int nn), .val (.int mm), .val (.int r19), .val (.int r25), .val (.int r31), .val (.int r38), .val (.ref a23), .val (.ref a26), .val (.ref a49), .val (.int v147), .unset] [])) (fun t k => XS.ifYes Y64.here hx rfl (pc0 := 151) (pc' := 176) rfl (hb hby at_151) rfl ((if0 _ _).trans (flt hc151).2.2.2) (by decide) (by decide) k) ?_
      exact HJ176 _ _ (by rw [if_neg hc151]) Y64
  intro T67 v176l14 hv176l14 Y68
  refine Rn.go (T' := T67) (g' := (mkF m 179 #[.val (.int p0), .val (.int p1), .val (.int p2), .val (.int p3), .val (.int p4), .val (.int nn), .val (.int mm), .val (.int r19), .val (.int r25), .val (.int r31), .val (.int r38), .val (.ref a23), .val (.ref a26), .val (.ref a49), .val (.int v176l14), .unset] [(.int (1 : Int32)), (.int mm)])) (fun t k => ?_) ?_
  · show Steps p.tables e below (T67.setTop (mkF m 176 #[.val (.int p0), .val (.int p1), .val (.int p2), .val (.int p3), .val (.int p4), .val (.int nn), .val (.int mm), .val (.int r19), .val (.int r25), .val (.int r31), .val (.int r38), .val (.ref a23), .val (.ref a26), .val (.ref a49), .val (.int v176l14), .unset] [])) t
    refine XS.iload Y68.here hx rfl (hb hby at_176) rfl ?_
    show Steps p.tables e below (T67.setTop (mkF m 178 #[.val (.int p0), .val (.int p1), .val (.int p2), .val (.int p3), .val (.int p4), .val (.int nn), .val (.int mm), .val (.int r19), .val (.int r25), .val (.int r31), .val (.int r38), .val (.ref a23), .val (.ref a26), .val (.ref a49), .val (.int v176l14), .unset] [(.int mm)])) t
    refine XS.iconst Y68.here hx rfl (hb hby at_178) ?_
    show Steps p.tables e below (T67.setTop (mkF m 179 #[.val (.int p0), .val (.int p1), .val (.int p2), .val (.int p3), .val (.int p4), .val (.int nn), .val (.int mm), .val (.int r19), .val (.int r25), .val (.int r31), .val (.int r38), .val (.ref a23), .val (.ref a26), .val (.ref a49), .val (.int v176l14), .unset] [(.int (1 : Int32)), (.int mm)])) t
    exact k
  suffices HJ211 : ∀ (T74 : State) (v211l14 : Int32) (hv211l14 : v211l14 = (if (1 : Int32) < mm then (if v176l14 = (0 : Int32) then (0 : Int32) else (if (own_in r25 nn) = (0 : Int32) then (0 : Int32) else (if r19 = r25 then (0 : Int32) else (1 : Int32)))) else v176l14)), On p l e room_1 s m #[(.int p0), (.int p1), (.int p2), (.int p3), (.int p4)] below meth c Z n0 T74 8 27 [ar a23 (.object "java/lang/String") nn (List.replicate nn.toNatClampNeg .null), ob a26 own_C0 (own_F0 (.ref a29) (.ref a23) .null (.ref a32) (.ref a35) (.ref a38) (.ref a41)), ari a49 .int mm x4] → Rn p e below F T74 (mkF m 211 #[.val (.int p0), .val (.int p1), .val (.int p2), .val (.int p3), .val (.int p4), .val (.int nn), .val (.int mm), .val (.int r19), .val (.int r25), .val (.int r31), .val (.int r38), .val (.ref a23), .val (.ref a26), .val (.ref a49), .val (.int v211l14), .unset] []) by
    by_cases hc179 : (1 : Int32) < mm
    · refine Rn.go (T' := T67) (g' := (mkF m 182 #[.val (.int p0), .val (.int p1), .val (.int p2), .val (.int p3), .val (.int p4), .val (.int nn), .val (.int mm), .val (.int r19), .val (.int r25), .val (.int r31), .val (.int r38), .val (.ref a23), .val (.ref a26), .val (.ref a49), .val (.int v176l14), .unset] [])) (fun t k => XS.icmpNo Y68.here hx rfl (hb hby at_179) rfl (tlt hc179).2.2.2 k) ?_
      refine Rn.go (T' := T67) (g' := (mkF m 184 #[.val (.int p0), .val (.int p1), .val (.int p2), .val (.int p3), .val (.int p4), .val (.int nn), .val (.int mm), .val (.int r19), .val (.int r25), .val (.int r31), .val (.int r38), .val (.ref a23), .val (.ref a26), .val (.ref a49), .val (.int v176l14), .unset] [(.int v176l14)])) (fun t k => ?_) ?_
      · show Steps p.tables e below (T67.setTop (mkF m 182 #[.val (.int p0), .val (.int p1), .val (.int p2), .val (.int p3), .val (.int p4), .val (.int nn), .val (.int mm), .val (.int r19), .val (.int r25), .val (.int r31), .val (.int r38), .val (.ref a23), .val (.ref a26), .val (.ref a49), .val (.int v176l14), .unset] [])) t
        refine XS.iload Y68.here hx rfl (hb hby at_182) rfl ?_
        show Steps p.tables e below (T67.setTop (mkF m 184 #[.val (.int p0), .val (.int p1), .val (.int p2), .val (.int p3), .val (.int p4), .val (.int nn), .val (.int mm), .val (.int r19), .val (.int r25), .val (.int r31), .val (.int r38), .val (.ref a23), .val (.ref a26), .val (.ref a49), .val (.int v176l14), .unset] [(.int v176l14)])) t
        exact k
      by_cases hc184 : v176l14 = (0 : Int32)
      · refine Rn.go (T' := T67) (g' := (mkF m 208 #[.val (.int p0), .val (.int p1), .val (.int p2), .val (.int p3), .val (.int p4), .val (.int nn), .val (.int mm), .val (.int r19), .val (.int r25), .val (.int r31), .val (.int r38), .val (.ref a23), .val (.ref a26), .val (.ref a49), .val (.int v176l14), .unset] [])) (fun t k => XS.ifYes Y68.here hx rfl (pc0 := 184) (pc' := 208) rfl (hb hby at_184) rfl ((if0 _ _).trans (teq hc184).1) (by decide) (by decide) k) ?_
        refine Rn.go (T' := T67) (g' := (mkF m 211 #[.val (.int p0), .val (.int p1), .val (.int p2), .val (.int p3), .val (.int p4), .val (.int nn), .val (.int mm), .val (.int r19), .val (.int r25), .val (.int r31), .val (.int r38), .val (.ref a23), .val (.ref a26), .val (.ref a49), .val (.int (0 : Int32)), .unset] [])) (fun t k => ?_) ?_
        · show Steps p.tables e below (T67.setTop (mkF m 208 #[.val (.int p0), .val (.int p1), .val (.int p2), .val (.int p3), .val (.int p4), .val (.int nn), .val (.int mm), .val (.int r19), .val (.int r25), .val (.int r31), .val (.int r38), .val (.ref a23), .val (.ref a26), .val (.ref a49), .val (.int v176l14), .unset] [])) t
          refine XS.iconst Y68.here hx rfl (hb hby at_208) ?_
          show Steps p.tables e below (T67.setTop (mkF m 209 #[.val (.int p0), .val (.int p1), .val (.int p2), .val (.int p3), .val (.int p4), .val (.int nn), .val (.int mm), .val (.int r19), .val (.int r25), .val (.int r31), .val (.int r38), .val (.ref a23), .val (.ref a26), .val (.ref a49), .val (.int v176l14), .unset] [(.int (0 : Int32))])) t
          refine XS.istore Y68.here hx rfl (hb hby at_209) rfl (l' := #[.val (.int p0), .val (.int p1), .val (.int p2), .val (.int p3), .val (.int p4), .val (.int nn), .val (.int mm), .val (.int r19), .val (.int r25), .val (.int r31), .val (.int r38), .val (.ref a23), .val (.ref a26), .val (.ref a49), .val (.int (0 : Int32)), .unset]) rfl ?_
          show Steps p.tables e below (T67.setTop (mkF m 211 #[.val (.int p0), .val (.int p1), .val (.int p2), .val (.int p3), .val (.int p4), .val (.int nn), .val (.int mm), .val (.int r19), .val (.int r25), .val (.int r31), .val (.int r38), .val (.ref a23), .val (.ref a26), .val (.ref a49), .val (.int (0 : Int32)), .unset] [])) t
          exact k
        exact HJ211 _ _ (by rw [if_pos hc179, if_pos hc184]) Y68
      · refine Rn.go (T' := T67) (g' := (mkF m 187 #[.val (.int p0), .val (.int p1), .val (.int p2), .val (.int p3), .val (.int p4), .val (.int nn), .val (.int mm), .val (.int r19), .val (.int r25), .val (.int r31), .val (.int r38), .val (.ref a23), .val (.ref a26), .val (.ref a49), .val (.int v176l14), .unset] [])) (fun t k => XS.ifNo Y68.here hx rfl (hb hby at_184) rfl ((if0 _ _).trans (feq hc184).1) k) ?_
        refine Rn.go (T' := T67) (g' := (mkF m 191 #[.val (.int p0), .val (.int p1), .val (.int p2), .val (.int p3), .val (.int p4), .val (.int nn), .val (.int mm), .val (.int r19), .val (.int r25), .val (.int r31), .val (.int r38), .val (.ref a23), .val (.ref a26), .val (.ref a49), .val (.int v176l14), .unset] [(.int nn), (.int r25)])) (fun t k => ?_) ?_
        · show Steps p.tables e below (T67.setTop (mkF m 187 #[.val (.int p0), .val (.int p1), .val (.int p2), .val (.int p3), .val (.int p4), .val (.int nn), .val (.int mm), .val (.int r19), .val (.int r25), .val (.int r31), .val (.int r38), .val (.ref a23), .val (.ref a26), .val (.ref a49), .val (.int v176l14), .unset] [])) t
          refine XS.iload Y68.here hx rfl (hb hby at_187) rfl ?_
          show Steps p.tables e below (T67.setTop (mkF m 189 #[.val (.int p0), .val (.int p1), .val (.int p2), .val (.int p3), .val (.int p4), .val (.int nn), .val (.int mm), .val (.int r19), .val (.int r25), .val (.int r31), .val (.int r38), .val (.ref a23), .val (.ref a26), .val (.ref a49), .val (.int v176l14), .unset] [(.int r25)])) t
          refine XS.iload Y68.here hx rfl (hb hby at_189) rfl ?_
          show Steps p.tables e below (T67.setTop (mkF m 191 #[.val (.int p0), .val (.int p1), .val (.int p2), .val (.int p3), .val (.int p4), .val (.int nn), .val (.int mm), .val (.int r19), .val (.int r25), .val (.int r31), .val (.int r38), .val (.ref a23), .val (.ref a26), .val (.ref a49), .val (.int v176l14), .unset] [(.int nn), (.int r25)])) t
          exact k
        refine On.static Y68 hx hZ (y := (⟨"com/example/arborplan/arborplan/tree/TreeIsEdgeOrderPinLaw", "in", "(II)Z"⟩ : MethodName)) hown (w37 hw) (w38 hw) (w39 hw) (w2 hw) (by decide) (argsL := [(.int r25), (.int nn)]) (rest := []) (rm5 l Z a0 hw n0 r25 nn [ar a23 (.object "java/lang/String") nn (List.replicate nn.toNatClampNeg .null), ob a26 own_C0 (own_F0 (.ref a29) (.ref a23) .null (.ref a32) (.ref a35) (.ref a38) (.ref a41)), ari a49 .int mm x4]) (W := 0) (by decide) (by decide) (by decide) (by decide) (g := (mkF m 191 #[.val (.int p0), .val (.int p1), .val (.int p2), .val (.int p3), .val (.int p4), .val (.int nn), .val (.int mm), .val (.int r19), .val (.int r25), .val (.int r31), .val (.int r38), .val (.ref a23), .val (.ref a26), .val (.ref a49), .val (.int v176l14), .unset] [(.int nn), (.int r25)])) rfl (by rw [hml]; rfl) (lenOf pd2 rfl) rfl (by show 2 * 0 + _ ≤ _; exact Nat.le_of_eq rfl) (hb hby at_191) ?_
        intro T76 u78 D79 hp80 Y77
        obtain ⟨r191, hr191, rfl, rfl⟩ : ∃ z : Int32, z = (own_in r25 nn) ∧ u78 = some (.int z) ∧ D79 = _ := ⟨_, rfl, hp80.1, hp80.2⟩
        replace Y77 : On p l e _ s m _ below meth c Z n0 T76 8 27 [ar a23 (.object "java/lang/String") nn (List.replicate nn.toNatClampNeg .null), ob a26 own_C0 (own_F0 (.ref a29) (.ref a23) .null (.ref a32) (.ref a35) (.ref a38) (.ref a41)), ari a49 .int mm x4] := Y77
        show Rn p e below F T76 (mkF m 194 #[.val (.int p0), .val (.int p1), .val (.int p2), .val (.int p3), .val (.int p4), .val (.int nn), .val (.int mm), .val (.int r19), .val (.int r25), .val (.int r31), .val (.int r38), .val (.ref a23), .val (.ref a26), .val (.ref a49), .val (.int v176l14), .unset] [(.int r191)])
        by_cases hc194 : r191 = (0 : Int32)
        · refine Rn.go (T' := T76) (g' := (mkF m 208 #[.val (.int p0), .val (.int p1), .val (.int p2), .val (.int p3), .val (.int p4), .val (.int nn), .val (.int mm), .val (.int r19), .val (.int r25), .val (.int r31), .val (.int r38), .val (.ref a23), .val (.ref a26), .val (.ref a49), .val (.int v176l14), .unset] [])) (fun t k => XS.ifYes Y77.here hx rfl (pc0 := 194) (pc' := 208) rfl (hb hby at_194) rfl ((if0 _ _).trans (teq hc194).1) (by decide) (by decide) k) ?_
          refine Rn.go (T' := T76) (g' := (mkF m 211 #[.val (.int p0), .val (.int p1), .val (.int p2), .val (.int p3), .val (.int p4), .val (.int nn), .val (.int mm), .val (.int r19), .val (.int r25), .val (.int r31), .val (.int r38), .val (.ref a23), .val (.ref a26), .val (.ref a49), .val (.int (0 : Int32)), .unset] [])) (fun t k => ?_) ?_
          · show Steps p.tables e below (T76.setTop (mkF m 208 #[.val (.int p0), .val (.int p1), .val (.int p2), .val (.int p3), .val (.int p4), .val (.int nn), .val (.int mm), .val (.int r19), .val (.int r25), .val (.int r31), .val (.int r38), .val (.ref a23), .val (.ref a26), .val (.ref a49), .val (.int v176l14), .unset] [])) t
            refine XS.iconst Y77.here hx rfl (hb hby at_208) ?_
            show Steps p.tables e below (T76.setTop (mkF m 209 #[.val (.int p0), .val (.int p1), .val (.int p2), .val (.int p3), .val (.int p4), .val (.int nn), .val (.int mm), .val (.int r19), .val (.int r25), .val (.int r31), .val (.int r38), .val (.ref a23), .val (.ref a26), .val (.ref a49), .val (.int v176l14), .unset] [(.int (0 : Int32))])) t
            refine XS.istore Y77.here hx rfl (hb hby at_209) rfl (l' := #[.val (.int p0), .val (.int p1), .val (.int p2), .val (.int p3), .val (.int p4), .val (.int nn), .val (.int mm), .val (.int r19), .val (.int r25), .val (.int r31), .val (.int r38), .val (.ref a23), .val (.ref a26), .val (.ref a49), .val (.int (0 : Int32)), .unset]) rfl ?_
            show Steps p.tables e below (T76.setTop (mkF m 211 #[.val (.int p0), .val (.int p1), .val (.int p2), .val (.int p3), .val (.int p4), .val (.int nn), .val (.int mm), .val (.int r19), .val (.int r25), .val (.int r31), .val (.int r38), .val (.ref a23), .val (.ref a26), .val (.ref a49), .val (.int (0 : Int32)), .unset] [])) t
            exact k
          exact HJ211 _ _ (by rw [← hr191, if_pos hc179, if_neg hc184, if_pos hc194]) Y77
        · refine Rn.go (T' := T76) (g' := (mkF m 197 #[.val (.int p0), .val (.int p1), .val (.int p2), .val (.int p3), .val (.int p4), .val (.int nn), .val (.int mm), .val (.int r19), .val (.int r25), .val (.int r31), .val (.int r38), .val (.ref a23), .val (.ref a26), .val (.ref a49), .val (.int v176l14), .unset] [])) (fun t k => XS.ifNo Y77.here hx rfl (hb hby at_194) rfl ((if0 _ _).trans (feq hc194).1) k) ?_
          refine Rn.go (T' := T76) (g' := (mkF m 201 #[.val (.int p0), .val (.int p1), .val (.int p2), .val (.int p3), .val (.int p4), .val (.int nn), .val (.int mm), .val (.int r19), .val (.int r25), .val (.int r31), .val (.int r38), .val (.ref a23), .val (.ref a26), .val (.ref a49), .val (.int v176l14), .unset] [(.int r25), (.int r19)])) (fun t k => ?_) ?_
          · show Steps p.tables e below (T76.setTop (mkF m 197 #[.val (.int p0), .val (.int p1), .val (.int p2), .val (.int p3), .val (.int p4), .val (.int nn), .val (.int mm), .val (.int r19), .val (.int r25), .val (.int r31), .val (.int r38), .val (.ref a23), .val (.ref a26), .val (.ref a49), .val (.int v176l14), .unset] [])) t
            refine XS.iload Y77.here hx rfl (hb hby at_197) rfl ?_
            show Steps p.tables e below (T76.setTop (mkF m 199 #[.val (.int p0), .val (.int p1), .val (.int p2), .val (.int p3), .val (.int p4), .val (.int nn), .val (.int mm), .val (.int r19), .val (.int r25), .val (.int r31), .val (.int r38), .val (.ref a23), .val (.ref a26), .val (.ref a49), .val (.int v176l14), .unset] [(.int r19)])) t
            refine XS.iload Y77.here hx rfl (hb hby at_199) rfl ?_
            show Steps p.tables e below (T76.setTop (mkF m 201 #[.val (.int p0), .val (.int p1), .val (.int p2), .val (.int p3), .val (.int p4), .val (.int nn), .val (.int mm), .val (.int r19), .val (.int r25), .val (.int r31), .val (.int r38), .val (.ref a23), .val (.ref a26), .val (.ref a49), .val (.int v176l14), .unset] [(.int r25), (.int r19)])) t
            exact k
          by_cases hc201 : r19 = r25
          · refine Rn.go (T' := T76) (g' := (mkF m 208 #[.val (.int p0), .val (.int p1), .val (.int p2), .val (.int p3), .val (.int p4), .val (.int nn), .val (.int mm), .val (.int r19), .val (.int r25), .val (.int r31), .val (.int r38), .val (.ref a23), .val (.ref a26), .val (.ref a49), .val (.int v176l14), .unset] [])) (fun t k => XS.icmpYes Y77.here hx rfl (pc0 := 201) (pc' := 208) rfl (hb hby at_201) rfl (teq hc201).1 (by decide) (by decide) k) ?_
            refine Rn.go (T' := T76) (g' := (mkF m 211 #[.val (.int p0), .val (.int p1), .val (.int p2), .val (.int p3), .val (.int p4), .val (.int nn), .val (.int mm), .val (.int r19), .val (.int r25), .val (.int r31), .val (.int r38), .val (.ref a23), .val (.ref a26), .val (.ref a49), .val (.int (0 : Int32)), .unset] [])) (fun t k => ?_) ?_
            · show Steps p.tables e below (T76.setTop (mkF m 208 #[.val (.int p0), .val (.int p1), .val (.int p2), .val (.int p3), .val (.int p4), .val (.int nn), .val (.int mm), .val (.int r19), .val (.int r25), .val (.int r31), .val (.int r38), .val (.ref a23), .val (.ref a26), .val (.ref a49), .val (.int v176l14), .unset] [])) t
              refine XS.iconst Y77.here hx rfl (hb hby at_208) ?_
              show Steps p.tables e below (T76.setTop (mkF m 209 #[.val (.int p0), .val (.int p1), .val (.int p2), .val (.int p3), .val (.int p4), .val (.int nn), .val (.int mm), .val (.int r19), .val (.int r25), .val (.int r31), .val (.int r38), .val (.ref a23), .val (.ref a26), .val (.ref a49), .val (.int v176l14), .unset] [(.int (0 : Int32))])) t
              refine XS.istore Y77.here hx rfl (hb hby at_209) rfl (l' := #[.val (.int p0), .val (.int p1), .val (.int p2), .val (.int p3), .val (.int p4), .val (.int nn), .val (.int mm), .val (.int r19), .val (.int r25), .val (.int r31), .val (.int r38), .val (.ref a23), .val (.ref a26), .val (.ref a49), .val (.int (0 : Int32)), .unset]) rfl ?_
              show Steps p.tables e below (T76.setTop (mkF m 211 #[.val (.int p0), .val (.int p1), .val (.int p2), .val (.int p3), .val (.int p4), .val (.int nn), .val (.int mm), .val (.int r19), .val (.int r25), .val (.int r31), .val (.int r38), .val (.ref a23), .val (.ref a26), .val (.ref a49), .val (.int (0 : Int32)), .unset] [])) t
              exact k
            exact HJ211 _ _ (by rw [← hr191, if_pos hc179, if_neg hc184, if_neg hc194, if_pos hc201]) Y77
          · refine Rn.go (T' := T76) (g' := (mkF m 204 #[.val (.int p0), .val (.int p1), .val (.int p2), .val (.int p3), .val (.int p4), .val (.int nn), .val (.int mm), .val (.int r19), .val (.int r25), .val (.int r31), .val (.int r38), .val (.ref a23), .val (.ref a26), .val (.ref a49), .val (.int v176l14), .unset] [])) (fun t k => XS.icmpNo Y77.here hx rfl (hb hby at_201) rfl (feq hc201).1 k) ?_
            refine Rn.go (T' := T76) (g' := (mkF m 211 #[.val (.int p0), .val (.int p1), .val (.int p2), .val (.int p3), .val (.int p4), .val (.int nn), .val (.int mm), .val (.int r19), .val (.int r25), .val (.int r31), .val (.int r38), .val (.ref a23), .val (.ref a26), .val (.ref a49), .val (.int (1 : Int32)), .unset] [])) (fun t k => ?_) ?_
            · show Steps p.tables e below (T76.setTop (mkF m 204 #[.val (.int p0), .val (.int p1), .val (.int p2), .val (.int p3), .val (.int p4), .val (.int nn), .val (.int mm), .val (.int r19), .val (.int r25), .val (.int r31), .val (.int r38), .val (.ref a23), .val (.ref a26), .val (.ref a49), .val (.int v176l14), .unset] [])) t
              refine XS.iconst Y77.here hx rfl (hb hby at_204) ?_
              show Steps p.tables e below (T76.setTop (mkF m 205 #[.val (.int p0), .val (.int p1), .val (.int p2), .val (.int p3), .val (.int p4), .val (.int nn), .val (.int mm), .val (.int r19), .val (.int r25), .val (.int r31), .val (.int r38), .val (.ref a23), .val (.ref a26), .val (.ref a49), .val (.int v176l14), .unset] [(.int (1 : Int32))])) t
              refine XS.goto Y77.here hx rfl (pc0 := 205) (pc' := 209) rfl (hb hby at_205) (by decide) (by decide) ?_
              show Steps p.tables e below (T76.setTop (mkF m 209 #[.val (.int p0), .val (.int p1), .val (.int p2), .val (.int p3), .val (.int p4), .val (.int nn), .val (.int mm), .val (.int r19), .val (.int r25), .val (.int r31), .val (.int r38), .val (.ref a23), .val (.ref a26), .val (.ref a49), .val (.int v176l14), .unset] [(.int (1 : Int32))])) t
              refine XS.istore Y77.here hx rfl (hb hby at_209) rfl (l' := #[.val (.int p0), .val (.int p1), .val (.int p2), .val (.int p3), .val (.int p4), .val (.int nn), .val (.int mm), .val (.int r19), .val (.int r25), .val (.int r31), .val (.int r38), .val (.ref a23), .val (.ref a26), .val (.ref a49), .val (.int (1 : Int32)), .unset]) rfl ?_
              show Steps p.tables e below (T76.setTop (mkF m 211 #[.val (.int p0), .val (.int p1), .val (.int p2), .val (.int p3), .val (.int p4), .val (.int nn), .val (.int mm), .val (.int r19), .val (.int r25), .val (.int r31), .val (.int r38), .val (.ref a23), .val (.ref a26), .val (.ref a49), .val (.int (1 : Int32)), .unset] [])) t
              exact k
            exact HJ211 _ _ (by rw [← hr191, if_pos hc179, if_neg hc184, if_neg hc194, if_neg hc201]) Y77
    · refine Rn.go (T' := T67) (g' := (mkF m 211 #[.val (.int p0), .val (.int p1), .val (.int p2), .val (.int p3), .val (.int p4), .val (.int nn), .val (.int mm), .val (.int r19), .val (.int r25), .val (.int r31), .val (.int r38), .val (.ref a23), .val (.ref a26), .val (.ref a49), .val (.int v176l14), .unset] [])) (fun t k => XS.icmpYes Y68.here hx rfl (pc0 := 179) (pc' := 211) rfl (hb hby at_179) rfl (flt hc179).2.2.2 (by decide) (by decide) k) ?_
      exact HJ211 _ _ (by rw [if_neg hc179]) Y68
  intro T74 v211l14 hv211l14 Y75
  refine Rn.go (T' := T74) (g' := (mkF m 214 #[.val (.int p0), .val (.int p1), .val (.int p2), .val (.int p3), .val (.int p4), .val (.int nn), .val (.int mm), .val (.int r19), .val (.int r25), .val (.int r31), .val (.int r38), .val (.ref a23), .val (.ref a26), .val (.ref a49), .val (.int v211l14), .unset] [(.int (2 : Int32)), (.int mm)])) (fun t k => ?_) ?_
  · show Steps p.tables e below (T74.setTop (mkF m 211 #[.val (.int p0), .val (.int p1), .val (.int p2), .val (.int p3), .val (.int p4), .val (.int nn), .val (.int mm), .val (.int r19), .val (.int r25), .val (.int r31), .val (.int r38), .val (.ref a23), .val (.ref a26), .val (.ref a49), .val (.int v211l14), .unset] [])) t
    refine XS.iload Y75.here hx rfl (hb hby at_211) rfl ?_
    show Steps p.tables e below (T74.setTop (mkF m 213 #[.val (.int p0), .val (.int p1), .val (.int p2), .val (.int p3), .val (.int p4), .val (.int nn), .val (.int mm), .val (.int r19), .val (.int r25), .val (.int r31), .val (.int r38), .val (.ref a23), .val (.ref a26), .val (.ref a49), .val (.int v211l14), .unset] [(.int mm)])) t
    refine XS.iconst Y75.here hx rfl (hb hby at_213) ?_
    show Steps p.tables e below (T74.setTop (mkF m 214 #[.val (.int p0), .val (.int p1), .val (.int p2), .val (.int p3), .val (.int p4), .val (.int nn), .val (.int mm), .val (.int r19), .val (.int r25), .val (.int r31), .val (.int r38), .val (.ref a23), .val (.ref a26), .val (.ref a49), .val (.int v211l14), .unset] [(.int (2 : Int32)), (.int mm)])) t
    exact k
  suffices HJ253 : ∀ (T81 : State) (v253l14 : Int32) (hv253l14 : v253l14 = (if (2 : Int32) < mm then (if v211l14 = (0 : Int32) then (0 : Int32) else (if (own_in r31 nn) = (0 : Int32) then (0 : Int32) else (if r19 = r31 then (0 : Int32) else (if r25 = r31 then (0 : Int32) else (1 : Int32))))) else v211l14)), On p l e room_1 s m #[(.int p0), (.int p1), (.int p2), (.int p3), (.int p4)] below meth c Z n0 T81 8 27 [ar a23 (.object "java/lang/String") nn (List.replicate nn.toNatClampNeg .null), ob a26 own_C0 (own_F0 (.ref a29) (.ref a23) .null (.ref a32) (.ref a35) (.ref a38) (.ref a41)), ari a49 .int mm x4] → Rn p e below F T81 (mkF m 253 #[.val (.int p0), .val (.int p1), .val (.int p2), .val (.int p3), .val (.int p4), .val (.int nn), .val (.int mm), .val (.int r19), .val (.int r25), .val (.int r31), .val (.int r38), .val (.ref a23), .val (.ref a26), .val (.ref a49), .val (.int v253l14), .unset] []) by
    by_cases hc214 : (2 : Int32) < mm
    · refine Rn.go (T' := T74) (g' := (mkF m 217 #[.val (.int p0), .val (.int p1), .val (.int p2), .val (.int p3), .val (.int p4), .val (.int nn), .val (.int mm), .val (.int r19), .val (.int r25), .val (.int r31), .val (.int r38), .val (.ref a23), .val (.ref a26), .val (.ref a49), .val (.int v211l14), .unset] [])) (fun t k => XS.icmpNo Y75.here hx rfl (hb hby at_214) rfl (tlt hc214).2.2.2 k) ?_
      refine Rn.go (T' := T74) (g' := (mkF m 219 #[.val (.int p0), .val (.int p1), .val (.int p2), .val (.int p3), .val (.int p4), .val (.int nn), .val (.int mm), .val (.int r19), .val (.int r25), .val (.int r31), .val (.int r38), .val (.ref a23), .val (.ref a26), .val (.ref a49), .val (.int v211l14), .unset] [(.int v211l14)])) (fun t k => ?_) ?_
      · show Steps p.tables e below (T74.setTop (mkF m 217 #[.val (.int p0), .val (.int p1), .val (.int p2), .val (.int p3), .val (.int p4), .val (.int nn), .val (.int mm), .val (.int r19), .val (.int r25), .val (.int r31), .val (.int r38), .val (.ref a23), .val (.ref a26), .val (.ref a49), .val (.int v211l14), .unset] [])) t
        refine XS.iload Y75.here hx rfl (hb hby at_217) rfl ?_
        show Steps p.tables e below (T74.setTop (mkF m 219 #[.val (.int p0), .val (.int p1), .val (.int p2), .val (.int p3), .val (.int p4), .val (.int nn), .val (.int mm), .val (.int r19), .val (.int r25), .val (.int r31), .val (.int r38), .val (.ref a23), .val (.ref a26), .val (.ref a49), .val (.int v211l14), .unset] [(.int v211l14)])) t
        exact k
      by_cases hc219 : v211l14 = (0 : Int32)
      · refine Rn.go (T' := T74) (g' := (mkF m 250 #[.val (.int p0), .val (.int p1), .val (.int p2), .val (.int p3), .val (.int p4), .val (.int nn), .val (.int mm), .val (.int r19), .val (.int r25), .val (.int r31), .val (.int r38), .val (.ref a23), .val (.ref a26), .val (.ref a49), .val (.int v211l14), .unset] [])) (fun t k => XS.ifYes Y75.here hx rfl (pc0 := 219) (pc' := 250) rfl (hb hby at_219) rfl ((if0 _ _).trans (teq hc219).1) (by decide) (by decide) k) ?_
        refine Rn.go (T' := T74) (g' := (mkF m 253 #[.val (.int p0), .val (.int p1), .val (.int p2), .val (.int p3), .val (.int p4), .val (.int nn), .val (.int mm), .val (.int r19), .val (.int r25), .val (.int r31), .val (.int r38), .val (.ref a23), .val (.ref a26), .val (.ref a49), .val (.int (0 : Int32)), .unset] [])) (fun t k => ?_) ?_
        · show Steps p.tables e below (T74.setTop (mkF m 250 #[.val (.int p0), .val (.int p1), .val (.int p2), .val (.int p3), .val (.int p4), .val (.int nn), .val (.int mm), .val (.int r19), .val (.int r25), .val (.int r31), .val (.int r38), .val (.ref a23), .val (.ref a26), .val (.ref a49), .val (.int v211l14), .unset] [])) t
          refine XS.iconst Y75.here hx rfl (hb hby at_250) ?_
          show Steps p.tables e below (T74.setTop (mkF m 251 #[.val (.int p0), .val (.int p1), .val (.int p2), .val (.int p3), .val (.int p4), .val (.int nn), .val (.int mm), .val (.int r19), .val (.int r25), .val (.int r31), .val (.int r38), .val (.ref a23), .val (.ref a26), .val (.ref a49), .val (.int v211l14), .unset] [(.int (0 : Int32))])) t
          refine XS.istore Y75.here hx rfl (hb hby at_251) rfl (l' := #[.val (.int p0), .val (.int p1), .val (.int p2), .val (.int p3), .val (.int p4), .val (.int nn), .val (.int mm), .val (.int r19), .val (.int r25), .val (.int r31), .val (.int r38), .val (.ref a23), .val (.ref a26), .val (.ref a49), .val (.int (0 : Int32)), .unset]) rfl ?_
          show Steps p.tables e below (T74.setTop (mkF m 253 #[.val (.int p0), .val (.int p1), .val (.int p2), .val (.int p3), .val (.int p4), .val (.int nn), .val (.int mm), .val (.int r19), .val (.int r25), .val (.int r31), .val (.int r38), .val (.ref a23), .val (.ref a26), .val (.ref a49), .val (.int (0 : Int32)), .unset] [])) t
          exact k
        exact HJ253 _ _ (by rw [if_pos hc214, if_pos hc219]) Y75
      · refine Rn.go (T' := T74) (g' := (mkF m 222 #[.val (.int p0), .val (.int p1), .val (.int p2), .val (.int p3), .val (.int p4), .val (.int nn), .val (.int mm), .val (.int r19), .val (.int r25), .val (.int r31), .val (.int r38), .val (.ref a23), .val (.ref a26), .val (.ref a49), .val (.int v211l14), .unset] [])) (fun t k => XS.ifNo Y75.here hx rfl (hb hby at_219) rfl ((if0 _ _).trans (feq hc219).1) k) ?_
        refine Rn.go (T' := T74) (g' := (mkF m 226 #[.val (.int p0), .val (.int p1), .val (.int p2), .val (.int p3), .val (.int p4), .val (.int nn), .val (.int mm), .val (.int r19), .val (.int r25), .val (.int r31), .val (.int r38), .val (.ref a23), .val (.ref a26), .val (.ref a49), .val (.int v211l14), .unset] [(.int nn), (.int r31)])) (fun t k => ?_) ?_
        · show Steps p.tables e below (T74.setTop (mkF m 222 #[.val (.int p0), .val (.int p1), .val (.int p2), .val (.int p3), .val (.int p4), .val (.int nn), .val (.int mm), .val (.int r19), .val (.int r25), .val (.int r31), .val (.int r38), .val (.ref a23), .val (.ref a26), .val (.ref a49), .val (.int v211l14), .unset] [])) t
          refine XS.iload Y75.here hx rfl (hb hby at_222) rfl ?_
          show Steps p.tables e below (T74.setTop (mkF m 224 #[.val (.int p0), .val (.int p1), .val (.int p2), .val (.int p3), .val (.int p4), .val (.int nn), .val (.int mm), .val (.int r19), .val (.int r25), .val (.int r31), .val (.int r38), .val (.ref a23), .val (.ref a26), .val (.ref a49), .val (.int v211l14), .unset] [(.int r31)])) t
          refine XS.iload Y75.here hx rfl (hb hby at_224) rfl ?_
          show Steps p.tables e below (T74.setTop (mkF m 226 #[.val (.int p0), .val (.int p1), .val (.int p2), .val (.int p3), .val (.int p4), .val (.int nn), .val (.int mm), .val (.int r19), .val (.int r25), .val (.int r31), .val (.int r38), .val (.ref a23), .val (.ref a26), .val (.ref a49), .val (.int v211l14), .unset] [(.int nn), (.int r31)])) t
          exact k
        refine On.static Y75 hx hZ (y := (⟨"com/example/arborplan/arborplan/tree/TreeIsEdgeOrderPinLaw", "in", "(II)Z"⟩ : MethodName)) hown (w37 hw) (w38 hw) (w39 hw) (w2 hw) (by decide) (argsL := [(.int r31), (.int nn)]) (rest := []) (rm5 l Z a0 hw n0 r31 nn [ar a23 (.object "java/lang/String") nn (List.replicate nn.toNatClampNeg .null), ob a26 own_C0 (own_F0 (.ref a29) (.ref a23) .null (.ref a32) (.ref a35) (.ref a38) (.ref a41)), ari a49 .int mm x4]) (W := 0) (by decide) (by decide) (by decide) (by decide) (g := (mkF m 226 #[.val (.int p0), .val (.int p1), .val (.int p2), .val (.int p3), .val (.int p4), .val (.int nn), .val (.int mm), .val (.int r19), .val (.int r25), .val (.int r31), .val (.int r38), .val (.ref a23), .val (.ref a26), .val (.ref a49), .val (.int v211l14), .unset] [(.int nn), (.int r31)])) rfl (by rw [hml]; rfl) (lenOf pd2 rfl) rfl (by show 2 * 0 + _ ≤ _; exact Nat.le_of_eq rfl) (hb hby at_226) ?_
        intro T83 u85 D86 hp87 Y84
        obtain ⟨r226, hr226, rfl, rfl⟩ : ∃ z : Int32, z = (own_in r31 nn) ∧ u85 = some (.int z) ∧ D86 = _ := ⟨_, rfl, hp87.1, hp87.2⟩
        replace Y84 : On p l e _ s m _ below meth c Z n0 T83 8 27 [ar a23 (.object "java/lang/String") nn (List.replicate nn.toNatClampNeg .null), ob a26 own_C0 (own_F0 (.ref a29) (.ref a23) .null (.ref a32) (.ref a35) (.ref a38) (.ref a41)), ari a49 .int mm x4] := Y84
        show Rn p e below F T83 (mkF m 229 #[.val (.int p0), .val (.int p1), .val (.int p2), .val (.int p3), .val (.int p4), .val (.int nn), .val (.int mm), .val (.int r19), .val (.int r25), .val (.int r31), .val (.int r38), .val (.ref a23), .val (.ref a26), .val (.ref a49), .val (.int v211l14), .unset] [(.int r226)])
        by_cases hc229 : r226 = (0 : Int32)
        · refine Rn.go (T' := T83) (g' := (mkF m 250 #[.val (.int p0), .val (.int p1), .val (.int p2), .val (.int p3), .val (.int p4), .val (.int nn), .val (.int mm), .val (.int r19), .val (.int r25), .val (.int r31), .val (.int r38), .val (.ref a23), .val (.ref a26), .val (.ref a49), .val (.int v211l14), .unset] [])) (fun t k => XS.ifYes Y84.here hx rfl (pc0 := 229) (pc' := 250) rfl (hb hby at_229) rfl ((if0 _ _).trans (teq hc229).1) (by decide) (by decide) k) ?_
          refine Rn.go (T' := T83) (g' := (mkF m 253 #[.val (.int p0), .val (.int p1), .val (.int p2), .val (.int p3), .val (.int p4), .val (.int nn), .val (.int mm), .val (.int r19), .val (.int r25), .val (.int r31), .val (.int r38), .val (.ref a23), .val (.ref a26), .val (.ref a49), .val (.int (0 : Int32)), .unset] [])) (fun t k => ?_) ?_
          · show Steps p.tables e below (T83.setTop (mkF m 250 #[.val (.int p0), .val (.int p1), .val (.int p2), .val (.int p3), .val (.int p4), .val (.int nn), .val (.int mm), .val (.int r19), .val (.int r25), .val (.int r31), .val (.int r38), .val (.ref a23), .val (.ref a26), .val (.ref a49), .val (.int v211l14), .unset] [])) t
            refine XS.iconst Y84.here hx rfl (hb hby at_250) ?_
            show Steps p.tables e below (T83.setTop (mkF m 251 #[.val (.int p0), .val (.int p1), .val (.int p2), .val (.int p3), .val (.int p4), .val (.int nn), .val (.int mm), .val (.int r19), .val (.int r25), .val (.int r31), .val (.int r38), .val (.ref a23), .val (.ref a26), .val (.ref a49), .val (.int v211l14), .unset] [(.int (0 : Int32))])) t
            refine XS.istore Y84.here hx rfl (hb hby at_251) rfl (l' := #[.val (.int p0), .val (.int p1), .val (.int p2), .val (.int p3), .val (.int p4), .val (.int nn), .val (.int mm), .val (.int r19), .val (.int r25), .val (.int r31), .val (.int r38), .val (.ref a23), .val (.ref a26), .val (.ref a49), .val (.int (0 : Int32)), .unset]) rfl ?_
            show Steps p.tables e below (T83.setTop (mkF m 253 #[.val (.int p0), .val (.int p1), .val (.int p2), .val (.int p3), .val (.int p4), .val (.int nn), .val (.int mm), .val (.int r19), .val (.int r25), .val (.int r31), .val (.int r38), .val (.ref a23), .val (.ref a26), .val (.ref a49), .val (.int (0 : Int32)), .unset] [])) t
            exact k
          exact HJ253 _ _ (by rw [← hr226, if_pos hc214, if_neg hc219, if_pos hc229]) Y84
        · refine Rn.go (T' := T83) (g' := (mkF m 232 #[.val (.int p0), .val (.int p1), .val (.int p2), .val (.int p3), .val (.int p4), .val (.int nn), .val (.int mm), .val (.int r19), .val (.int r25), .val (.int r31), .val (.int r38), .val (.ref a23), .val (.ref a26), .val (.ref a49), .val (.int v211l14), .unset] [])) (fun t k => XS.ifNo Y84.here hx rfl (hb hby at_229) rfl ((if0 _ _).trans (feq hc229).1) k) ?_
          refine Rn.go (T' := T83) (g' := (mkF m 236 #[.val (.int p0), .val (.int p1), .val (.int p2), .val (.int p3), .val (.int p4), .val (.int nn), .val (.int mm), .val (.int r19), .val (.int r25), .val (.int r31), .val (.int r38), .val (.ref a23), .val (.ref a26), .val (.ref a49), .val (.int v211l14), .unset] [(.int r31), (.int r19)])) (fun t k => ?_) ?_
          · show Steps p.tables e below (T83.setTop (mkF m 232 #[.val (.int p0), .val (.int p1), .val (.int p2), .val (.int p3), .val (.int p4), .val (.int nn), .val (.int mm), .val (.int r19), .val (.int r25), .val (.int r31), .val (.int r38), .val (.ref a23), .val (.ref a26), .val (.ref a49), .val (.int v211l14), .unset] [])) t
            refine XS.iload Y84.here hx rfl (hb hby at_232) rfl ?_
            show Steps p.tables e below (T83.setTop (mkF m 234 #[.val (.int p0), .val (.int p1), .val (.int p2), .val (.int p3), .val (.int p4), .val (.int nn), .val (.int mm), .val (.int r19), .val (.int r25), .val (.int r31), .val (.int r38), .val (.ref a23), .val (.ref a26), .val (.ref a49), .val (.int v211l14), .unset] [(.int r19)])) t
            refine XS.iload Y84.here hx rfl (hb hby at_234) rfl ?_
            show Steps p.tables e below (T83.setTop (mkF m 236 #[.val (.int p0), .val (.int p1), .val (.int p2), .val (.int p3), .val (.int p4), .val (.int nn), .val (.int mm), .val (.int r19), .val (.int r25), .val (.int r31), .val (.int r38), .val (.ref a23), .val (.ref a26), .val (.ref a49), .val (.int v211l14), .unset] [(.int r31), (.int r19)])) t
            exact k
          by_cases hc236 : r19 = r31
          · refine Rn.go (T' := T83) (g' := (mkF m 250 #[.val (.int p0), .val (.int p1), .val (.int p2), .val (.int p3), .val (.int p4), .val (.int nn), .val (.int mm), .val (.int r19), .val (.int r25), .val (.int r31), .val (.int r38), .val (.ref a23), .val (.ref a26), .val (.ref a49), .val (.int v211l14), .unset] [])) (fun t k => XS.icmpYes Y84.here hx rfl (pc0 := 236) (pc' := 250) rfl (hb hby at_236) rfl (teq hc236).1 (by decide) (by decide) k) ?_
            refine Rn.go (T' := T83) (g' := (mkF m 253 #[.val (.int p0), .val (.int p1), .val (.int p2), .val (.int p3), .val (.int p4), .val (.int nn), .val (.int mm), .val (.int r19), .val (.int r25), .val (.int r31), .val (.int r38), .val (.ref a23), .val (.ref a26), .val (.ref a49), .val (.int (0 : Int32)), .unset] [])) (fun t k => ?_) ?_
            · show Steps p.tables e below (T83.setTop (mkF m 250 #[.val (.int p0), .val (.int p1), .val (.int p2), .val (.int p3), .val (.int p4), .val (.int nn), .val (.int mm), .val (.int r19), .val (.int r25), .val (.int r31), .val (.int r38), .val (.ref a23), .val (.ref a26), .val (.ref a49), .val (.int v211l14), .unset] [])) t
              refine XS.iconst Y84.here hx rfl (hb hby at_250) ?_
              show Steps p.tables e below (T83.setTop (mkF m 251 #[.val (.int p0), .val (.int p1), .val (.int p2), .val (.int p3), .val (.int p4), .val (.int nn), .val (.int mm), .val (.int r19), .val (.int r25), .val (.int r31), .val (.int r38), .val (.ref a23), .val (.ref a26), .val (.ref a49), .val (.int v211l14), .unset] [(.int (0 : Int32))])) t
              refine XS.istore Y84.here hx rfl (hb hby at_251) rfl (l' := #[.val (.int p0), .val (.int p1), .val (.int p2), .val (.int p3), .val (.int p4), .val (.int nn), .val (.int mm), .val (.int r19), .val (.int r25), .val (.int r31), .val (.int r38), .val (.ref a23), .val (.ref a26), .val (.ref a49), .val (.int (0 : Int32)), .unset]) rfl ?_
              show Steps p.tables e below (T83.setTop (mkF m 253 #[.val (.int p0), .val (.int p1), .val (.int p2), .val (.int p3), .val (.int p4), .val (.int nn), .val (.int mm), .val (.int r19), .val (.int r25), .val (.int r31), .val (.int r38), .val (.ref a23), .val (.ref a26), .val (.ref a49), .val (.int (0 : Int32)), .unset] [])) t
              exact k
            exact HJ253 _ _ (by rw [← hr226, if_pos hc214, if_neg hc219, if_neg hc229, if_pos hc236]) Y84
          · refine Rn.go (T' := T83) (g' := (mkF m 239 #[.val (.int p0), .val (.int p1), .val (.int p2), .val (.int p3), .val (.int p4), .val (.int nn), .val (.int mm), .val (.int r19), .val (.int r25), .val (.int r31), .val (.int r38), .val (.ref a23), .val (.ref a26), .val (.ref a49), .val (.int v211l14), .unset] [])) (fun t k => XS.icmpNo Y84.here hx rfl (hb hby at_236) rfl (feq hc236).1 k) ?_
            refine Rn.go (T' := T83) (g' := (mkF m 243 #[.val (.int p0), .val (.int p1), .val (.int p2), .val (.int p3), .val (.int p4), .val (.int nn), .val (.int mm), .val (.int r19), .val (.int r25), .val (.int r31), .val (.int r38), .val (.ref a23), .val (.ref a26), .val (.ref a49), .val (.int v211l14), .unset] [(.int r31), (.int r25)])) (fun t k => ?_) ?_
            · show Steps p.tables e below (T83.setTop (mkF m 239 #[.val (.int p0), .val (.int p1), .val (.int p2), .val (.int p3), .val (.int p4), .val (.int nn), .val (.int mm), .val (.int r19), .val (.int r25), .val (.int r31), .val (.int r38), .val (.ref a23), .val (.ref a26), .val (.ref a49), .val (.int v211l14), .unset] [])) t
              refine XS.iload Y84.here hx rfl (hb hby at_239) rfl ?_
              show Steps p.tables e below (T83.setTop (mkF m 241 #[.val (.int p0), .val (.int p1), .val (.int p2), .val (.int p3), .val (.int p4), .val (.int nn), .val (.int mm), .val (.int r19), .val (.int r25), .val (.int r31), .val (.int r38), .val (.ref a23), .val (.ref a26), .val (.ref a49), .val (.int v211l14), .unset] [(.int r25)])) t
              refine XS.iload Y84.here hx rfl (hb hby at_241) rfl ?_
              show Steps p.tables e below (T83.setTop (mkF m 243 #[.val (.int p0), .val (.int p1), .val (.int p2), .val (.int p3), .val (.int p4), .val (.int nn), .val (.int mm), .val (.int r19), .val (.int r25), .val (.int r31), .val (.int r38), .val (.ref a23), .val (.ref a26), .val (.ref a49), .val (.int v211l14), .unset] [(.int r31), (.int r25)])) t
              exact k
            by_cases hc243 : r25 = r31
            · refine Rn.go (T' := T83) (g' := (mkF m 250 #[.val (.int p0), .val (.int p1), .val (.int p2), .val (.int p3), .val (.int p4), .val (.int nn), .val (.int mm), .val (.int r19), .val (.int r25), .val (.int r31), .val (.int r38), .val (.ref a23), .val (.ref a26), .val (.ref a49), .val (.int v211l14), .unset] [])) (fun t k => XS.icmpYes Y84.here hx rfl (pc0 := 243) (pc' := 250) rfl (hb hby at_243) rfl (teq hc243).1 (by decide) (by decide) k) ?_
              refine Rn.go (T' := T83) (g' := (mkF m 253 #[.val (.int p0), .val (.int p1), .val (.int p2), .val (.int p3), .val (.int p4), .val (.int nn), .val (.int mm), .val (.int r19), .val (.int r25), .val (.int r31), .val (.int r38), .val (.ref a23), .val (.ref a26), .val (.ref a49), .val (.int (0 : Int32)), .unset] [])) (fun t k => ?_) ?_
              · show Steps p.tables e below (T83.setTop (mkF m 250 #[.val (.int p0), .val (.int p1), .val (.int p2), .val (.int p3), .val (.int p4), .val (.int nn), .val (.int mm), .val (.int r19), .val (.int r25), .val (.int r31), .val (.int r38), .val (.ref a23), .val (.ref a26), .val (.ref a49), .val (.int v211l14), .unset] [])) t
                refine XS.iconst Y84.here hx rfl (hb hby at_250) ?_
                show Steps p.tables e below (T83.setTop (mkF m 251 #[.val (.int p0), .val (.int p1), .val (.int p2), .val (.int p3), .val (.int p4), .val (.int nn), .val (.int mm), .val (.int r19), .val (.int r25), .val (.int r31), .val (.int r38), .val (.ref a23), .val (.ref a26), .val (.ref a49), .val (.int v211l14), .unset] [(.int (0 : Int32))])) t
                refine XS.istore Y84.here hx rfl (hb hby at_251) rfl (l' := #[.val (.int p0), .val (.int p1), .val (.int p2), .val (.int p3), .val (.int p4), .val (.int nn), .val (.int mm), .val (.int r19), .val (.int r25), .val (.int r31), .val (.int r38), .val (.ref a23), .val (.ref a26), .val (.ref a49), .val (.int (0 : Int32)), .unset]) rfl ?_
                show Steps p.tables e below (T83.setTop (mkF m 253 #[.val (.int p0), .val (.int p1), .val (.int p2), .val (.int p3), .val (.int p4), .val (.int nn), .val (.int mm), .val (.int r19), .val (.int r25), .val (.int r31), .val (.int r38), .val (.ref a23), .val (.ref a26), .val (.ref a49), .val (.int (0 : Int32)), .unset] [])) t
                exact k
              exact HJ253 _ _ (by rw [← hr226, if_pos hc214, if_neg hc219, if_neg hc229, if_neg hc236, if_pos hc243]) Y84
            · refine Rn.go (T' := T83) (g' := (mkF m 246 #[.val (.int p0), .val (.int p1), .val (.int p2), .val (.int p3), .val (.int p4), .val (.int nn), .val (.int mm), .val (.int r19), .val (.int r25), .val (.int r31), .val (.int r38), .val (.ref a23), .val (.ref a26), .val (.ref a49), .val (.int v211l14), .unset] [])) (fun t k => XS.icmpNo Y84.here hx rfl (hb hby at_243) rfl (feq hc243).1 k) ?_
              refine Rn.go (T' := T83) (g' := (mkF m 253 #[.val (.int p0), .val (.int p1), .val (.int p2), .val (.int p3), .val (.int p4), .val (.int nn), .val (.int mm), .val (.int r19), .val (.int r25), .val (.int r31), .val (.int r38), .val (.ref a23), .val (.ref a26), .val (.ref a49), .val (.int (1 : Int32)), .unset] [])) (fun t k => ?_) ?_
              · show Steps p.tables e below (T83.setTop (mkF m 246 #[.val (.int p0), .val (.int p1), .val (.int p2), .val (.int p3), .val (.int p4), .val (.int nn), .val (.int mm), .val (.int r19), .val (.int r25), .val (.int r31), .val (.int r38), .val (.ref a23), .val (.ref a26), .val (.ref a49), .val (.int v211l14), .unset] [])) t
                refine XS.iconst Y84.here hx rfl (hb hby at_246) ?_
                show Steps p.tables e below (T83.setTop (mkF m 247 #[.val (.int p0), .val (.int p1), .val (.int p2), .val (.int p3), .val (.int p4), .val (.int nn), .val (.int mm), .val (.int r19), .val (.int r25), .val (.int r31), .val (.int r38), .val (.ref a23), .val (.ref a26), .val (.ref a49), .val (.int v211l14), .unset] [(.int (1 : Int32))])) t
                refine XS.goto Y84.here hx rfl (pc0 := 247) (pc' := 251) rfl (hb hby at_247) (by decide) (by decide) ?_
                show Steps p.tables e below (T83.setTop (mkF m 251 #[.val (.int p0), .val (.int p1), .val (.int p2), .val (.int p3), .val (.int p4), .val (.int nn), .val (.int mm), .val (.int r19), .val (.int r25), .val (.int r31), .val (.int r38), .val (.ref a23), .val (.ref a26), .val (.ref a49), .val (.int v211l14), .unset] [(.int (1 : Int32))])) t
                refine XS.istore Y84.here hx rfl (hb hby at_251) rfl (l' := #[.val (.int p0), .val (.int p1), .val (.int p2), .val (.int p3), .val (.int p4), .val (.int nn), .val (.int mm), .val (.int r19), .val (.int r25), .val (.int r31), .val (.int r38), .val (.ref a23), .val (.ref a26), .val (.ref a49), .val (.int (1 : Int32)), .unset]) rfl ?_
                show Steps p.tables e below (T83.setTop (mkF m 253 #[.val (.int p0), .val (.int p1), .val (.int p2), .val (.int p3), .val (.int p4), .val (.int nn), .val (.int mm), .val (.int r19), .val (.int r25), .val (.int r31), .val (.int r38), .val (.ref a23), .val (.ref a26), .val (.ref a49), .val (.int (1 : Int32)), .unset] [])) t
                exact k
              exact HJ253 _ _ (by rw [← hr226, if_pos hc214, if_neg hc219, if_neg hc229, if_neg hc236, if_neg hc243]) Y84
    · refine Rn.go (T' := T74) (g' := (mkF m 253 #[.val (.int p0), .val (.int p1), .val (.int p2), .val (.int p3), .val (.int p4), .val (.int nn), .val (.int mm), .val (.int r19), .val (.int r25), .val (.int r31), .val (.int r38), .val (.ref a23), .val (.ref a26), .val (.ref a49), .val (.int v211l14), .unset] [])) (fun t k => XS.icmpYes Y75.here hx rfl (pc0 := 214) (pc' := 253) rfl (hb hby at_214) rfl (flt hc214).2.2.2 (by decide) (by decide) k) ?_
      exact HJ253 _ _ (by rw [if_neg hc214]) Y75
  intro T81 v253l14 hv253l14 Y82
  refine Rn.go (T' := T81) (g' := (mkF m 256 #[.val (.int p0), .val (.int p1), .val (.int p2), .val (.int p3), .val (.int p4), .val (.int nn), .val (.int mm), .val (.int r19), .val (.int r25), .val (.int r31), .val (.int r38), .val (.ref a23), .val (.ref a26), .val (.ref a49), .val (.int v253l14), .unset] [(.int (3 : Int32)), (.int mm)])) (fun t k => ?_) ?_
  · show Steps p.tables e below (T81.setTop (mkF m 253 #[.val (.int p0), .val (.int p1), .val (.int p2), .val (.int p3), .val (.int p4), .val (.int nn), .val (.int mm), .val (.int r19), .val (.int r25), .val (.int r31), .val (.int r38), .val (.ref a23), .val (.ref a26), .val (.ref a49), .val (.int v253l14), .unset] [])) t
    refine XS.iload Y82.here hx rfl (hb hby at_253) rfl ?_
    show Steps p.tables e below (T81.setTop (mkF m 255 #[.val (.int p0), .val (.int p1), .val (.int p2), .val (.int p3), .val (.int p4), .val (.int nn), .val (.int mm), .val (.int r19), .val (.int r25), .val (.int r31), .val (.int r38), .val (.ref a23), .val (.ref a26), .val (.ref a49), .val (.int v253l14), .unset] [(.int mm)])) t
    refine XS.iconst Y82.here hx rfl (hb hby at_255) ?_
    show Steps p.tables e below (T81.setTop (mkF m 256 #[.val (.int p0), .val (.int p1), .val (.int p2), .val (.int p3), .val (.int p4), .val (.int nn), .val (.int mm), .val (.int r19), .val (.int r25), .val (.int r31), .val (.int r38), .val (.ref a23), .val (.ref a26), .val (.ref a49), .val (.int v253l14), .unset] [(.int (3 : Int32)), (.int mm)])) t
    exact k
  suffices HJ302 : ∀ (T88 : State) (v302l14 : Int32) (hv302l14 : v302l14 = (if (3 : Int32) < mm then (if v253l14 = (0 : Int32) then (0 : Int32) else (if (own_in r38 nn) = (0 : Int32) then (0 : Int32) else (if r19 = r38 then (0 : Int32) else (if r25 = r38 then (0 : Int32) else (if r31 = r38 then (0 : Int32) else (1 : Int32)))))) else v253l14)), On p l e room_1 s m #[(.int p0), (.int p1), (.int p2), (.int p3), (.int p4)] below meth c Z n0 T88 8 27 [ar a23 (.object "java/lang/String") nn (List.replicate nn.toNatClampNeg .null), ob a26 own_C0 (own_F0 (.ref a29) (.ref a23) .null (.ref a32) (.ref a35) (.ref a38) (.ref a41)), ari a49 .int mm x4] → Rn p e below F T88 (mkF m 302 #[.val (.int p0), .val (.int p1), .val (.int p2), .val (.int p3), .val (.int p4), .val (.int nn), .val (.int mm), .val (.int r19), .val (.int r25), .val (.int r31), .val (.int r38), .val (.ref a23), .val (.ref a26), .val (.ref a49), .val (.int v302l14), .unset] []) by
    by_cases hc256 : (3 : Int32) < mm
    · refine Rn.go (T' := T81) (g' := (mkF m 259 #[.val (.int p0), .val (.int p1), .val (.int p2), .val (.int p3), .val (.int p4), .val (.int nn), .val (.int mm), .val (.int r19), .val (.int r25), .val (.int r31), .val (.int r38), .val (.ref a23), .val (.ref a26), .val (.ref a49), .val (.int v253l14), .unset] [])) (fun t k => XS.icmpNo Y82.here hx rfl (hb hby at_256) rfl (tlt hc256).2.2.2 k) ?_
      refine Rn.go (T' := T81) (g' := (mkF m 261 #[.val (.int p0), .val (.int p1), .val (.int p2), .val (.int p3), .val (.int p4), .val (.int nn), .val (.int mm), .val (.int r19), .val (.int r25), .val (.int r31), .val (.int r38), .val (.ref a23), .val (.ref a26), .val (.ref a49), .val (.int v253l14), .unset] [(.int v253l14)])) (fun t k => ?_) ?_
      · show Steps p.tables e below (T81.setTop (mkF m 259 #[.val (.int p0), .val (.int p1), .val (.int p2), .val (.int p3), .val (.int p4), .val (.int nn), .val (.int mm), .val (.int r19), .val (.int r25), .val (.int r31), .val (.int r38), .val (.ref a23), .val (.ref a26), .val (.ref a49), .val (.int v253l14), .unset] [])) t
        refine XS.iload Y82.here hx rfl (hb hby at_259) rfl ?_
        show Steps p.tables e below (T81.setTop (mkF m 261 #[.val (.int p0), .val (.int p1), .val (.int p2), .val (.int p3), .val (.int p4), .val (.int nn), .val (.int mm), .val (.int r19), .val (.int r25), .val (.int r31), .val (.int r38), .val (.ref a23), .val (.ref a26), .val (.ref a49), .val (.int v253l14), .unset] [(.int v253l14)])) t
        exact k
      by_cases hc261 : v253l14 = (0 : Int32)
      · refine Rn.go (T' := T81) (g' := (mkF m 299 #[.val (.int p0), .val (.int p1), .val (.int p2), .val (.int p3), .val (.int p4), .val (.int nn), .val (.int mm), .val (.int r19), .val (.int r25), .val (.int r31), .val (.int r38), .val (.ref a23), .val (.ref a26), .val (.ref a49), .val (.int v253l14), .unset] [])) (fun t k => XS.ifYes Y82.here hx rfl (pc0 := 261) (pc' := 299) rfl (hb hby at_261) rfl ((if0 _ _).trans (teq hc261).1) (by decide) (by decide) k) ?_
        refine Rn.go (T' := T81) (g' := (mkF m 302 #[.val (.int p0), .val (.int p1), .val (.int p2), .val (.int p3), .val (.int p4), .val (.int nn), .val (.int mm), .val (.int r19), .val (.int r25), .val (.int r31), .val (.int r38), .val (.ref a23), .val (.ref a26), .val (.ref a49), .val (.int (0 : Int32)), .unset] [])) (fun t k => ?_) ?_
        · show Steps p.tables e below (T81.setTop (mkF m 299 #[.val (.int p0), .val (.int p1), .val (.int p2), .val (.int p3), .val (.int p4), .val (.int nn), .val (.int mm), .val (.int r19), .val (.int r25), .val (.int r31), .val (.int r38), .val (.ref a23), .val (.ref a26), .val (.ref a49), .val (.int v253l14), .unset] [])) t
          refine XS.iconst Y82.here hx rfl (hb hby at_299) ?_
          show Steps p.tables e below (T81.setTop (mkF m 300 #[.val (.int p0), .val (.int p1), .val (.int p2), .val (.int p3), .val (.int p4), .val (.int nn), .val (.int mm), .val (.int r19), .val (.int r25), .val (.int r31), .val (.int r38), .val (.ref a23), .val (.ref a26), .val (.ref a49), .val (.int v253l14), .unset] [(.int (0 : Int32))])) t
          refine XS.istore Y82.here hx rfl (hb hby at_300) rfl (l' := #[.val (.int p0), .val (.int p1), .val (.int p2), .val (.int p3), .val (.int p4), .val (.int nn), .val (.int mm), .val (.int r19), .val (.int r25), .val (.int r31), .val (.int r38), .val (.ref a23), .val (.ref a26), .val (.ref a49), .val (.int (0 : Int32)), .unset]) rfl ?_
          show Steps p.tables e below (T81.setTop (mkF m 302 #[.val (.int p0), .val (.int p1), .val (.int p2), .val (.int p3), .val (.int p4), .val (.int nn), .val (.int mm), .val (.int r19), .val (.int r25), .val (.int r31), .val (.int r38), .val (.ref a23), .val (.ref a26), .val (.ref a49), .val (.int (0 : Int32)), .unset] [])) t
          exact k
        exact HJ302 _ _ (by rw [if_pos hc256, if_pos hc261]) Y82
      · refine Rn.go (T' := T81) (g' := (mkF m 264 #[.val (.int p0), .val (.int p1), .val (.int p2), .val (.int p3), .val (.int p4), .val (.int nn), .val (.int mm), .val (.int r19), .val (.int r25), .val (.int r31), .val (.int r38), .val (.ref a23), .val (.ref a26), .val (.ref a49), .val (.int v253l14), .unset] [])) (fun t k => XS.ifNo Y82.here hx rfl (hb hby at_261) rfl ((if0 _ _).trans (feq hc261).1) k) ?_
        refine Rn.go (T' := T81) (g' := (mkF m 268 #[.val (.int p0), .val (.int p1), .val (.int p2), .val (.int p3), .val (.int p4), .val (.int nn), .val (.int mm), .val (.int r19), .val (.int r25), .val (.int r31), .val (.int r38), .val (.ref a23), .val (.ref a26), .val (.ref a49), .val (.int v253l14), .unset] [(.int nn), (.int r38)])) (fun t k => ?_) ?_
        · show Steps p.tables e below (T81.setTop (mkF m 264 #[.val (.int p0), .val (.int p1), .val (.int p2), .val (.int p3), .val (.int p4), .val (.int nn), .val (.int mm), .val (.int r19), .val (.int r25), .val (.int r31), .val (.int r38), .val (.ref a23), .val (.ref a26), .val (.ref a49), .val (.int v253l14), .unset] [])) t
          refine XS.iload Y82.here hx rfl (hb hby at_264) rfl ?_
          show Steps p.tables e below (T81.setTop (mkF m 266 #[.val (.int p0), .val (.int p1), .val (.int p2), .val (.int p3), .val (.int p4), .val (.int nn), .val (.int mm), .val (.int r19), .val (.int r25), .val (.int r31), .val (.int r38), .val (.ref a23), .val (.ref a26), .val (.ref a49), .val (.int v253l14), .unset] [(.int r38)])) t
          refine XS.iload Y82.here hx rfl (hb hby at_266) rfl ?_
          show Steps p.tables e below (T81.setTop (mkF m 268 #[.val (.int p0), .val (.int p1), .val (.int p2), .val (.int p3), .val (.int p4), .val (.int nn), .val (.int mm), .val (.int r19), .val (.int r25), .val (.int r31), .val (.int r38), .val (.ref a23), .val (.ref a26), .val (.ref a49), .val (.int v253l14), .unset] [(.int nn), (.int r38)])) t
          exact k
        refine On.static Y82 hx hZ (y := (⟨"com/example/arborplan/arborplan/tree/TreeIsEdgeOrderPinLaw", "in", "(II)Z"⟩ : MethodName)) hown (w37 hw) (w38 hw) (w39 hw) (w2 hw) (by decide) (argsL := [(.int r38), (.int nn)]) (rest := []) (rm5 l Z a0 hw n0 r38 nn [ar a23 (.object "java/lang/String") nn (List.replicate nn.toNatClampNeg .null), ob a26 own_C0 (own_F0 (.ref a29) (.ref a23) .null (.ref a32) (.ref a35) (.ref a38) (.ref a41)), ari a49 .int mm x4]) (W := 0) (by decide) (by decide) (by decide) (by decide) (g := (mkF m 268 #[.val (.int p0), .val (.int p1), .val (.int p2), .val (.int p3), .val (.int p4), .val (.int nn), .val (.int mm), .val (.int r19), .val (.int r25), .val (.int r31), .val (.int r38), .val (.ref a23), .val (.ref a26), .val (.ref a49), .val (.int v253l14), .unset] [(.int nn), (.int r38)])) rfl (by rw [hml]; rfl) (lenOf pd2 rfl) rfl (by show 2 * 0 + _ ≤ _; exact Nat.le_of_eq rfl) (hb hby at_268) ?_
        intro T90 u92 D93 hp94 Y91
        obtain ⟨r268, hr268, rfl, rfl⟩ : ∃ z : Int32, z = (own_in r38 nn) ∧ u92 = some (.int z) ∧ D93 = _ := ⟨_, rfl, hp94.1, hp94.2⟩
        replace Y91 : On p l e _ s m _ below meth c Z n0 T90 8 27 [ar a23 (.object "java/lang/String") nn (List.replicate nn.toNatClampNeg .null), ob a26 own_C0 (own_F0 (.ref a29) (.ref a23) .null (.ref a32) (.ref a35) (.ref a38) (.ref a41)), ari a49 .int mm x4] := Y91
        show Rn p e below F T90 (mkF m 271 #[.val (.int p0), .val (.int p1), .val (.int p2), .val (.int p3), .val (.int p4), .val (.int nn), .val (.int mm), .val (.int r19), .val (.int r25), .val (.int r31), .val (.int r38), .val (.ref a23), .val (.ref a26), .val (.ref a49), .val (.int v253l14), .unset] [(.int r268)])
        by_cases hc271 : r268 = (0 : Int32)
        · refine Rn.go (T' := T90) (g' := (mkF m 299 #[.val (.int p0), .val (.int p1), .val (.int p2), .val (.int p3), .val (.int p4), .val (.int nn), .val (.int mm), .val (.int r19), .val (.int r25), .val (.int r31), .val (.int r38), .val (.ref a23), .val (.ref a26), .val (.ref a49), .val (.int v253l14), .unset] [])) (fun t k => XS.ifYes Y91.here hx rfl (pc0 := 271) (pc' := 299) rfl (hb hby at_271) rfl ((if0 _ _).trans (teq hc271).1) (by decide) (by decide) k) ?_
          refine Rn.go (T' := T90) (g' := (mkF m 302 #[.val (.int p0), .val (.int p1), .val (.int p2), .val (.int p3), .val (.int p4), .val (.int nn), .val (.int mm), .val (.int r19), .val (.int r25), .val (.int r31), .val (.int r38), .val (.ref a23), .val (.ref a26), .val (.ref a49), .val (.int (0 : Int32)), .unset] [])) (fun t k => ?_) ?_
          · show Steps p.tables e below (T90.setTop (mkF m 299 #[.val (.int p0), .val (.int p1), .val (.int p2), .val (.int p3), .val (.int p4), .val (.int nn), .val (.int mm), .val (.int r19), .val (.int r25), .val (.int r31), .val (.int r38), .val (.ref a23), .val (.ref a26), .val (.ref a49), .val (.int v253l14), .unset] [])) t
            refine XS.iconst Y91.here hx rfl (hb hby at_299) ?_
            show Steps p.tables e below (T90.setTop (mkF m 300 #[.val (.int p0), .val (.int p1), .val (.int p2), .val (.int p3), .val (.int p4), .val (.int nn), .val (.int mm), .val (.int r19), .val (.int r25), .val (.int r31), .val (.int r38), .val (.ref a23), .val (.ref a26), .val (.ref a49), .val (.int v253l14), .unset] [(.int (0 : Int32))])) t
            refine XS.istore Y91.here hx rfl (hb hby at_300) rfl (l' := #[.val (.int p0), .val (.int p1), .val (.int p2), .val (.int p3), .val (.int p4), .val (.int nn), .val (.int mm), .val (.int r19), .val (.int r25), .val (.int r31), .val (.int r38), .val (.ref a23), .val (.ref a26), .val (.ref a49), .val (.int (0 : Int32)), .unset]) rfl ?_
            show Steps p.tables e below (T90.setTop (mkF m 302 #[.val (.int p0), .val (.int p1), .val (.int p2), .val (.int p3), .val (.int p4), .val (.int nn), .val (.int mm), .val (.int r19), .val (.int r25), .val (.int r31), .val (.int r38), .val (.ref a23), .val (.ref a26), .val (.ref a49), .val (.int (0 : Int32)), .unset] [])) t
            exact k
          exact HJ302 _ _ (by rw [← hr268, if_pos hc256, if_neg hc261, if_pos hc271]) Y91
        · refine Rn.go (T' := T90) (g' := (mkF m 274 #[.val (.int p0), .val (.int p1), .val (.int p2), .val (.int p3), .val (.int p4), .val (.int nn), .val (.int mm), .val (.int r19), .val (.int r25), .val (.int r31), .val (.int r38), .val (.ref a23), .val (.ref a26), .val (.ref a49), .val (.int v253l14), .unset] [])) (fun t k => XS.ifNo Y91.here hx rfl (hb hby at_271) rfl ((if0 _ _).trans (feq hc271).1) k) ?_
          refine Rn.go (T' := T90) (g' := (mkF m 278 #[.val (.int p0), .val (.int p1), .val (.int p2), .val (.int p3), .val (.int p4), .val (.int nn), .val (.int mm), .val (.int r19), .val (.int r25), .val (.int r31), .val (.int r38), .val (.ref a23), .val (.ref a26), .val (.ref a49), .val (.int v253l14), .unset] [(.int r38), (.int r19)])) (fun t k => ?_) ?_
          · show Steps p.tables e below (T90.setTop (mkF m 274 #[.val (.int p0), .val (.int p1), .val (.int p2), .val (.int p3), .val (.int p4), .val (.int nn), .val (.int mm), .val (.int r19), .val (.int r25), .val (.int r31), .val (.int r38), .val (.ref a23), .val (.ref a26), .val (.ref a49), .val (.int v253l14), .unset] [])) t
            refine XS.iload Y91.here hx rfl (hb hby at_274) rfl ?_
            show Steps p.tables e below (T90.setTop (mkF m 276 #[.val (.int p0), .val (.int p1), .val (.int p2), .val (.int p3), .val (.int p4), .val (.int nn), .val (.int mm), .val (.int r19), .val (.int r25), .val (.int r31), .val (.int r38), .val (.ref a23), .val (.ref a26), .val (.ref a49), .val (.int v253l14), .unset] [(.int r19)])) t
            refine XS.iload Y91.here hx rfl (hb hby at_276) rfl ?_
            show Steps p.tables e below (T90.setTop (mkF m 278 #[.val (.int p0), .val (.int p1), .val (.int p2), .val (.int p3), .val (.int p4), .val (.int nn), .val (.int mm), .val (.int r19), .val (.int r25), .val (.int r31), .val (.int r38), .val (.ref a23), .val (.ref a26), .val (.ref a49), .val (.int v253l14), .unset] [(.int r38), (.int r19)])) t
            exact k
          by_cases hc278 : r19 = r38
          · refine Rn.go (T' := T90) (g' := (mkF m 299 #[.val (.int p0), .val (.int p1), .val (.int p2), .val (.int p3), .val (.int p4), .val (.int nn), .val (.int mm), .val (.int r19), .val (.int r25), .val (.int r31), .val (.int r38), .val (.ref a23), .val (.ref a26), .val (.ref a49), .val (.int v253l14), .unset] [])) (fun t k => XS.icmpYes Y91.here hx rfl (pc0 := 278) (pc' := 299) rfl (hb hby at_278) rfl (teq hc278).1 (by decide) (by decide) k) ?_
            refine Rn.go (T' := T90) (g' := (mkF m 302 #[.val (.int p0), .val (.int p1), .val (.int p2), .val (.int p3), .val (.int p4), .val (.int nn), .val (.int mm), .val (.int r19), .val (.int r25), .val (.int r31), .val (.int r38), .val (.ref a23), .val (.ref a26), .val (.ref a49), .val (.int (0 : Int32)), .unset] [])) (fun t k => ?_) ?_
            · show Steps p.tables e below (T90.setTop (mkF m 299 #[.val (.int p0), .val (.int p1), .val (.int p2), .val (.int p3), .val (.int p4), .val (.int nn), .val (.int mm), .val (.int r19), .val (.int r25), .val (.int r31), .val (.int r38), .val (.ref a23), .val (.ref a26), .val (.ref a49), .val (.int v253l14), .unset] [])) t
              refine XS.iconst Y91.here hx rfl (hb hby at_299) ?_
              show Steps p.tables e below (T90.setTop (mkF m 300 #[.val (.int p0), .val (.int p1), .val (.int p2), .val (.int p3), .val (.int p4), .val (.int nn), .val (.int mm), .val (.int r19), .val (.int r25), .val (.int r31), .val (.int r38), .val (.ref a23), .val (.ref a26), .val (.ref a49), .val (.int v253l14), .unset] [(.int (0 : Int32))])) t
              refine XS.istore Y91.here hx rfl (hb hby at_300) rfl (l' := #[.val (.int p0), .val (.int p1), .val (.int p2), .val (.int p3), .val (.int p4), .val (.int nn), .val (.int mm), .val (.int r19), .val (.int r25), .val (.int r31), .val (.int r38), .val (.ref a23), .val (.ref a26), .val (.ref a49), .val (.int (0 : Int32)), .unset]) rfl ?_
              show Steps p.tables e below (T90.setTop (mkF m 302 #[.val (.int p0), .val (.int p1), .val (.int p2), .val (.int p3), .val (.int p4), .val (.int nn), .val (.int mm), .val (.int r19), .val (.int r25), .val (.int r31), .val (.int r38), .val (.ref a23), .val (.ref a26), .val (.ref a49), .val (.int (0 : Int32)), .unset] [])) t
              exact k
            exact HJ302 _ _ (by rw [← hr268, if_pos hc256, if_neg hc261, if_neg hc271, if_pos hc278]) Y91
          · refine Rn.go (T' := T90) (g' := (mkF m 281 #[.val (.int p0), .val (.int p1), .val (.int p2), .val (.int p3), .val (.int p4), .val (.int nn), .val (.int mm), .val (.int r19), .val (.int r25), .val (.int r31), .val (.int r38), .val (.ref a23), .val (.ref a26), .val (.ref a49), .val (.int v253l14), .unset] [])) (fun t k => XS.icmpNo Y91.here hx rfl (hb hby at_278) rfl (feq hc278).1 k) ?_
            refine Rn.go (T' := T90) (g' := (mkF m 285 #[.val (.int p0), .val (.int p1), .val (.int p2), .val (.int p3), .val (.int p4), .val (.int nn), .val (.int mm), .val (.int r19), .val (.int r25), .val (.int r31), .val (.int r38), .val (.ref a23), .val (.ref a26), .val (.ref a49), .val (.int v253l14), .unset] [(.int r38), (.int r25)])) (fun t k => ?_) ?_
            · show Steps p.tables e below (T90.setTop (mkF m 281 #[.val (.int p0), .val (.int p1), .val (.int p2), .val (.int p3), .val (.int p4), .val (.int nn), .val (.int mm), .val (.int r19), .val (.int r25), .val (.int r31), .val (.int r38), .val (.ref a23), .val (.ref a26), .val (.ref a49), .val (.int v253l14), .unset] [])) t
              refine XS.iload Y91.here hx rfl (hb hby at_281) rfl ?_
              show Steps p.tables e below (T90.setTop (mkF m 283 #[.val (.int p0), .val (.int p1), .val (.int p2), .val (.int p3), .val (.int p4), .val (.int nn), .val (.int mm), .val (.int r19), .val (.int r25), .val (.int r31), .val (.int r38), .val (.ref a23), .val (.ref a26), .val (.ref a49), .val (.int v253l14), .unset] [(.int r25)])) t
              refine XS.iload Y91.here hx rfl (hb hby at_283) rfl ?_
              show Steps p.tables e below (T90.setTop (mkF m 285 #[.val (.int p0), .val (.int p1), .val (.int p2), .val (.int p3), .val (.int p4), .val (.int nn), .val (.int mm), .val (.int r19), .val (.int r25), .val (.int r31), .val (.int r38), .val (.ref a23), .val (.ref a26), .val (.ref a49), .val (.int v253l14), .unset] [(.int r38), (.int r25)])) t
              exact k
            by_cases hc285 : r25 = r38
            · refine Rn.go (T' := T90) (g' := (mkF m 299 #[.val (.int p0), .val (.int p1), .val (.int p2), .val (.int p3), .val (.int p4), .val (.int nn), .val (.int mm), .val (.int r19), .val (.int r25), .val (.int r31), .val (.int r38), .val (.ref a23), .val (.ref a26), .val (.ref a49), .val (.int v253l14), .unset] [])) (fun t k => XS.icmpYes Y91.here hx rfl (pc0 := 285) (pc' := 299) rfl (hb hby at_285) rfl (teq hc285).1 (by decide) (by decide) k) ?_
              refine Rn.go (T' := T90) (g' := (mkF m 302 #[.val (.int p0), .val (.int p1), .val (.int p2), .val (.int p3), .val (.int p4), .val (.int nn), .val (.int mm), .val (.int r19), .val (.int r25), .val (.int r31), .val (.int r38), .val (.ref a23), .val (.ref a26), .val (.ref a49), .val (.int (0 : Int32)), .unset] [])) (fun t k => ?_) ?_
              · show Steps p.tables e below (T90.setTop (mkF m 299 #[.val (.int p0), .val (.int p1), .val (.int p2), .val (.int p3), .val (.int p4), .val (.int nn), .val (.int mm), .val (.int r19), .val (.int r25), .val (.int r31), .val (.int r38), .val (.ref a23), .val (.ref a26), .val (.ref a49), .val (.int v253l14), .unset] [])) t
                refine XS.iconst Y91.here hx rfl (hb hby at_299) ?_
                show Steps p.tables e below (T90.setTop (mkF m 300 #[.val (.int p0), .val (.int p1), .val (.int p2), .val (.int p3), .val (.int p4), .val (.int nn), .val (.int mm), .val (.int r19), .val (.int r25), .val (.int r31), .val (.int r38), .val (.ref a23), .val (.ref a26), .val (.ref a49), .val (.int v253l14), .unset] [(.int (0 : Int32))])) t
                refine XS.istore Y91.here hx rfl (hb hby at_300) rfl (l' := #[.val (.int p0), .val (.int p1), .val (.int p2), .val (.int p3), .val (.int p4), .val (.int nn), .val (.int mm), .val (.int r19), .val (.int r25), .val (.int r31), .val (.int r38), .val (.ref a23), .val (.ref a26), .val (.ref a49), .val (.int (0 : Int32)), .unset]) rfl ?_
                show Steps p.tables e below (T90.setTop (mkF m 302 #[.val (.int p0), .val (.int p1), .val (.int p2), .val (.int p3), .val (.int p4), .val (.int nn), .val (.int mm), .val (.int r19), .val (.int r25), .val (.int r31), .val (.int r38), .val (.ref a23), .val (.ref a26), .val (.ref a49), .val (.int (0 : Int32)), .unset] [])) t
                exact k
              exact HJ302 _ _ (by rw [← hr268, if_pos hc256, if_neg hc261, if_neg hc271, if_neg hc278, if_pos hc285]) Y91
            · refine Rn.go (T' := T90) (g' := (mkF m 288 #[.val (.int p0), .val (.int p1), .val (.int p2), .val (.int p3), .val (.int p4), .val (.int nn), .val (.int mm), .val (.int r19), .val (.int r25), .val (.int r31), .val (.int r38), .val (.ref a23), .val (.ref a26), .val (.ref a49), .val (.int v253l14), .unset] [])) (fun t k => XS.icmpNo Y91.here hx rfl (hb hby at_285) rfl (feq hc285).1 k) ?_
              refine Rn.go (T' := T90) (g' := (mkF m 292 #[.val (.int p0), .val (.int p1), .val (.int p2), .val (.int p3), .val (.int p4), .val (.int nn), .val (.int mm), .val (.int r19), .val (.int r25), .val (.int r31), .val (.int r38), .val (.ref a23), .val (.ref a26), .val (.ref a49), .val (.int v253l14), .unset] [(.int r38), (.int r31)])) (fun t k => ?_) ?_
              · show Steps p.tables e below (T90.setTop (mkF m 288 #[.val (.int p0), .val (.int p1), .val (.int p2), .val (.int p3), .val (.int p4), .val (.int nn), .val (.int mm), .val (.int r19), .val (.int r25), .val (.int r31), .val (.int r38), .val (.ref a23), .val (.ref a26), .val (.ref a49), .val (.int v253l14), .unset] [])) t
                refine XS.iload Y91.here hx rfl (hb hby at_288) rfl ?_
                show Steps p.tables e below (T90.setTop (mkF m 290 #[.val (.int p0), .val (.int p1), .val (.int p2), .val (.int p3), .val (.int p4), .val (.int nn), .val (.int mm), .val (.int r19), .val (.int r25), .val (.int r31), .val (.int r38), .val (.ref a23), .val (.ref a26), .val (.ref a49), .val (.int v253l14), .unset] [(.int r31)])) t
                refine XS.iload Y91.here hx rfl (hb hby at_290) rfl ?_
                show Steps p.tables e below (T90.setTop (mkF m 292 #[.val (.int p0), .val (.int p1), .val (.int p2), .val (.int p3), .val (.int p4), .val (.int nn), .val (.int mm), .val (.int r19), .val (.int r25), .val (.int r31), .val (.int r38), .val (.ref a23), .val (.ref a26), .val (.ref a49), .val (.int v253l14), .unset] [(.int r38), (.int r31)])) t
                exact k
              by_cases hc292 : r31 = r38
              · refine Rn.go (T' := T90) (g' := (mkF m 299 #[.val (.int p0), .val (.int p1), .val (.int p2), .val (.int p3), .val (.int p4), .val (.int nn), .val (.int mm), .val (.int r19), .val (.int r25), .val (.int r31), .val (.int r38), .val (.ref a23), .val (.ref a26), .val (.ref a49), .val (.int v253l14), .unset] [])) (fun t k => XS.icmpYes Y91.here hx rfl (pc0 := 292) (pc' := 299) rfl (hb hby at_292) rfl (teq hc292).1 (by decide) (by decide) k) ?_
                refine Rn.go (T' := T90) (g' := (mkF m 302 #[.val (.int p0), .val (.int p1), .val (.int p2), .val (.int p3), .val (.int p4), .val (.int nn), .val (.int mm), .val (.int r19), .val (.int r25), .val (.int r31), .val (.int r38), .val (.ref a23), .val (.ref a26), .val (.ref a49), .val (.int (0 : Int32)), .unset] [])) (fun t k => ?_) ?_
                · show Steps p.tables e below (T90.setTop (mkF m 299 #[.val (.int p0), .val (.int p1), .val (.int p2), .val (.int p3), .val (.int p4), .val (.int nn), .val (.int mm), .val (.int r19), .val (.int r25), .val (.int r31), .val (.int r38), .val (.ref a23), .val (.ref a26), .val (.ref a49), .val (.int v253l14), .unset] [])) t
                  refine XS.iconst Y91.here hx rfl (hb hby at_299) ?_
                  show Steps p.tables e below (T90.setTop (mkF m 300 #[.val (.int p0), .val (.int p1), .val (.int p2), .val (.int p3), .val (.int p4), .val (.int nn), .val (.int mm), .val (.int r19), .val (.int r25), .val (.int r31), .val (.int r38), .val (.ref a23), .val (.ref a26), .val (.ref a49), .val (.int v253l14), .unset] [(.int (0 : Int32))])) t
                  refine XS.istore Y91.here hx rfl (hb hby at_300) rfl (l' := #[.val (.int p0), .val (.int p1), .val (.int p2), .val (.int p3), .val (.int p4), .val (.int nn), .val (.int mm), .val (.int r19), .val (.int r25), .val (.int r31), .val (.int r38), .val (.ref a23), .val (.ref a26), .val (.ref a49), .val (.int (0 : Int32)), .unset]) rfl ?_
                  show Steps p.tables e below (T90.setTop (mkF m 302 #[.val (.int p0), .val (.int p1), .val (.int p2), .val (.int p3), .val (.int p4), .val (.int nn), .val (.int mm), .val (.int r19), .val (.int r25), .val (.int r31), .val (.int r38), .val (.ref a23), .val (.ref a26), .val (.ref a49), .val (.int (0 : Int32)), .unset] [])) t
                  exact k
                exact HJ302 _ _ (by rw [← hr268, if_pos hc256, if_neg hc261, if_neg hc271, if_neg hc278, if_neg hc285, if_pos hc292]) Y91
              · refine Rn.go (T' := T90) (g' := (mkF m 295 #[.val (.int p0), .val (.int p1), .val (.int p2), .val (.int p3), .val (.int p4), .val (.int nn), .val (.int mm), .val (.int r19), .val (.int r25), .val (.int r31), .val (.int r38), .val (.ref a23), .val (.ref a26), .val (.ref a49), .val (.int v253l14), .unset] [])) (fun t k => XS.icmpNo Y91.here hx rfl (hb hby at_292) rfl (feq hc292).1 k) ?_
                refine Rn.go (T' := T90) (g' := (mkF m 302 #[.val (.int p0), .val (.int p1), .val (.int p2), .val (.int p3), .val (.int p4), .val (.int nn), .val (.int mm), .val (.int r19), .val (.int r25), .val (.int r31), .val (.int r38), .val (.ref a23), .val (.ref a26), .val (.ref a49), .val (.int (1 : Int32)), .unset] [])) (fun t k => ?_) ?_
                · show Steps p.tables e below (T90.setTop (mkF m 295 #[.val (.int p0), .val (.int p1), .val (.int p2), .val (.int p3), .val (.int p4), .val (.int nn), .val (.int mm), .val (.int r19), .val (.int r25), .val (.int r31), .val (.int r38), .val (.ref a23), .val (.ref a26), .val (.ref a49), .val (.int v253l14), .unset] [])) t
                  refine XS.iconst Y91.here hx rfl (hb hby at_295) ?_
                  show Steps p.tables e below (T90.setTop (mkF m 296 #[.val (.int p0), .val (.int p1), .val (.int p2), .val (.int p3), .val (.int p4), .val (.int nn), .val (.int mm), .val (.int r19), .val (.int r25), .val (.int r31), .val (.int r38), .val (.ref a23), .val (.ref a26), .val (.ref a49), .val (.int v253l14), .unset] [(.int (1 : Int32))])) t
                  refine XS.goto Y91.here hx rfl (pc0 := 296) (pc' := 300) rfl (hb hby at_296) (by decide) (by decide) ?_
                  show Steps p.tables e below (T90.setTop (mkF m 300 #[.val (.int p0), .val (.int p1), .val (.int p2), .val (.int p3), .val (.int p4), .val (.int nn), .val (.int mm), .val (.int r19), .val (.int r25), .val (.int r31), .val (.int r38), .val (.ref a23), .val (.ref a26), .val (.ref a49), .val (.int v253l14), .unset] [(.int (1 : Int32))])) t
                  refine XS.istore Y91.here hx rfl (hb hby at_300) rfl (l' := #[.val (.int p0), .val (.int p1), .val (.int p2), .val (.int p3), .val (.int p4), .val (.int nn), .val (.int mm), .val (.int r19), .val (.int r25), .val (.int r31), .val (.int r38), .val (.ref a23), .val (.ref a26), .val (.ref a49), .val (.int (1 : Int32)), .unset]) rfl ?_
                  show Steps p.tables e below (T90.setTop (mkF m 302 #[.val (.int p0), .val (.int p1), .val (.int p2), .val (.int p3), .val (.int p4), .val (.int nn), .val (.int mm), .val (.int r19), .val (.int r25), .val (.int r31), .val (.int r38), .val (.ref a23), .val (.ref a26), .val (.ref a49), .val (.int (1 : Int32)), .unset] [])) t
                  exact k
                exact HJ302 _ _ (by rw [← hr268, if_pos hc256, if_neg hc261, if_neg hc271, if_neg hc278, if_neg hc285, if_neg hc292]) Y91
    · refine Rn.go (T' := T81) (g' := (mkF m 302 #[.val (.int p0), .val (.int p1), .val (.int p2), .val (.int p3), .val (.int p4), .val (.int nn), .val (.int mm), .val (.int r19), .val (.int r25), .val (.int r31), .val (.int r38), .val (.ref a23), .val (.ref a26), .val (.ref a49), .val (.int v253l14), .unset] [])) (fun t k => XS.icmpYes Y82.here hx rfl (pc0 := 256) (pc' := 302) rfl (hb hby at_256) rfl (flt hc256).2.2.2 (by decide) (by decide) k) ?_
      exact HJ302 _ _ (by rw [if_neg hc256]) Y82
  intro T88 v302l14 hv302l14 Y89
  refine Rn.go (T' := T88) (g' := (mkF m 306 #[.val (.int p0), .val (.int p1), .val (.int p2), .val (.int p3), .val (.int p4), .val (.int nn), .val (.int mm), .val (.int r19), .val (.int r25), .val (.int r31), .val (.int r38), .val (.ref a23), .val (.ref a26), .val (.ref a49), .val (.int v302l14), .unset] [(.ref a49), (.ref a26)])) (fun t k => ?_) ?_
  · show Steps p.tables e below (T88.setTop (mkF m 302 #[.val (.int p0), .val (.int p1), .val (.int p2), .val (.int p3), .val (.int p4), .val (.int nn), .val (.int mm), .val (.int r19), .val (.int r25), .val (.int r31), .val (.int r38), .val (.ref a23), .val (.ref a26), .val (.ref a49), .val (.int v302l14), .unset] [])) t
    refine XS.aload Y89.here hx rfl (hb hby at_302) rfl rfl ?_
    show Steps p.tables e below (T88.setTop (mkF m 304 #[.val (.int p0), .val (.int p1), .val (.int p2), .val (.int p3), .val (.int p4), .val (.int nn), .val (.int mm), .val (.int r19), .val (.int r25), .val (.int r31), .val (.int r38), .val (.ref a23), .val (.ref a26), .val (.ref a49), .val (.int v302l14), .unset] [(.ref a26)])) t
    refine XS.aload Y89.here hx rfl (hb hby at_304) rfl rfl ?_
    show Steps p.tables e below (T88.setTop (mkF m 306 #[.val (.int p0), .val (.int p1), .val (.int p2), .val (.int p3), .val (.int p4), .val (.int nn), .val (.int mm), .val (.int r19), .val (.int r25), .val (.int r31), .val (.int r38), .val (.ref a23), .val (.ref a26), .val (.ref a49), .val (.int v302l14), .unset] [(.ref a49), (.ref a26)])) t
    exact k
  refine On.virtual Y89 hx hZ (y := (⟨"com/example/arborplan/arborplan/tree/Tree", "isEdgeOrder", "([I)Z"⟩ : MethodName)) (C := "com/example/arborplan/arborplan/tree/Tree") hown (w31 hw) (w32 hw) (w33 hw) (w34 hw) (w35 hw) (w8 hw) (by decide) (a := a26) (argsL := [(.ref a49)]) (rest := []) (i := 1) rfl (rm4 l Z a0 hw n0 a26 a49 a23 a29 a32 a35 a38 a41 nn mm (List.replicate nn.toNatClampNeg .null) x4 l4 ⟨bmm.1, by omega⟩ bnn) (W := 0) (by decide) (by decide) (by decide) (by decide) (g := (mkF m 306 #[.val (.int p0), .val (.int p1), .val (.int p2), .val (.int p3), .val (.int p4), .val (.int nn), .val (.int mm), .val (.int r19), .val (.int r25), .val (.int r31), .val (.int r38), .val (.ref a23), .val (.ref a26), .val (.ref a49), .val (.int v302l14), .unset] [(.ref a49), (.ref a26)])) rfl (by rw [hml]; rfl) (lenOf pd3 rfl) rfl (by show 2 * 0 + _ ≤ _; exact Nat.le_of_eq rfl) (hb hby at_306) ?_
  intro T95 u97 D98 hp99 Y96
  obtain ⟨r306, hr306, rfl⟩ : ∃ z : Int32, z = (if mm = nn then own_ev nn x4 mm.toNatClampNeg 0 [] else 0) ∧ u97 = some (.int z) := ⟨_, rfl, hp99⟩
  replace Y96 : On p l e _ s m _ below meth c Z n0 T95 9 31 D98 := Y96
  show Rn p e below F T95 (mkF m 309 #[.val (.int p0), .val (.int p1), .val (.int p2), .val (.int p3), .val (.int p4), .val (.int nn), .val (.int mm), .val (.int r19), .val (.int r25), .val (.int r31), .val (.int r38), .val (.ref a23), .val (.ref a26), .val (.ref a49), .val (.int v302l14), .unset] [(.int r306)])
  refine Rn.go (T' := T95) (g' := (mkF m 315 #[.val (.int p0), .val (.int p1), .val (.int p2), .val (.int p3), .val (.int p4), .val (.int nn), .val (.int mm), .val (.int r19), .val (.int r25), .val (.int r31), .val (.int r38), .val (.ref a23), .val (.ref a26), .val (.ref a49), .val (.int v302l14), .val (.int r306)] [(.int v302l14), (.int r306)])) (fun t k => ?_) ?_
  · show Steps p.tables e below (T95.setTop (mkF m 309 #[.val (.int p0), .val (.int p1), .val (.int p2), .val (.int p3), .val (.int p4), .val (.int nn), .val (.int mm), .val (.int r19), .val (.int r25), .val (.int r31), .val (.int r38), .val (.ref a23), .val (.ref a26), .val (.ref a49), .val (.int v302l14), .unset] [(.int r306)])) t
    refine XS.istore Y96.here hx rfl (hb hby at_309) rfl (l' := #[.val (.int p0), .val (.int p1), .val (.int p2), .val (.int p3), .val (.int p4), .val (.int nn), .val (.int mm), .val (.int r19), .val (.int r25), .val (.int r31), .val (.int r38), .val (.ref a23), .val (.ref a26), .val (.ref a49), .val (.int v302l14), .val (.int r306)]) rfl ?_
    show Steps p.tables e below (T95.setTop (mkF m 311 #[.val (.int p0), .val (.int p1), .val (.int p2), .val (.int p3), .val (.int p4), .val (.int nn), .val (.int mm), .val (.int r19), .val (.int r25), .val (.int r31), .val (.int r38), .val (.ref a23), .val (.ref a26), .val (.ref a49), .val (.int v302l14), .val (.int r306)] [])) t
    refine XS.iload Y96.here hx rfl (hb hby at_311) rfl ?_
    show Steps p.tables e below (T95.setTop (mkF m 313 #[.val (.int p0), .val (.int p1), .val (.int p2), .val (.int p3), .val (.int p4), .val (.int nn), .val (.int mm), .val (.int r19), .val (.int r25), .val (.int r31), .val (.int r38), .val (.ref a23), .val (.ref a26), .val (.ref a49), .val (.int v302l14), .val (.int r306)] [(.int r306)])) t
    refine XS.iload Y96.here hx rfl (hb hby at_313) rfl ?_
    show Steps p.tables e below (T95.setTop (mkF m 315 #[.val (.int p0), .val (.int p1), .val (.int p2), .val (.int p3), .val (.int p4), .val (.int nn), .val (.int mm), .val (.int r19), .val (.int r25), .val (.int r31), .val (.int r38), .val (.ref a23), .val (.ref a26), .val (.ref a49), .val (.int v302l14), .val (.int r306)] [(.int v302l14), (.int r306)])) t
    exact k
  refine Rn.go (T' := T95) (g' := (mkF m 318 #[.val (.int p0), .val (.int p1), .val (.int p2), .val (.int p3), .val (.int p4), .val (.int nn), .val (.int mm), .val (.int r19), .val (.int r25), .val (.int r31), .val (.int r38), .val (.ref a23), .val (.ref a26), .val (.ref a49), .val (.int v302l14), .val (.int r306)] [])) (fun t k => XS.icmpNo Y96.here hx rfl (hb hby at_315) rfl (teq (by rw [hr306]; exact own_fin bnn bmm hx0 hx1 hx2 hx3 hx4 hv147 hv176l14 hv211l14 hv253l14 hv302l14)).2 k) ?_
  refine Rn.go (T' := T95) (g' := (mkF m 323 #[.val (.int p0), .val (.int p1), .val (.int p2), .val (.int p3), .val (.int p4), .val (.int nn), .val (.int mm), .val (.int r19), .val (.int r25), .val (.int r31), .val (.int r38), .val (.ref a23), .val (.ref a26), .val (.ref a49), .val (.int v302l14), .val (.int r306)] [(.int (1 : Int32))])) (fun t k => ?_) ?_
  · show Steps p.tables e below (T95.setTop (mkF m 318 #[.val (.int p0), .val (.int p1), .val (.int p2), .val (.int p3), .val (.int p4), .val (.int nn), .val (.int mm), .val (.int r19), .val (.int r25), .val (.int r31), .val (.int r38), .val (.ref a23), .val (.ref a26), .val (.ref a49), .val (.int v302l14), .val (.int r306)] [])) t
    refine XS.iconst Y96.here hx rfl (hb hby at_318) ?_
    show Steps p.tables e below (T95.setTop (mkF m 319 #[.val (.int p0), .val (.int p1), .val (.int p2), .val (.int p3), .val (.int p4), .val (.int nn), .val (.int mm), .val (.int r19), .val (.int r25), .val (.int r31), .val (.int r38), .val (.ref a23), .val (.ref a26), .val (.ref a49), .val (.int v302l14), .val (.int r306)] [(.int (1 : Int32))])) t
    refine XS.goto Y96.here hx rfl (pc0 := 319) (pc' := 323) rfl (hb hby at_319) (by decide) (by decide) ?_
    show Steps p.tables e below (T95.setTop (mkF m 323 #[.val (.int p0), .val (.int p1), .val (.int p2), .val (.int p3), .val (.int p4), .val (.int nn), .val (.int mm), .val (.int r19), .val (.int r25), .val (.int r31), .val (.int r38), .val (.ref a23), .val (.ref a26), .val (.ref a49), .val (.int v302l14), .val (.int r306)] [(.int (1 : Int32))])) t
    exact k
  rw [← hF]; exact On.retn Y96 hx hret (by simp) hlk (z' := (1 : Int32)) (by decide) (hb hby at_323) (by decide) (by decide) rfl
set_option maxRecDepth 65536 in
set_option maxHeartbeats 40000000 in
theorem comes_1 {Post : Tables → Env → Array Value → State → Outcome → State → Prop} (hpost : ∀ tb e args s v u, (limb_1_1.after args s (.returned v) u = true ∧ limb_1_2.after args s (.returned v) u = true ∧ True) → FrameEnd s (.returned v) u (Jvm.fieldLocs frame_1_writes args s ++ Jvm.arrayLocs frame_1_arrays args s ++ Jvm.staticLocs frame_1_statics s) 32 128 → Post tb e args s (.returned v) u) :
    ArmFor flags0 classFile x code maxLocals ret World_1 tables_1 room_1 Calls_1 rest_1 Pre_1 Post := by
  intro l hfl _ _ p e ha hc hk s m args below hf hA hF happ hP
  obtain ⟨hcalls, hrest, hpre⟩ := hP
  obtain ⟨-, -, -, hnamed, -, -, -, hat⟩ := (Spec.applies_iff hf).mp happ
  obtain ⟨hg, hn⟩ := and_e (Cond.before_iff.mp (show (Jvm.Cond.and given_1 narrow_1).before args s = true from hpre))
  obtain ⟨g1, g2⟩ := and_e hg
  obtain ⟨g3, g4⟩ := and_e g2
  obtain ⟨g5, g6⟩ := and_e g4
  obtain ⟨g7, g8⟩ := and_e g6
  obtain ⟨g9, g10⟩ := and_e g8
  obtain ⟨w0, w1, w2, w3, w4, rfl⟩ : ∃ w0 w1 w2 w3 w4 : Value, args = #[w0, w1, w2, w3, w4] := by
    have hs : args.size = 5 := by simpa [Cond.value, given_1] using g1
    obtain ⟨L⟩ := args
    match L, hs with
    | [w0, w1, w2, w3, w4], _ => exact ⟨w0, w1, w2, w3, w4, rfl⟩
  have hw := fun d (hd : d ∈ tables_1) => atoms_spec (ws := Jvm.Cond.code x code maxLocals ret :: tables_1) hat d (List.mem_cons_of_mem _ hd)
  obtain ⟨i0, ei0⟩ := is_v g3
  obtain rfl : w0 = (.int i0) := Option.some.inj ei0
  obtain ⟨i1, ei1⟩ := is_v g5
  obtain rfl : w1 = (.int i1) := Option.some.inj ei1
  obtain ⟨i2, ei2⟩ := is_v g7
  obtain rfl : w2 = (.int i2) := Option.some.inj ei2
  obtain ⟨i3, ei3⟩ := is_v g9
  obtain rfl : w3 = (.int i3) := Option.some.inj ei3
  obtain ⟨i4, ei4⟩ := is_v g10
  obtain rfl : w4 = (.int i4) := Option.some.inj ei4
  obtain ⟨n, o, h1, h2, h3, _, L, rfl, ⟨D', rfl, N, -⟩, hq⟩ := rm0 l s _ hw s.heap.size i0 i1 i2 i3 i4 tables_1 s.heap (Hp.nil s) p e ha hc hk s m _ below hf ((Spec.applies_iff_loose hf).mp happ).1 ⟨rfl, State.Warmed39.refl s, rfl⟩ trivial
  refine ⟨n, _, h1, h2, h3, hpost _ _ _ _ _ _ ⟨Cond.after_iff.mpr rfl, Cond.after_iff.mpr (eq_i res_at (Term.int_eval (1)) rfl), trivial⟩ ⟨hq.1, hq.2.1, (hq.2.2.sift fun y hy => Or.inr (N y hy)).mono (by decide) (by decide)⟩⟩
theorem main_1_1 : Claimed_1_1 := comes_1 fun _ _ _ _ _ _ h hF => ⟨h.1, hF⟩
theorem main_1_2 : Claimed_1_2 := comes_1 fun _ _ _ _ _ _ h hF => ⟨h.2.1, hF⟩
end Jvm.Pilot.@@N@@
namespace Jvm.Pilot.@@N@@
open Jvm Jvm.ClassFile Sem Op Lib Jvm.Free Jvm.Stand Jvm.Pilot.@@N@@.Jvm.D
/-! MADE BY PROGRAM (witnessworld.py) out of the Statement's table words and the real class files: 17 classes; the members and pool entries that the words name. The judged class is class 1, her method 3. -/
namespace start1
open Jvm.ClassFile
def u (s : String) : CpInfo := .utf8 (stringToUtf16 s)
/-- a pool by its gaps: so many unusable entries, then the entry; so many at the end -/
def gap : Nat → List CpInfo → List CpInfo
  | 0, r => r
  | n + 1, r => .unusable :: gap n r
def poolList (es : List (Nat × CpInfo)) (last : Nat) : List CpInfo := es.foldr (fun e r => gap e.1 (e.2 :: r)) (gap last [])
def pool (es : List (Nat × CpInfo)) (last : Nat) : Array CpInfo := ⟨poolList es last⟩
def fileOf (pool : Array CpInfo) (this : Nat) (attrs : Array Attribute := #[]) (ms : Array MethodInfo := #[]) (fl : Nat := 33) (sup : Nat := 0) (ifs : Array Nat := #[]) (fds : Array FieldInfo := #[]) : ClassFile where
  minorVersion := 0
  majorVersion := 65
  constantPool := pool
  accessFlags := fl
  thisClass := this
  superClass := sup
  interfaces := ifs
  fields := fds
  methods := ms
  attributes := attrs
def plain (name : String) (sup : Option ClassId) : Class where
  name := name
  kind := .ordinary
  loader := none
  accessFlags := 33
  super := sup
  interfaces := #[]
  cf := none
  fields := #[]
  methods := #[]
  instanceTypes := #[]
  staticTypes := #[]
  resolved := #[]
  callSites := []
  init := .initialized
  statics := none
  mirror := none

def pool0 : Array CpInfo := pool [(5, u "<init>"), (0, u "()V"), (1, .class_ 10), (1, u "java/lang/Object")] 113

def k0c0 : Code := { maxStack := 0, maxLocals := 1, code := object_method_1_code, exceptionTable := #[], attributes := #[] }
def k0m0 : Method := { name := "<init>", desc := "()V", sig := { parameters := [], returnType := none }, accessFlags := 1, code := some k0c0 }
/-- java/lang/Object -/
def k0 : Class := { plain "java/lang/Object" none with
  accessFlags := 33
  interfaces := #[]
  cf := some (fileOf pool0 8 #[] #[{ accessFlags := 1, nameIndex := 5, descriptorIndex := 6, attributes := #[] }] 33 0 #[] #[])
  fields := #[]
  methods := #[k0m0]
  instanceTypes := #[]
  staticTypes := #[]
  resolved := Array.replicate 124 none
  statics := none }

def pool1 : Array CpInfo := pool [(2, .class_ 4), (1, u "java/lang/Object"), (0, u "<init>"), (0, u "()V"), (0, .methodref 8 9), (0, .class_ 10), (0, .nameAndType 11 12), (0, u "com/example/arborplan/arborplan/tree/TreeIsEdgeOrderPinLaw"), (0, u "pick"), (0, u "(I)I"), (0, .class_ 14), (0, u "java/lang/String"), (0, .class_ 16), (0, u "com/example/arborplan/arborplan/tree/Tree"), (0, .methodref 15 18), (0, .nameAndType 5 19), (0, u "([Ljava/lang/String;[Ljava/lang/String;Ljava/util/Map;[I[D[I[D)V"), (0, .methodref 8 21), (0, .nameAndType 22 23), (0, u "in"), (0, u "(II)Z"), (0, .methodref 15 25), (0, .nameAndType 26 27), (0, u "isEdgeOrder"), (0, u "([I)Z"), (3, u "law"), (0, u "(IIIII)Z")] 6

def k1m0 : Method := { name := "<init>", desc := "()V", sig := { parameters := [], returnType := none }, accessFlags := 1, code := none }
def k1c1 : Code := { maxStack := 2, maxLocals := 1, code := method_2_code, exceptionTable := #[], attributes := #[] }
def k1m1 : Method := { name := "pick", desc := "(I)I", sig := { parameters := [.int], returnType := some .int }, accessFlags := 10, code := some k1c1 }
def k1c2 : Code := { maxStack := 2, maxLocals := 2, code := method_3_code, exceptionTable := #[], attributes := #[] }
def k1m2 : Method := { name := "in", desc := "(II)Z", sig := { parameters := [.int, .int], returnType := some .boolean }, accessFlags := 10, code := some k1c2 }
def k1c3 : Code := { maxStack := 9, maxLocals := 16, code := code, exceptionTable := #[], attributes := #[] }
def k1m3 : Method := { name := "law", desc := "(IIIII)Z", sig := { parameters := [.int, .int, .int, .int, .int], returnType := some .boolean }, accessFlags := 9, code := some k1c3 }
/-- com/example/arborplan/arborplan/tree/TreeIsEdgeOrderPinLaw -/
def k1 : Class := { plain "com/example/arborplan/arborplan/tree/TreeIsEdgeOrderPinLaw" (some 0) with
  accessFlags := 49
  interfaces := #[]
  cf := some (fileOf pool1 8 #[] #[{ accessFlags := 1, nameIndex := 5, descriptorIndex := 6, attributes := #[] }, { accessFlags := 10, nameIndex := 11, descriptorIndex := 12, attributes := #[] }, { accessFlags := 10, nameIndex := 22, descriptorIndex := 23, attributes := #[] }, { accessFlags := 9, nameIndex := 31, descriptorIndex := 32, attributes := #[] }] 49 2 #[] #[])
  fields := #[]
  methods := #[k1m0, k1m1, k1m2, k1m3]
  instanceTypes := #[]
  staticTypes := #[]
  resolved := Array.replicate 39 none
  statics := none }

def pool2 : Array CpInfo := pool [(1, .class_ 2), (0, u "java/io/Serializable"), (0, .class_ 4), (0, u "java/lang/Object")] 2

/-- java/io/Serializable -/
def k2 : Class := { plain "java/io/Serializable" (some 0) with
  accessFlags := 1537
  interfaces := #[]
  cf := some (fileOf pool2 1 #[] #[] 1537 3 #[] #[])
  fields := #[]
  methods := #[]
  instanceTypes := #[]
  staticTypes := #[]
  resolved := Array.replicate 7 none
  statics := none }

def pool3 : Array CpInfo := pool [(1, .class_ 2), (0, u "java/lang/Comparable"), (0, .class_ 4), (0, u "java/lang/Object")] 7

/-- java/lang/Comparable -/
def k3 : Class := { plain "java/lang/Comparable" (some 0) with
  accessFlags := 1537
  interfaces := #[]
  cf := some (fileOf pool3 1 #[] #[] 1537 3 #[] #[])
  fields := #[]
  methods := #[]
  instanceTypes := #[]
  staticTypes := #[]
  resolved := Array.replicate 12 none
  statics := none }

def pool4 : Array CpInfo := pool [(2, .class_ 4), (1, u "java/lang/CharSequence"), (42, .class_ 48), (0, u "java/lang/CharSequence$1CodePointIterator"), (10, .class_ 60), (0, u "java/lang/CharSequence$1CharIterator"), (5, .class_ 67), (0, u "java/lang/Object")] 63

/-- java/lang/CharSequence -/
def k4 : Class := { plain "java/lang/CharSequence" (some 0) with
  accessFlags := 1537
  interfaces := #[]
  cf := some (fileOf pool4 2 #[.nestMembers #[47, 59]] #[] 1537 66 #[] #[])
  fields := #[]
  methods := #[]
  instanceTypes := #[]
  staticTypes := #[]
  resolved := Array.replicate 131 none
  statics := none }

def pool5 : Array CpInfo := pool [(1, .class_ 2), (0, u "java/lang/constant/Constable"), (0, .class_ 4), (0, u "java/lang/Object")] 6

/-- java/lang/constant/Constable -/
def k5 : Class := { plain "java/lang/constant/Constable" (some 0) with
  accessFlags := 1537
  interfaces := #[]
  cf := some (fileOf pool5 1 #[] #[] 1537 3 #[] #[])
  fields := #[]
  methods := #[]
  instanceTypes := #[]
  staticTypes := #[]
  resolved := Array.replicate 11 none
  statics := none }

def pool6 : Array CpInfo := pool [(1, .class_ 2), (0, u "java/lang/constant/ConstantDesc"), (0, .class_ 4), (0, u "java/lang/Object")] 32

/-- java/lang/constant/ConstantDesc -/
def k6 : Class := { plain "java/lang/constant/ConstantDesc" (some 0) with
  accessFlags := 1537
  interfaces := #[]
  cf := some (fileOf pool6 1 #[] #[] 1537 3 #[] #[])
  fields := #[]
  methods := #[]
  instanceTypes := #[]
  staticTypes := #[]
  resolved := Array.replicate 37 none
  statics := none }

def pool7 : Array CpInfo := pool [(2, .class_ 4), (1, u "java/lang/Object"), (0, u "<init>"), (0, u "()V"), (3, .class_ 12), (1, u "java/lang/String"), (0, u "value"), (0, u "[B"), (2, u "coder"), (0, u "B"), (2, u "hash"), (0, u "I"), (2, u "hashIsZero"), (0, u "Z"), (13, u "COMPACT_STRINGS"), (534, .class_ 576), (0, u "java/lang/CharSequence"), (22, u "CASE_INSENSITIVE_ORDER"), (0, u "Ljava/util/Comparator;"), (500, u "serialPersistentFields"), (0, u "[Ljava/io/ObjectStreamField;"), (0, .class_ 1104), (0, u "java/lang/String$CaseInsensitiveComparator"), (1, .class_ 1107), (0, u "java/io/Serializable"), (0, .class_ 1109), (0, u "java/lang/Comparable"), (0, .class_ 1111), (0, u "java/lang/constant/Constable"), (0, .class_ 1113), (0, u "java/lang/constant/ConstantDesc"), (2, u "serialVersionUID"), (0, u "J"), (3, u "REPL"), (0, u "C"), (2, u "LATIN1"), (1, u "UTF16")] 323

def k7m0 : Method := { name := "<init>", desc := "()V", sig := { parameters := [], returnType := none }, accessFlags := 1, code := none }
/-- java/lang/String -/
def k7 : Class := { plain "java/lang/String" (some 0) with
  accessFlags := 49
  interfaces := #[2, 3, 4, 5, 6]
  cf := some (fileOf pool7 10 #[.nestMembers #[1103]] #[{ accessFlags := 1, nameIndex := 5, descriptorIndex := 6, attributes := #[] }] 49 2 #[1106, 1108, 575, 1110, 1112] #[{ accessFlags := 18, nameIndex := 13, descriptorIndex := 14, attributes := #[] }, { accessFlags := 18, nameIndex := 17, descriptorIndex := 18, attributes := #[] }, { accessFlags := 2, nameIndex := 21, descriptorIndex := 22, attributes := #[] }, { accessFlags := 2, nameIndex := 25, descriptorIndex := 26, attributes := #[] }, { accessFlags := 26, nameIndex := 1116, descriptorIndex := 1117, attributes := #[] }, { accessFlags := 24, nameIndex := 40, descriptorIndex := 26, attributes := #[] }, { accessFlags := 26, nameIndex := 1101, descriptorIndex := 1102, attributes := #[] }, { accessFlags := 26, nameIndex := 1121, descriptorIndex := 1122, attributes := #[] }, { accessFlags := 25, nameIndex := 599, descriptorIndex := 600, attributes := #[] }, { accessFlags := 24, nameIndex := 1125, descriptorIndex := 18, attributes := #[] }, { accessFlags := 24, nameIndex := 1127, descriptorIndex := 18, attributes := #[] }])
  fields := #[{ name := "value", type := (.array .byte), accessFlags := 18, slot := 0, constantValue := 0 }, { name := "coder", type := .byte, accessFlags := 18, slot := 1, constantValue := 0 }, { name := "hash", type := .int, accessFlags := 2, slot := 2, constantValue := 0 }, { name := "hashIsZero", type := .boolean, accessFlags := 2, slot := 3, constantValue := 0 }, { name := "serialVersionUID", type := .long, accessFlags := 26, slot := 0, constantValue := 0 }, { name := "COMPACT_STRINGS", type := .boolean, accessFlags := 24, slot := 1, constantValue := 0 }, { name := "serialPersistentFields", type := (.array (.object "java/io/ObjectStreamField")), accessFlags := 26, slot := 2, constantValue := 0 }, { name := "REPL", type := .char, accessFlags := 26, slot := 3, constantValue := 0 }, { name := "CASE_INSENSITIVE_ORDER", type := (.object "java/util/Comparator"), accessFlags := 25, slot := 4, constantValue := 0 }, { name := "LATIN1", type := .byte, accessFlags := 24, slot := 5, constantValue := 0 }, { name := "UTF16", type := .byte, accessFlags := 24, slot := 6, constantValue := 0 }]
  methods := #[k7m0]
  instanceTypes := #[(.array .byte), .byte, .int, .boolean]
  staticTypes := #[.long, .boolean, (.array (.object "java/io/ObjectStreamField")), .char, (.object "java/util/Comparator"), .byte, .byte]
  resolved := Array.replicate 1451 none
  statics := none }

def pool8 : Array CpInfo := pool [(1, .methodref 2 3), (0, .class_ 4), (0, .nameAndType 5 6), (0, u "java/lang/Object"), (0, u "<init>"), (0, u "()V"), (0, .fieldref 8 9), (0, .class_ 10), (0, .nameAndType 11 12), (0, u "com/example/arborplan/arborplan/tree/Tree"), (0, u "vertexNames"), (0, u "[Ljava/lang/String;"), (0, .fieldref 8 14), (0, .nameAndType 15 12), (0, u "edgeNames"), (0, .fieldref 8 17), (0, .nameAndType 18 19), (0, u "edgeIndex"), (0, u "Ljava/util/Map;"), (0, .fieldref 8 21), (0, .nameAndType 22 23), (0, u "edgeEnds"), (0, u "[I"), (0, .fieldref 8 25), (0, .nameAndType 26 27), (0, u "lengths"), (0, u "[D"), (0, .fieldref 8 29), (0, .nameAndType 30 23), (0, u "pairEnds"), (0, .fieldref 8 32), (0, .nameAndType 33 27), (0, u "weights"), (18, u "([Ljava/lang/String;[Ljava/lang/String;Ljava/util/Map;[I[D[I[D)V"), (9, u "isEdgeOrder"), (0, u "([I)Z")] 15

def k8c0 : Code := { maxStack := 2, maxLocals := 8, code := prog_42_method_1_code, exceptionTable := #[], attributes := #[] }
def k8m0 : Method := { name := "<init>", desc := "([Ljava/lang/String;[Ljava/lang/String;Ljava/util/Map;[I[D[I[D)V", sig := { parameters := [(.array (.object "java/lang/String")), (.array (.object "java/lang/String")), (.object "java/util/Map"), (.array .int), (.array .double), (.array .int), (.array .double)], returnType := none }, accessFlags := 0, code := some k8c0 }
def k8c1 : Code := { maxStack := 3, maxLocals := 7, code := prog_42_method_7_code, exceptionTable := #[], attributes := #[] }
def k8m1 : Method := { name := "isEdgeOrder", desc := "([I)Z", sig := { parameters := [(.array .int)], returnType := some .boolean }, accessFlags := 1, code := some k8c1 }
/-- com/example/arborplan/arborplan/tree/Tree -/
def k8 : Class := { plain "com/example/arborplan/arborplan/tree/Tree" (some 0) with
  accessFlags := 49
  interfaces := #[]
  cf := some (fileOf pool8 8 #[] #[{ accessFlags := 0, nameIndex := 5, descriptorIndex := 52, attributes := #[] }, { accessFlags := 1, nameIndex := 62, descriptorIndex := 63, attributes := #[] }] 49 2 #[] #[{ accessFlags := 18, nameIndex := 11, descriptorIndex := 12, attributes := #[] }, { accessFlags := 18, nameIndex := 15, descriptorIndex := 12, attributes := #[] }, { accessFlags := 18, nameIndex := 18, descriptorIndex := 19, attributes := #[] }, { accessFlags := 18, nameIndex := 22, descriptorIndex := 23, attributes := #[] }, { accessFlags := 18, nameIndex := 26, descriptorIndex := 27, attributes := #[] }, { accessFlags := 18, nameIndex := 30, descriptorIndex := 23, attributes := #[] }, { accessFlags := 18, nameIndex := 33, descriptorIndex := 27, attributes := #[] }])
  fields := #[{ name := "vertexNames", type := (.array (.object "java/lang/String")), accessFlags := 18, slot := 0, constantValue := 0 }, { name := "edgeNames", type := (.array (.object "java/lang/String")), accessFlags := 18, slot := 1, constantValue := 0 }, { name := "edgeIndex", type := (.object "java/util/Map"), accessFlags := 18, slot := 2, constantValue := 0 }, { name := "edgeEnds", type := (.array .int), accessFlags := 18, slot := 3, constantValue := 0 }, { name := "lengths", type := (.array .double), accessFlags := 18, slot := 4, constantValue := 0 }, { name := "pairEnds", type := (.array .int), accessFlags := 18, slot := 5, constantValue := 0 }, { name := "weights", type := (.array .double), accessFlags := 18, slot := 6, constantValue := 0 }]
  methods := #[k8m0, k8m1]
  instanceTypes := #[(.array (.object "java/lang/String")), (.array (.object "java/lang/String")), (.object "java/util/Map"), (.array .int), (.array .double), (.array .int), (.array .double)]
  staticTypes := #[]
  resolved := Array.replicate 79 none
  statics := none }

def pool9 : Array CpInfo := pool [(1, u "java/lang/Cloneable"), (0, .class_ 1), (0, u "java/lang/Object"), (0, .class_ 3)] 3

/-- java/lang/Cloneable -/
def k9 : Class := { plain "java/lang/Cloneable" (some 0) with
  accessFlags := 1537
  interfaces := #[]
  cf := some (fileOf pool9 2 #[] #[] 1537 4 #[] #[])
  fields := #[]
  methods := #[]
  instanceTypes := #[]
  staticTypes := #[]
  resolved := Array.replicate 8 none
  statics := none }

/-- the primitive boolean -/
def k10 : Class := { plain "boolean" none with kind := .primitive 'Z', accessFlags := 0x411 }
/-- [Z -/
def k11 : Class := { plain "[Z" (some 0) with kind := .array 10 .boolean, interfaces := #[9, 2], accessFlags := 1041 }

/-- the primitive byte -/
def k12 : Class := { plain "byte" none with kind := .primitive 'B', accessFlags := 0x411 }
/-- [B -/
def k13 : Class := { plain "[B" (some 0) with kind := .array 12 .byte, interfaces := #[9, 2], accessFlags := 1041 }

/-- the primitive int -/
def k14 : Class := { plain "int" none with kind := .primitive 'I', accessFlags := 0x411 }
/-- [I -/
def k15 : Class := { plain "[I" (some 0) with kind := .array 14 .int, interfaces := #[9, 2], accessFlags := 1041 }

/-- [Ljava/lang/String; -/
def k16 : Class := { plain "[Ljava/lang/String;" (some 0) with kind := .array 7 (.object "java/lang/String"), interfaces := #[9, 2], accessFlags := 1041 }

/-- the primitive double -/
def k17 : Class := { plain "double" none with kind := .primitive 'D', accessFlags := 0x411 }
/-- [D -/
def k18 : Class := { plain "[D" (some 0) with kind := .array 17 .double, interfaces := #[9, 2], accessFlags := 1041 }

def heap : Heap := #[]
def classes : Array Class := #[k0, k1, k2, k3, k4, k5, k6, k7, k8, k9, k10, k11, k12, k13, k14, k15, k16, k17, k18]
def interned : List (Array UInt16 × Addr) := []
def slotsUsed : Nat := 0
def theMethod : MethodId := ⟨1, 3⟩
def args0 : Array Value := #[.int 1, .int 2, .int 3, .int 4, .int 5]
def aboutOver (below : List Frame) : State where
  vm := { classes := classes, interned := interned.toArray }
  heap := heap
  slotsUsed := slotsUsed
  threads := #[{ frames := .invoking theMethod args0 :: below }]
def below0 : List Frame := [.native { method := ⟨0, 0⟩, args := #[] }]
def about1 : State := aboutOver below0
def p0 : Program := .bare "" "" ""
def e0 : Env := launch0.env 0 0 0
theorem w_frames : about1.frames = Frame.invoking theMethod args0 :: below0 := rfl
set_option maxRecDepth 65536 in
theorem w_args : argsFit about1.vm theMethod args0 = true := by decide +kernel
set_option maxRecDepth 65536 in
theorem w_heap : heapFits about1 = true := by decide +kernel
set_option maxRecDepth 65536 in
theorem w_runnable : about1.curStatus? = some .runnable := by decide +kernel
set_option maxRecDepth 65536 in
theorem w_alone : about1.alone = true := by decide +kernel
set_option maxRecDepth 65536 in
theorem w_named : about1.methodNamed? x = some theMethod := by decide +kernel
set_option maxRecDepth 65536 in
theorem w_hears : about1.hears theMethod below0 = true := by decide +kernel
set_option maxRecDepth 65536 in
theorem w_ripe : about1.ripe theMethod args0 below0 = true := by decide +kernel
theorem w_running : about1.status = .running := rfl
set_option maxRecDepth 65536 in
theorem w_room : about1.hasRoom e0.platform room_1 = true :=
  launch0.hasRoom_least _ room_1 (by decide +kernel) (by decide +kernel) (by decide +kernel) (by decide +kernel) (by decide +kernel) (by decide +kernel)
theorem allAtoms_all (ts : List Jvm.Cond) (a : Array Jvm.Value) (st : Jvm.State) : (allAtoms ts).before a st = ts.all (fun c => c.before a st) := by
  induction ts with
  | nil => rfl
  | cons c t ih =>
    show (Jvm.Cond.and c (allAtoms t)).before a st = _
    rw [Jvm.Cond.before_and, ih, List.all_cons]
def words1 : List Jvm.Cond := Jvm.Cond.code x code maxLocals ret :: tables_1
/-- a 'code' word, met by the world's own term for the bytes: nothing is compared byte by byte -/
theorem code_word {y : MethodName} {bytes : ByteArray} {mx : Nat} {rt : Option FieldType} {a : Array Value} {s : State} {m : MethodId} {meth : Method} {c : Code} (h1 : s.methodNamed? y = some m) (h2 : s.vm.method? m = some meth) (h3 : meth.code = some c) (h4 : c.code = bytes)
    (h5 : (c.maxLocals == mx && c.exceptionTable.isEmpty && decide (c.maxStack ≤ mostOperands) && decide (meth.sig.returnType = rt) && !meth.locks && decide (parseMethodDescriptor y.desc = some meth.sig)) = true) : (Jvm.Cond.code y bytes mx rt).before a s = true := by
  simp only [Bool.and_eq_true, beq_iff_eq, Bool.not_eq_true', decide_eq_true_eq] at h5
  obtain ⟨⟨⟨⟨⟨g1, g2⟩, g3⟩, g4⟩, g5⟩, g6⟩ := h5
  simp [Cond.before, Cond.holds, Cond.value, h1, h2, h3, h4, g1, g2, g3, g4, g5, g6]
def isCode : Jvm.Cond → Bool
  | .code _ _ _ _ => true
  | _ => false
theorem all_split {L : List Jvm.Cond} {P : Jvm.Cond → Bool} (h1 : L.all (fun c => isCode c || P c) = true) (h2 : ∀ c ∈ L.filter isCode, P c = true) : L.all P = true := by
  refine List.all_eq_true.mpr fun c hc => ?_
  have h := List.all_eq_true.mp h1 c hc
  rcases Bool.eq_false_or_eq_true (isCode c) with hi | hi
  · exact h2 c (List.mem_filter.mpr ⟨hc, hi⟩)
  · simpa [hi] using h
set_option maxRecDepth 65536 in
theorem w_c0 : (Jvm.Cond.code x code maxLocals ret).before args0 about1 = true := code_word (m := ⟨1, 3⟩) (meth := k1m3) (c := k1c3) (by decide +kernel) rfl rfl rfl (by decide +kernel)
set_option maxRecDepth 65536 in
theorem w_c1 : (Jvm.Cond.code ({ cls := "com/example/arborplan/arborplan/tree/TreeIsEdgeOrderPinLaw", name := "pick", desc := "(I)I" } : Jvm.MethodName) method_2_code (1 : Nat) (Option.some Jvm.ClassFile.FieldType.int)).before args0 about1 = true := code_word (m := ⟨1, 1⟩) (meth := k1m1) (c := k1c1) (by decide +kernel) rfl rfl rfl (by decide +kernel)
set_option maxRecDepth 65536 in
theorem w_c2 : (Jvm.Cond.code ({ cls := "com/example/arborplan/arborplan/tree/Tree", name := "<init>", desc := "([Ljava/lang/String;[Ljava/lang/String;Ljava/util/Map;[I[D[I[D)V" } : Jvm.MethodName) prog_42_method_1_code (8 : Nat) (Option.none : Option Jvm.ClassFile.FieldType)).before args0 about1 = true := code_word (m := ⟨8, 0⟩) (meth := k8m0) (c := k8c0) (by decide +kernel) rfl rfl rfl (by decide +kernel)
set_option maxRecDepth 65536 in
theorem w_c3 : (Jvm.Cond.code ({ cls := "java/lang/Object", name := "<init>", desc := "()V" } : Jvm.MethodName) object_method_1_code (1 : Nat) (Option.none : Option Jvm.ClassFile.FieldType)).before args0 about1 = true := code_word (m := ⟨0, 0⟩) (meth := k0m0) (c := k0c0) (by decide +kernel) rfl rfl rfl (by decide +kernel)
set_option maxRecDepth 65536 in
theorem w_c4 : (Jvm.Cond.code ({ cls := "com/example/arborplan/arborplan/tree/Tree", name := "isEdgeOrder", desc := "([I)Z" } : Jvm.MethodName) prog_42_method_7_code (7 : Nat) (Option.some Jvm.ClassFile.FieldType.boolean)).before args0 about1 = true := code_word (m := ⟨8, 1⟩) (meth := k8m1) (c := k8c1) (by decide +kernel) rfl rfl rfl (by decide +kernel)
set_option maxRecDepth 65536 in
theorem w_c5 : (Jvm.Cond.code ({ cls := "com/example/arborplan/arborplan/tree/TreeIsEdgeOrderPinLaw", name := "in", desc := "(II)Z" } : Jvm.MethodName) method_3_code (2 : Nat) (Option.some Jvm.ClassFile.FieldType.boolean)).before args0 about1 = true := code_word (m := ⟨1, 2⟩) (meth := k1m2) (c := k1c2) (by decide +kernel) rfl rfl rfl (by decide +kernel)
def codes1 : List Jvm.Cond := [Jvm.Cond.code x code maxLocals ret, Jvm.Cond.code ({ cls := "com/example/arborplan/arborplan/tree/TreeIsEdgeOrderPinLaw", name := "pick", desc := "(I)I" } : Jvm.MethodName) method_2_code (1 : Nat) (Option.some Jvm.ClassFile.FieldType.int), Jvm.Cond.code ({ cls := "com/example/arborplan/arborplan/tree/Tree", name := "<init>", desc := "([Ljava/lang/String;[Ljava/lang/String;Ljava/util/Map;[I[D[I[D)V" } : Jvm.MethodName) prog_42_method_1_code (8 : Nat) (Option.none : Option Jvm.ClassFile.FieldType), Jvm.Cond.code ({ cls := "java/lang/Object", name := "<init>", desc := "()V" } : Jvm.MethodName) object_method_1_code (1 : Nat) (Option.none : Option Jvm.ClassFile.FieldType), Jvm.Cond.code ({ cls := "com/example/arborplan/arborplan/tree/Tree", name := "isEdgeOrder", desc := "([I)Z" } : Jvm.MethodName) prog_42_method_7_code (7 : Nat) (Option.some Jvm.ClassFile.FieldType.boolean), Jvm.Cond.code ({ cls := "com/example/arborplan/arborplan/tree/TreeIsEdgeOrderPinLaw", name := "in", desc := "(II)Z" } : Jvm.MethodName) method_3_code (2 : Nat) (Option.some Jvm.ClassFile.FieldType.boolean)]
set_option maxRecDepth 65536 in
theorem codes_eq : words1.filter isCode = codes1 := rfl
theorem w_codes : ∀ c ∈ words1.filter isCode, c.before args0 about1 = true := by
  rw [codes_eq]
  intro c hc
  simp only [codes1, List.mem_cons, List.not_mem_nil, or_false] at hc
  rcases hc with rfl | rfl | rfl | rfl | rfl | rfl
  · exact w_c0
  · exact w_c1
  · exact w_c2
  · exact w_c3
  · exact w_c4
  · exact w_c5
set_option maxRecDepth 65536 in
theorem w_t1 : (words1.take 24).all (fun c => isCode c || c.before args0 about1) = true := by decide +kernel
set_option maxRecDepth 65536 in
theorem w_t2 : (words1.drop 24).all (fun c => isCode c || c.before args0 about1) = true := by decide +kernel
theorem w_tables : (allAtoms (Jvm.Cond.code x code maxLocals ret :: tables_1)).before args0 about1 = true := by
  rw [allAtoms_all]
  show words1.all (fun c => c.before args0 about1) = true
  refine all_split ?_ w_codes
  rw [← List.take_append_drop 24 words1, List.all_append, w_t1, w_t2]
  rfl
set_option maxRecDepth 65536 in
theorem w_case : (Jvm.Cond.and given_1 narrow_1).before args0 about1 = true := by decide +kernel
theorem w_applies : (headSpec (Jvm.Cond.code x code maxLocals ret :: tables_1) room_1).applies x e0.platform about1 = true :=
  (Spec.applies_iff w_frames).mpr ⟨w_running, w_runnable, w_alone, w_named, w_hears, w_ripe, w_room, w_tables⟩
theorem atStart : AtStart classFile x code maxLocals ret World_1 tables_1 room_1 Calls_1 rest_1 Pre_1 launch0 p0 e0 about1 theMethod args0 below0 :=
  ⟨lists_1, trivial, launch0.admits_env _ _ _, launch0.least_env, fairChoices_fair.cas, fairChoices_fair.clock, w_frames, w_args, w_heap, w_applies, trivial, trivial, w_case⟩
end start1
theorem witness_1 : WitnessClaimed_1 := ⟨start1.p0, start1.e0, start1.about1, start1.theMethod, start1.args0, start1.below0, start1.atStart⟩
end Jvm.Pilot.@@N@@
