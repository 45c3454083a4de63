import JvmDerived
import JvmDerived.Pilot.@@N@@Statement
import JvmDerived.Pilot.@@N@@Code
set_option linter.unusedVariables false
set_option linter.unusedSimpArgs false
@@BLOCK:NumsL.lean.txt@@
namespace Jvm.Pilot.@@N@@
open Jvm Jvm.ClassFile Sem Op Lib Jvm.Free Jvm.Stand Jvm.LawKit Jvm.RoadKit Bundle Jvm.Pilot.@@N@@.Jvm.D
/-! ## A. The run goes on: a walk in steps, its end left open -/
section Base
variable {p : Program} {l : Launch} {e : Env} {R : Room} {s : State} {m : MethodId} {args : Array Value} {below : List Frame} {meth : Method} {c : Code} {T T' : State} {locs : List Loc} {cells slots : Nat} {Z : State} {a0 : Array Value} {F : State → Prop} {g g' : JFrame} {n0 : Nat} {h h' : Heap} {a b : Addr} {C n d : String} {v w : Value} {sl : Nat}
/-- the run from T with the frame g on top comes to a state of which F holds -/
def Rn (p : Program) (e : Env) (below : List Frame) (F : State → Prop) (T : State) (g : JFrame) : Prop := ∃ U, Steps p.tables e below (T.setTop g) U ∧ F U
theorem Rn.go (st : ∀ t, Steps p.tables e below (T'.setTop g') t → Steps p.tables e below (T.setTop g) t) (k : Rn p e below F T' g') : Rn p e below F T g := by
  obtain ⟨U, h1, h2⟩ := k; exact ⟨U, st _ h1, h2⟩
theorem Rn.to (st : Steps p.tables e below (T.setTop g) (T'.setTop g')) (k : Rn p e below F T' g') : Rn p e below F T g := by
  obtain ⟨U, h1, h2⟩ := k; exact ⟨U, st.trans h1, h2⟩
theorem own_lcW (x y : Int64) : lcmpW x y = if x > y then 1 else if x = y then 0 else -1 := rfl
theorem own_nat (x : Int32) : x.toNatClampNeg = x.toInt.toNat := rfl
theorem own_remI {x y : Int32} {k : Int} (hy : y.toInt = k) (hx : 0 ≤ x.toInt) : (x % y).toInt = x.toInt % k := by rw [Jvm.Kit.i32_rem_nonneg hx, hy]
theorem own_irem {g : JFrame} {target : State} (h : At T m c below) (hx : p.tables.exec = Jvm.exec) (hg : g.method = m) {x y : Int32} {rest : List Value} (hd : decode c.code g.pc = .ok (.irem, 1)) (hs : g.stack = .int y :: .int x :: rest) (hy : y ≠ 0)
    (hr : Steps p.tables e below (T.setTop { g with pc := g.pc + 1, stack := .int (x % y) :: rest }) target) : Steps p.tables e below (T.setTop g) target := by
  have q : x - x / y * y = x % y := irem_eq_mod x y
  exact XS.irem h hx hg hd hs hy (by rw [q]; exact hr)
/-! ## B. What the heap holds: a list of the objects and arrays that the law has made -/
abbrev Itm : Type := (String × List (String × String × Value)) ⊕ (FieldType × Int32 × List Value)
abbrev ob (a : Addr) (C : String) (fs : List (String × String × Value)) : Addr × Itm := (a, .inl (C, fs))
abbrev ar (a : Addr) (ty : FieldType) (n : Int32) (vs : List Value) : Addr × Itm := (a, .inr (ty, n, vs))
abbrev ari (a : Addr) (ty : FieldType) (n : Int32) (xs : List Int32) : Addr × Itm := ar a ty n (xs.map Value.int)
abbrev arj (a : Addr) (n : Int32) (xs : List Int64) : Addr × Itm := ar a .long n (xs.map Value.long)
def Obj (Z : State) (h : Heap) (a : Addr) (C : String) (fs : List (String × String × Value)) : Prop := Exa Z h a C ∧ (∀ f ∈ fs, Fld Z h a C f.1 f.2.1 f.2.2) ∧ (fs.map fun f => Jvm.RoadKit.slotOf Z C f.1 f.2.1).Nodup
def Ary (Z : State) (h : Heap) (a : Addr) (ty : FieldType) (n : Int32) (vs : List Value) : Prop := (∃ k, Arv Z h a k ty n vs (defaultValue ty) ∧ ∀ C, ty = .object C → Ovr Z k C) ∧ vs.length = n.toNatClampNeg
def itm (Z : State) (h : Heap) (x : Addr × Itm) : Prop := match x.2 with
  | .inl o => Obj Z h x.1 o.1 o.2
  | .inr o => Ary Z h x.1 o.1 o.2.1 o.2.2
/-- made by the law, or an array of no places (which nobody can write) -/
def Frs (n0 : Nat) (x : Addr × Itm) : Prop := n0 ≤ x.1 ∨ ∃ ty n, x.2 = .inr (ty, n, [])
def Hp (Z : State) (n0 : Nat) (h : Heap) (D : List (Addr × Itm)) : Prop := Old Z n0 h ∧ (∀ x ∈ D, Frs n0 x ∧ itm Z h x) ∧ (D.map (·.1)).Nodup
variable {fs : List (String × String × Value)} {vs : List Value} {ty : FieldType} {z : Int32} {x : Addr × Itm} {D : List (Addr × Itm)} {I J : Itm} {i j : Nat}
theorem map_same {α β : Type} (f : α → β) (L : List α) (i : Nat) (x y : α) (h : L[i]? = some x) (q : f y = f x) : (L.set i y).map f = L.map f := by
  apply List.ext_getElem?
  intro k
  rw [List.getElem?_map, List.getElem?_map, List.getElem?_set]
  by_cases e : i = k
  · subst e
    rw [if_pos rfl, if_pos (List.getElem?_eq_some_iff.mp h).1, h]; simp [q]
  · rw [if_neg e]
theorem Obj.lt (O : Obj Z h a C fs) : a < h.size := O.1.lt
theorem Ary.lt (O : Ary Z h a ty z vs) : a < h.size := by obtain ⟨⟨k, V, -⟩, -⟩ := O; exact V.lt
theorem itm.lt (O : itm Z h x) : x.1 < h.size := by
  obtain ⟨a, I⟩ := x
  cases I with
  | inl o => exact Obj.lt (show Obj Z h a o.1 o.2 from O)
  | inr o => exact Ary.lt (show Ary Z h a o.1 o.2.1 o.2.2 from O)
theorem itm.ext (E : Ext h h') (O : itm Z h x) : itm Z h' x := by
  obtain ⟨a, I⟩ := x
  cases I with
  | inl o =>
    have O' : Obj Z h a o.1 o.2 := O
    exact (show Obj Z h' a o.1 o.2 from ⟨O'.1.ext E, fun f hf => (O'.2.1 f hf).ext E, O'.2.2⟩)
  | inr o =>
    have O' : Ary Z h a o.1 o.2.1 o.2.2 := O
    obtain ⟨⟨k, V, u⟩, q⟩ := O'
    exact (show Ary Z h' a o.1 o.2.1 o.2.2 from ⟨⟨k, V.ext E, u⟩, q⟩)
theorem itm.other (W : Wr h h' b sl v) (q : x.1 ≠ b) (O : itm Z h x) : itm Z h' x := by
  obtain ⟨a, I⟩ := x
  cases I with
  | inl o =>
    have O' : Obj Z h a o.1 o.2 := O
    exact (show Obj Z h' a o.1 o.2 from ⟨O'.1.wr W, fun f hf => (O'.2.1 f hf).other W (Or.inl q), O'.2.2⟩)
  | inr o =>
    have O' : Ary Z h a o.1 o.2.1 o.2.2 := O
    obtain ⟨⟨k, V, u⟩, r⟩ := O'
    exact (show Ary Z h' a o.1 o.2.1 o.2.2 from ⟨⟨k, V.other W q, u⟩, r⟩)
theorem Obj.put (hj : fs[j]? = some (n, d, w)) (W : Wr h h' a (Jvm.RoadKit.slotOf Z C n d) v) (O : Obj Z h a C fs) : Obj Z h' a C (fs.set j (n, d, v)) := by
  have hjl : j < fs.length := (List.getElem?_eq_some_iff.mp hj).1
  refine ⟨O.1.wr W, fun f hf => ?_, ?_⟩
  · obtain ⟨i, hi⟩ := List.mem_iff_getElem?.mp hf
    by_cases e : j = i
    · subst e
      rw [List.getElem?_set_self hjl] at hi
      cases hi
      exact (O.2.1 _ (List.mem_of_getElem? hj)).same W
    · rw [List.getElem?_set_ne e] at hi
      refine (O.2.1 f (List.mem_of_getElem? hi)).other W (Or.inr fun q => e ?_)
      have hil : i < fs.length := (List.getElem?_eq_some_iff.mp hi).1
      refine ((List.getElem?_inj (i := i) (j := j) (by simpa using hil) O.2.2).mp ?_).symm
      rw [List.getElem?_map, List.getElem?_map, hi, hj]
      simp [q]
  · rw [map_same _ fs j (n, d, w) (n, d, v) hj rfl]; exact O.2.2
theorem Ary.put {k : Int32} (hk : ¬ k < 0) (hl : k.toNatClampNeg < vs.length) (hv : fits ty v = true) (W : Wr h h' a k.toNatClampNeg v) (O : Ary Z h a ty z vs) : Ary Z h' a ty z (vs.set k.toNatClampNeg v) := by
  obtain ⟨⟨kc, ⟨cl, A, q1, S, q3, H, G⟩, u⟩, q⟩ := O
  exact ⟨⟨kc, Arv.set A q1 S q3 H G hv W _ rfl hl, u⟩, by rw [List.length_set]; exact q⟩
theorem Frs.obj (q : Frs n0 (ob a C fs)) : n0 ≤ a := q.elim id fun ⟨_, _, r⟩ => by cases r
theorem Frs.arr {k : Nat} (q : Frs n0 (ar a ty z vs)) (hl : k < vs.length) : n0 ≤ a := q.elim id fun ⟨_, _, r⟩ => by cases r; cases hl
theorem Hp.get (H : Hp Z n0 h D) (hi : D[i]? = some x) : Frs n0 x ∧ itm Z h x := H.2.1 _ (List.mem_of_getElem? hi)
theorem Hp.obj (H : Hp Z n0 h D) (hi : D[i]? = some (ob a C fs)) : Obj Z h a C fs := (H.get hi).2
theorem Hp.ary (H : Hp Z n0 h D) (hi : D[i]? = some (ar a ty z vs)) : Ary Z h a ty z vs := (H.get hi).2
theorem Hp.fld (H : Hp Z n0 h D) (hi : D[i]? = some (ob a C fs)) (hj : fs[j]? = some (n, d, v)) : Fld Z h a C n d v := (H.obj hi).2.1 _ (List.mem_of_getElem? hj)
theorem Hp.exa (H : Hp Z n0 h D) (hi : D[i]? = some (ob a C fs)) : Exa Z h a C := (H.obj hi).1
theorem Hp.upd (H : Hp Z n0 h D) (hi : D[i]? = some (a, I)) (hfr : n0 ≤ a) (W : Wr h h' a sl v) (q : itm Z h (a, I) → itm Z h' (a, J)) : Hp Z n0 h' (D.set i (a, J)) := by
  have hil : i < D.length := (List.getElem?_eq_some_iff.mp hi).1
  refine ⟨H.1.wr W hfr, fun x hx => ?_, ?_⟩
  · obtain ⟨k, hk⟩ := List.mem_iff_getElem?.mp hx
    by_cases e : i = k
    · subst e
      rw [List.getElem?_set_self hil] at hk
      cases hk
      exact ⟨Or.inl hfr, q (H.get hi).2⟩
    · rw [List.getElem?_set_ne e] at hk
      refine ⟨(H.get hk).1, (H.get hk).2.other W fun r => e ?_⟩
      refine (List.getElem?_inj (i := i) (j := k) (by simpa using hil) H.2.2).mp ?_
      rw [List.getElem?_map, List.getElem?_map, hi, hk]
      simp [r]
  · rw [map_same _ D i (a, I) (a, J) hi rfl]; exact H.2.2
theorem Hp.new (H : Hp Z n0 h D) (E : Ext h h') (q : itm Z h' (h.size, I)) : Hp Z n0 h' (D ++ [(h.size, I)]) := by
  have hsz : n0 ≤ h.size := by rw [← H.1.1]; exact H.1.2.1
  refine ⟨H.1.ext E, fun x hx => ?_, ?_⟩
  · rcases List.mem_append.mp hx with r | r
    · exact ⟨(H.2.1 x r).1, (H.2.1 x r).2.ext E⟩
    · cases List.mem_singleton.mp r; exact ⟨Or.inl hsz, q⟩
  · rw [List.map_append, List.nodup_append]
    refine ⟨H.2.2, by simp, fun y hy z hz => ?_⟩
    obtain ⟨x, hx, rfl⟩ := List.mem_map.mp hy
    have : z = h.size := by simpa using hz
    rw [this]
    exact Nat.ne_of_lt (H.2.1 x hx).2.lt
theorem Hp.nil (Z : State) : Hp Z Z.heap.size Z.heap [] := ⟨Old.start Z, (fun _ q => by cases q), List.nodup_nil⟩
theorem Hp.ext (H : Hp Z n0 h D) (E : Ext h h') : Hp Z n0 h' D := ⟨H.1.ext E, fun x hx => ⟨(H.2.1 x hx).1, (H.2.1 x hx).2.ext E⟩, H.2.2⟩
/-- a walk stands at T, has made so many cells and slots, has written nothing old, and its heap holds D -/
def On (p : Program) (l : Launch) (e : Env) (R : Room) (s : State) (m : MethodId) (args : Array Value) (below : List Frame) (meth : Method) (c : Code) (Z : State) (n0 : Nat) (T : State) (cells slots : Nat) (D : List (Addr × Itm)) : Prop := ∃ locs, Stand p l e R s m args below meth c T locs cells slots ∧ Fr n0 locs ∧ Hp Z n0 T.heap D
theorem On.here (Y : On p l e R s m args below meth c Z n0 T cells slots D) : At T m c below := by obtain ⟨_, X, -⟩ := Y; exact X.here
/-- what is known of the heap may be forgotten -/
theorem On.weak {D D' : List (Addr × Itm)} (Y : On p l e R s m args below meth c Z n0 T cells slots D) (q : D'.Sublist D) : On p l e R s m args below meth c Z n0 T cells slots D' := by
  obtain ⟨locs, X, N, H⟩ := Y
  exact ⟨locs, X, N, H.1, fun x hx => H.2.1 x (q.subset hx), H.2.2.sublist (q.map _)⟩
/-! ## C. One law a step -/
theorem On.getf (Y : On p l e R s m args below meth c Z n0 T cells slots D) (hx : p.tables.exec = Jvm.exec) (hZ : Z.Warmed39 s.vm) {own : String} {index : Nat} (hown : s.vm.findClass own = some m.cls) (w : (Cond.fieldLink own index C n d).before a0 Z = true) (hi : D[i]? = some (ob a C fs)) (hj : fs[j]? = some (n, d, v))
    {g : JFrame} (hg : g.method = m) {rest : List Value} (hs : g.stack = .ref a :: rest) (hd : decode c.code g.pc = .ok (.getfield index, 3)) (k : ∀ T', On p l e R s m args below meth c Z n0 T' cells slots D → Rn p e below F T' { g with pc := g.pc + 3, stack := v :: rest }) : Rn p e below F T g := by
  obtain ⟨locs, X, N, H⟩ := Y
  obtain ⟨T', X', e', st⟩ := getF X hx hZ hown (host := "") (Or.inl w) Via.refl rfl (H.fld hi hj) hg hs hd
  exact Rn.go st (k T' ⟨locs, X', N, by rw [e']; exact H⟩)
theorem On.putf (Y : On p l e R s m args below meth c Z n0 T cells slots D) (hx : p.tables.exec = Jvm.exec) (hZ : Z.Warmed39 s.vm) {own : String} {index kk : Nat} (hown : s.vm.findClass own = some m.cls) (wl : (Cond.fieldLink own index C n d).before a0 Z = true) (hi : D[i]? = some (ob a C fs)) (hj : fs[j]? = some (n, d, w))
    (L : (Cond.lays C C n d).before a0 Z = true ∨ ((Cond.laysFinal C C n d).before a0 Z = true ∧ own = C ∧ meth.name = "<init>")) (wi : (Cond.instantiable C kk).before a0 Z = true) (hty : parseFieldDescriptor d = some ty) {v v' : Value} (hn : narrow ty v = v') (hf : fits ty v' = true)
    {g : JFrame} (hg : g.method = m) {rest : List Value} (hs : g.stack = v :: .ref a :: rest) (hd : decode c.code g.pc = .ok (.putfield index, 3)) (k : ∀ T', On p l e R s m args below meth c Z n0 T' cells slots (D.set i (ob a C (fs.set j (n, d, v')))) → Rn p e below F T' { g with pc := g.pc + 3, stack := rest }) : Rn p e below F T g := by
  obtain ⟨locs, X, N, H⟩ := Y
  obtain ⟨T', h', X', e', W, st⟩ := putFN X hx hZ hown wl Via.refl rfl (H.fld hi hj) (H.exa hi) L wi hty hn hf hg hs hd
  have hfr := (H.get hi).1.obj
  refine Rn.go st (k T' ⟨_, X', Fr.snoc X' N hfr, ?_⟩)
  rw [e']
  exact H.upd hi hfr W fun O => Obj.put hj W O
theorem On.newo (Y : On p l e R s m args below meth c Z n0 T cells slots D) (hx : p.tables.exec = Jvm.exec) (hZ : Z.Warmed39 s.vm) {own : String} {index k : Nat} (hown : s.vm.findClass own = some m.cls) (w : (Cond.classLink own index C).before a0 Z = true) (wi : (Cond.instantiable C k).before a0 Z = true) (wz : (Cond.initialized C).before a0 Z = true)
    (fs : List (String × String × Value)) (hl : ∀ f ∈ fs, Laid Z a0 C C f.1 f.2.1 ∧ ∃ ty, parseFieldDescriptor f.2.1 = some ty ∧ f.2.2 = defaultValue ty) (hn : (fs.map (·.1)).Nodup)
    {g : JFrame} (hg : g.method = m) (hd : decode c.code g.pc = .ok (.new index, 3)) (hc : cells + 1 ≤ R.cells) (hs : slots + k ≤ R.slots)
    (kk : ∀ T' a, On p l e R s m args below meth c Z n0 T' (cells + 1) (slots + k) (D ++ [ob a C fs]) → Rn p e below F T' { g with pc := g.pc + 3, stack := .ref a :: g.stack }) : Rn p e below F T g := by
  obtain ⟨locs, X, N, H⟩ := Y
  obtain ⟨T', h', X', e', E, A, Df, -, st⟩ := newO X hx hZ hown w wi wz rfl hg hd hc hs
  refine Rn.go st (kk T' _ ⟨_, X', N, ?_⟩)
  rw [e']
  refine H.new E (show Obj Z h' _ C fs from ⟨A, fun f hf => ?_, ?_⟩)
  · obtain ⟨L, ty, h1, h2⟩ := hl f hf
    rw [h2]; exact Df L h1
  · rw [List.nodup_iff_pairwise_ne, List.pairwise_map] at hn ⊢
    refine List.Pairwise.imp_of_mem (fun {x y} hx hy q => ?_) hn
    obtain ⟨L, ty, h1, -⟩ := hl x hx
    obtain ⟨L', ty', h1', -⟩ := hl y hy
    exact slot_ne L L' q h1 h1'
theorem On.newp (Y : On p l e R s m args below meth c Z n0 T cells slots D) (hx : p.tables.exec = Jvm.exec) (hZ : Z.Warmed39 s.vm) {aty : ArrayType} (w : (Cond.arrayClass (newarray.typeOf aty)).before a0 Z = true) {g : JFrame} (hg : g.method = m) (hd : decode c.code g.pc = .ok (.newarray aty, 2)) {z : Int32} {rest : List Value} (hs : g.stack = .int z :: rest)
    (hn : ¬ z < 0) {cap N : Nat} (hN : z.toNatClampNeg = N) (hcap : N ≤ cap) (hb : cap * 8 ≤ 536870912) (hc : cells + 1 ≤ R.cells) (hl : slots + cap ≤ R.slots) {dv : Value} (hdv : defaultValue (newarray.typeOf aty) = dv)
    (k : ∀ T' a, On p l e R s m args below meth c Z n0 T' (cells + 1) (slots + cap) (D ++ [ar a (newarray.typeOf aty) z (List.replicate N dv)]) → Rn p e below F T' { g with pc := g.pc + 2, stack := .ref a :: rest }) : Rn p e below F T g := by
  obtain ⟨locs, X, Nl, H⟩ := Y
  subst hN hdv
  obtain ⟨T', h', cA, X', e', E, A, st⟩ := newP X hx hZ w rfl hg hd hs hn hcap hb hc hl
  refine Rn.go st (k T' _ ⟨_, X', Nl, ?_⟩)
  rw [e']
  exact H.new E (show Ary Z h' _ _ z _ from ⟨⟨_, (Arv.new A hn).pad (pad_rep [] _ _), fun C hC => by cases aty <;> cases hC⟩, by simp⟩)
theorem On.newr (Y : On p l e R s m args below meth c Z n0 T cells slots D) (hx : p.tables.exec = Jvm.exec) (hZ : Z.Warmed39 s.vm) {own : String} {index : Nat} (hown : s.vm.findClass own = some m.cls) (w1 : (Cond.classLink own index C).before a0 Z = true) (w2 : (Cond.arrayOver (.object C)).before a0 Z = true) {g : JFrame} (hg : g.method = m) (hd : decode c.code g.pc = .ok (.anewarray index, 3)) {z : Int32} {rest : List Value} (hs : g.stack = .int z :: rest)
    (hn : ¬ z < 0) {cap N : Nat} (hN : z.toNatClampNeg = N) (hcap : N ≤ cap) (hb : cap * 8 ≤ 536870912) (hc : cells + 1 ≤ R.cells) (hl : slots + cap ≤ R.slots)
    (k : ∀ T' a, On p l e R s m args below meth c Z n0 T' (cells + 1) (slots + cap) (D ++ [ar a (.object C) z (List.replicate N .null)]) → Rn p e below F T' { g with pc := g.pc + 3, stack := .ref a :: rest }) : Rn p e below F T g := by
  obtain ⟨locs, X, Nl, H⟩ := Y
  subst hN
  obtain ⟨T', h', cA, X', e', E, A, O, st⟩ := newR X hx hZ hown w1 w2 rfl hg hd hs hn hcap hb hc hl
  refine Rn.go st (k T' _ ⟨_, X', Nl, ?_⟩)
  rw [e']
  exact H.new E (show Ary Z h' _ _ z _ from ⟨⟨_, (Arv.new A hn).pad (pad_rep [] _ _), fun C' hC => by cases hC; exact O⟩, by simp⟩)
theorem On.isto (Y : On p l e R s m args below meth c Z n0 T cells slots D) (hx : p.tables.exec = Jvm.exec) (hZ : Z.Warmed39 s.vm) {xs : List Int32} (hi : D[i]? = some (ari a .int z xs)) {k x : Int32} (hk : ¬ k < 0) (hl : k.toNatClampNeg < xs.length)
    {g : JFrame} (hg : g.method = m) {rest : List Value} (hs : g.stack = .int x :: .int k :: .ref a :: rest) (hd : decode c.code g.pc = .ok (.iastore, 1))
    (kk : ∀ T', On p l e R s m args below meth c Z n0 T' cells slots (D.set i (ari a .int z (xs.set k.toNatClampNeg x))) → Rn p e below F T' { g with pc := g.pc + 1, stack := rest }) : Rn p e below F T g := by
  obtain ⟨locs, X, N, H⟩ := Y
  obtain ⟨⟨kc, ⟨cl, A, q1, S, q3, Hh, G⟩, -⟩, q⟩ := H.ary hi
  have hl' : k.toNatClampNeg < (xs.map Value.int).length := by simpa using hl
  obtain ⟨T', h', X', e', W, st⟩ := stI X hx hZ rfl A (fun r => r.elim hk fun r => absurd hl' (by rw [q, ← S]; exact Nat.not_lt.mpr r)) hg hs hd
  have hfr := (H.get hi).1.arr hl'
  refine Rn.go st (kk T' ⟨_, X', Fr.snoc X' N hfr, ?_⟩)
  rw [e']
  refine H.upd hi hfr W fun O => ?_
  have := Ary.put hk hl' rfl W O
  rw [← List.map_set] at this
  exact this
theorem On.bsto (Y : On p l e R s m args below meth c Z n0 T cells slots D) (hx : p.tables.exec = Jvm.exec) (hZ : Z.Warmed39 s.vm) {xs : List Int32} (hi : D[i]? = some (ari a .byte z xs)) {k x : Int32} (hk : ¬ k < 0) (hl : k.toNatClampNeg < xs.length)
    {g : JFrame} (hg : g.method = m) {rest : List Value} (hs : g.stack = .int x :: .int k :: .ref a :: rest) (hd : decode c.code g.pc = .ok (.bastore, 1))
    (kk : ∀ T', On p l e R s m args below meth c Z n0 T' cells slots (D.set i (ari a .byte z (xs.set k.toNatClampNeg x.toInt8.toInt32))) → Rn p e below F T' { g with pc := g.pc + 1, stack := rest }) : Rn p e below F T g := by
  obtain ⟨locs, X, N, H⟩ := Y
  obtain ⟨⟨kc, ⟨cl, A, q1, S, q3, Hh, G⟩, -⟩, q⟩ := H.ary hi
  have hl' : k.toNatClampNeg < (xs.map Value.int).length := by simpa using hl
  obtain ⟨T', h', X', e', W, st⟩ := stB X hx hZ rfl A (fun r => r.elim hk fun r => absurd hl' (by rw [q, ← S]; exact Nat.not_lt.mpr r)) hg hs hd
  have hfr := (H.get hi).1.arr hl'
  refine Rn.go st (kk T' ⟨_, X', Fr.snoc X' N hfr, ?_⟩)
  rw [e']
  refine H.upd hi hfr W fun O => ?_
  have := Ary.put hk hl' (fits_nar_byte _) W O
  rw [← List.map_set] at this
  exact this
theorem On.zsto (Y : On p l e R s m args below meth c Z n0 T cells slots D) (hx : p.tables.exec = Jvm.exec) (hZ : Z.Warmed39 s.vm) {xs : List Int32} (hi : D[i]? = some (ari a .boolean z xs)) {k x : Int32} (hk : ¬ k < 0) (hl : k.toNatClampNeg < xs.length)
    {g : JFrame} (hg : g.method = m) {rest : List Value} (hs : g.stack = .int x :: .int k :: .ref a :: rest) (hd : decode c.code g.pc = .ok (.bastore, 1))
    (kk : ∀ T', On p l e R s m args below meth c Z n0 T' cells slots (D.set i (ari a .boolean z (xs.set k.toNatClampNeg (x &&& 1)))) → Rn p e below F T' { g with pc := g.pc + 1, stack := rest }) : Rn p e below F T g := by
  obtain ⟨locs, X, N, H⟩ := Y
  obtain ⟨⟨kc, ⟨cl, A, q1, S, q3, Hh, G⟩, -⟩, q⟩ := H.ary hi
  have hl' : k.toNatClampNeg < (xs.map Value.int).length := by simpa using hl
  obtain ⟨T', h', X', e', W, st⟩ := stZ X hx hZ rfl A (fun r => r.elim hk fun r => absurd hl' (by rw [q, ← S]; exact Nat.not_lt.mpr r)) hg hs hd
  have hfr := (H.get hi).1.arr hl'
  refine Rn.go st (kk T' ⟨_, X', Fr.snoc X' N hfr, ?_⟩)
  rw [e']
  refine H.upd hi hfr W fun O => ?_
  have := Ary.put hk hl' (fits_nar_bool _) W O
  rw [← List.map_set] at this
  exact this
theorem On.jsto (Y : On p l e R s m args below meth c Z n0 T cells slots D) (hx : p.tables.exec = Jvm.exec) (hZ : Z.Warmed39 s.vm) {xs : List Int64} (hi : D[i]? = some (arj a z xs)) {k : Int32} {x : Int64} (hk : ¬ k < 0) (hl : k.toNatClampNeg < xs.length)
    {g : JFrame} (hg : g.method = m) {rest : List Value} (hs : g.stack = .long x :: .int k :: .ref a :: rest) (hd : decode c.code g.pc = .ok (.lastore, 1))
    (kk : ∀ T', On p l e R s m args below meth c Z n0 T' cells slots (D.set i (arj a z (xs.set k.toNatClampNeg x))) → Rn p e below F T' { g with pc := g.pc + 1, stack := rest }) : Rn p e below F T g := by
  obtain ⟨locs, X, N, H⟩ := Y
  obtain ⟨⟨kc, ⟨cl, A, q1, S, q3, Hh, G⟩, -⟩, q⟩ := H.ary hi
  have hl' : k.toNatClampNeg < (xs.map Value.long).length := by simpa using hl
  obtain ⟨T', h', X', e', W, st⟩ := stJ X hx hZ rfl A (fun r => r.elim hk fun r => absurd hl' (by rw [q, ← S]; exact Nat.not_lt.mpr r)) hg hs hd
  have hfr := (H.get hi).1.arr hl'
  refine Rn.go st (kk T' ⟨_, X', Fr.snoc X' N hfr, ?_⟩)
  rw [e']
  refine H.upd hi hfr W fun O => ?_
  have := Ary.put hk hl' rfl W O
  rw [← List.map_set] at this
  exact this
/-- the cell of an array, opened for a load -/
theorem Ary.at (O : Ary Z h a ty z vs) {k : Int32} (hk : ¬ k < 0) (hv : vs[k.toNatClampNeg]? = some v) : ∃ cl, Arr Z h a cl ty ∧ ¬ (k < 0 ∨ cl.slots.size ≤ k.toNatClampNeg) ∧ cl.slots[k.toNatClampNeg]? = some v := by
  obtain ⟨⟨kc, ⟨cl, A, q1, S, q3, H, G⟩, -⟩, q⟩ := O
  have hl := (List.getElem?_eq_some_iff.mp hv).1
  have hl2 : k.toNatClampNeg < cl.slots.size := by rw [S, ← q]; exact hl
  exact ⟨cl, A, fun r => r.elim hk (Nat.not_le.mpr hl2), by rw [H _ hl2, List.getD_eq_getElem?_getD, hv]; rfl⟩
theorem On.ild (Y : On p l e R s m args below meth c Z n0 T cells slots D) (hx : p.tables.exec = Jvm.exec) (hZ : Z.Warmed39 s.vm) {xs : List Int32} (hi : D[i]? = some (ari a .int z xs)) {k x : Int32} (hk : ¬ k < 0) (hv : xs[k.toNatClampNeg]? = some x)
    {g : JFrame} (hg : g.method = m) {rest : List Value} (hs : g.stack = .int k :: .ref a :: rest) (hd : decode c.code g.pc = .ok (.iaload, 1))
    (kk : Rn p e below F T { g with pc := g.pc + 1, stack := .int x :: rest }) : Rn p e below F T g := by
  obtain ⟨locs, X, N, H⟩ := Y
  obtain ⟨cl, A, h1, h2⟩ := (H.ary hi).at (v := .int x) hk (by simp [List.getElem?_map, hv])
  exact Rn.go (fun t kt => X.iaload hx A.1 (State.isArrayOf_alike hZ.alike A.2.1) A.2.2 h1 h2 hg hs hd t kt) kk
theorem On.bld (Y : On p l e R s m args below meth c Z n0 T cells slots D) (hx : p.tables.exec = Jvm.exec) (hZ : Z.Warmed39 s.vm) {xs : List Int32} (hi : D[i]? = some (ari a .byte z xs)) {k x : Int32} (hk : ¬ k < 0) (hv : xs[k.toNatClampNeg]? = some x)
    {g : JFrame} (hg : g.method = m) {rest : List Value} (hs : g.stack = .int k :: .ref a :: rest) (hd : decode c.code g.pc = .ok (.baload, 1))
    (kk : Rn p e below F T { g with pc := g.pc + 1, stack := .int x :: rest }) : Rn p e below F T g := by
  obtain ⟨locs, X, N, H⟩ := Y
  obtain ⟨cl, A, h1, h2⟩ := (H.ary hi).at (v := .int x) hk (by simp [List.getElem?_map, hv])
  exact Rn.go (fun t kt => X.baloadBytes hx A.1 (State.isArrayOf_alike hZ.alike A.2.1) A.2.2 h1 h2 hg hs hd t kt) kk
theorem On.zld (Y : On p l e R s m args below meth c Z n0 T cells slots D) (hx : p.tables.exec = Jvm.exec) (hZ : Z.Warmed39 s.vm) {xs : List Int32} (hi : D[i]? = some (ari a .boolean z xs)) {k x : Int32} (hk : ¬ k < 0) (hv : xs[k.toNatClampNeg]? = some x)
    {g : JFrame} (hg : g.method = m) {rest : List Value} (hs : g.stack = .int k :: .ref a :: rest) (hd : decode c.code g.pc = .ok (.baload, 1))
    (kk : Rn p e below F T { g with pc := g.pc + 1, stack := .int x :: rest }) : Rn p e below F T g := by
  obtain ⟨locs, X, N, H⟩ := Y
  obtain ⟨cl, A, h1, h2⟩ := (H.ary hi).at (v := .int x) hk (by simp [List.getElem?_map, hv])
  exact Rn.go (fun t kt => X.baloadBooleans hx A.1 (State.isArrayOf_alike hZ.alike A.2.1) A.2.2 h1 h2 hg hs hd t kt) kk
theorem On.jld (Y : On p l e R s m args below meth c Z n0 T cells slots D) (hx : p.tables.exec = Jvm.exec) (hZ : Z.Warmed39 s.vm) {xs : List Int64} (hi : D[i]? = some (arj a z xs)) {k : Int32} {x : Int64} (hk : ¬ k < 0) (hv : xs[k.toNatClampNeg]? = some x)
    {g : JFrame} (hg : g.method = m) {rest : List Value} (hs : g.stack = .int k :: .ref a :: rest) (hd : decode c.code g.pc = .ok (.laload, 1))
    (kk : Rn p e below F T { g with pc := g.pc + 1, stack := .long x :: rest }) : Rn p e below F T g := by
  obtain ⟨locs, X, N, H⟩ := Y
  obtain ⟨cl, A, h1, h2⟩ := (H.ary hi).at (v := .long x) hk (by simp [List.getElem?_map, hv])
  exact Rn.go (fun t kt => X.laload hx A.1 (State.isArrayOf_alike hZ.alike A.2.1) A.2.2 h1 h2 hg hs hd t kt) kk
theorem On.alen (Y : On p l e R s m args below meth c Z n0 T cells slots D) (hx : p.tables.exec = Jvm.exec) (hZ : Z.Warmed39 s.vm) (hi : D[i]? = some (ar a ty z vs))
    {g : JFrame} (hg : g.method = m) {rest : List Value} (hs : g.stack = .ref a :: rest) (hd : decode c.code g.pc = .ok (.arraylength, 1))
    (kk : Rn p e below F T { g with pc := g.pc + 1, stack := .int z :: rest }) : Rn p e below F T g := by
  obtain ⟨locs, X, N, H⟩ := Y
  obtain ⟨⟨kc, ⟨cl, A, q1, S, q3, Hh, G⟩, -⟩, q⟩ := H.ary hi
  refine Rn.go (fun t kt => X.arraylength hx A.1 (State.isArrayOf_alike hZ.alike A.2.1) hg hs hd t kt) ?_
  rw [len_of S q3]; exact kk
theorem On.ldcI (Y : On p l e R s m args below meth c Z n0 T cells slots D) (hx : p.tables.exec = Jvm.exec) (hZ : Z.Warmed39 s.vm) {own : String} {index : Nat} {x : Int32} (hown : s.vm.findClass own = some m.cls) (w : (Cond.constant own index x).before a0 Z = true)
    {g : JFrame} (hg : g.method = m) (hd : decode c.code g.pc = .ok (.ldc index, 2)) (kk : Rn p e below F T { g with pc := g.pc + 2, stack := .int x :: g.stack }) : Rn p e below F T g := by
  obtain ⟨locs, X, N, H⟩ := Y
  exact Rn.go (X.ldcInt hx hown (mvT hZ w) hg hd) kk
theorem On.ldcJ (Y : On p l e R s m args below meth c Z n0 T cells slots D) (hx : p.tables.exec = Jvm.exec) (hZ : Z.Warmed39 s.vm) {own : String} {index : Nat} {x : Int64} (hown : s.vm.findClass own = some m.cls) (w : (Cond.constantLong own index x).before a0 Z = true)
    {g : JFrame} (hg : g.method = m) (hd : decode c.code g.pc = .ok (.ldc2_w index, 3)) (kk : Rn p e below F T { g with pc := g.pc + 3, stack := .long x :: g.stack }) : Rn p e below F T g := by
  obtain ⟨locs, X, N, H⟩ := Y
  exact Rn.go (X.ldc2Long hx hown (mvT hZ w) hg hd) kk
theorem On.sldcI (Y : On p l e R s m args below meth c Z n0 T cells slots D) (hx : p.tables.exec = Jvm.exec) (hZ : Z.Warmed39 s.vm) {own : String} {index : Nat} {x : Int32} (hown : s.vm.findClass own = some m.cls) (w : (Cond.constant own index x).before a0 Z = true)
    {g : JFrame} (hg : g.method = m) (hd : decode c.code g.pc = .ok (.ldc index, 2)) : ∀ t, Steps p.tables e below (T.setTop { g with pc := g.pc + 2, stack := .int x :: g.stack }) t → Steps p.tables e below (T.setTop g) t := by
  obtain ⟨locs, X, N, H⟩ := Y
  exact X.ldcInt hx hown (mvT hZ w) hg hd
theorem On.sldcJ (Y : On p l e R s m args below meth c Z n0 T cells slots D) (hx : p.tables.exec = Jvm.exec) (hZ : Z.Warmed39 s.vm) {own : String} {index : Nat} {x : Int64} (hown : s.vm.findClass own = some m.cls) (w : (Cond.constantLong own index x).before a0 Z = true)
    {g : JFrame} (hg : g.method = m) (hd : decode c.code g.pc = .ok (.ldc2_w index, 3)) : ∀ t, Steps p.tables e below (T.setTop { g with pc := g.pc + 3, stack := .long x :: g.stack }) t → Steps p.tables e below (T.setTop g) t := by
  obtain ⟨locs, X, N, H⟩ := Y
  exact X.ldc2Long hx hown (mvT hZ w) hg hd
theorem On.ini (Y : On p l e R s m args below meth c Z n0 T cells slots D) (hx : p.tables.exec = Jvm.exec) (hZ : Z.Warmed39 s.vm) {own : String} {idx : Nat} (hown : s.vm.findClass own = some m.cls) (w1 : (Cond.methodLink own idx Lib.objectInit).before a0 Z = true) (w2 : (Cond.instanceMethod Lib.objectInit).before a0 Z = true)
    (w3 : (Cond.code Lib.objectInit ⟨#[0xb1]⟩ 1 none).before a0 Z = true) {g : JFrame} (hg : g.method = m) (hsize : g.locals.size = c.maxLocals) {a : Addr} {rest : List Value} (hs : g.stack = .ref a :: rest) (hd : decode c.code g.pc = .ok (.invokespecial idx, 3))
    (hf : 1 ≤ R.frames) {W : Nat} (hW : 2 * g.monitorRoom + (rest.map fun v => v.category).sum ≤ W) (hl : W + 12 ≤ R.locals)
    (k : ∀ T', On p l e R s m args below meth c Z n0 T' cells slots D → Rn p e below F T' { g with pc := g.pc + 3, stack := rest }) : Rn p e below F T g := by
  obtain ⟨locs, X, N, H⟩ := Y
  obtain ⟨T', X', e', st⟩ := initO X hx hZ hown w1 w2 w3 rfl hg hsize hs hd hf hW hl
  exact Rn.go st (k T' ⟨locs, X', N, by rw [e']; exact H⟩)
/-! ## D. A method's contract: from a heap that holds D, with these arguments, it returns v and leaves a heap that holds D', where P v D' -/
def QP (Z : State) (n0 : Nat) (P : Option Value → List (Addr × Itm) → Prop) (v : Option Value) (h : Heap) (L : List Loc) : Prop := ∃ D', P v D' ∧ Fr n0 L ∧ Hp Z n0 h D'
def Con (l : Launch) (Z : State) (n0 : Nat) (y : MethodName) (bytes : ByteArray) (maxL : Nat) (ret : Option FieldType) (rm : Room) (as : Array Value) (D : List (Addr × Itm)) (P : Option Value → List (Addr × Itm) → Prop) : Prop :=
  ∀ (ws : List Cond) (h0 : Heap), Hp Z n0 h0 D → MetFree l y (head1 (Cond.code y bytes maxL ret :: ws) rm) (fun a U => a = as ∧ Z.Warmed39 U.vm ∧ U.heap = h0) (fun _ _ _ _ _ => True) (fun _ U o U' => ∃ v L, o = .returned v ∧ QP Z n0 P v U'.heap L ∧ FrameEnd U o U' L rm.cells rm.slots)
def Cx (p : Program) (s : State) (m : MethodId) (meth : Method) (c : Code) (Z : State) (y : MethodName) (bytes : ByteArray) (maxL : Nat) (ret : Option FieldType) : Prop :=
  p.tables.exec = Jvm.exec ∧ c.code = bytes ∧ c.maxLocals = maxL ∧ s.vm.findClass y.cls = some m.cls ∧ meth.name = y.name ∧ meth.sig.returnType = ret ∧ meth.locks = false ∧ Z.Warmed39 s.vm
def Fi (Z : State) (n0 : Nat) (below : List Frame) (s : State) (kc ks : Nat) (P : Option Value → List (Addr × Itm) → Prop) (U : State) : Prop := ∃ o, U.status = .running ∧ Ended U below o ∧ ∃ v L, o = .returned v ∧ QP Z n0 P v U.heap L ∧ FrameEnd s o U L kc ks
variable {y : MethodName} {bytes : ByteArray} {maxL : Nat} {ret : Option FieldType} {rm : Room} {as : Array Value} {P : Option Value → List (Addr × Itm) → Prop} {kc ks : Nat}
theorem Con.of (hp : plainFor y = true) (body : ∀ {p : Program} {e : Env} {s : State} {m : MethodId} {below : List Frame} {meth : Method} {c : Code} {T : State}, Cx p s m meth c Z y bytes maxL ret → On p l e rm s m as below meth c Z n0 T 0 0 D → Rn p e below (Fi Z n0 below s rm.cells rm.slots P) T (entryFrame m as maxL)) :
    Con l Z n0 y bytes maxL ret rm as D P := by
  intro ws h0 H
  refine MetFree.of_bodySF hp hisR ?_
  intro p e s m args below meth c s₁ Bd hml0 hP hK
  obtain ⟨rfl, hZ, hh⟩ := hP
  have X0 : Stand p l e rm s m args below meth c s₁ [] 0 0 := Stand.of_body Bd
  have e0 : s₁.heap = h0 := by rw [← hh, Bd.state]; rfl
  obtain ⟨U, h1, o, h2, h3, h4⟩ := body ⟨Bd.exec, Bd.bytes, hml0, findClass_of_methodNamed Bd.named, (name_of_methodNamed Bd.named Bd.method).1, Bd.returns, Bd.notSynchronized, hZ⟩ ⟨[], X0, Fr.nil n0, by rw [e0]; exact H⟩
  exact ⟨U, o, h1, h2, h3, h4⟩
theorem On.out (Y : On p l e R s m args below meth c Z n0 T cells slots D) {v : Option Value} (hv : meth.sig.returnType = none → v = none) (hlk : meth.locks = false) (hc : cells ≤ kc) (hs : slots ≤ ks) (hP : P v D)
    (st : ∀ locs fs, Stand p l e R s m args below meth c T locs cells slots → (∀ (f : JFrame) (acts : List Action), f.method = m → f.locked = none → f.entered = [] → (doReturn e (T.setTop f) acts v).1 = T.setFrames fs) → Steps p.tables e below (T.setTop g) (T.setFrames fs)) : Rn p e below (Fi Z n0 below s kc ks P) T g := by
  obtain ⟨locs, X, N, H⟩ := Y
  obtain ⟨fs, hr, hrun, hended, hW, hsame⟩ := X.leave hv hlk
  exact ⟨_, st locs fs X hr, _, hrun, hended, _, _, rfl, ⟨D, hP, N, H⟩, ⟨_, rfl⟩, hW, hsame.mono hc hs⟩
theorem On.retv (Y : On p l e R s m args below meth c Z n0 T cells slots D) (hx : p.tables.exec = Jvm.exec) (hret : meth.sig.returnType = none) (hlk : meth.locks = false) {pc : Nat} {Ls : Array Slot} (hd : decode c.code pc = .ok (.return_, 1)) (hc : cells ≤ kc) (hs : slots ≤ ks) (hP : P none D) : Rn p e below (Fi Z n0 below s kc ks P) T (mkF m pc Ls []) :=
  Y.out (fun _ => rfl) hlk hc hs hP fun locs fs X hr => X.returnOut hx hret hd hr
theorem On.reti (Y : On p l e R s m args below meth c Z n0 T cells slots D) (hx : p.tables.exec = Jvm.exec) (hret : meth.sig.returnType = some .int) (hlk : meth.locks = false) {pc : Nat} {Ls : Array Slot} {z : Int32} {rest : List Value} (hd : decode c.code pc = .ok (.ireturn, 1)) (hc : cells ≤ kc) (hs : slots ≤ ks) (hP : P (some (.int z)) D) : Rn p e below (Fi Z n0 below s kc ks P) T (mkF m pc Ls (.int z :: rest)) :=
  Y.out (fun q => by rw [hret] at q; cases q) hlk hc hs hP fun locs fs X hr => retOut X hx hret rfl (Or.inl ⟨rfl, Or.inl rfl, _, rfl⟩) hd hr
theorem On.retn (Y : On p l e R s m args below meth c Z n0 T cells slots D) (hx : p.tables.exec = Jvm.exec) {t : FieldType} (hret : meth.sig.returnType = some t) (ht : t = .boolean ∨ t = .byte ∨ t = .char ∨ t = .short) (hlk : meth.locks = false) {pc : Nat} {Ls : Array Slot} {z z' : Int32} (hz : nar t z = z') {rest : List Value} (hd : decode c.code pc = .ok (.ireturn, 1)) (hc : cells ≤ kc) (hs : slots ≤ ks) (hP : P (some (.int z')) D) : Rn p e below (Fi Z n0 below s kc ks P) T (mkF m pc Ls (.int z :: rest)) := by
  subst hz
  exact Y.out (fun q => by rw [hret] at q; cases q) hlk hc hs hP fun locs fs X hr => retN X hx hret ht hd hr
theorem On.retj (Y : On p l e R s m args below meth c Z n0 T cells slots D) (hx : p.tables.exec = Jvm.exec) (hret : meth.sig.returnType = some .long) (hlk : meth.locks = false) {pc : Nat} {Ls : Array Slot} {z : Int64} {rest : List Value} (hd : decode c.code pc = .ok (.lreturn, 1)) (hc : cells ≤ kc) (hs : slots ≤ ks) (hP : P (some (.long z)) D) : Rn p e below (Fi Z n0 below s kc ks P) T (mkF m pc Ls (.long z :: rest)) :=
  Y.out (fun q => by rw [hret] at q; cases q) hlk hc hs hP fun locs fs X hr => retOut X hx hret rfl (Or.inr (Or.inl ⟨rfl, rfl, _, rfl⟩)) hd hr
theorem On.reta (Y : On p l e R s m args below meth c Z n0 T cells slots D) (hx : p.tables.exec = Jvm.exec) {t : FieldType} (hret : meth.sig.returnType = some t) (ht : t.isReference = true) (hlk : meth.locks = false) {pc : Nat} {Ls : Array Slot} {z : Value} (hz : z.isRef = true) (hn : narrow t z = z) {rest : List Value} (hd : decode c.code pc = .ok (.areturn, 1)) (hc : cells ≤ kc) (hs : slots ≤ ks) (hP : P (some z) D) : Rn p e below (Fi Z n0 below s kc ks P) T (mkF m pc Ls (z :: rest)) :=
  Y.out (fun q => by rw [hret] at q; cases q) hlk hc hs hP fun locs fs X hr => retOut X hx hret hn (Or.inr (Or.inr (Or.inr (Or.inr ⟨rfl, ht, hz⟩)))) hd hr
/-! ## E. Calls -/
theorem On.special (Y : On p l e R s m args below meth c Z n0 T cells slots D) (hx : p.tables.exec = Jvm.exec) (hZ : Z.Warmed39 s.vm) {own : String} {index : Nat} (hy1 : y.name = "<init>") (hown : s.vm.findClass own = some m.cls) (w1 : (Cond.methodLink own index y).before a0 Z = true) (w2 : (Cond.instanceMethod y).before a0 Z = true) (w3 : (Cond.code y bytes maxL none).before a0 Z = true) (w4 : (Cond.initialized y.cls).before a0 Z = true)
    (hy : y.cls ≠ "java/lang/invoke/MethodHandle" ∧ y.cls ≠ "java/lang/invoke/VarHandle") {a : Addr} {argsL rest : List Value} (K : Con l Z n0 y bytes maxL none rm (.ref a :: argsL).toArray D P)
    {W : Nat} (hf : rm.frames + 1 ≤ R.frames) (hl : W + (maxL + 11) + rm.locals ≤ R.locals) (hc : cells + rm.cells ≤ R.cells) (hs : slots + rm.slots ≤ R.slots)
    {g : JFrame} (hg : g.method = m) (hsize : g.locals.size = c.maxLocals) (hlen : ∀ sig, parseMethodDescriptor y.desc = some sig → argsL.length = sig.parameters.length) (hstack : g.stack = argsL.reverse ++ .ref a :: rest) (hW : 2 * g.monitorRoom + (rest.map fun v => v.category).sum ≤ W) (hd : decode c.code g.pc = .ok (.invokespecial index, 3))
    (k : ∀ T' v D', P v D' → On p l e R s m args below meth c Z n0 T' (cells + rm.cells) (slots + rm.slots) D' → Rn p e below F T' { g with pc := g.pc + 3, stack := v.toList ++ rest }) : Rn p e below F T g := by
  obtain ⟨locs, X, N, H⟩ := Y
  obtain ⟨v, _, ⟨T', L', k', n'⟩, -, X', ⟨Lc, hQ, l', y', z'⟩, st⟩ := X.specialBack hx hy1 hown (mvT hZ w1) (mvT hZ w2) (mvT hZ w3) hy (backOf (W := W) (K [] T.heap H) hZ w3 w4 hf hl) hg hsize (Steps.refl _) (a := a) (argsL := argsL) (rest := rest) hlen hstack hW hd (fun _ _ => ⟨rfl, rfl, hc, hs⟩)
  dsimp only [Pt.U, Pt.locs, Pt.cells, Pt.slots] at X' l' y' z' st hQ
  subst l' y' z'
  obtain ⟨D', hP, N', H'⟩ := hQ
  exact Rn.to st (k T' v D' hP ⟨_, X', Fr.app N N', H'⟩)
theorem On.virtual (Y : On p l e R s m args below meth c Z n0 T cells slots D) (hx : p.tables.exec = Jvm.exec) (hZ : Z.Warmed39 s.vm) {own : String} {index : Nat} (hown : s.vm.findClass own = some m.cls) (w1 : (Cond.methodLink own index y).before a0 Z = true) (w2 : (Cond.declares y).before a0 Z = true) (w3 : (Cond.instanceMethod y).before a0 Z = true) (w4 : (Cond.selects C y y).before a0 Z = true) (w5 : (Cond.code y bytes maxL ret).before a0 Z = true) (w6 : (Cond.initialized y.cls).before a0 Z = true)
    (hy : y.cls ≠ "java/lang/invoke/MethodHandle" ∧ y.cls ≠ "java/lang/invoke/VarHandle") {a : Addr} {argsL rest : List Value} (hi : D[i]? = some (ob a C fs)) (K : Con l Z n0 y bytes maxL ret rm (.ref a :: argsL).toArray D P)
    {W : Nat} (hf : rm.frames + 1 ≤ R.frames) (hl : W + (maxL + 11) + rm.locals ≤ R.locals) (hc : cells + rm.cells ≤ R.cells) (hs : slots + rm.slots ≤ R.slots)
    {g : JFrame} (hg : g.method = m) (hsize : g.locals.size = c.maxLocals) (hlen : ∀ sig, parseMethodDescriptor y.desc = some sig → argsL.length = sig.parameters.length) (hstack : g.stack = argsL.reverse ++ .ref a :: rest) (hW : 2 * g.monitorRoom + (rest.map fun v => v.category).sum ≤ W) (hd : decode c.code g.pc = .ok (.invokevirtual index, 3))
    (k : ∀ T' v D', P v D' → On p l e R s m args below meth c Z n0 T' (cells + rm.cells) (slots + rm.slots) D' → Rn p e below F T' { g with pc := g.pc + 3, stack := v.toList ++ rest }) : Rn p e below F T g := by
  obtain ⟨locs, X, N, H⟩ := Y
  obtain ⟨cq, kq, qa, qb, qc⟩ := isOf hZ rfl (H.exa hi)
  obtain ⟨v, _, ⟨T', L', k', n'⟩, -, X', ⟨Lc, hQ, l', y', z'⟩, st⟩ := X.virtualBack hx (y := y) (z := y) hown (mvT hZ w1) (mvT hZ w2) (notFace_of_selects (args := #[]) (mvT hZ w4)) (mvT hZ w4) (mvT hZ w3) hy (backOf (W := W) (K [] T.heap H) hZ w5 w6 hf hl) qa qc hg hsize (Steps.refl _) (argsL := argsL) (rest := rest) hlen hstack hW hd (fun _ _ => ⟨rfl, rfl, hc, hs⟩)
  dsimp only [Pt.U, Pt.locs, Pt.cells, Pt.slots] at X' l' y' z' st hQ
  subst l' y' z'
  obtain ⟨D', hP, N', H'⟩ := hQ
  exact Rn.to st (k T' v D' hP ⟨_, X', Fr.app N N', H'⟩)
theorem On.static (Y : On p l e R s m args below meth c Z n0 T cells slots D) (hx : p.tables.exec = Jvm.exec) (hZ : Z.Warmed39 s.vm) {own : String} {index : Nat} (hown : s.vm.findClass own = some m.cls) (w1 : (Cond.methodLink own index y).before a0 Z = true) (w2 : (Cond.static y).before a0 Z = true) (w3 : (Cond.code y bytes maxL ret).before a0 Z = true) (w4 : (Cond.initialized y.cls).before a0 Z = true)
    (hy : y.cls ≠ "java/lang/invoke/MethodHandle" ∧ y.cls ≠ "java/lang/invoke/VarHandle") {argsL rest : List Value} (K : Con l Z n0 y bytes maxL ret rm argsL.toArray D P)
    {W : Nat} (hf : rm.frames + 1 ≤ R.frames) (hl : W + (maxL + 11) + rm.locals ≤ R.locals) (hc : cells + rm.cells ≤ R.cells) (hs : slots + rm.slots ≤ R.slots)
    {g : JFrame} (hg : g.method = m) (hsize : g.locals.size = c.maxLocals) (hlen : ∀ sig, parseMethodDescriptor y.desc = some sig → argsL.length = sig.parameters.length) (hstack : g.stack = argsL.reverse ++ rest) (hW : 2 * g.monitorRoom + (rest.map fun v => v.category).sum ≤ W) (hd : decode c.code g.pc = .ok (.invokestatic index, 3))
    (k : ∀ T' v D', P v D' → On p l e R s m args below meth c Z n0 T' (cells + rm.cells) (slots + rm.slots) D' → Rn p e below F T' { g with pc := g.pc + 3, stack := v.toList ++ rest }) : Rn p e below F T g := by
  obtain ⟨locs, X, N, H⟩ := Y
  obtain ⟨v, _, ⟨T', L', k', n'⟩, -, X', ⟨Lc, hQ, l', y', z'⟩, st⟩ := Jvm.LawKit.callS X hx hown (mvT hZ w1) (mvT hZ w2) (mvT hZ w4) (mvT hZ w3) hy (backOf (W := W) (K [] T.heap H) hZ w3 w4 hf hl) hg hsize (argsL := argsL) (rest := rest) hlen hstack hW hd (fun _ _ => ⟨rfl, rfl, hc, hs⟩)
  dsimp only [Pt.U, Pt.locs, Pt.cells, Pt.slots] at X' l' y' z' st hQ
  subst l' y' z'
  obtain ⟨D', hP, N', H'⟩ := hQ
  exact Rn.go st (k T' v D' hP ⟨_, X', Fr.app N N', H'⟩)
theorem On.priv (Y : On p l e R s m args below meth c Z n0 T cells slots D) (hx : p.tables.exec = Jvm.exec) (hZ : Z.Warmed39 s.vm) {own : String} {index kk : Nat} (hown : s.vm.findClass own = some m.cls) (w1 : (Cond.methodLink own index y).before a0 Z = true) (w2 : (Cond.instanceMethod y).before a0 Z = true) (w3 : (Cond.privateMethod y).before a0 Z = true) (wi : (Cond.instantiable y.cls kk).before a0 Z = true) (w4 : (Cond.code y bytes maxL ret).before a0 Z = true) (w5 : (Cond.initialized y.cls).before a0 Z = true)
    (hy : y.cls ≠ "java/lang/invoke/MethodHandle" ∧ y.cls ≠ "java/lang/invoke/VarHandle") {a : Addr} {argsL rest : List Value} (hi : D[i]? = some (ob a C fs)) (K : Con l Z n0 y bytes maxL ret rm (.ref a :: argsL).toArray D P)
    {W : Nat} (hf : rm.frames + 1 ≤ R.frames) (hl : W + (maxL + 11) + rm.locals ≤ R.locals) (hc : cells + rm.cells ≤ R.cells) (hs : slots + rm.slots ≤ R.slots)
    {g : JFrame} (hg : g.method = m) (hsize : g.locals.size = c.maxLocals) (hlen : ∀ sig, parseMethodDescriptor y.desc = some sig → argsL.length = sig.parameters.length) (hstack : g.stack = argsL.reverse ++ .ref a :: rest) (hW : 2 * g.monitorRoom + (rest.map fun v => v.category).sum ≤ W) (hd : decode c.code g.pc = .ok (.invokevirtual index, 3))
    (k : ∀ T' v D', P v D' → On p l e R s m args below meth c Z n0 T' (cells + rm.cells) (slots + rm.slots) D' → Rn p e below F T' { g with pc := g.pc + 3, stack := v.toList ++ rest }) : Rn p e below F T g := by
  obtain ⟨locs, X, N, H⟩ := Y
  have hp : s.PrivateAt y := Cond.privateMethod_at (mvP hZ w3 (args := #[]))
  have wi' : (Cond.instantiable y.cls kk).before args s = true := mvT hZ wi
  obtain ⟨cc, kc, i1, i2, -, i4, -⟩ := Cond.instantiable_spec wi'
  have hsel : (Cond.selects y.cls y y).before args s = true := selects_self_of_private i1 i2 (by simp at i4; exact i4.1) hp (mvT hZ w2) hy
  obtain ⟨cq, q, q'⟩ := (H.exa hi).cell
  obtain ⟨v, _, ⟨T', L', k', n'⟩, -, X', ⟨Lc, hQ, l', y', z'⟩, st⟩ := X.privateBack hx (y := y) hown (mvT hZ w1) (mvT hZ w2) hsel hp (mvT hZ w4) hy (backOf (W := W) (K [] T.heap H) hZ w4 w5 hf hl) hg hsize (Steps.refl _) (a := a) q q' (argsL := argsL) (rest := rest) hlen hstack hW hd (fun _ _ => ⟨rfl, rfl, hc, hs⟩)
  dsimp only [Pt.U, Pt.locs, Pt.cells, Pt.slots] at X' l' y' z' st hQ
  subst l' y' z'
  obtain ⟨D', hP, N', H'⟩ := hQ
  exact Rn.to st (k T' v D' hP ⟨_, X', Fr.app N N', H'⟩)
theorem On.insY (Y : On p l e R s m args below meth c Z n0 T cells slots D) (hx : p.tables.exec = Jvm.exec) (hZ : Z.Warmed39 s.vm) {own : String} {index : Nat} (hown : s.vm.findClass own = some m.cls) (w : (Cond.classLink own index C).before a0 Z = true) (hi : D[i]? = some (ob a C fs))
    {g : JFrame} (hg : g.method = m) {rest : List Value} (hs : g.stack = .ref a :: rest) (hd : decode c.code g.pc = .ok (.instanceof index, 3)) (k : ∀ T', On p l e R s m args below meth c Z n0 T' cells slots D → Rn p e below F T' { g with pc := g.pc + 3, stack := .int 1 :: rest }) : Rn p e below F T g := by
  obtain ⟨locs, X, N, H⟩ := Y
  obtain ⟨T', X', e', st⟩ := instY X hx hZ hown w rfl (Ins.self (H.exa hi)) hg hs hd
  exact Rn.go st (k T' ⟨locs, X', N, by rw [e']; exact H⟩)
theorem On.castS (Y : On p l e R s m args below meth c Z n0 T cells slots D) (hx : p.tables.exec = Jvm.exec) (hZ : Z.Warmed39 s.vm) {own : String} {index : Nat} (hown : s.vm.findClass own = some m.cls) (w : (Cond.classLink own index C).before a0 Z = true) (hi : D[i]? = some (ob a C fs))
    {g : JFrame} (hg : g.method = m) {rest : List Value} (hs : g.stack = .ref a :: rest) (hd : decode c.code g.pc = .ok (.checkcast index, 3)) (k : ∀ T', On p l e R s m args below meth c Z n0 T' cells slots D → Rn p e below F T' { g with pc := g.pc + 3 }) : Rn p e below F T g := by
  obtain ⟨locs, X, N, H⟩ := Y
  obtain ⟨T', X', e', st⟩ := castY X hx hZ hown w rfl (Ins.self (H.exa hi)) hg hs hd
  exact Rn.go st (k T' ⟨locs, X', N, by rw [e']; exact H⟩)
theorem On.insN (Y : On p l e R s m args below meth c Z n0 T cells slots D) (hx : p.tables.exec = Jvm.exec) (hZ : Z.Warmed39 s.vm) {own K : String} {index kk : Nat} (hown : s.vm.findClass own = some m.cls) (w : (Cond.classLink own index K).before a0 Z = true) (hi : D[i]? = some (ob a C fs)) (wi : (Cond.instantiable K kk).before a0 Z = true) {ch : List String} (hw : ∀ w ∈ Cond.chainWords (C :: ch), w.before a0 Z = true) (hn : K ∉ C :: ch)
    {g : JFrame} (hg : g.method = m) {rest : List Value} (hs : g.stack = .ref a :: rest) (hd : decode c.code g.pc = .ok (.instanceof index, 3)) (k : ∀ T', On p l e R s m args below meth c Z n0 T' cells slots D → Rn p e below F T' { g with pc := g.pc + 3, stack := .int 0 :: rest }) : Rn p e below F T g := by
  obtain ⟨locs, X, N, H⟩ := Y
  obtain ⟨cy, ky, i1, i2, i3, i4, -⟩ := Cond.instantiable_spec wi
  obtain ⟨cx, kx, j1, -⟩ := Cond.chain_head hw
  obtain ⟨T', X', e', st⟩ := instNo X hx hZ hown w rfl (H.exa hi) ⟨cx, cy, j1, i1, Vm.notAssignable_of_chain j1 i1 i2 i3 (by simp at i4; exact i4.1) hw hn⟩ hg hs hd
  exact Rn.go st (k T' ⟨locs, X', N, by rw [e']; exact H⟩)
theorem On.insNull (Y : On p l e R s m args below meth c Z n0 T cells slots D) (hx : p.tables.exec = Jvm.exec) {index : Nat}
    {g : JFrame} (hg : g.method = m) {rest : List Value} (hs : g.stack = .null :: rest) (hd : decode c.code g.pc = .ok (.instanceof index, 3)) (k : Rn p e below F T { g with pc := g.pc + 3, stack := .int 0 :: rest }) : Rn p e below F T g := by
  obtain ⟨locs, X, N, H⟩ := Y
  exact Rn.go (fun t kt => X.instanceofNull hx hg hs hd t kt) k
end Base
theorem own_lc (x y : Int32) : (0 : Int32) < lcmpW (y.toInt64 - x.toInt64) (0 : Int64) ↔ x < y := by
  have h1 : (y.toInt64 - x.toInt64).toInt = y.toInt - x.toInt := by
    rw [Int64.toInt_sub, Int32.toInt_toInt64, Int32.toInt_toInt64]
    have := x.toInt_lt; have := x.le_toInt; have := y.toInt_lt; have := y.le_toInt
    apply Int.bmod_eq_of_le <;> omega
  have h2 : (y.toInt64 - x.toInt64) > (0 : Int64) ↔ x < y := by
    rw [gt_iff_lt, Int64.lt_iff_toInt_lt, h1, Int32.lt_iff_toInt_lt]
    have : (0 : Int64).toInt = 0 := rfl
    omega
  rw [← h2]
  rw [own_lcW]
  by_cases q : (y.toInt64 - x.toInt64) > (0 : Int64)
  · simp [q]
  · by_cases q2 : y.toInt64 - x.toInt64 = (0 : Int64)
    · simp [q2]
    · simp only [q, q2, if_false]; decide
theorem own_eq {x0 x1 x2 x3 r v : Int32} (h1 : r = (if x0 < x2 then (if x1 < x3 then (0 : Int32) else 1) else 1)) (h2 : v = (if (0 : Int32) < (lcmpW (x2.toInt64 - x0.toInt64) (0 : Int64)) then (if (0 : Int32) < (lcmpW (x3.toInt64 - x1.toInt64) (0 : Int64)) then (0 : Int32) else (1 : Int32)) else (1 : Int32))) : r = v := by
  rw [h1, h2]
  simp only [own_lc]
theorem own_in (x0 x1 x2 x3 x4 x5 : Int32) (h : ¬ (if x4 < x0 then (0 : Int32) else (if x4 < x2 then (if x5 < x1 then (0 : Int32) else (if x5 < x3 then (1 : Int32) else (0 : Int32))) else (0 : Int32))) = (0 : Int32)) : (if x0 < x2 then (if x1 < x3 then (0 : Int32) else 1) else 1) = (0 : Int32) := by
  by_cases q1 : x4 < x0
  · simp [q1] at h
  · by_cases q2 : x4 < x2
    · by_cases q3 : x5 < x1
      · simp [q1, q2, q3] at h
      · by_cases q4 : x5 < x3
        · have e1 : x0 < x2 := by rw [Int32.lt_iff_toInt_lt] at *; omega
          have e2 : x1 < x3 := by rw [Int32.lt_iff_toInt_lt] at *; omega
          rw [if_pos e1, if_pos e2]
        · simp [q1, q2, q3, q4] at h
    · simp [q1, q2] at h
/-! ## F. The words, the instructions, the names -/
abbrev own_C0 : String := "com/example/oxalis/oxalis/Rect"
abbrev own_F0 (v0 v1 v2 v3 : Value) : List (String × String × Value) := [("left", "I", v0), ("top", "I", v1), ("right", "I", v2), ("bottom", "I", v3)]
theorem w0 {Z : State} {a0 : Array Value} (hw : ∀ d ∈ tables_1, d.before a0 Z = true) : (Jvm.Cond.classLink "com/example/oxalis/oxalis/RectIsEmptyPinLaw" (7 : Nat) "com/example/oxalis/oxalis/Rect").before a0 Z = true := hw _ (List.mem_of_getElem? (i := 0) rfl)
theorem w1 {Z : State} {a0 : Array Value} (hw : ∀ d ∈ tables_1, d.before a0 Z = true) : (Jvm.Cond.instantiable "com/example/oxalis/oxalis/Rect" (4 : Nat)).before a0 Z = true := hw _ (List.mem_of_getElem? (i := 1) rfl)
theorem w2 {Z : State} {a0 : Array Value} (hw : ∀ d ∈ tables_1, d.before a0 Z = true) : (Jvm.Cond.initialized "com/example/oxalis/oxalis/Rect").before a0 Z = true := hw _ (List.mem_of_getElem? (i := 2) rfl)
theorem w3 {Z : State} {a0 : Array Value} (hw : ∀ d ∈ tables_1, d.before a0 Z = true) : (Jvm.Cond.methodLink "com/example/oxalis/oxalis/RectIsEmptyPinLaw" (9 : Nat) ({ cls := "com/example/oxalis/oxalis/Rect", name := "<init>", desc := "(IIII)V" } : Jvm.MethodName)).before a0 Z = true := hw _ (List.mem_of_getElem? (i := 3) rfl)
theorem w4 {Z : State} {a0 : Array Value} (hw : ∀ d ∈ tables_1, d.before a0 Z = true) : (Jvm.Cond.instanceMethod ({ cls := "com/example/oxalis/oxalis/Rect", name := "<init>", desc := "(IIII)V" } : Jvm.MethodName)).before a0 Z = true := hw _ (List.mem_of_getElem? (i := 4) rfl)
theorem w5 {Z : State} {a0 : Array Value} (hw : ∀ d ∈ tables_1, d.before a0 Z = true) : (Jvm.Cond.code ({ cls := "com/example/oxalis/oxalis/Rect", name := "<init>", desc := "(IIII)V" } : Jvm.MethodName) prog_48_method_1_code (5 : Nat) (Option.none : Option Jvm.ClassFile.FieldType)).before a0 Z = true := hw _ (List.mem_of_getElem? (i := 5) rfl)
theorem w6 {Z : State} {a0 : Array Value} (hw : ∀ d ∈ tables_1, d.before a0 Z = true) : (Jvm.Cond.methodLink "com/example/oxalis/oxalis/Rect" (1 : Nat) ({ cls := "java/lang/Object", name := "<init>", desc := "()V" } : Jvm.MethodName)).before a0 Z = true := hw _ (List.mem_of_getElem? (i := 6) rfl)
theorem w7 {Z : State} {a0 : Array Value} (hw : ∀ d ∈ tables_1, d.before a0 Z = true) : (Jvm.Cond.instanceMethod ({ cls := "java/lang/Object", name := "<init>", desc := "()V" } : Jvm.MethodName)).before a0 Z = true := hw _ (List.mem_of_getElem? (i := 7) rfl)
theorem w8 {Z : State} {a0 : Array Value} (hw : ∀ d ∈ tables_1, d.before a0 Z = true) : (Jvm.Cond.code ({ cls := "java/lang/Object", name := "<init>", desc := "()V" } : Jvm.MethodName) object_method_1_code (1 : Nat) (Option.none : Option Jvm.ClassFile.FieldType)).before a0 Z = true := hw _ (List.mem_of_getElem? (i := 8) rfl)
theorem w9 {Z : State} {a0 : Array Value} (hw : ∀ d ∈ tables_1, d.before a0 Z = true) : (Jvm.Cond.fieldLink "com/example/oxalis/oxalis/Rect" (7 : Nat) "com/example/oxalis/oxalis/Rect" "left" "I").before a0 Z = true := hw _ (List.mem_of_getElem? (i := 9) rfl)
theorem w10 {Z : State} {a0 : Array Value} (hw : ∀ d ∈ tables_1, d.before a0 Z = true) : (Jvm.Cond.laysFinal "com/example/oxalis/oxalis/Rect" "com/example/oxalis/oxalis/Rect" "left" "I").before a0 Z = true := hw _ (List.mem_of_getElem? (i := 10) rfl)
theorem w11 {Z : State} {a0 : Array Value} (hw : ∀ d ∈ tables_1, d.before a0 Z = true) : (Jvm.Cond.fieldLink "com/example/oxalis/oxalis/Rect" (13 : Nat) "com/example/oxalis/oxalis/Rect" "top" "I").before a0 Z = true := hw _ (List.mem_of_getElem? (i := 11) rfl)
theorem w12 {Z : State} {a0 : Array Value} (hw : ∀ d ∈ tables_1, d.before a0 Z = true) : (Jvm.Cond.laysFinal "com/example/oxalis/oxalis/Rect" "com/example/oxalis/oxalis/Rect" "top" "I").before a0 Z = true := hw _ (List.mem_of_getElem? (i := 12) rfl)
theorem w13 {Z : State} {a0 : Array Value} (hw : ∀ d ∈ tables_1, d.before a0 Z = true) : (Jvm.Cond.fieldLink "com/example/oxalis/oxalis/Rect" (16 : Nat) "com/example/oxalis/oxalis/Rect" "right" "I").before a0 Z = true := hw _ (List.mem_of_getElem? (i := 13) rfl)
theorem w14 {Z : State} {a0 : Array Value} (hw : ∀ d ∈ tables_1, d.before a0 Z = true) : (Jvm.Cond.laysFinal "com/example/oxalis/oxalis/Rect" "com/example/oxalis/oxalis/Rect" "right" "I").before a0 Z = true := hw _ (List.mem_of_getElem? (i := 14) rfl)
theorem w15 {Z : State} {a0 : Array Value} (hw : ∀ d ∈ tables_1, d.before a0 Z = true) : (Jvm.Cond.fieldLink "com/example/oxalis/oxalis/Rect" (19 : Nat) "com/example/oxalis/oxalis/Rect" "bottom" "I").before a0 Z = true := hw _ (List.mem_of_getElem? (i := 15) rfl)
theorem w16 {Z : State} {a0 : Array Value} (hw : ∀ d ∈ tables_1, d.before a0 Z = true) : (Jvm.Cond.laysFinal "com/example/oxalis/oxalis/Rect" "com/example/oxalis/oxalis/Rect" "bottom" "I").before a0 Z = true := hw _ (List.mem_of_getElem? (i := 16) rfl)
theorem w17 {Z : State} {a0 : Array Value} (hw : ∀ d ∈ tables_1, d.before a0 Z = true) : (Jvm.Cond.methodLink "com/example/oxalis/oxalis/RectIsEmptyPinLaw" (12 : Nat) ({ cls := "com/example/oxalis/oxalis/Rect", name := "isEmpty", desc := "()Z" } : Jvm.MethodName)).before a0 Z = true := hw _ (List.mem_of_getElem? (i := 17) rfl)
theorem w18 {Z : State} {a0 : Array Value} (hw : ∀ d ∈ tables_1, d.before a0 Z = true) : (Jvm.Cond.declares ({ cls := "com/example/oxalis/oxalis/Rect", name := "isEmpty", desc := "()Z" } : Jvm.MethodName)).before a0 Z = true := hw _ (List.mem_of_getElem? (i := 18) rfl)
theorem w19 {Z : State} {a0 : Array Value} (hw : ∀ d ∈ tables_1, d.before a0 Z = true) : (Jvm.Cond.instanceMethod ({ cls := "com/example/oxalis/oxalis/Rect", name := "isEmpty", desc := "()Z" } : Jvm.MethodName)).before a0 Z = true := hw _ (List.mem_of_getElem? (i := 19) rfl)
theorem w20 {Z : State} {a0 : Array Value} (hw : ∀ d ∈ tables_1, d.before a0 Z = true) : (Jvm.Cond.selects "com/example/oxalis/oxalis/Rect" ({ cls := "com/example/oxalis/oxalis/Rect", name := "isEmpty", desc := "()Z" } : Jvm.MethodName) ({ cls := "com/example/oxalis/oxalis/Rect", name := "isEmpty", desc := "()Z" } : Jvm.MethodName)).before a0 Z = true := hw _ (List.mem_of_getElem? (i := 20) rfl)
theorem w21 {Z : State} {a0 : Array Value} (hw : ∀ d ∈ tables_1, d.before a0 Z = true) : (Jvm.Cond.code ({ cls := "com/example/oxalis/oxalis/Rect", name := "isEmpty", desc := "()Z" } : Jvm.MethodName) prog_48_method_6_code (1 : Nat) (Option.some Jvm.ClassFile.FieldType.boolean)).before a0 Z = true := hw _ (List.mem_of_getElem? (i := 21) rfl)
theorem d1_0 : decode prog_48_method_1_code 0 = .ok (.aload_n 0, 1) := by decide +kernel
theorem d1_1 : decode prog_48_method_1_code 1 = .ok (.invokespecial 1, 3) := by decide +kernel
theorem d1_4 : decode prog_48_method_1_code 4 = .ok (.aload_n 0, 1) := by decide +kernel
theorem d1_5 : decode prog_48_method_1_code 5 = .ok (.iload_n 1, 1) := by decide +kernel
theorem d1_6 : decode prog_48_method_1_code 6 = .ok (.putfield 7, 3) := by decide +kernel
theorem d1_9 : decode prog_48_method_1_code 9 = .ok (.aload_n 0, 1) := by decide +kernel
theorem d1_10 : decode prog_48_method_1_code 10 = .ok (.iload_n 2, 1) := by decide +kernel
theorem d1_11 : decode prog_48_method_1_code 11 = .ok (.putfield 13, 3) := by decide +kernel
theorem d1_14 : decode prog_48_method_1_code 14 = .ok (.aload_n 0, 1) := by decide +kernel
theorem d1_15 : decode prog_48_method_1_code 15 = .ok (.iload_n 3, 1) := by decide +kernel
theorem d1_16 : decode prog_48_method_1_code 16 = .ok (.putfield 16, 3) := by decide +kernel
theorem d1_19 : decode prog_48_method_1_code 19 = .ok (.aload_n 0, 1) := by decide +kernel
theorem d1_20 : decode prog_48_method_1_code 20 = .ok (.iload 4, 2) := by decide +kernel
theorem d1_22 : decode prog_48_method_1_code 22 = .ok (.putfield 19, 3) := by decide +kernel
theorem d1_25 : decode prog_48_method_1_code 25 = .ok (.return_, 1) := by decide +kernel
theorem d3_0 : decode prog_48_method_6_code 0 = .ok (.aload_n 0, 1) := by decide +kernel
theorem d3_1 : decode prog_48_method_6_code 1 = .ok (.getfield 7, 3) := by decide +kernel
theorem d3_4 : decode prog_48_method_6_code 4 = .ok (.aload_n 0, 1) := by decide +kernel
theorem d3_5 : decode prog_48_method_6_code 5 = .ok (.getfield 16, 3) := by decide +kernel
theorem d3_8 : decode prog_48_method_6_code 8 = .ok (.if_icmp .ge 14, 3) := by decide +kernel
theorem d3_11 : decode prog_48_method_6_code 11 = .ok (.aload_n 0, 1) := by decide +kernel
theorem d3_12 : decode prog_48_method_6_code 12 = .ok (.getfield 13, 3) := by decide +kernel
theorem d3_15 : decode prog_48_method_6_code 15 = .ok (.aload_n 0, 1) := by decide +kernel
theorem d3_16 : decode prog_48_method_6_code 16 = .ok (.getfield 19, 3) := by decide +kernel
theorem d3_19 : decode prog_48_method_6_code 19 = .ok (.if_icmp .lt 7, 3) := by decide +kernel
theorem d3_22 : decode prog_48_method_6_code 22 = .ok (.iconst 1, 1) := by decide +kernel
theorem d3_23 : decode prog_48_method_6_code 23 = .ok (.goto 4, 3) := by decide +kernel
theorem d3_26 : decode prog_48_method_6_code 26 = .ok (.iconst 0, 1) := by decide +kernel
theorem d3_27 : decode prog_48_method_6_code 27 = .ok (.ireturn, 1) := by decide +kernel
theorem pd0 : parseMethodDescriptor "(IIII)V" = some ⟨[.int, .int, .int, .int], none⟩ := by decide +kernel
theorem pd1 : parseMethodDescriptor "()Z" = some ⟨[], some .boolean⟩ := by decide +kernel
theorem pn0 : plainName "com/example/oxalis/oxalis/Rect" = true := by first | (simp [plainName, overriddenIn]; done) | decide +kernel
theorem pn1 : plainName "com/example/oxalis/oxalis/RectIsEmptyPinLaw" = true := by first | (simp [plainName, overriddenIn]; done) | decide +kernel
theorem own_lay_0 {Z : State} {a0 : Array Value} (hw : ∀ d ∈ tables_1, d.before a0 Z = true) : ∀ f ∈ ([("left", "I", (.int (0 : Int32))), ("top", "I", (.int (0 : Int32))), ("right", "I", (.int (0 : Int32))), ("bottom", "I", (.int (0 : Int32)))] : List (String × String × Value)), Laid Z a0 "com/example/oxalis/oxalis/Rect" "com/example/oxalis/oxalis/Rect" f.1 f.2.1 ∧ ∃ ty, parseFieldDescriptor f.2.1 = some ty ∧ f.2.2 = defaultValue ty := by
  intro f hf
  simp only [List.mem_cons, List.not_mem_nil, or_false] at hf
  rcases hf with rfl | rfl | rfl | rfl
  · exact ⟨Or.inr (w10 hw), .int, by decide, rfl⟩
  · exact ⟨Or.inr (w12 hw), .int, by decide, rfl⟩
  · exact ⟨Or.inr (w14 hw), .int, by decide, rfl⟩
  · exact ⟨Or.inr (w16 hw), .int, by decide, rfl⟩
theorem ef_rm1 (m : MethodId) (a : Addr) (x0 : Int32) (x1 : Int32) (x2 : Int32) (x3 : Int32) : entryFrame m #[(.ref a), (.int x0), (.int x1), (.int x2), (.int x3)] 5 = (mkF m 0 #[.val (.ref a), .val (.int x0), .val (.int x1), .val (.int x2), .val (.int x3)] []) := by first | (simp [entryFrame, mkF, argsToLocals, Value.category]; done) | rfl
set_option maxRecDepth 65536 in
set_option maxHeartbeats 40000000 in
theorem rm1 (l : Launch) (Z : State) (a0 : Array Value) (hw : ∀ d ∈ tables_1, d.before a0 Z = true) (n0 : Nat) (a : Addr) (x0 : Int32) (x1 : Int32) (x2 : Int32) (x3 : Int32) (Dr : List (Addr × Itm)) :
    Con l Z n0 (⟨"com/example/oxalis/oxalis/Rect", "<init>", "(IIII)V"⟩ : MethodName) prog_48_method_1_code 5 none ({ frames := 1, cells := 0, slots := 0, locals := 12 } : Room) #[(.ref a), (.int x0), (.int x1), (.int x2), (.int x3)] ((ob a own_C0 (own_F0 (.int (0 : Int32)) (.int (0 : Int32)) (.int (0 : Int32)) (.int (0 : Int32)))) :: Dr) (fun v D' => v = none ∧ D' = ((ob a own_C0 (own_F0 (.int x0) (.int x1) (.int x2) (.int x3))) :: Dr)) := by
  refine Con.of (plainFor_of_name pn0) ?_
  intro p e s m below meth c T cx Y
  obtain ⟨hx, hby, hml, hown, hnm, hret, hlk, hZ⟩ := cx
  rw [ef_rm1]
  generalize hF : Fi Z n0 below s _ _ _ = F
  refine Rn.go (T' := T) (g' := (mkF m 1 #[.val (.ref a), .val (.int x0), .val (.int x1), .val (.int x2), .val (.int x3)] [(.ref a)])) (fun t k => ?_) ?_
  · show Steps p.tables e below (T.setTop (mkF m 0 #[.val (.ref a), .val (.int x0), .val (.int x1), .val (.int x2), .val (.int x3)] [])) t
    refine XS.aloadN Y.here hx rfl (hb hby d1_0) rfl rfl ?_
    show Steps p.tables e below (T.setTop (mkF m 1 #[.val (.ref a), .val (.int x0), .val (.int x1), .val (.int x2), .val (.int x3)] [(.ref a)])) t
    exact k
  refine On.ini Y hx hZ hown (w6 hw) (w7 hw) (w8 hw) (g := (mkF m 1 #[.val (.ref a), .val (.int x0), .val (.int x1), .val (.int x2), .val (.int x3)] [(.ref a)])) rfl (by rw [hml]; rfl) rfl (hb hby d1_1) (by decide) (W := 0) (by show 2 * 0 + _ ≤ _; exact Nat.le_of_eq rfl) (by decide) fun T1 Y2 => ?_
  show Rn p e below F T1 (mkF m 4 #[.val (.ref a), .val (.int x0), .val (.int x1), .val (.int x2), .val (.int x3)] [])
  refine Rn.go (T' := T1) (g' := (mkF m 6 #[.val (.ref a), .val (.int x0), .val (.int x1), .val (.int x2), .val (.int x3)] [(.int x0), (.ref a)])) (fun t k => ?_) ?_
  · show Steps p.tables e below (T1.setTop (mkF m 4 #[.val (.ref a), .val (.int x0), .val (.int x1), .val (.int x2), .val (.int x3)] [])) t
    refine XS.aloadN Y2.here hx rfl (hb hby d1_4) rfl rfl ?_
    show Steps p.tables e below (T1.setTop (mkF m 5 #[.val (.ref a), .val (.int x0), .val (.int x1), .val (.int x2), .val (.int x3)] [(.ref a)])) t
    refine XS.iloadN Y2.here hx rfl (hb hby d1_5) rfl ?_
    show Steps p.tables e below (T1.setTop (mkF m 6 #[.val (.ref a), .val (.int x0), .val (.int x1), .val (.int x2), .val (.int x3)] [(.int x0), (.ref a)])) t
    exact k
  refine On.putf Y2 hx hZ hown (w9 hw) (i := 0) (j := 0) rfl rfl (Or.inr ⟨(w10 hw), rfl, hnm⟩) (w1 hw) (ty := .int) (by decide) (v' := (.int x0)) rfl rfl (g := (mkF m 6 #[.val (.ref a), .val (.int x0), .val (.int x1), .val (.int x2), .val (.int x3)] [(.int x0), (.ref a)])) rfl rfl (hb hby d1_6) fun T3 Y4 => ?_
  replace Y4 : On p l e _ s m _ below meth c Z n0 T3 0 0 ((ob a own_C0 (own_F0 (.int x0) (.int (0 : Int32)) (.int (0 : Int32)) (.int (0 : Int32)))) :: Dr) := Y4
  show Rn p e below F T3 (mkF m 9 #[.val (.ref a), .val (.int x0), .val (.int x1), .val (.int x2), .val (.int x3)] [])
  refine Rn.go (T' := T3) (g' := (mkF m 11 #[.val (.ref a), .val (.int x0), .val (.int x1), .val (.int x2), .val (.int x3)] [(.int x1), (.ref a)])) (fun t k => ?_) ?_
  · show Steps p.tables e below (T3.setTop (mkF m 9 #[.val (.ref a), .val (.int x0), .val (.int x1), .val (.int x2), .val (.int x3)] [])) t
    refine XS.aloadN Y4.here hx rfl (hb hby d1_9) rfl rfl ?_
    show Steps p.tables e below (T3.setTop (mkF m 10 #[.val (.ref a), .val (.int x0), .val (.int x1), .val (.int x2), .val (.int x3)] [(.ref a)])) t
    refine XS.iloadN Y4.here hx rfl (hb hby d1_10) rfl ?_
    show Steps p.tables e below (T3.setTop (mkF m 11 #[.val (.ref a), .val (.int x0), .val (.int x1), .val (.int x2), .val (.int x3)] [(.int x1), (.ref a)])) t
    exact k
  refine On.putf Y4 hx hZ hown (w11 hw) (i := 0) (j := 1) rfl rfl (Or.inr ⟨(w12 hw), rfl, hnm⟩) (w1 hw) (ty := .int) (by decide) (v' := (.int x1)) rfl rfl (g := (mkF m 11 #[.val (.ref a), .val (.int x0), .val (.int x1), .val (.int x2), .val (.int x3)] [(.int x1), (.ref a)])) rfl rfl (hb hby d1_11) fun T5 Y6 => ?_
  replace Y6 : On p l e _ s m _ below meth c Z n0 T5 0 0 ((ob a own_C0 (own_F0 (.int x0) (.int x1) (.int (0 : Int32)) (.int (0 : Int32)))) :: Dr) := Y6
  show Rn p e below F T5 (mkF m 14 #[.val (.ref a), .val (.int x0), .val (.int x1), .val (.int x2), .val (.int x3)] [])
  refine Rn.go (T' := T5) (g' := (mkF m 16 #[.val (.ref a), .val (.int x0), .val (.int x1), .val (.int x2), .val (.int x3)] [(.int x2), (.ref a)])) (fun t k => ?_) ?_
  · show Steps p.tables e below (T5.setTop (mkF m 14 #[.val (.ref a), .val (.int x0), .val (.int x1), .val (.int x2), .val (.int x3)] [])) t
    refine XS.aloadN Y6.here hx rfl (hb hby d1_14) rfl rfl ?_
    show Steps p.tables e below (T5.setTop (mkF m 15 #[.val (.ref a), .val (.int x0), .val (.int x1), .val (.int x2), .val (.int x3)] [(.ref a)])) t
    refine XS.iloadN Y6.here hx rfl (hb hby d1_15) rfl ?_
    show Steps p.tables e below (T5.setTop (mkF m 16 #[.val (.ref a), .val (.int x0), .val (.int x1), .val (.int x2), .val (.int x3)] [(.int x2), (.ref a)])) t
    exact k
  refine On.putf Y6 hx hZ hown (w13 hw) (i := 0) (j := 2) rfl rfl (Or.inr ⟨(w14 hw), rfl, hnm⟩) (w1 hw) (ty := .int) (by decide) (v' := (.int x2)) rfl rfl (g := (mkF m 16 #[.val (.ref a), .val (.int x0), .val (.int x1), .val (.int x2), .val (.int x3)] [(.int x2), (.ref a)])) rfl rfl (hb hby d1_16) fun T7 Y8 => ?_
  replace Y8 : On p l e _ s m _ below meth c Z n0 T7 0 0 ((ob a own_C0 (own_F0 (.int x0) (.int x1) (.int x2) (.int (0 : Int32)))) :: Dr) := Y8
  show Rn p e below F T7 (mkF m 19 #[.val (.ref a), .val (.int x0), .val (.int x1), .val (.int x2), .val (.int x3)] [])
  refine Rn.go (T' := T7) (g' := (mkF m 22 #[.val (.ref a), .val (.int x0), .val (.int x1), .val (.int x2), .val (.int x3)] [(.int x3), (.ref a)])) (fun t k => ?_) ?_
  · show Steps p.tables e below (T7.setTop (mkF m 19 #[.val (.ref a), .val (.int x0), .val (.int x1), .val (.int x2), .val (.int x3)] [])) t
    refine XS.aloadN Y8.here hx rfl (hb hby d1_19) rfl rfl ?_
    show Steps p.tables e below (T7.setTop (mkF m 20 #[.val (.ref a), .val (.int x0), .val (.int x1), .val (.int x2), .val (.int x3)] [(.ref a)])) t
    refine XS.iload Y8.here hx rfl (hb hby d1_20) rfl ?_
    show Steps p.tables e below (T7.setTop (mkF m 22 #[.val (.ref a), .val (.int x0), .val (.int x1), .val (.int x2), .val (.int x3)] [(.int x3), (.ref a)])) t
    exact k
  refine On.putf Y8 hx hZ hown (w15 hw) (i := 0) (j := 3) rfl rfl (Or.inr ⟨(w16 hw), rfl, hnm⟩) (w1 hw) (ty := .int) (by decide) (v' := (.int x3)) rfl rfl (g := (mkF m 22 #[.val (.ref a), .val (.int x0), .val (.int x1), .val (.int x2), .val (.int x3)] [(.int x3), (.ref a)])) rfl rfl (hb hby d1_22) fun T9 Y10 => ?_
  replace Y10 : On p l e _ s m _ below meth c Z n0 T9 0 0 ((ob a own_C0 (own_F0 (.int x0) (.int x1) (.int x2) (.int x3))) :: Dr) := Y10
  show Rn p e below F T9 (mkF m 25 #[.val (.ref a), .val (.int x0), .val (.int x1), .val (.int x2), .val (.int x3)] [])
  rw [← hF]; exact On.retv Y10 hx hret hlk (hb hby d1_25) (by decide) (by decide) ⟨rfl, rfl⟩
theorem ef_rm3 (m : MethodId) (a : Addr) : entryFrame m #[(.ref a)] 1 = (mkF m 0 #[.val (.ref a)] []) := by first | (simp [entryFrame, mkF, argsToLocals, Value.category]; done) | rfl
set_option maxRecDepth 65536 in
set_option maxHeartbeats 40000000 in
theorem rm3 (l : Launch) (Z : State) (a0 : Array Value) (hw : ∀ d ∈ tables_1, d.before a0 Z = true) (n0 : Nat) (a : Addr) (x0 : Int32) (x1 : Int32) (x2 : Int32) (x3 : Int32) (Dr : List (Addr × Itm)) :
    Con l Z n0 (⟨"com/example/oxalis/oxalis/Rect", "isEmpty", "()Z"⟩ : MethodName) prog_48_method_6_code 1 (some .boolean) ({ frames := 0, cells := 0, slots := 0, locals := 0 } : Room) #[(.ref a)] ((ob a own_C0 (own_F0 (.int x0) (.int x1) (.int x2) (.int x3))) :: Dr) (fun v D' => v = some (.int (if x0 < x2 then (if x1 < x3 then (0 : Int32) else 1) else 1)) ∧ D' = ((ob a own_C0 (own_F0 (.int x0) (.int x1) (.int x2) (.int x3))) :: Dr)) := by
  refine Con.of (plainFor_of_name pn0) ?_
  intro p e s m below meth c T cx Y
  obtain ⟨hx, hby, hml, hown, hnm, hret, hlk, hZ⟩ := cx
  rw [ef_rm3]
  generalize hF : Fi Z n0 below s _ _ _ = F
  refine Rn.go (T' := T) (g' := (mkF m 1 #[.val (.ref a)] [(.ref a)])) (fun t k => ?_) ?_
  · show Steps p.tables e below (T.setTop (mkF m 0 #[.val (.ref a)] [])) t
    refine XS.aloadN Y.here hx rfl (hb hby d3_0) rfl rfl ?_
    show Steps p.tables e below (T.setTop (mkF m 1 #[.val (.ref a)] [(.ref a)])) t
    exact k
  refine On.getf Y hx hZ hown (w9 hw) (i := 0) (j := 0) rfl rfl (g := (mkF m 1 #[.val (.ref a)] [(.ref a)])) rfl rfl (hb hby d3_1) fun T1 Y2 => ?_
  show Rn p e below F T1 (mkF m 4 #[.val (.ref a)] [(.int x0)])
  refine Rn.go (T' := T1) (g' := (mkF m 5 #[.val (.ref a)] [(.ref a), (.int x0)])) (fun t k => ?_) ?_
  · show Steps p.tables e below (T1.setTop (mkF m 4 #[.val (.ref a)] [(.int x0)])) t
    refine XS.aloadN Y2.here hx rfl (hb hby d3_4) rfl rfl ?_
    show Steps p.tables e below (T1.setTop (mkF m 5 #[.val (.ref a)] [(.ref a), (.int x0)])) t
    exact k
  refine On.getf Y2 hx hZ hown (w13 hw) (i := 0) (j := 2) rfl rfl (g := (mkF m 5 #[.val (.ref a)] [(.ref a), (.int x0)])) rfl rfl (hb hby d3_5) fun T3 Y4 => ?_
  show Rn p e below F T3 (mkF m 8 #[.val (.ref a)] [(.int x2), (.int x0)])
  by_cases hc8 : x0 < x2
  · refine Rn.go (T' := T3) (g' := (mkF m 11 #[.val (.ref a)] [])) (fun t k => XS.icmpNo Y4.here hx rfl (hb hby d3_8) rfl (tlt hc8).2.1 k) ?_
    refine Rn.go (T' := T3) (g' := (mkF m 12 #[.val (.ref a)] [(.ref a)])) (fun t k => ?_) ?_
    · show Steps p.tables e below (T3.setTop (mkF m 11 #[.val (.ref a)] [])) t
      refine XS.aloadN Y4.here hx rfl (hb hby d3_11) rfl rfl ?_
      show Steps p.tables e below (T3.setTop (mkF m 12 #[.val (.ref a)] [(.ref a)])) t
      exact k
    refine On.getf Y4 hx hZ hown (w11 hw) (i := 0) (j := 1) rfl rfl (g := (mkF m 12 #[.val (.ref a)] [(.ref a)])) rfl rfl (hb hby d3_12) fun T5 Y6 => ?_
    show Rn p e below F T5 (mkF m 15 #[.val (.ref a)] [(.int x1)])
    refine Rn.go (T' := T5) (g' := (mkF m 16 #[.val (.ref a)] [(.ref a), (.int x1)])) (fun t k => ?_) ?_
    · show Steps p.tables e below (T5.setTop (mkF m 15 #[.val (.ref a)] [(.int x1)])) t
      refine XS.aloadN Y6.here hx rfl (hb hby d3_15) rfl rfl ?_
      show Steps p.tables e below (T5.setTop (mkF m 16 #[.val (.ref a)] [(.ref a), (.int x1)])) t
      exact k
    refine On.getf Y6 hx hZ hown (w15 hw) (i := 0) (j := 3) rfl rfl (g := (mkF m 16 #[.val (.ref a)] [(.ref a), (.int x1)])) rfl rfl (hb hby d3_16) fun T7 Y8 => ?_
    show Rn p e below F T7 (mkF m 19 #[.val (.ref a)] [(.int x3), (.int x1)])
    by_cases hc19 : x1 < x3
    · refine Rn.go (T' := T7) (g' := (mkF m 26 #[.val (.ref a)] [])) (fun t k => XS.icmpYes Y8.here hx rfl (pc0 := 19) (pc' := 26) rfl (hb hby d3_19) rfl (tlt hc19).1 (by decide) (by decide) k) ?_
      refine Rn.go (T' := T7) (g' := (mkF m 27 #[.val (.ref a)] [(.int (0 : Int32))])) (fun t k => ?_) ?_
      · show Steps p.tables e below (T7.setTop (mkF m 26 #[.val (.ref a)] [])) t
        refine XS.iconst Y8.here hx rfl (hb hby d3_26) ?_
        show Steps p.tables e below (T7.setTop (mkF m 27 #[.val (.ref a)] [(.int (0 : Int32))])) t
        exact k
      rw [← hF]; exact On.retn Y8 hx hret (by simp) hlk (z' := (0 : Int32)) (by decide) (hb hby d3_27) (by decide) (by decide) ⟨by simp [hc8, hc19], rfl⟩
    · refine Rn.go (T' := T7) (g' := (mkF m 22 #[.val (.ref a)] [])) (fun t k => XS.icmpNo Y8.here hx rfl (hb hby d3_19) rfl (flt hc19).1 k) ?_
      refine Rn.go (T' := T7) (g' := (mkF m 27 #[.val (.ref a)] [(.int (1 : Int32))])) (fun t k => ?_) ?_
      · show Steps p.tables e below (T7.setTop (mkF m 22 #[.val (.ref a)] [])) t
        refine XS.iconst Y8.here hx rfl (hb hby d3_22) ?_
        show Steps p.tables e below (T7.setTop (mkF m 23 #[.val (.ref a)] [(.int (1 : Int32))])) t
        refine XS.goto Y8.here hx rfl (pc0 := 23) (pc' := 27) rfl (hb hby d3_23) (by decide) (by decide) ?_
        show Steps p.tables e below (T7.setTop (mkF m 27 #[.val (.ref a)] [(.int (1 : Int32))])) t
        exact k
      rw [← hF]; exact On.retn Y8 hx hret (by simp) hlk (z' := (1 : Int32)) (by decide) (hb hby d3_27) (by decide) (by decide) ⟨by simp [hc8, hc19], rfl⟩
  · refine Rn.go (T' := T3) (g' := (mkF m 22 #[.val (.ref a)] [])) (fun t k => XS.icmpYes Y4.here hx rfl (pc0 := 8) (pc' := 22) rfl (hb hby d3_8) rfl (flt hc8).2.1 (by decide) (by decide) k) ?_
    refine Rn.go (T' := T3) (g' := (mkF m 27 #[.val (.ref a)] [(.int (1 : Int32))])) (fun t k => ?_) ?_
    · show Steps p.tables e below (T3.setTop (mkF m 22 #[.val (.ref a)] [])) t
      refine XS.iconst Y4.here hx rfl (hb hby d3_22) ?_
      show Steps p.tables e below (T3.setTop (mkF m 23 #[.val (.ref a)] [(.int (1 : Int32))])) t
      refine XS.goto Y4.here hx rfl (pc0 := 23) (pc' := 27) rfl (hb hby d3_23) (by decide) (by decide) ?_
      show Steps p.tables e below (T3.setTop (mkF m 27 #[.val (.ref a)] [(.int (1 : Int32))])) t
      exact k
    rw [← hF]; exact On.retn Y4 hx hret (by simp) hlk (z' := (1 : Int32)) (by decide) (hb hby d3_27) (by decide) (by decide) ⟨by simp [hc8], rfl⟩
theorem ef_rm0 (m : MethodId) (p0 : Int32) (p1 : Int32) (p2 : Int32) (p3 : Int32) (p4 : Int32) (p5 : Int32) : entryFrame m #[(.int p0), (.int p1), (.int p2), (.int p3), (.int p4), (.int p5)] maxLocals = (mkF m 0 #[.val (.int p0), .val (.int p1), .val (.int p2), .val (.int p3), .val (.int p4), .val (.int p5), .unset, .unset, .unset, .unset, .unset, .unset, .unset, .unset] []) := by first | (simp [entryFrame, mkF, argsToLocals, Value.category, maxLocals]; done) | rfl
set_option maxRecDepth 65536 in
set_option maxHeartbeats 40000000 in
theorem rm0 (l : Launch) (Z : State) (a0 : Array Value) (hw : ∀ d ∈ tables_1, d.before a0 Z = true) (n0 : Nat) (p0 : Int32) (p1 : Int32) (p2 : Int32) (p3 : Int32) (p4 : Int32) (p5 : Int32) :
    Con l Z n0 x code maxLocals ret room_1 #[(.int p0), (.int p1), (.int p2), (.int p3), (.int p4), (.int p5)] [] (fun v _ => v = some (.int 1)) := by
  refine Con.of (plainFor_of_name pn1) ?_
  intro p e s m below meth c T cx Y
  obtain ⟨hx, hby, hml, hown, hnm, hret, hlk, hZ⟩ := cx
  rw [ef_rm0]
  generalize hF : Fi Z n0 below s _ _ _ = F
  refine On.newo Y hx hZ hown (w0 hw) (w1 hw) (w2 hw) _ (own_lay_0 hw) (by decide) (g := (mkF m 0 #[.val (.int p0), .val (.int p1), .val (.int p2), .val (.int p3), .val (.int p4), .val (.int p5), .unset, .unset, .unset, .unset, .unset, .unset, .unset, .unset] [])) rfl (hb hby at_0) (by decide) (by decide) fun T1 a3 Y2 => ?_
  replace Y2 : On p l e _ s m _ below meth c Z n0 T1 1 4 [ob a3 own_C0 (own_F0 (.int (0 : Int32)) (.int (0 : Int32)) (.int (0 : Int32)) (.int (0 : Int32)))] := Y2
  show Rn p e below F T1 (mkF m 3 #[.val (.int p0), .val (.int p1), .val (.int p2), .val (.int p3), .val (.int p4), .val (.int p5), .unset, .unset, .unset, .unset, .unset, .unset, .unset, .unset] [(.ref a3)])
  refine Rn.go (T' := T1) (g' := (mkF m 8 #[.val (.int p0), .val (.int p1), .val (.int p2), .val (.int p3), .val (.int p4), .val (.int p5), .unset, .unset, .unset, .unset, .unset, .unset, .unset, .unset] [(.int p3), (.int p2), (.int p1), (.int p0), (.ref a3), (.ref a3)])) (fun t k => ?_) ?_
  · show Steps p.tables e below (T1.setTop (mkF m 3 #[.val (.int p0), .val (.int p1), .val (.int p2), .val (.int p3), .val (.int p4), .val (.int p5), .unset, .unset, .unset, .unset, .unset, .unset, .unset, .unset] [(.ref a3)])) t
    refine XS.dup Y2.here hx rfl (hb hby at_3) rfl rfl ?_
    show Steps p.tables e below (T1.setTop (mkF m 4 #[.val (.int p0), .val (.int p1), .val (.int p2), .val (.int p3), .val (.int p4), .val (.int p5), .unset, .unset, .unset, .unset, .unset, .unset, .unset, .unset] [(.ref a3), (.ref a3)])) t
    refine XS.iloadN Y2.here hx rfl (hb hby at_4) rfl ?_
    show Steps p.tables e below (T1.setTop (mkF m 5 #[.val (.int p0), .val (.int p1), .val (.int p2), .val (.int p3), .val (.int p4), .val (.int p5), .unset, .unset, .unset, .unset, .unset, .unset, .unset, .unset] [(.int p0), (.ref a3), (.ref a3)])) t
    refine XS.iloadN Y2.here hx rfl (hb hby at_5) rfl ?_
    show Steps p.tables e below (T1.setTop (mkF m 6 #[.val (.int p0), .val (.int p1), .val (.int p2), .val (.int p3), .val (.int p4), .val (.int p5), .unset, .unset, .unset, .unset, .unset, .unset, .unset, .unset] [(.int p1), (.int p0), (.ref a3), (.ref a3)])) t
    refine XS.iloadN Y2.here hx rfl (hb hby at_6) rfl ?_
    show Steps p.tables e below (T1.setTop (mkF m 7 #[.val (.int p0), .val (.int p1), .val (.int p2), .val (.int p3), .val (.int p4), .val (.int p5), .unset, .unset, .unset, .unset, .unset, .unset, .unset, .unset] [(.int p2), (.int p1), (.int p0), (.ref a3), (.ref a3)])) t
    refine XS.iloadN Y2.here hx rfl (hb hby at_7) rfl ?_
    show Steps p.tables e below (T1.setTop (mkF m 8 #[.val (.int p0), .val (.int p1), .val (.int p2), .val (.int p3), .val (.int p4), .val (.int p5), .unset, .unset, .unset, .unset, .unset, .unset, .unset, .unset] [(.int p3), (.int p2), (.int p1), (.int p0), (.ref a3), (.ref a3)])) t
    exact k
  refine On.special Y2 hx hZ (y := (⟨"com/example/oxalis/oxalis/Rect", "<init>", "(IIII)V"⟩ : MethodName)) rfl hown (w3 hw) (w4 hw) (w5 hw) (w2 hw) (by decide) (a := a3) (argsL := [(.int p0), (.int p1), (.int p2), (.int p3)]) (rest := [(.ref a3)]) (rm1 l Z a0 hw n0 a3 p0 p1 p2 p3 []) (W := 1) (by decide) (by decide) (by decide) (by decide) (g := (mkF m 8 #[.val (.int p0), .val (.int p1), .val (.int p2), .val (.int p3), .val (.int p4), .val (.int p5), .unset, .unset, .unset, .unset, .unset, .unset, .unset, .unset] [(.int p3), (.int p2), (.int p1), (.int p0), (.ref a3), (.ref a3)])) rfl (by rw [hml]; rfl) (lenOf pd0 rfl) rfl (by show 2 * 0 + _ ≤ _; exact Nat.le_of_eq rfl) (hb hby at_8) ?_
  intro T4 u6 D7 hp8 Y5
  obtain ⟨rfl, rfl⟩ := hp8
  replace Y5 : On p l e _ s m _ below meth c Z n0 T4 1 4 [ob a3 own_C0 (own_F0 (.int p0) (.int p1) (.int p2) (.int p3))] := Y5
  show Rn p e below F T4 (mkF m 11 #[.val (.int p0), .val (.int p1), .val (.int p2), .val (.int p3), .val (.int p4), .val (.int p5), .unset, .unset, .unset, .unset, .unset, .unset, .unset, .unset] [(.ref a3)])
  refine Rn.go (T' := T4) (g' := (mkF m 15 #[.val (.int p0), .val (.int p1), .val (.int p2), .val (.int p3), .val (.int p4), .val (.int p5), .val (.ref a3), .unset, .unset, .unset, .unset, .unset, .unset, .unset] [(.ref a3)])) (fun t k => ?_) ?_
  · show Steps p.tables e below (T4.setTop (mkF m 11 #[.val (.int p0), .val (.int p1), .val (.int p2), .val (.int p3), .val (.int p4), .val (.int p5), .unset, .unset, .unset, .unset, .unset, .unset, .unset, .unset] [(.ref a3)])) t
    refine XS.astore Y5.here hx rfl (hb hby at_11) rfl rfl (l' := #[.val (.int p0), .val (.int p1), .val (.int p2), .val (.int p3), .val (.int p4), .val (.int p5), .val (.ref a3), .unset, .unset, .unset, .unset, .unset, .unset, .unset]) rfl ?_
    show Steps p.tables e below (T4.setTop (mkF m 13 #[.val (.int p0), .val (.int p1), .val (.int p2), .val (.int p3), .val (.int p4), .val (.int p5), .val (.ref a3), .unset, .unset, .unset, .unset, .unset, .unset, .unset] [])) t
    refine XS.aload Y5.here hx rfl (hb hby at_13) rfl rfl ?_
    show Steps p.tables e below (T4.setTop (mkF m 15 #[.val (.int p0), .val (.int p1), .val (.int p2), .val (.int p3), .val (.int p4), .val (.int p5), .val (.ref a3), .unset, .unset, .unset, .unset, .unset, .unset, .unset] [(.ref a3)])) t
    exact k
  refine On.virtual Y5 hx hZ (y := (⟨"com/example/oxalis/oxalis/Rect", "isEmpty", "()Z"⟩ : MethodName)) (C := "com/example/oxalis/oxalis/Rect") hown (w17 hw) (w18 hw) (w19 hw) (w20 hw) (w21 hw) (w2 hw) (by decide) (a := a3) (argsL := []) (rest := []) (i := 0) rfl (rm3 l Z a0 hw n0 a3 p0 p1 p2 p3 []) (W := 0) (by decide) (by decide) (by decide) (by decide) (g := (mkF m 15 #[.val (.int p0), .val (.int p1), .val (.int p2), .val (.int p3), .val (.int p4), .val (.int p5), .val (.ref a3), .unset, .unset, .unset, .unset, .unset, .unset, .unset] [(.ref a3)])) rfl (by rw [hml]; rfl) (lenOf pd1 rfl) rfl (by show 2 * 0 + _ ≤ _; exact Nat.le_of_eq rfl) (hb hby at_15) ?_
  intro T9 u11 D12 hp13 Y10
  obtain ⟨r15, hr15, rfl, rfl⟩ : ∃ z : Int32, z = (if p0 < p2 then (if p1 < p3 then (0 : Int32) else 1) else 1) ∧ u11 = some (.int z) ∧ D12 = _ := ⟨_, rfl, hp13.1, hp13.2⟩
  replace Y10 : On p l e _ s m _ below meth c Z n0 T9 1 4 [ob a3 own_C0 (own_F0 (.int p0) (.int p1) (.int p2) (.int p3))] := Y10
  show Rn p e below F T9 (mkF m 18 #[.val (.int p0), .val (.int p1), .val (.int p2), .val (.int p3), .val (.int p4), .val (.int p5), .val (.ref a3), .unset, .unset, .unset, .unset, .unset, .unset, .unset] [(.int r15)])
  refine Rn.go (T' := T9) (g' := (mkF m 38 #[.val (.int p0), .val (.int p1), .val (.int p2), .val (.int p3), .val (.int p4), .val (.int p5), .val (.ref a3), .val (.int r15), .val (.long ((p2.toInt64) - (p0.toInt64))), .second, .val (.long ((p3.toInt64) - (p1.toInt64))), .second, .unset, .unset] [(.int (lcmpW ((p2.toInt64) - (p0.toInt64)) (0 : Int64)))])) (fun t k => ?_) ?_
  · show Steps p.tables e below (T9.setTop (mkF m 18 #[.val (.int p0), .val (.int p1), .val (.int p2), .val (.int p3), .val (.int p4), .val (.int p5), .val (.ref a3), .unset, .unset, .unset, .unset, .unset, .unset, .unset] [(.int r15)])) t
    refine XS.istore Y10.here hx rfl (hb hby at_18) rfl (l' := #[.val (.int p0), .val (.int p1), .val (.int p2), .val (.int p3), .val (.int p4), .val (.int p5), .val (.ref a3), .val (.int r15), .unset, .unset, .unset, .unset, .unset, .unset]) rfl ?_
    show Steps p.tables e below (T9.setTop (mkF m 20 #[.val (.int p0), .val (.int p1), .val (.int p2), .val (.int p3), .val (.int p4), .val (.int p5), .val (.ref a3), .val (.int r15), .unset, .unset, .unset, .unset, .unset, .unset] [])) t
    refine XS.iloadN Y10.here hx rfl (hb hby at_20) rfl ?_
    show Steps p.tables e below (T9.setTop (mkF m 21 #[.val (.int p0), .val (.int p1), .val (.int p2), .val (.int p3), .val (.int p4), .val (.int p5), .val (.ref a3), .val (.int r15), .unset, .unset, .unset, .unset, .unset, .unset] [(.int p2)])) t
    refine XS.i2l Y10.here hx rfl (hb hby at_21) rfl ?_
    show Steps p.tables e below (T9.setTop (mkF m 22 #[.val (.int p0), .val (.int p1), .val (.int p2), .val (.int p3), .val (.int p4), .val (.int p5), .val (.ref a3), .val (.int r15), .unset, .unset, .unset, .unset, .unset, .unset] [(.long (p2.toInt64))])) t
    refine XS.iloadN Y10.here hx rfl (hb hby at_22) rfl ?_
    show Steps p.tables e below (T9.setTop (mkF m 23 #[.val (.int p0), .val (.int p1), .val (.int p2), .val (.int p3), .val (.int p4), .val (.int p5), .val (.ref a3), .val (.int r15), .unset, .unset, .unset, .unset, .unset, .unset] [(.int p0), (.long (p2.toInt64))])) t
    refine XS.i2l Y10.here hx rfl (hb hby at_23) rfl ?_
    show Steps p.tables e below (T9.setTop (mkF m 24 #[.val (.int p0), .val (.int p1), .val (.int p2), .val (.int p3), .val (.int p4), .val (.int p5), .val (.ref a3), .val (.int r15), .unset, .unset, .unset, .unset, .unset, .unset] [(.long (p0.toInt64)), (.long (p2.toInt64))])) t
    refine XS.lsub Y10.here hx rfl (hb hby at_24) rfl ?_
    show Steps p.tables e below (T9.setTop (mkF m 25 #[.val (.int p0), .val (.int p1), .val (.int p2), .val (.int p3), .val (.int p4), .val (.int p5), .val (.ref a3), .val (.int r15), .unset, .unset, .unset, .unset, .unset, .unset] [(.long ((p2.toInt64) - (p0.toInt64)))])) t
    refine XS.lstore Y10.here hx rfl (hb hby at_25) rfl (l' := #[.val (.int p0), .val (.int p1), .val (.int p2), .val (.int p3), .val (.int p4), .val (.int p5), .val (.ref a3), .val (.int r15), .val (.long ((p2.toInt64) - (p0.toInt64))), .second, .unset, .unset, .unset, .unset]) rfl ?_
    show Steps p.tables e below (T9.setTop (mkF m 27 #[.val (.int p0), .val (.int p1), .val (.int p2), .val (.int p3), .val (.int p4), .val (.int p5), .val (.ref a3), .val (.int r15), .val (.long ((p2.toInt64) - (p0.toInt64))), .second, .unset, .unset, .unset, .unset] [])) t
    refine XS.iloadN Y10.here hx rfl (hb hby at_27) rfl ?_
    show Steps p.tables e below (T9.setTop (mkF m 28 #[.val (.int p0), .val (.int p1), .val (.int p2), .val (.int p3), .val (.int p4), .val (.int p5), .val (.ref a3), .val (.int r15), .val (.long ((p2.toInt64) - (p0.toInt64))), .second, .unset, .unset, .unset, .unset] [(.int p3)])) t
    refine XS.i2l Y10.here hx rfl (hb hby at_28) rfl ?_
    show Steps p.tables e below (T9.setTop (mkF m 29 #[.val (.int p0), .val (.int p1), .val (.int p2), .val (.int p3), .val (.int p4), .val (.int p5), .val (.ref a3), .val (.int r15), .val (.long ((p2.toInt64) - (p0.toInt64))), .second, .unset, .unset, .unset, .unset] [(.long (p3.toInt64))])) t
    refine XS.iloadN Y10.here hx rfl (hb hby at_29) rfl ?_
    show Steps p.tables e below (T9.setTop (mkF m 30 #[.val (.int p0), .val (.int p1), .val (.int p2), .val (.int p3), .val (.int p4), .val (.int p5), .val (.ref a3), .val (.int r15), .val (.long ((p2.toInt64) - (p0.toInt64))), .second, .unset, .unset, .unset, .unset] [(.int p1), (.long (p3.toInt64))])) t
    refine XS.i2l Y10.here hx rfl (hb hby at_30) rfl ?_
    show Steps p.tables e below (T9.setTop (mkF m 31 #[.val (.int p0), .val (.int p1), .val (.int p2), .val (.int p3), .val (.int p4), .val (.int p5), .val (.ref a3), .val (.int r15), .val (.long ((p2.toInt64) - (p0.toInt64))), .second, .unset, .unset, .unset, .unset] [(.long (p1.toInt64)), (.long (p3.toInt64))])) t
    refine XS.lsub Y10.here hx rfl (hb hby at_31) rfl ?_
    show Steps p.tables e below (T9.setTop (mkF m 32 #[.val (.int p0), .val (.int p1), .val (.int p2), .val (.int p3), .val (.int p4), .val (.int p5), .val (.ref a3), .val (.int r15), .val (.long ((p2.toInt64) - (p0.toInt64))), .second, .unset, .unset, .unset, .unset] [(.long ((p3.toInt64) - (p1.toInt64)))])) t
    refine XS.lstore Y10.here hx rfl (hb hby at_32) rfl (l' := #[.val (.int p0), .val (.int p1), .val (.int p2), .val (.int p3), .val (.int p4), .val (.int p5), .val (.ref a3), .val (.int r15), .val (.long ((p2.toInt64) - (p0.toInt64))), .second, .val (.long ((p3.toInt64) - (p1.toInt64))), .second, .unset, .unset]) rfl ?_
    show Steps p.tables e below (T9.setTop (mkF m 34 #[.val (.int p0), .val (.int p1), .val (.int p2), .val (.int p3), .val (.int p4), .val (.int p5), .val (.ref a3), .val (.int r15), .val (.long ((p2.toInt64) - (p0.toInt64))), .second, .val (.long ((p3.toInt64) - (p1.toInt64))), .second, .unset, .unset] [])) t
    refine XS.lload Y10.here hx rfl (hb hby at_34) rfl ?_
    show Steps p.tables e below (T9.setTop (mkF m 36 #[.val (.int p0), .val (.int p1), .val (.int p2), .val (.int p3), .val (.int p4), .val (.int p5), .val (.ref a3), .val (.int r15), .val (.long ((p2.toInt64) - (p0.toInt64))), .second, .val (.long ((p3.toInt64) - (p1.toInt64))), .second, .unset, .unset] [(.long ((p2.toInt64) - (p0.toInt64)))])) t
    refine XS.lconst Y10.here hx rfl (hb hby at_36) ?_
    show Steps p.tables e below (T9.setTop (mkF m 37 #[.val (.int p0), .val (.int p1), .val (.int p2), .val (.int p3), .val (.int p4), .val (.int p5), .val (.ref a3), .val (.int r15), .val (.long ((p2.toInt64) - (p0.toInt64))), .second, .val (.long ((p3.toInt64) - (p1.toInt64))), .second, .unset, .unset] [(.long (0 : Int64)), (.long ((p2.toInt64) - (p0.toInt64)))])) t
    refine XS.lcmp Y10.here hx rfl (hb hby at_37) rfl ?_
    show Steps p.tables e below (T9.setTop (mkF m 38 #[.val (.int p0), .val (.int p1), .val (.int p2), .val (.int p3), .val (.int p4), .val (.int p5), .val (.ref a3), .val (.int r15), .val (.long ((p2.toInt64) - (p0.toInt64))), .second, .val (.long ((p3.toInt64) - (p1.toInt64))), .second, .unset, .unset] [(.int (lcmpW ((p2.toInt64) - (p0.toInt64)) (0 : Int64)))])) t
    exact k
  obtain ⟨v53, hv53⟩ : ∃ z : Int32, z = (if (0 : Int32) < (lcmpW ((p2.toInt64) - (p0.toInt64)) (0 : Int64)) then (if (0 : Int32) < (lcmpW ((p3.toInt64) - (p1.toInt64)) (0 : Int64)) then (0 : Int32) else (1 : Int32)) else (1 : Int32)) := ⟨_, rfl⟩
  refine Rn.go (T' := T9) (g' := (mkF m 53 #[.val (.int p0), .val (.int p1), .val (.int p2), .val (.int p3), .val (.int p4), .val (.int p5), .val (.ref a3), .val (.int r15), .val (.long ((p2.toInt64) - (p0.toInt64))), .second, .val (.long ((p3.toInt64) - (p1.toInt64))), .second, .unset, .unset] [(.int v53)])) (fun t k => ?_) ?_
  · show Steps p.tables e below (T9.setTop (mkF m 38 #[.val (.int p0), .val (.int p1), .val (.int p2), .val (.int p3), .val (.int p4), .val (.int p5), .val (.ref a3), .val (.int r15), .val (.long ((p2.toInt64) - (p0.toInt64))), .second, .val (.long ((p3.toInt64) - (p1.toInt64))), .second, .unset, .unset] [(.int (lcmpW ((p2.toInt64) - (p0.toInt64)) (0 : Int64)))])) t
    by_cases hc38 : (0 : Int32) < (lcmpW ((p2.toInt64) - (p0.toInt64)) (0 : Int64))
    · refine XS.ifNo Y10.here hx rfl (hb hby at_38) rfl ((if0 _ _).trans (tlt hc38).2.2.2) ?_
      show Steps p.tables e below (T9.setTop (mkF m 41 #[.val (.int p0), .val (.int p1), .val (.int p2), .val (.int p3), .val (.int p4), .val (.int p5), .val (.ref a3), .val (.int r15), .val (.long ((p2.toInt64) - (p0.toInt64))), .second, .val (.long ((p3.toInt64) - (p1.toInt64))), .second, .unset, .unset] [])) t
      refine XS.lload Y10.here hx rfl (hb hby at_41) rfl ?_
      show Steps p.tables e below (T9.setTop (mkF m 43 #[.val (.int p0), .val (.int p1), .val (.int p2), .val (.int p3), .val (.int p4), .val (.int p5), .val (.ref a3), .val (.int r15), .val (.long ((p2.toInt64) - (p0.toInt64))), .second, .val (.long ((p3.toInt64) - (p1.toInt64))), .second, .unset, .unset] [(.long ((p3.toInt64) - (p1.toInt64)))])) t
      refine XS.lconst Y10.here hx rfl (hb hby at_43) ?_
      show Steps p.tables e below (T9.setTop (mkF m 44 #[.val (.int p0), .val (.int p1), .val (.int p2), .val (.int p3), .val (.int p4), .val (.int p5), .val (.ref a3), .val (.int r15), .val (.long ((p2.toInt64) - (p0.toInt64))), .second, .val (.long ((p3.toInt64) - (p1.toInt64))), .second, .unset, .unset] [(.long (0 : Int64)), (.long ((p3.toInt64) - (p1.toInt64)))])) t
      refine XS.lcmp Y10.here hx rfl (hb hby at_44) rfl ?_
      show Steps p.tables e below (T9.setTop (mkF m 45 #[.val (.int p0), .val (.int p1), .val (.int p2), .val (.int p3), .val (.int p4), .val (.int p5), .val (.ref a3), .val (.int r15), .val (.long ((p2.toInt64) - (p0.toInt64))), .second, .val (.long ((p3.toInt64) - (p1.toInt64))), .second, .unset, .unset] [(.int (lcmpW ((p3.toInt64) - (p1.toInt64)) (0 : Int64)))])) t
      by_cases hc45 : (0 : Int32) < (lcmpW ((p3.toInt64) - (p1.toInt64)) (0 : Int64))
      · refine XS.ifYes Y10.here hx rfl (pc0 := 45) (pc' := 52) rfl (hb hby at_45) rfl ((if0 _ _).trans (tlt hc45).2.2.1) (by decide) (by decide) ?_
        show Steps p.tables e below (T9.setTop (mkF m 52 #[.val (.int p0), .val (.int p1), .val (.int p2), .val (.int p3), .val (.int p4), .val (.int p5), .val (.ref a3), .val (.int r15), .val (.long ((p2.toInt64) - (p0.toInt64))), .second, .val (.long ((p3.toInt64) - (p1.toInt64))), .second, .unset, .unset] [])) t
        refine XS.iconst Y10.here hx rfl (hb hby at_52) ?_
        show Steps p.tables e below (T9.setTop (mkF m 53 #[.val (.int p0), .val (.int p1), .val (.int p2), .val (.int p3), .val (.int p4), .val (.int p5), .val (.ref a3), .val (.int r15), .val (.long ((p2.toInt64) - (p0.toInt64))), .second, .val (.long ((p3.toInt64) - (p1.toInt64))), .second, .unset, .unset] [(.int (0 : Int32))])) t
        rw [hv53, if_pos hc38, if_pos hc45] at k
        exact k
      · refine XS.ifNo Y10.here hx rfl (hb hby at_45) rfl ((if0 _ _).trans (flt hc45).2.2.1) ?_
        show Steps p.tables e below (T9.setTop (mkF m 48 #[.val (.int p0), .val (.int p1), .val (.int p2), .val (.int p3), .val (.int p4), .val (.int p5), .val (.ref a3), .val (.int r15), .val (.long ((p2.toInt64) - (p0.toInt64))), .second, .val (.long ((p3.toInt64) - (p1.toInt64))), .second, .unset, .unset] [])) t
        refine XS.iconst Y10.here hx rfl (hb hby at_48) ?_
        show Steps p.tables e below (T9.setTop (mkF m 49 #[.val (.int p0), .val (.int p1), .val (.int p2), .val (.int p3), .val (.int p4), .val (.int p5), .val (.ref a3), .val (.int r15), .val (.long ((p2.toInt64) - (p0.toInt64))), .second, .val (.long ((p3.toInt64) - (p1.toInt64))), .second, .unset, .unset] [(.int (1 : Int32))])) t
        refine XS.goto Y10.here hx rfl (pc0 := 49) (pc' := 53) rfl (hb hby at_49) (by decide) (by decide) ?_
        show Steps p.tables e below (T9.setTop (mkF m 53 #[.val (.int p0), .val (.int p1), .val (.int p2), .val (.int p3), .val (.int p4), .val (.int p5), .val (.ref a3), .val (.int r15), .val (.long ((p2.toInt64) - (p0.toInt64))), .second, .val (.long ((p3.toInt64) - (p1.toInt64))), .second, .unset, .unset] [(.int (1 : Int32))])) t
        rw [hv53, if_pos hc38, if_neg hc45] at k
        exact k
    · refine XS.ifYes Y10.here hx rfl (pc0 := 38) (pc' := 48) rfl (hb hby at_38) rfl ((if0 _ _).trans (flt hc38).2.2.2) (by decide) (by decide) ?_
      show Steps p.tables e below (T9.setTop (mkF m 48 #[.val (.int p0), .val (.int p1), .val (.int p2), .val (.int p3), .val (.int p4), .val (.int p5), .val (.ref a3), .val (.int r15), .val (.long ((p2.toInt64) - (p0.toInt64))), .second, .val (.long ((p3.toInt64) - (p1.toInt64))), .second, .unset, .unset] [])) t
      refine XS.iconst Y10.here hx rfl (hb hby at_48) ?_
      show Steps p.tables e below (T9.setTop (mkF m 49 #[.val (.int p0), .val (.int p1), .val (.int p2), .val (.int p3), .val (.int p4), .val (.int p5), .val (.ref a3), .val (.int r15), .val (.long ((p2.toInt64) - (p0.toInt64))), .second, .val (.long ((p3.toInt64) - (p1.toInt64))), .second, .unset, .unset] [(.int (1 : Int32))])) t
      refine XS.goto Y10.here hx rfl (pc0 := 49) (pc' := 53) rfl (hb hby at_49) (by decide) (by decide) ?_
      show Steps p.tables e below (T9.setTop (mkF m 53 #[.val (.int p0), .val (.int p1), .val (.int p2), .val (.int p3), .val (.int p4), .val (.int p5), .val (.ref a3), .val (.int r15), .val (.long ((p2.toInt64) - (p0.toInt64))), .second, .val (.long ((p3.toInt64) - (p1.toInt64))), .second, .unset, .unset] [(.int (1 : Int32))])) t
      rw [hv53, if_neg hc38] at k
      exact k
  refine Rn.go (T' := T9) (g' := (mkF m 58 #[.val (.int p0), .val (.int p1), .val (.int p2), .val (.int p3), .val (.int p4), .val (.int p5), .val (.ref a3), .val (.int r15), .val (.long ((p2.toInt64) - (p0.toInt64))), .second, .val (.long ((p3.toInt64) - (p1.toInt64))), .second, .val (.int v53), .unset] [(.int p4), (.int p0)])) (fun t k => ?_) ?_
  · show Steps p.tables e below (T9.setTop (mkF m 53 #[.val (.int p0), .val (.int p1), .val (.int p2), .val (.int p3), .val (.int p4), .val (.int p5), .val (.ref a3), .val (.int r15), .val (.long ((p2.toInt64) - (p0.toInt64))), .second, .val (.long ((p3.toInt64) - (p1.toInt64))), .second, .unset, .unset] [(.int v53)])) t
    refine XS.istore Y10.here hx rfl (hb hby at_53) rfl (l' := #[.val (.int p0), .val (.int p1), .val (.int p2), .val (.int p3), .val (.int p4), .val (.int p5), .val (.ref a3), .val (.int r15), .val (.long ((p2.toInt64) - (p0.toInt64))), .second, .val (.long ((p3.toInt64) - (p1.toInt64))), .second, .val (.int v53), .unset]) rfl ?_
    show Steps p.tables e below (T9.setTop (mkF m 55 #[.val (.int p0), .val (.int p1), .val (.int p2), .val (.int p3), .val (.int p4), .val (.int p5), .val (.ref a3), .val (.int r15), .val (.long ((p2.toInt64) - (p0.toInt64))), .second, .val (.long ((p3.toInt64) - (p1.toInt64))), .second, .val (.int v53), .unset] [])) t
    refine XS.iloadN Y10.here hx rfl (hb hby at_55) rfl ?_
    show Steps p.tables e below (T9.setTop (mkF m 56 #[.val (.int p0), .val (.int p1), .val (.int p2), .val (.int p3), .val (.int p4), .val (.int p5), .val (.ref a3), .val (.int r15), .val (.long ((p2.toInt64) - (p0.toInt64))), .second, .val (.long ((p3.toInt64) - (p1.toInt64))), .second, .val (.int v53), .unset] [(.int p0)])) t
    refine XS.iload Y10.here hx rfl (hb hby at_56) rfl ?_
    show Steps p.tables e below (T9.setTop (mkF m 58 #[.val (.int p0), .val (.int p1), .val (.int p2), .val (.int p3), .val (.int p4), .val (.int p5), .val (.ref a3), .val (.int r15), .val (.long ((p2.toInt64) - (p0.toInt64))), .second, .val (.long ((p3.toInt64) - (p1.toInt64))), .second, .val (.int v53), .unset] [(.int p4), (.int p0)])) t
    exact k
  obtain ⟨v84, hv84⟩ : ∃ z : Int32, z = (if p4 < p0 then (0 : Int32) else (if p4 < p2 then (if p5 < p1 then (0 : Int32) else (if p5 < p3 then (1 : Int32) else (0 : Int32))) else (0 : Int32))) := ⟨_, rfl⟩
  refine Rn.go (T' := T9) (g' := (mkF m 84 #[.val (.int p0), .val (.int p1), .val (.int p2), .val (.int p3), .val (.int p4), .val (.int p5), .val (.ref a3), .val (.int r15), .val (.long ((p2.toInt64) - (p0.toInt64))), .second, .val (.long ((p3.toInt64) - (p1.toInt64))), .second, .val (.int v53), .unset] [(.int v84)])) (fun t k => ?_) ?_
  · show Steps p.tables e below (T9.setTop (mkF m 58 #[.val (.int p0), .val (.int p1), .val (.int p2), .val (.int p3), .val (.int p4), .val (.int p5), .val (.ref a3), .val (.int r15), .val (.long ((p2.toInt64) - (p0.toInt64))), .second, .val (.long ((p3.toInt64) - (p1.toInt64))), .second, .val (.int v53), .unset] [(.int p4), (.int p0)])) t
    by_cases hc58 : p4 < p0
    · refine XS.icmpYes Y10.here hx rfl (pc0 := 58) (pc' := 83) rfl (hb hby at_58) rfl (tlt hc58).2.2.1 (by decide) (by decide) ?_
      show Steps p.tables e below (T9.setTop (mkF m 83 #[.val (.int p0), .val (.int p1), .val (.int p2), .val (.int p3), .val (.int p4), .val (.int p5), .val (.ref a3), .val (.int r15), .val (.long ((p2.toInt64) - (p0.toInt64))), .second, .val (.long ((p3.toInt64) - (p1.toInt64))), .second, .val (.int v53), .unset] [])) t
      refine XS.iconst Y10.here hx rfl (hb hby at_83) ?_
      show Steps p.tables e below (T9.setTop (mkF m 84 #[.val (.int p0), .val (.int p1), .val (.int p2), .val (.int p3), .val (.int p4), .val (.int p5), .val (.ref a3), .val (.int r15), .val (.long ((p2.toInt64) - (p0.toInt64))), .second, .val (.long ((p3.toInt64) - (p1.toInt64))), .second, .val (.int v53), .unset] [(.int (0 : Int32))])) t
      rw [hv84, if_pos hc58] at k
      exact k
    · refine XS.icmpNo Y10.here hx rfl (hb hby at_58) rfl (flt hc58).2.2.1 ?_
      show Steps p.tables e below (T9.setTop (mkF m 61 #[.val (.int p0), .val (.int p1), .val (.int p2), .val (.int p3), .val (.int p4), .val (.int p5), .val (.ref a3), .val (.int r15), .val (.long ((p2.toInt64) - (p0.toInt64))), .second, .val (.long ((p3.toInt64) - (p1.toInt64))), .second, .val (.int v53), .unset] [])) t
      refine XS.iload Y10.here hx rfl (hb hby at_61) rfl ?_
      show Steps p.tables e below (T9.setTop (mkF m 63 #[.val (.int p0), .val (.int p1), .val (.int p2), .val (.int p3), .val (.int p4), .val (.int p5), .val (.ref a3), .val (.int r15), .val (.long ((p2.toInt64) - (p0.toInt64))), .second, .val (.long ((p3.toInt64) - (p1.toInt64))), .second, .val (.int v53), .unset] [(.int p4)])) t
      refine XS.iloadN Y10.here hx rfl (hb hby at_63) rfl ?_
      show Steps p.tables e below (T9.setTop (mkF m 64 #[.val (.int p0), .val (.int p1), .val (.int p2), .val (.int p3), .val (.int p4), .val (.int p5), .val (.ref a3), .val (.int r15), .val (.long ((p2.toInt64) - (p0.toInt64))), .second, .val (.long ((p3.toInt64) - (p1.toInt64))), .second, .val (.int v53), .unset] [(.int p2), (.int p4)])) t
      by_cases hc64 : p4 < p2
      · refine XS.icmpNo Y10.here hx rfl (hb hby at_64) rfl (tlt hc64).2.1 ?_
        show Steps p.tables e below (T9.setTop (mkF m 67 #[.val (.int p0), .val (.int p1), .val (.int p2), .val (.int p3), .val (.int p4), .val (.int p5), .val (.ref a3), .val (.int r15), .val (.long ((p2.toInt64) - (p0.toInt64))), .second, .val (.long ((p3.toInt64) - (p1.toInt64))), .second, .val (.int v53), .unset] [])) t
        refine XS.iloadN Y10.here hx rfl (hb hby at_67) rfl ?_
        show Steps p.tables e below (T9.setTop (mkF m 68 #[.val (.int p0), .val (.int p1), .val (.int p2), .val (.int p3), .val (.int p4), .val (.int p5), .val (.ref a3), .val (.int r15), .val (.long ((p2.toInt64) - (p0.toInt64))), .second, .val (.long ((p3.toInt64) - (p1.toInt64))), .second, .val (.int v53), .unset] [(.int p1)])) t
        refine XS.iload Y10.here hx rfl (hb hby at_68) rfl ?_
        show Steps p.tables e below (T9.setTop (mkF m 70 #[.val (.int p0), .val (.int p1), .val (.int p2), .val (.int p3), .val (.int p4), .val (.int p5), .val (.ref a3), .val (.int r15), .val (.long ((p2.toInt64) - (p0.toInt64))), .second, .val (.long ((p3.toInt64) - (p1.toInt64))), .second, .val (.int v53), .unset] [(.int p5), (.int p1)])) t
        by_cases hc70 : p5 < p1
        · refine XS.icmpYes Y10.here hx rfl (pc0 := 70) (pc' := 83) rfl (hb hby at_70) rfl (tlt hc70).2.2.1 (by decide) (by decide) ?_
          show Steps p.tables e below (T9.setTop (mkF m 83 #[.val (.int p0), .val (.int p1), .val (.int p2), .val (.int p3), .val (.int p4), .val (.int p5), .val (.ref a3), .val (.int r15), .val (.long ((p2.toInt64) - (p0.toInt64))), .second, .val (.long ((p3.toInt64) - (p1.toInt64))), .second, .val (.int v53), .unset] [])) t
          refine XS.iconst Y10.here hx rfl (hb hby at_83) ?_
          show Steps p.tables e below (T9.setTop (mkF m 84 #[.val (.int p0), .val (.int p1), .val (.int p2), .val (.int p3), .val (.int p4), .val (.int p5), .val (.ref a3), .val (.int r15), .val (.long ((p2.toInt64) - (p0.toInt64))), .second, .val (.long ((p3.toInt64) - (p1.toInt64))), .second, .val (.int v53), .unset] [(.int (0 : Int32))])) t
          rw [hv84, if_neg hc58, if_pos hc64, if_pos hc70] at k
          exact k
        · refine XS.icmpNo Y10.here hx rfl (hb hby at_70) rfl (flt hc70).2.2.1 ?_
          show Steps p.tables e below (T9.setTop (mkF m 73 #[.val (.int p0), .val (.int p1), .val (.int p2), .val (.int p3), .val (.int p4), .val (.int p5), .val (.ref a3), .val (.int r15), .val (.long ((p2.toInt64) - (p0.toInt64))), .second, .val (.long ((p3.toInt64) - (p1.toInt64))), .second, .val (.int v53), .unset] [])) t
          refine XS.iload Y10.here hx rfl (hb hby at_73) rfl ?_
          show Steps p.tables e below (T9.setTop (mkF m 75 #[.val (.int p0), .val (.int p1), .val (.int p2), .val (.int p3), .val (.int p4), .val (.int p5), .val (.ref a3), .val (.int r15), .val (.long ((p2.toInt64) - (p0.toInt64))), .second, .val (.long ((p3.toInt64) - (p1.toInt64))), .second, .val (.int v53), .unset] [(.int p5)])) t
          refine XS.iloadN Y10.here hx rfl (hb hby at_75) rfl ?_
          show Steps p.tables e below (T9.setTop (mkF m 76 #[.val (.int p0), .val (.int p1), .val (.int p2), .val (.int p3), .val (.int p4), .val (.int p5), .val (.ref a3), .val (.int r15), .val (.long ((p2.toInt64) - (p0.toInt64))), .second, .val (.long ((p3.toInt64) - (p1.toInt64))), .second, .val (.int v53), .unset] [(.int p3), (.int p5)])) t
          by_cases hc76 : p5 < p3
          · refine XS.icmpNo Y10.here hx rfl (hb hby at_76) rfl (tlt hc76).2.1 ?_
            show Steps p.tables e below (T9.setTop (mkF m 79 #[.val (.int p0), .val (.int p1), .val (.int p2), .val (.int p3), .val (.int p4), .val (.int p5), .val (.ref a3), .val (.int r15), .val (.long ((p2.toInt64) - (p0.toInt64))), .second, .val (.long ((p3.toInt64) - (p1.toInt64))), .second, .val (.int v53), .unset] [])) t
            refine XS.iconst Y10.here hx rfl (hb hby at_79) ?_
            show Steps p.tables e below (T9.setTop (mkF m 80 #[.val (.int p0), .val (.int p1), .val (.int p2), .val (.int p3), .val (.int p4), .val (.int p5), .val (.ref a3), .val (.int r15), .val (.long ((p2.toInt64) - (p0.toInt64))), .second, .val (.long ((p3.toInt64) - (p1.toInt64))), .second, .val (.int v53), .unset] [(.int (1 : Int32))])) t
            refine XS.goto Y10.here hx rfl (pc0 := 80) (pc' := 84) rfl (hb hby at_80) (by decide) (by decide) ?_
            show Steps p.tables e below (T9.setTop (mkF m 84 #[.val (.int p0), .val (.int p1), .val (.int p2), .val (.int p3), .val (.int p4), .val (.int p5), .val (.ref a3), .val (.int r15), .val (.long ((p2.toInt64) - (p0.toInt64))), .second, .val (.long ((p3.toInt64) - (p1.toInt64))), .second, .val (.int v53), .unset] [(.int (1 : Int32))])) t
            rw [hv84, if_neg hc58, if_pos hc64, if_neg hc70, if_pos hc76] at k
            exact k
          · refine XS.icmpYes Y10.here hx rfl (pc0 := 76) (pc' := 83) rfl (hb hby at_76) rfl (flt hc76).2.1 (by decide) (by decide) ?_
            show Steps p.tables e below (T9.setTop (mkF m 83 #[.val (.int p0), .val (.int p1), .val (.int p2), .val (.int p3), .val (.int p4), .val (.int p5), .val (.ref a3), .val (.int r15), .val (.long ((p2.toInt64) - (p0.toInt64))), .second, .val (.long ((p3.toInt64) - (p1.toInt64))), .second, .val (.int v53), .unset] [])) t
            refine XS.iconst Y10.here hx rfl (hb hby at_83) ?_
            show Steps p.tables e below (T9.setTop (mkF m 84 #[.val (.int p0), .val (.int p1), .val (.int p2), .val (.int p3), .val (.int p4), .val (.int p5), .val (.ref a3), .val (.int r15), .val (.long ((p2.toInt64) - (p0.toInt64))), .second, .val (.long ((p3.toInt64) - (p1.toInt64))), .second, .val (.int v53), .unset] [(.int (0 : Int32))])) t
            rw [hv84, if_neg hc58, if_pos hc64, if_neg hc70, if_neg hc76] at k
            exact k
      · refine XS.icmpYes Y10.here hx rfl (pc0 := 64) (pc' := 83) rfl (hb hby at_64) rfl (flt hc64).2.1 (by decide) (by decide) ?_
        show Steps p.tables e below (T9.setTop (mkF m 83 #[.val (.int p0), .val (.int p1), .val (.int p2), .val (.int p3), .val (.int p4), .val (.int p5), .val (.ref a3), .val (.int r15), .val (.long ((p2.toInt64) - (p0.toInt64))), .second, .val (.long ((p3.toInt64) - (p1.toInt64))), .second, .val (.int v53), .unset] [])) t
        refine XS.iconst Y10.here hx rfl (hb hby at_83) ?_
        show Steps p.tables e below (T9.setTop (mkF m 84 #[.val (.int p0), .val (.int p1), .val (.int p2), .val (.int p3), .val (.int p4), .val (.int p5), .val (.ref a3), .val (.int r15), .val (.long ((p2.toInt64) - (p0.toInt64))), .second, .val (.long ((p3.toInt64) - (p1.toInt64))), .second, .val (.int v53), .unset] [(.int (0 : Int32))])) t
        rw [hv84, if_neg hc58, if_neg hc64] at k
        exact k
  refine Rn.go (T' := T9) (g' := (mkF m 88 #[.val (.int p0), .val (.int p1), .val (.int p2), .val (.int p3), .val (.int p4), .val (.int p5), .val (.ref a3), .val (.int r15), .val (.long ((p2.toInt64) - (p0.toInt64))), .second, .val (.long ((p3.toInt64) - (p1.toInt64))), .second, .val (.int v53), .val (.int v84)] [(.int v84)])) (fun t k => ?_) ?_
  · show Steps p.tables e below (T9.setTop (mkF m 84 #[.val (.int p0), .val (.int p1), .val (.int p2), .val (.int p3), .val (.int p4), .val (.int p5), .val (.ref a3), .val (.int r15), .val (.long ((p2.toInt64) - (p0.toInt64))), .second, .val (.long ((p3.toInt64) - (p1.toInt64))), .second, .val (.int v53), .unset] [(.int v84)])) t
    refine XS.istore Y10.here hx rfl (hb hby at_84) rfl (l' := #[.val (.int p0), .val (.int p1), .val (.int p2), .val (.int p3), .val (.int p4), .val (.int p5), .val (.ref a3), .val (.int r15), .val (.long ((p2.toInt64) - (p0.toInt64))), .second, .val (.long ((p3.toInt64) - (p1.toInt64))), .second, .val (.int v53), .val (.int v84)]) rfl ?_
    show Steps p.tables e below (T9.setTop (mkF m 86 #[.val (.int p0), .val (.int p1), .val (.int p2), .val (.int p3), .val (.int p4), .val (.int p5), .val (.ref a3), .val (.int r15), .val (.long ((p2.toInt64) - (p0.toInt64))), .second, .val (.long ((p3.toInt64) - (p1.toInt64))), .second, .val (.int v53), .val (.int v84)] [])) t
    refine XS.iload Y10.here hx rfl (hb hby at_86) rfl ?_
    show Steps p.tables e below (T9.setTop (mkF m 88 #[.val (.int p0), .val (.int p1), .val (.int p2), .val (.int p3), .val (.int p4), .val (.int p5), .val (.ref a3), .val (.int r15), .val (.long ((p2.toInt64) - (p0.toInt64))), .second, .val (.long ((p3.toInt64) - (p1.toInt64))), .second, .val (.int v53), .val (.int v84)] [(.int v84)])) t
    exact k
  by_cases hc88 : v84 = (0 : Int32)
  · refine Rn.go (T' := T9) (g' := (mkF m 98 #[.val (.int p0), .val (.int p1), .val (.int p2), .val (.int p3), .val (.int p4), .val (.int p5), .val (.ref a3), .val (.int r15), .val (.long ((p2.toInt64) - (p0.toInt64))), .second, .val (.long ((p3.toInt64) - (p1.toInt64))), .second, .val (.int v53), .val (.int v84)] [])) (fun t k => XS.ifYes Y10.here hx rfl (pc0 := 88) (pc' := 98) rfl (hb hby at_88) rfl ((if0 _ _).trans (teq hc88).1) (by decide) (by decide) k) ?_
    refine Rn.go (T' := T9) (g' := (mkF m 102 #[.val (.int p0), .val (.int p1), .val (.int p2), .val (.int p3), .val (.int p4), .val (.int p5), .val (.ref a3), .val (.int r15), .val (.long ((p2.toInt64) - (p0.toInt64))), .second, .val (.long ((p3.toInt64) - (p1.toInt64))), .second, .val (.int v53), .val (.int v84)] [(.int v53), (.int r15)])) (fun t k => ?_) ?_
    · show Steps p.tables e below (T9.setTop (mkF m 98 #[.val (.int p0), .val (.int p1), .val (.int p2), .val (.int p3), .val (.int p4), .val (.int p5), .val (.ref a3), .val (.int r15), .val (.long ((p2.toInt64) - (p0.toInt64))), .second, .val (.long ((p3.toInt64) - (p1.toInt64))), .second, .val (.int v53), .val (.int v84)] [])) t
      refine XS.iload Y10.here hx rfl (hb hby at_98) rfl ?_
      show Steps p.tables e below (T9.setTop (mkF m 100 #[.val (.int p0), .val (.int p1), .val (.int p2), .val (.int p3), .val (.int p4), .val (.int p5), .val (.ref a3), .val (.int r15), .val (.long ((p2.toInt64) - (p0.toInt64))), .second, .val (.long ((p3.toInt64) - (p1.toInt64))), .second, .val (.int v53), .val (.int v84)] [(.int r15)])) t
      refine XS.iload Y10.here hx rfl (hb hby at_100) rfl ?_
      show Steps p.tables e below (T9.setTop (mkF m 102 #[.val (.int p0), .val (.int p1), .val (.int p2), .val (.int p3), .val (.int p4), .val (.int p5), .val (.ref a3), .val (.int r15), .val (.long ((p2.toInt64) - (p0.toInt64))), .second, .val (.long ((p3.toInt64) - (p1.toInt64))), .second, .val (.int v53), .val (.int v84)] [(.int v53), (.int r15)])) t
      exact k
    refine Rn.go (T' := T9) (g' := (mkF m 105 #[.val (.int p0), .val (.int p1), .val (.int p2), .val (.int p3), .val (.int p4), .val (.int p5), .val (.ref a3), .val (.int r15), .val (.long ((p2.toInt64) - (p0.toInt64))), .second, .val (.long ((p3.toInt64) - (p1.toInt64))), .second, .val (.int v53), .val (.int v84)] [])) (fun t k => XS.icmpNo Y10.here hx rfl (hb hby at_102) rfl (teq (own_eq hr15 hv53)).2 k) ?_
    refine Rn.go (T' := T9) (g' := (mkF m 110 #[.val (.int p0), .val (.int p1), .val (.int p2), .val (.int p3), .val (.int p4), .val (.int p5), .val (.ref a3), .val (.int r15), .val (.long ((p2.toInt64) - (p0.toInt64))), .second, .val (.long ((p3.toInt64) - (p1.toInt64))), .second, .val (.int v53), .val (.int v84)] [(.int (1 : Int32))])) (fun t k => ?_) ?_
    · show Steps p.tables e below (T9.setTop (mkF m 105 #[.val (.int p0), .val (.int p1), .val (.int p2), .val (.int p3), .val (.int p4), .val (.int p5), .val (.ref a3), .val (.int r15), .val (.long ((p2.toInt64) - (p0.toInt64))), .second, .val (.long ((p3.toInt64) - (p1.toInt64))), .second, .val (.int v53), .val (.int v84)] [])) t
      refine XS.iconst Y10.here hx rfl (hb hby at_105) ?_
      show Steps p.tables e below (T9.setTop (mkF m 106 #[.val (.int p0), .val (.int p1), .val (.int p2), .val (.int p3), .val (.int p4), .val (.int p5), .val (.ref a3), .val (.int r15), .val (.long ((p2.toInt64) - (p0.toInt64))), .second, .val (.long ((p3.toInt64) - (p1.toInt64))), .second, .val (.int v53), .val (.int v84)] [(.int (1 : Int32))])) t
      refine XS.goto Y10.here hx rfl (pc0 := 106) (pc' := 110) rfl (hb hby at_106) (by decide) (by decide) ?_
      show Steps p.tables e below (T9.setTop (mkF m 110 #[.val (.int p0), .val (.int p1), .val (.int p2), .val (.int p3), .val (.int p4), .val (.int p5), .val (.ref a3), .val (.int r15), .val (.long ((p2.toInt64) - (p0.toInt64))), .second, .val (.long ((p3.toInt64) - (p1.toInt64))), .second, .val (.int v53), .val (.int v84)] [(.int (1 : Int32))])) t
      exact k
    rw [← hF]; exact On.retn Y10 hx hret (by simp) hlk (z' := (1 : Int32)) (by decide) (hb hby at_110) (by decide) (by decide) rfl
  · refine Rn.go (T' := T9) (g' := (mkF m 91 #[.val (.int p0), .val (.int p1), .val (.int p2), .val (.int p3), .val (.int p4), .val (.int p5), .val (.ref a3), .val (.int r15), .val (.long ((p2.toInt64) - (p0.toInt64))), .second, .val (.long ((p3.toInt64) - (p1.toInt64))), .second, .val (.int v53), .val (.int v84)] [])) (fun t k => XS.ifNo Y10.here hx rfl (hb hby at_88) rfl ((if0 _ _).trans (feq hc88).1) k) ?_
    have e1 : r15 = 0 := by
      rw [hv84] at hc88; rw [hr15]
      exact own_in _ _ _ _ _ _ hc88
    refine Rn.go (T' := T9) (g' := (mkF m 93 #[.val (.int p0), .val (.int p1), .val (.int p2), .val (.int p3), .val (.int p4), .val (.int p5), .val (.ref a3), .val (.int r15), .val (.long ((p2.toInt64) - (p0.toInt64))), .second, .val (.long ((p3.toInt64) - (p1.toInt64))), .second, .val (.int v53), .val (.int v84)] [(.int r15)])) (fun t k => ?_) ?_
    · show Steps p.tables e below (T9.setTop (mkF m 91 #[.val (.int p0), .val (.int p1), .val (.int p2), .val (.int p3), .val (.int p4), .val (.int p5), .val (.ref a3), .val (.int r15), .val (.long ((p2.toInt64) - (p0.toInt64))), .second, .val (.long ((p3.toInt64) - (p1.toInt64))), .second, .val (.int v53), .val (.int v84)] [])) t
      refine XS.iload Y10.here hx rfl (hb hby at_91) rfl ?_
      show Steps p.tables e below (T9.setTop (mkF m 93 #[.val (.int p0), .val (.int p1), .val (.int p2), .val (.int p3), .val (.int p4), .val (.int p5), .val (.ref a3), .val (.int r15), .val (.long ((p2.toInt64) - (p0.toInt64))), .second, .val (.long ((p3.toInt64) - (p1.toInt64))), .second, .val (.int v53), .val (.int v84)] [(.int r15)])) t
      exact k
    refine Rn.go (T' := T9) (g' := (mkF m 98 #[.val (.int p0), .val (.int p1), .val (.int p2), .val (.int p3), .val (.int p4), .val (.int p5), .val (.ref a3), .val (.int r15), .val (.long ((p2.toInt64) - (p0.toInt64))), .second, .val (.long ((p3.toInt64) - (p1.toInt64))), .second, .val (.int v53), .val (.int v84)] [])) (fun t k => XS.ifYes Y10.here hx rfl (pc0 := 93) (pc' := 98) rfl (hb hby at_93) rfl ((if0 _ _).trans (teq e1).1) (by decide) (by decide) k) ?_
    refine Rn.go (T' := T9) (g' := (mkF m 102 #[.val (.int p0), .val (.int p1), .val (.int p2), .val (.int p3), .val (.int p4), .val (.int p5), .val (.ref a3), .val (.int r15), .val (.long ((p2.toInt64) - (p0.toInt64))), .second, .val (.long ((p3.toInt64) - (p1.toInt64))), .second, .val (.int v53), .val (.int v84)] [(.int v53), (.int r15)])) (fun t k => ?_) ?_
    · show Steps p.tables e below (T9.setTop (mkF m 98 #[.val (.int p0), .val (.int p1), .val (.int p2), .val (.int p3), .val (.int p4), .val (.int p5), .val (.ref a3), .val (.int r15), .val (.long ((p2.toInt64) - (p0.toInt64))), .second, .val (.long ((p3.toInt64) - (p1.toInt64))), .second, .val (.int v53), .val (.int v84)] [])) t
      refine XS.iload Y10.here hx rfl (hb hby at_98) rfl ?_
      show Steps p.tables e below (T9.setTop (mkF m 100 #[.val (.int p0), .val (.int p1), .val (.int p2), .val (.int p3), .val (.int p4), .val (.int p5), .val (.ref a3), .val (.int r15), .val (.long ((p2.toInt64) - (p0.toInt64))), .second, .val (.long ((p3.toInt64) - (p1.toInt64))), .second, .val (.int v53), .val (.int v84)] [(.int r15)])) t
      refine XS.iload Y10.here hx rfl (hb hby at_100) rfl ?_
      show Steps p.tables e below (T9.setTop (mkF m 102 #[.val (.int p0), .val (.int p1), .val (.int p2), .val (.int p3), .val (.int p4), .val (.int p5), .val (.ref a3), .val (.int r15), .val (.long ((p2.toInt64) - (p0.toInt64))), .second, .val (.long ((p3.toInt64) - (p1.toInt64))), .second, .val (.int v53), .val (.int v84)] [(.int v53), (.int r15)])) t
      exact k
    refine Rn.go (T' := T9) (g' := (mkF m 105 #[.val (.int p0), .val (.int p1), .val (.int p2), .val (.int p3), .val (.int p4), .val (.int p5), .val (.ref a3), .val (.int r15), .val (.long ((p2.toInt64) - (p0.toInt64))), .second, .val (.long ((p3.toInt64) - (p1.toInt64))), .second, .val (.int v53), .val (.int v84)] [])) (fun t k => XS.icmpNo Y10.here hx rfl (hb hby at_102) rfl (teq (own_eq hr15 hv53)).2 k) ?_
    refine Rn.go (T' := T9) (g' := (mkF m 110 #[.val (.int p0), .val (.int p1), .val (.int p2), .val (.int p3), .val (.int p4), .val (.int p5), .val (.ref a3), .val (.int r15), .val (.long ((p2.toInt64) - (p0.toInt64))), .second, .val (.long ((p3.toInt64) - (p1.toInt64))), .second, .val (.int v53), .val (.int v84)] [(.int (1 : Int32))])) (fun t k => ?_) ?_
    · show Steps p.tables e below (T9.setTop (mkF m 105 #[.val (.int p0), .val (.int p1), .val (.int p2), .val (.int p3), .val (.int p4), .val (.int p5), .val (.ref a3), .val (.int r15), .val (.long ((p2.toInt64) - (p0.toInt64))), .second, .val (.long ((p3.toInt64) - (p1.toInt64))), .second, .val (.int v53), .val (.int v84)] [])) t
      refine XS.iconst Y10.here hx rfl (hb hby at_105) ?_
      show Steps p.tables e below (T9.setTop (mkF m 106 #[.val (.int p0), .val (.int p1), .val (.int p2), .val (.int p3), .val (.int p4), .val (.int p5), .val (.ref a3), .val (.int r15), .val (.long ((p2.toInt64) - (p0.toInt64))), .second, .val (.long ((p3.toInt64) - (p1.toInt64))), .second, .val (.int v53), .val (.int v84)] [(.int (1 : Int32))])) t
      refine XS.goto Y10.here hx rfl (pc0 := 106) (pc' := 110) rfl (hb hby at_106) (by decide) (by decide) ?_
      show Steps p.tables e below (T9.setTop (mkF m 110 #[.val (.int p0), .val (.int p1), .val (.int p2), .val (.int p3), .val (.int p4), .val (.int p5), .val (.ref a3), .val (.int r15), .val (.long ((p2.toInt64) - (p0.toInt64))), .second, .val (.long ((p3.toInt64) - (p1.toInt64))), .second, .val (.int v53), .val (.int v84)] [(.int (1 : Int32))])) t
      exact k
    rw [← hF]; exact On.retn Y10 hx hret (by simp) hlk (z' := (1 : Int32)) (by decide) (hb hby at_110) (by decide) (by decide) rfl
set_option maxRecDepth 65536 in
set_option maxHeartbeats 40000000 in
theorem comes_1 {Post : Tables → Env → Array Value → State → Outcome → State → Prop} (hpost : ∀ tb e args s v u, (limb_1_1.after args s (.returned v) u = true ∧ limb_1_2.after args s (.returned v) u = true ∧ True) → FrameEnd s (.returned v) u (Jvm.fieldLocs frame_1_writes args s ++ Jvm.arrayLocs frame_1_arrays args s ++ Jvm.staticLocs frame_1_statics s) 16 128 → Post tb e args s (.returned v) u) :
    ArmFor flags0 classFile x code maxLocals ret World_1 tables_1 room_1 Calls_1 rest_1 Pre_1 Post := by
  intro l hfl _ _ p e ha hc hk s m args below hf hA hF happ hP
  obtain ⟨hcalls, hrest, hpre⟩ := hP
  obtain ⟨-, -, -, hnamed, -, -, -, hat⟩ := (Spec.applies_iff hf).mp happ
  obtain ⟨hg, hn⟩ := and_e (Cond.before_iff.mp (show (Jvm.Cond.and given_1 narrow_1).before args s = true from hpre))
  obtain ⟨g1, g2⟩ := and_e hg
  obtain ⟨g3, g4⟩ := and_e g2
  obtain ⟨g5, g6⟩ := and_e g4
  obtain ⟨g7, g8⟩ := and_e g6
  obtain ⟨g9, g10⟩ := and_e g8
  obtain ⟨g11, g12⟩ := and_e g10
  obtain ⟨w0, w1, w2, w3, w4, w5, rfl⟩ : ∃ w0 w1 w2 w3 w4 w5 : Value, args = #[w0, w1, w2, w3, w4, w5] := by
    have hs : args.size = 6 := by simpa [Cond.value, given_1] using g1
    obtain ⟨L⟩ := args
    match L, hs with
    | [w0, w1, w2, w3, w4, w5], _ => exact ⟨w0, w1, w2, w3, w4, w5, rfl⟩
  have hw := fun d (hd : d ∈ tables_1) => atoms_spec (ws := Jvm.Cond.code x code maxLocals ret :: tables_1) hat d (List.mem_cons_of_mem _ hd)
  obtain ⟨i0, ei0⟩ := is_v g3
  obtain rfl : w0 = (.int i0) := Option.some.inj ei0
  obtain ⟨i1, ei1⟩ := is_v g5
  obtain rfl : w1 = (.int i1) := Option.some.inj ei1
  obtain ⟨i2, ei2⟩ := is_v g7
  obtain rfl : w2 = (.int i2) := Option.some.inj ei2
  obtain ⟨i3, ei3⟩ := is_v g9
  obtain rfl : w3 = (.int i3) := Option.some.inj ei3
  obtain ⟨i4, ei4⟩ := is_v g11
  obtain rfl : w4 = (.int i4) := Option.some.inj ei4
  obtain ⟨i5, ei5⟩ := is_v g12
  obtain rfl : w5 = (.int i5) := Option.some.inj ei5
  obtain ⟨n, o, h1, h2, h3, _, L, rfl, ⟨D', rfl, N, -⟩, hq⟩ := rm0 l s _ hw s.heap.size i0 i1 i2 i3 i4 i5 tables_1 s.heap (Hp.nil s) p e ha hc hk s m _ below hf ((Spec.applies_iff_loose hf).mp happ).1 ⟨rfl, State.Warmed39.refl s, rfl⟩ trivial
  refine ⟨n, _, h1, h2, h3, hpost _ _ _ _ _ _ ⟨Cond.after_iff.mpr rfl, Cond.after_iff.mpr (eq_i res_at (Term.int_eval (1)) rfl), trivial⟩ ⟨hq.1, hq.2.1, (hq.2.2.sift fun y hy => Or.inr (N y hy)).mono (by decide) (by decide)⟩⟩
theorem main_1_1 : Claimed_1_1 := comes_1 fun _ _ _ _ _ _ h hF => ⟨h.1, hF⟩
theorem main_1_2 : Claimed_1_2 := comes_1 fun _ _ _ _ _ _ h hF => ⟨h.2.1, hF⟩
end Jvm.Pilot.@@N@@
namespace Jvm.Pilot.@@N@@
open Jvm Jvm.ClassFile Sem Op Lib Jvm.Free Jvm.Stand Jvm.Pilot.@@N@@.Jvm.D
/-! MADE BY PROGRAM (witnessworld.py) out of the Statement's table words and the real class files: 9 classes; the members and pool entries that the words name. The judged class is class 1, her method 1. -/
namespace start1
open Jvm.ClassFile
def u (s : String) : CpInfo := .utf8 (stringToUtf16 s)
/-- a pool by its gaps: so many unusable entries, then the entry; so many at the end -/
def gap : Nat → List CpInfo → List CpInfo
  | 0, r => r
  | n + 1, r => .unusable :: gap n r
def poolList (es : List (Nat × CpInfo)) (last : Nat) : List CpInfo := es.foldr (fun e r => gap e.1 (e.2 :: r)) (gap last [])
def pool (es : List (Nat × CpInfo)) (last : Nat) : Array CpInfo := ⟨poolList es last⟩
def fileOf (pool : Array CpInfo) (this : Nat) (attrs : Array Attribute := #[]) (ms : Array MethodInfo := #[]) (fl : Nat := 33) (sup : Nat := 0) (ifs : Array Nat := #[]) (fds : Array FieldInfo := #[]) : ClassFile where
  minorVersion := 0
  majorVersion := 65
  constantPool := pool
  accessFlags := fl
  thisClass := this
  superClass := sup
  interfaces := ifs
  fields := fds
  methods := ms
  attributes := attrs
def plain (name : String) (sup : Option ClassId) : Class where
  name := name
  kind := .ordinary
  loader := none
  accessFlags := 33
  super := sup
  interfaces := #[]
  cf := none
  fields := #[]
  methods := #[]
  instanceTypes := #[]
  staticTypes := #[]
  resolved := #[]
  callSites := []
  init := .initialized
  statics := none
  mirror := none

def pool0 : Array CpInfo := pool [(5, u "<init>"), (0, u "()V"), (1, .class_ 10), (1, u "java/lang/Object")] 113

def k0c0 : Code := { maxStack := 0, maxLocals := 1, code := object_method_1_code, exceptionTable := #[], attributes := #[] }
def k0m0 : Method := { name := "<init>", desc := "()V", sig := { parameters := [], returnType := none }, accessFlags := 1, code := some k0c0 }
/-- java/lang/Object -/
def k0 : Class := { plain "java/lang/Object" none with
  accessFlags := 33
  interfaces := #[]
  cf := some (fileOf pool0 8 #[] #[{ accessFlags := 1, nameIndex := 5, descriptorIndex := 6, attributes := #[] }] 33 0 #[] #[])
  fields := #[]
  methods := #[k0m0]
  instanceTypes := #[]
  staticTypes := #[]
  resolved := Array.replicate 124 none
  statics := none }

def pool1 : Array CpInfo := pool [(2, .class_ 4), (1, u "java/lang/Object"), (0, u "<init>"), (0, u "()V"), (0, .class_ 8), (0, u "com/example/oxalis/oxalis/Rect"), (0, .methodref 7 10), (0, .nameAndType 5 11), (0, u "(IIII)V"), (0, .methodref 7 13), (0, .nameAndType 14 15), (0, u "isEmpty"), (0, u "()Z"), (0, .class_ 17), (0, u "com/example/oxalis/oxalis/RectIsEmptyPinLaw"), (2, u "law"), (0, u "(IIIIII)Z")] 3

def k1m0 : Method := { name := "<init>", desc := "()V", sig := { parameters := [], returnType := none }, accessFlags := 1, code := none }
def k1c1 : Code := { maxStack := 6, maxLocals := 14, code := code, exceptionTable := #[], attributes := #[] }
def k1m1 : Method := { name := "law", desc := "(IIIIII)Z", sig := { parameters := [.int, .int, .int, .int, .int, .int], returnType := some .boolean }, accessFlags := 9, code := some k1c1 }
/-- com/example/oxalis/oxalis/RectIsEmptyPinLaw -/
def k1 : Class := { plain "com/example/oxalis/oxalis/RectIsEmptyPinLaw" (some 0) with
  accessFlags := 49
  interfaces := #[]
  cf := some (fileOf pool1 16 #[] #[{ accessFlags := 1, nameIndex := 5, descriptorIndex := 6, attributes := #[] }, { accessFlags := 9, nameIndex := 20, descriptorIndex := 21, attributes := #[] }] 49 2 #[] #[])
  fields := #[]
  methods := #[k1m0, k1m1]
  instanceTypes := #[]
  staticTypes := #[]
  resolved := Array.replicate 25 none
  statics := none }

def pool2 : Array CpInfo := pool [(1, .methodref 2 3), (0, .class_ 4), (0, .nameAndType 5 6), (0, u "java/lang/Object"), (0, u "<init>"), (0, u "()V"), (0, .fieldref 8 9), (0, .class_ 10), (0, .nameAndType 11 12), (0, u "com/example/oxalis/oxalis/Rect"), (0, u "left"), (0, u "I"), (0, .fieldref 8 14), (0, .nameAndType 15 12), (0, u "top"), (0, .fieldref 8 17), (0, .nameAndType 18 12), (0, u "right"), (0, .fieldref 8 20), (0, .nameAndType 21 12), (0, u "bottom"), (11, u "(IIII)V"), (12, .class_ 48), (1, u "com/example/oxalis/oxalis/Rect$1"), (18, u "isEmpty"), (0, u "()Z")] 49

def k2c0 : Code := { maxStack := 2, maxLocals := 5, code := prog_48_method_1_code, exceptionTable := #[], attributes := #[] }
def k2m0 : Method := { name := "<init>", desc := "(IIII)V", sig := { parameters := [.int, .int, .int, .int], returnType := none }, accessFlags := 1, code := some k2c0 }
def k2c1 : Code := { maxStack := 2, maxLocals := 1, code := prog_48_method_6_code, exceptionTable := #[], attributes := #[] }
def k2m1 : Method := { name := "isEmpty", desc := "()Z", sig := { parameters := [], returnType := some .boolean }, accessFlags := 0, code := some k2c1 }
/-- com/example/oxalis/oxalis/Rect -/
def k2 : Class := { plain "com/example/oxalis/oxalis/Rect" (some 0) with
  accessFlags := 33
  interfaces := #[]
  cf := some (fileOf pool2 8 #[.nestMembers #[46]] #[{ accessFlags := 1, nameIndex := 5, descriptorIndex := 33, attributes := #[] }, { accessFlags := 0, nameIndex := 67, descriptorIndex := 68, attributes := #[] }] 33 2 #[] #[{ accessFlags := 18, nameIndex := 11, descriptorIndex := 12, attributes := #[] }, { accessFlags := 18, nameIndex := 15, descriptorIndex := 12, attributes := #[] }, { accessFlags := 18, nameIndex := 18, descriptorIndex := 12, attributes := #[] }, { accessFlags := 18, nameIndex := 21, descriptorIndex := 12, attributes := #[] }])
  fields := #[{ name := "left", type := .int, accessFlags := 18, slot := 0, constantValue := 0 }, { name := "top", type := .int, accessFlags := 18, slot := 1, constantValue := 0 }, { name := "right", type := .int, accessFlags := 18, slot := 2, constantValue := 0 }, { name := "bottom", type := .int, accessFlags := 18, slot := 3, constantValue := 0 }]
  methods := #[k2m0, k2m1]
  instanceTypes := #[.int, .int, .int, .int]
  staticTypes := #[]
  resolved := Array.replicate 118 none
  statics := none }

def pool3 : Array CpInfo := pool [(1, u "java/lang/Cloneable"), (0, .class_ 1), (0, u "java/lang/Object"), (0, .class_ 3)] 3

/-- java/lang/Cloneable -/
def k3 : Class := { plain "java/lang/Cloneable" (some 0) with
  accessFlags := 1537
  interfaces := #[]
  cf := some (fileOf pool3 2 #[] #[] 1537 4 #[] #[])
  fields := #[]
  methods := #[]
  instanceTypes := #[]
  staticTypes := #[]
  resolved := Array.replicate 8 none
  statics := none }

def pool4 : Array CpInfo := pool [(1, u "java/io/Serializable"), (0, .class_ 1), (0, u "java/lang/Object"), (0, .class_ 3)] 3

/-- java/io/Serializable -/
def k4 : Class := { plain "java/io/Serializable" (some 0) with
  accessFlags := 1537
  interfaces := #[]
  cf := some (fileOf pool4 2 #[] #[] 1537 4 #[] #[])
  fields := #[]
  methods := #[]
  instanceTypes := #[]
  staticTypes := #[]
  resolved := Array.replicate 8 none
  statics := none }

/-- the primitive byte -/
def k5 : Class := { plain "byte" none with kind := .primitive 'B', accessFlags := 0x411 }
/-- [B -/
def k6 : Class := { plain "[B" (some 0) with kind := .array 5 .byte, interfaces := #[3, 4], accessFlags := 1041 }

/-- the primitive int -/
def k7 : Class := { plain "int" none with kind := .primitive 'I', accessFlags := 0x411 }
/-- [I -/
def k8 : Class := { plain "[I" (some 0) with kind := .array 7 .int, interfaces := #[3, 4], accessFlags := 1041 }

def heap : Heap := #[]
def classes : Array Class := #[k0, k1, k2, k3, k4, k5, k6, k7, k8]
def interned : List (Array UInt16 × Addr) := []
def slotsUsed : Nat := 0
def theMethod : MethodId := ⟨1, 1⟩
def args0 : Array Value := #[.int 1, .int 2, .int 5, .int 7, .int 3, .int 4]
def aboutOver (below : List Frame) : State where
  vm := { classes := classes, interned := interned.toArray }
  heap := heap
  slotsUsed := slotsUsed
  threads := #[{ frames := .invoking theMethod args0 :: below }]
def below0 : List Frame := [.native { method := ⟨0, 0⟩, args := #[] }]
def about1 : State := aboutOver below0
def p0 : Program := .bare "" "" ""
def e0 : Env := launch0.env 0 0 0
theorem w_frames : about1.frames = Frame.invoking theMethod args0 :: below0 := rfl
set_option maxRecDepth 65536 in
theorem w_args : argsFit about1.vm theMethod args0 = true := by decide +kernel
set_option maxRecDepth 65536 in
theorem w_heap : heapFits about1 = true := by decide +kernel
set_option maxRecDepth 65536 in
theorem w_runnable : about1.curStatus? = some .runnable := by decide +kernel
set_option maxRecDepth 65536 in
theorem w_alone : about1.alone = true := by decide +kernel
set_option maxRecDepth 65536 in
theorem w_named : about1.methodNamed? x = some theMethod := by decide +kernel
set_option maxRecDepth 65536 in
theorem w_hears : about1.hears theMethod below0 = true := by decide +kernel
set_option maxRecDepth 65536 in
theorem w_ripe : about1.ripe theMethod args0 below0 = true := by decide +kernel
theorem w_running : about1.status = .running := rfl
set_option maxRecDepth 65536 in
theorem w_room : about1.hasRoom e0.platform room_1 = true :=
  launch0.hasRoom_least _ room_1 (by decide +kernel) (by decide +kernel) (by decide +kernel) (by decide +kernel) (by decide +kernel) (by decide +kernel)
theorem allAtoms_all (ts : List Jvm.Cond) (a : Array Jvm.Value) (st : Jvm.State) : (allAtoms ts).before a st = ts.all (fun c => c.before a st) := by
  induction ts with
  | nil => rfl
  | cons c t ih =>
    show (Jvm.Cond.and c (allAtoms t)).before a st = _
    rw [Jvm.Cond.before_and, ih, List.all_cons]
def words1 : List Jvm.Cond := Jvm.Cond.code x code maxLocals ret :: tables_1
/-- a 'code' word, met by the world's own term for the bytes: nothing is compared byte by byte -/
theorem code_word {y : MethodName} {bytes : ByteArray} {mx : Nat} {rt : Option FieldType} {a : Array Value} {s : State} {m : MethodId} {meth : Method} {c : Code} (h1 : s.methodNamed? y = some m) (h2 : s.vm.method? m = some meth) (h3 : meth.code = some c) (h4 : c.code = bytes)
    (h5 : (c.maxLocals == mx && c.exceptionTable.isEmpty && decide (c.maxStack ≤ mostOperands) && decide (meth.sig.returnType = rt) && !meth.locks && decide (parseMethodDescriptor y.desc = some meth.sig)) = true) : (Jvm.Cond.code y bytes mx rt).before a s = true := by
  simp only [Bool.and_eq_true, beq_iff_eq, Bool.not_eq_true', decide_eq_true_eq] at h5
  obtain ⟨⟨⟨⟨⟨g1, g2⟩, g3⟩, g4⟩, g5⟩, g6⟩ := h5
  simp [Cond.before, Cond.holds, Cond.value, h1, h2, h3, h4, g1, g2, g3, g4, g5, g6]
def isCode : Jvm.Cond → Bool
  | .code _ _ _ _ => true
  | _ => false
theorem all_split {L : List Jvm.Cond} {P : Jvm.Cond → Bool} (h1 : L.all (fun c => isCode c || P c) = true) (h2 : ∀ c ∈ L.filter isCode, P c = true) : L.all P = true := by
  refine List.all_eq_true.mpr fun c hc => ?_
  have h := List.all_eq_true.mp h1 c hc
  rcases Bool.eq_false_or_eq_true (isCode c) with hi | hi
  · exact h2 c (List.mem_filter.mpr ⟨hc, hi⟩)
  · simpa [hi] using h
set_option maxRecDepth 65536 in
theorem w_c0 : (Jvm.Cond.code x code maxLocals ret).before args0 about1 = true := code_word (m := ⟨1, 1⟩) (meth := k1m1) (c := k1c1) (by decide +kernel) rfl rfl rfl (by decide +kernel)
set_option maxRecDepth 65536 in
theorem w_c1 : (Jvm.Cond.code ({ cls := "com/example/oxalis/oxalis/Rect", name := "<init>", desc := "(IIII)V" } : Jvm.MethodName) prog_48_method_1_code (5 : Nat) (Option.none : Option Jvm.ClassFile.FieldType)).before args0 about1 = true := code_word (m := ⟨2, 0⟩) (meth := k2m0) (c := k2c0) (by decide +kernel) rfl rfl rfl (by decide +kernel)
set_option maxRecDepth 65536 in
theorem w_c2 : (Jvm.Cond.code ({ cls := "java/lang/Object", name := "<init>", desc := "()V" } : Jvm.MethodName) object_method_1_code (1 : Nat) (Option.none : Option Jvm.ClassFile.FieldType)).before args0 about1 = true := code_word (m := ⟨0, 0⟩) (meth := k0m0) (c := k0c0) (by decide +kernel) rfl rfl rfl (by decide +kernel)
set_option maxRecDepth 65536 in
theorem w_c3 : (Jvm.Cond.code ({ cls := "com/example/oxalis/oxalis/Rect", name := "isEmpty", desc := "()Z" } : Jvm.MethodName) prog_48_method_6_code (1 : Nat) (Option.some Jvm.ClassFile.FieldType.boolean)).before args0 about1 = true := code_word (m := ⟨2, 1⟩) (meth := k2m1) (c := k2c1) (by decide +kernel) rfl rfl rfl (by decide +kernel)
def codes1 : List Jvm.Cond := [Jvm.Cond.code x code maxLocals ret, Jvm.Cond.code ({ cls := "com/example/oxalis/oxalis/Rect", name := "<init>", desc := "(IIII)V" } : Jvm.MethodName) prog_48_method_1_code (5 : Nat) (Option.none : Option Jvm.ClassFile.FieldType), Jvm.Cond.code ({ cls := "java/lang/Object", name := "<init>", desc := "()V" } : Jvm.MethodName) object_method_1_code (1 : Nat) (Option.none : Option Jvm.ClassFile.FieldType), Jvm.Cond.code ({ cls := "com/example/oxalis/oxalis/Rect", name := "isEmpty", desc := "()Z" } : Jvm.MethodName) prog_48_method_6_code (1 : Nat) (Option.some Jvm.ClassFile.FieldType.boolean)]
set_option maxRecDepth 65536 in
theorem codes_eq : words1.filter isCode = codes1 := rfl
theorem w_codes : ∀ c ∈ words1.filter isCode, c.before args0 about1 = true := by
  rw [codes_eq]
  intro c hc
  simp only [codes1, List.mem_cons, List.not_mem_nil, or_false] at hc
  rcases hc with rfl | rfl | rfl | rfl
  · exact w_c0
  · exact w_c1
  · exact w_c2
  · exact w_c3
set_option maxRecDepth 65536 in
theorem w_t1 : words1.all (fun c => isCode c || c.before args0 about1) = true := by decide +kernel
theorem w_tables : (allAtoms (Jvm.Cond.code x code maxLocals ret :: tables_1)).before args0 about1 = true := by
  rw [allAtoms_all]
  show words1.all (fun c => c.before args0 about1) = true
  refine all_split ?_ w_codes
  rw [w_t1]
set_option maxRecDepth 65536 in
theorem w_case : (Jvm.Cond.and given_1 narrow_1).before args0 about1 = true := by decide +kernel
theorem w_applies : (headSpec (Jvm.Cond.code x code maxLocals ret :: tables_1) room_1).applies x e0.platform about1 = true :=
  (Spec.applies_iff w_frames).mpr ⟨w_running, w_runnable, w_alone, w_named, w_hears, w_ripe, w_room, w_tables⟩
theorem atStart : AtStart classFile x code maxLocals ret World_1 tables_1 room_1 Calls_1 rest_1 Pre_1 launch0 p0 e0 about1 theMethod args0 below0 :=
  ⟨lists_1, trivial, launch0.admits_env _ _ _, launch0.least_env, fairChoices_fair.cas, fairChoices_fair.clock, w_frames, w_args, w_heap, w_applies, trivial, trivial, w_case⟩
end start1
theorem witness_1 : WitnessClaimed_1 := ⟨start1.p0, start1.e0, start1.about1, start1.theMethod, start1.args0, start1.below0, start1.atStart⟩
end Jvm.Pilot.@@N@@
