import JvmDerived
import JvmDerived.Pilot.@@N@@Statement
import JvmDerived.Pilot.@@N@@Code
set_option linter.unusedVariables false
set_option linter.unusedSimpArgs false
namespace Jvm.Pilot.@@N@@
open Jvm Jvm.ClassFile Sem Op Lib Jvm.Free Jvm.Stand Jvm.LawKit Jvm.RoadKit Bundle Jvm.Pilot.@@N@@.Jvm.D
section Own
variable {p : Program} {l : Launch} {e : Env} {R : Room} {s : State} {m : MethodId} {args : Array Value} {below : List Frame} {meth : Method} {c : Code} {T : State} {locs : List Loc} {cells slots n0 : Nat} {Z : State} {a0 : Array Value} {h h' : Heap} {its : List (Cell → Prop)} {Q : Option Value → List (Cell → Prop) → Prop} {pc : Nat} {Ls : Array Slot} {stk rest : List Value} {own : String}
/-- the new part of the heap: the cells from n0 on, one word on each -/
def own_hp (n0 : Nat) (h : Heap) (its : List (Cell → Prop)) : Prop := h.size = n0 + its.length ∧ ∀ (i : Nat) (P : Cell → Prop), its[i]? = some P → ∃ cl : Cell, h[n0 + i]? = some cl ∧ P cl
/-- where the walk stands -/
def own_at (p : Program) (l : Launch) (e : Env) (R : Room) (s : State) (m : MethodId) (args : Array Value) (below : List Frame) (meth : Method) (c : Code) (n0 : Nat) (T : State) (cells slots : Nat) (its : List (Cell → Prop)) : Prop :=
  ∃ locs, Stand p l e R s m args below meth c T locs cells slots ∧ Fr n0 locs ∧ own_hp n0 T.heap its
/-- from u the method comes to its end, and Q holds there -/
def own_go (p : Program) (e : Env) (R : Room) (s : State) (below : List Frame) (n0 : Nat) (Q : Option Value → List (Cell → Prop) → Prop) (u : State) : Prop :=
  ∃ (t : State) (v : Option Value) (L : List Loc) (its : List (Cell → Prop)), Steps p.tables e below u t ∧ t.status = .running ∧ Ended t below (.returned v) ∧ Q v its ∧ Fr n0 L ∧ own_hp n0 t.heap its ∧ s.WarmedH t.vm ∧ s.sameButNew ({ t with vm := s.vm } : State) L R.cells R.slots
theorem own_at.here (A : own_at p l e R s m args below meth c n0 T cells slots its) : At T m c below := by
  obtain ⟨_, X, _⟩ := A; exact X.here
theorem own_at.more (A : own_at p l e R s m args below meth c n0 T cells slots its) {cells' slots' : Nat} (hc : cells ≤ cells') (hs : slots ≤ slots') : own_at p l e R s m args below meth c n0 T cells' slots' its := by
  obtain ⟨L, X, r⟩ := A; exact ⟨L, X.more hc hs, r⟩
theorem own_by {u u' : State} (q : ∀ target, Steps p.tables e below u' target → Steps p.tables e below u target) (k : own_go p e R s below n0 Q u') : own_go p e R s below n0 Q u := by
  obtain ⟨t, v, L, i, h1, r⟩ := k
  exact ⟨t, v, L, i, q t h1, r⟩
theorem own_nil {α : Type} {P : α → Prop} : ∀ x ∈ ([] : List α), P x := fun _ q => nomatch q
theorem own_cons {α : Type} {P : α → Prop} {y : α} {L : List α} (q : P y) (r : ∀ x ∈ L, P x) : ∀ x ∈ y :: L, P x := fun x z => (List.mem_cons.mp z).elim (fun u => u ▸ q) (r x)
theorem own_hp.push (H : own_hp n0 h its) {cl : Cell} {P : Cell → Prop} (hP : P cl) : own_hp n0 (h.push cl) (its ++ [P]) := by
  refine ⟨by rw [Array.size_push, H.1, List.length_append]; rfl, fun i P' hi => ?_⟩
  by_cases q : i < its.length
  · rw [List.getElem?_append_left q] at hi
    obtain ⟨c, h1, h2⟩ := H.2 i P' hi
    refine ⟨c, ?_, h2⟩
    rw [Array.getElem?_push_lt (Array.getElem?_eq_some_iff.mp h1).1]
    exact (Array.getElem?_eq_getElem _).symm.trans h1
  · have q2 : i = its.length := by
      have := (List.getElem?_eq_some_iff.mp hi).1
      simp only [List.length_append, List.length_cons, List.length_nil] at this
      omega
    subst q2
    simp only [List.getElem?_concat_length, Option.some.injEq] at hi
    subst hi
    refine ⟨cl, ?_, hP⟩
    rw [← H.1]; simp
theorem own_hp.wr (H : own_hp n0 h its) {i sl : Nat} {v : Value} {P P' : Cell → Prop} (hi : its[i]? = some P) (W : Wr h h' (n0 + i) sl v) (hP : ∀ cl, h[n0 + i]? = some cl → P cl → P' (cl.setSlot sl v)) : own_hp n0 h' (its.set i P') := by
  obtain ⟨cell, w1, w2, w3, rfl⟩ := W
  refine ⟨by rw [Array.size_setIfInBounds, List.length_set]; exact H.1, fun j P2 hj => ?_⟩
  by_cases q : i = j
  · subst q
    have hl := (List.getElem?_eq_some_iff.mp hi).1
    rw [List.getElem?_set_self hl] at hj
    cases hj
    obtain ⟨cl, g1, g2⟩ := H.2 i P hi
    cases w1.symm.trans g1
    exact ⟨cell.setSlot sl v, by simp [(Array.getElem?_eq_some_iff.mp w1).1], hP _ w1 g2⟩
  · rw [List.getElem?_set_ne q] at hj
    obtain ⟨cl, g1, g2⟩ := H.2 j P2 hj
    exact ⟨cl, by rw [Array.getElem?_setIfInBounds_ne (by omega)]; exact g1, g2⟩
theorem own_geti {i : Nat} {P P' : Cell → Prop} (hi : its[i]? = some P) : (its.set i P')[i]? = some P' := List.getElem?_set_self (List.getElem?_eq_some_iff.mp hi).1
/-- an object of just that class, its fields ns holding vs -/
def own_obj (Z : State) (C : String) (ns : List (String × String)) (vs : List Value) : Cell → Prop := fun cl => ∀ (h : Heap) (a : Addr), h[a]? = some cl → Exa Z h a C ∧ ∀ (i : Nat) (f : String × String) (v : Value), ns[i]? = some f → vs[i]? = some v → Fld Z h a C f.1 f.2 v
/-- an array of ints (shorts, chars, bytes) -/
def own_ia (Z : State) (ty : FieldType) (xs : List Int32) : Cell → Prop := fun cl => xs.length < 2 ^ 31 ∧ cl.slots = (xs.map Value.int).toArray ∧ Z.isArrayOf cl ty ∧ cl.vm ≠ .unknown ∧ (∀ x ∈ xs, fits ty (.int x) = true) ∧ Z.vm.findClass ("[" ++ ty.toString) = some cl.cls
/-- an array of longs -/
def own_la (Z : State) (xs : List Int64) : Cell → Prop := fun cl => xs.length < 2 ^ 31 ∧ cl.slots = (xs.map Value.long).toArray ∧ Z.isArrayOf cl .long ∧ cl.vm ≠ .unknown
/-- the fields' places are unlike -/
def own_apart (Z : State) (C : String) (ns : List (String × String)) : Prop := ∀ (i j : Nat) (f g : String × String), ns[i]? = some f → ns[j]? = some g → i ≠ j → Jvm.RoadKit.slotOf Z C f.1 f.2 ≠ Jvm.RoadKit.slotOf Z C g.1 g.2
theorem own_apart_of {C : String} {ns : List (String × String)} (hL : ∀ f ∈ ns, Laid Z a0 C C f.1 f.2 ∧ ∃ t, parseFieldDescriptor f.2 = some t) (hn : (ns.map (·.1)).Nodup) : own_apart Z C ns := by
  intro i j f g hi hj hij
  obtain ⟨l1, t1, d1⟩ := hL f (List.mem_of_getElem? hi)
  obtain ⟨l2, t2, d2⟩ := hL g (List.mem_of_getElem? hj)
  refine slot_ne l1 l2 (fun q => ?_) d1 d2
  have e1 : (ns.map (·.1))[i]? = some f.1 := by rw [List.getElem?_map, hi]; rfl
  have e2 : (ns.map (·.1))[j]? = some g.1 := by rw [List.getElem?_map, hj]; rfl
  obtain ⟨b1, c1⟩ := List.getElem?_eq_some_iff.mp e1
  obtain ⟨b2, c2⟩ := List.getElem?_eq_some_iff.mp e2
  have pw := List.pairwise_iff_getElem.mp hn
  rcases Nat.lt_or_gt_of_ne hij with z | z
  · exact pw i j b1 b2 z (by rw [c1, c2, q])
  · exact pw j i b2 b1 z (by rw [c1, c2, q])
theorem own_obj.set {C : String} {ns : List (String × String)} {vs : List Value} {j : Nat} {n d : String} {v old : Value} {cl : Cell} (O : own_obj Z C ns vs cl) (ap : own_apart Z C ns) (hj : ns[j]? = some (n, d)) (hv : vs[j]? = some old) (hlt : Jvm.RoadKit.slotOf Z C n d < cl.slots.size) (hst : cl.vm.isStatics = false) : own_obj Z C ns (vs.set j v) (cl.setSlot (Jvm.RoadKit.slotOf Z C n d) v) := by
  intro h2 a2 ha2
  have hb : (#[cl] : Heap)[0]? = some cl := rfl
  have W : Wr (#[cl] : Heap) (#[cl.setSlot (Jvm.RoadKit.slotOf Z C n d) v] : Heap) 0 (Jvm.RoadKit.slotOf Z C n d) v := ⟨cl, hb, hst, hlt, rfl⟩
  obtain ⟨E, F⟩ := O _ _ hb
  have E' : Exa Z (#[cl.setSlot (Jvm.RoadKit.slotOf Z C n d) v] : Heap) 0 C := E.wr W
  refine ⟨?_, fun i f w hi hw => ?_⟩
  · obtain ⟨c1, k, q1, r⟩ := E'
    cases (show (#[cl.setSlot (Jvm.RoadKit.slotOf Z C n d) v] : Heap)[0]? = some _ from rfl).symm.trans q1
    exact ⟨_, k, ha2, r⟩
  · have F' : Fld Z (#[cl.setSlot (Jvm.RoadKit.slotOf Z C n d) v] : Heap) 0 C f.1 f.2 w := by
      by_cases q : j = i
      · subst q
        cases hj.symm.trans hi
        rw [List.getElem?_set_self (List.getElem?_eq_some_iff.mp hv).1] at hw
        cases hw
        exact (F j (n, d) old hj hv).same W
      · rw [List.getElem?_set_ne q] at hw
        exact (F i f w hi hw).other W (Or.inr (ap i j f (n, d) hi hj (Ne.symm q)))
    obtain ⟨c1, cf, k, i1, f1, q1, r⟩ := F'
    cases (show (#[cl.setSlot (Jvm.RoadKit.slotOf Z C n d) v] : Heap)[0]? = some _ from rfl).symm.trans q1
    exact ⟨_, cf, k, i1, f1, ha2, r⟩
theorem own_db {bs : ByteArray} (h1 : c.code = bs) {r : Except DecodeError (Instr × Nat)} (h2 : decode bs pc = r) : decode c.code pc = r := h1 ▸ h2
/-! steps -/
theorem own_new (A : own_at p l e R s m args below meth c n0 T cells slots its) (hx : p.tables.exec = Jvm.exec) (hZ : Z.Warmed39 s.vm) {C : String} {index n : Nat} (hown : s.vm.findClass own = some m.cls) (w : (Cond.classLink own index C).before a0 Z = true) (wi : (Cond.instantiable C n).before a0 Z = true) (wz : (Cond.initialized C).before a0 Z = true)
    {ns : List (String × String)} {vs : List Value} (hns : ∀ f ∈ ns.zip vs, Laid Z a0 C C f.1.1 f.1.2 ∧ ∃ ty, parseFieldDescriptor f.1.2 = some ty ∧ f.2 = defaultValue ty)
    (hd : decode c.code pc = .ok (.new index, 3)) (hc : cells + 1 ≤ R.cells) (hl : slots + n ≤ R.slots)
    (k : ∀ T', own_at p l e R s m args below meth c n0 T' (cells + 1) (slots + n) (its ++ [own_obj Z C ns vs]) → own_go p e R s below n0 Q (T'.setTop (mkF m (pc + 3) Ls (.ref (n0 + its.length) :: stk)))) :
    own_go p e R s below n0 Q (T.setTop (mkF m pc Ls stk)) := by
  obtain ⟨L, X, N, H⟩ := A
  obtain ⟨vm', cC, kC, h1, h2, h3, h4, X', st⟩ := X.newCold hx hown (mv hZ w) (mv hZ wi) (mv hZ wz) (g := mkF m pc Ls stk) rfl hd hc hl
  rw [H.1] at st
  rw [hZ.alike.findClass] at h1
  obtain ⟨kZ, z1, -⟩ := Vm.findClass_spec h1
  obtain ⟨k', z2, z3⟩ := hZ.alike.2.2 _ _ z1
  cases h2.symm.trans z2
  have ei : kC.instanceTypes = kZ.instanceTypes := by rw [z3]
  refine own_by st (k _ ⟨L, X', N, H.push fun h2 a2 ha2 => ⟨⟨_, kZ, ha2, h1, z1, rfl, fun _ => by simp [ei]⟩, fun i f v hi hv => ?_⟩⟩)
  have hz : (ns.zip vs)[i]? = some (f, v) := List.getElem?_zip_eq_some.mpr ⟨hi, hv⟩
  obtain ⟨La, ty, ht, hdv⟩ := hns _ (List.mem_of_getElem? hz)
  obtain ⟨c1, k1, cf, kf, i1, f1, a1, a2', a3, a4, a5, a6, -⟩ := La.spec
  cases h1.symm.trans a1
  cases z1.symm.trans a2'
  dsimp only at hdv ht a3
  subst hdv
  exact ⟨_, cf, kf, i1, f1, ha2, a3, a4, by simp, rfl, a5, by simp [ei, a6, (State.fieldFound?_type a3 ht).2]⟩
theorem own_fit0 {ty : FieldType} (h0 : defaultValue ty = .int 0) : fits ty (.int 0) = true := by
  cases ty <;> first | rfl | (simp [defaultValue] at h0)
theorem own_newP (A : own_at p l e R s m args below meth c n0 T cells slots its) (hx : p.tables.exec = Jvm.exec) (hZ : Z.Warmed39 s.vm) {aty : ArrayType} (w : (Cond.arrayClass (newarray.typeOf aty)).before a0 Z = true)
    (hd : decode c.code pc = .ok (.newarray aty, 2)) {n : Int32} (q : Nat) (hn : ¬ n < 0 ∧ n.toNatClampNeg = q) {cap : Nat} (hcap : q ≤ cap) (hb : cap * 8 ≤ 536870912) (h0 : defaultValue (newarray.typeOf aty) = .int 0) (hc : cells + 1 ≤ R.cells) (hl : slots + cap ≤ R.slots)
    (k : ∀ T', own_at p l e R s m args below meth c n0 T' (cells + 1) (slots + cap) (its ++ [own_ia Z (newarray.typeOf aty) (List.replicate q 0)]) → own_go p e R s below n0 Q (T'.setTop (mkF m (pc + 2) Ls (.ref (n0 + its.length) :: stk)))) :
    own_go p e R s below n0 Q (T.setTop (mkF m pc Ls (.int n :: stk))) := by
  obtain ⟨L, X, N, H⟩ := A
  obtain ⟨hn, rfl⟩ := hn
  have hcb : componentBytes (newarray.typeOf aty) ≤ 8 := by cases aty <;> decide
  obtain ⟨cA, kA, comp, h1, h2, h3, X', st⟩ := X.newarrayPrim hx (mvA hZ w) (g := mkF m pc Ls (.int n :: stk)) rfl hd rfl hn (Nat.le_trans (Nat.mul_le_mul hcap hcb) hb) hc (by omega)
  rw [H.1] at st
  rw [hZ.alike.findClass] at h1
  obtain ⟨kZ, z1, -⟩ := Vm.findClass_spec h1
  obtain ⟨k', z2, z3⟩ := hZ.alike.2.2 _ _ z1
  cases h2.symm.trans z2
  refine own_by st (k _ ⟨L, X'.more (Nat.le_refl _) (by omega), N, H.push ⟨by rw [List.length_replicate]; exact n.toNatClampNeg_lt, by rw [h0]; simp [List.map_replicate], ⟨by simp, kZ, z1, comp, by rw [← h3, z3]⟩, by simp, fun x hx => ?_, h1⟩⟩)
  rw [List.eq_of_mem_replicate hx]
  exact own_fit0 h0
theorem own_newL (A : own_at p l e R s m args below meth c n0 T cells slots its) (hx : p.tables.exec = Jvm.exec) (hZ : Z.Warmed39 s.vm) (w : (Cond.arrayClass .long).before a0 Z = true)
    (hd : decode c.code pc = .ok (.newarray .long, 2)) {n : Int32} (q : Nat) (hn : ¬ n < 0 ∧ n.toNatClampNeg = q) {cap : Nat} (hcap : q ≤ cap) (hb : cap * 8 ≤ 536870912) (hc : cells + 1 ≤ R.cells) (hl : slots + cap ≤ R.slots)
    (k : ∀ T', own_at p l e R s m args below meth c n0 T' (cells + 1) (slots + cap) (its ++ [own_la Z (List.replicate q 0)]) → own_go p e R s below n0 Q (T'.setTop (mkF m (pc + 2) Ls (.ref (n0 + its.length) :: stk)))) :
    own_go p e R s below n0 Q (T.setTop (mkF m pc Ls (.int n :: stk))) := by
  obtain ⟨L, X, N, H⟩ := A
  obtain ⟨hn, rfl⟩ := hn
  obtain ⟨cA, kA, comp, h1, h2, h3, X', st⟩ := X.newarrayPrim hx (atype := .long) (mvA hZ w) (g := mkF m pc Ls (.int n :: stk)) rfl hd rfl hn (Nat.le_trans (Nat.mul_le_mul hcap (by decide)) hb) hc (by omega)
  rw [H.1] at st
  rw [hZ.alike.findClass] at h1
  obtain ⟨kZ, z1, -⟩ := Vm.findClass_spec h1
  obtain ⟨k', z2, z3⟩ := hZ.alike.2.2 _ _ z1
  cases h2.symm.trans z2
  exact own_by st (k _ ⟨L, X'.more (Nat.le_refl _) (by omega), N, H.push ⟨by rw [List.length_replicate]; exact n.toNatClampNeg_lt, by simp [List.map_replicate, newarray.typeOf, defaultValue], ⟨by simp, kZ, z1, comp, by rw [z3] at h3; exact h3⟩, by simp⟩⟩)
theorem own_getF (A : own_at p l e R s m args below meth c n0 T cells slots its) (hx : p.tables.exec = Jvm.exec) (hZ : Z.Warmed39 s.vm) {C n d : String} {index i : Nat} (hown : s.vm.findClass own = some m.cls) (w : (Cond.fieldLink own index C n d).before a0 Z = true)
    {ns : List (String × String)} {vs : List Value} (hi : its[i]? = some (own_obj Z C ns vs)) (j : Nat) (hj : ns[j]? = some (n, d)) {v : Value} (hv : vs[j]? = some v) (hd : decode c.code pc = .ok (.getfield index, 3))
    (k : ∀ T', own_at p l e R s m args below meth c n0 T' cells slots its → own_go p e R s below n0 Q (T'.setTop (mkF m (pc + 3) Ls (v :: stk)))) :
    own_go p e R s below n0 Q (T.setTop (mkF m pc Ls (.ref (n0 + i) :: stk))) := by
  obtain ⟨L, X, N, H⟩ := A
  obtain ⟨cl, g1, g2⟩ := H.2 i _ hi
  obtain ⟨T', X', e', st⟩ := getF X hx hZ hown (host := "") (Or.inl w) Via.refl rfl ((g2 _ _ g1).2 j _ v hj hv) (g := mkF m pc Ls (.ref (n0 + i) :: stk)) rfl rfl hd
  exact own_by st (k T' ⟨L, X', N, by rw [e']; exact H⟩)
theorem own_putF (A : own_at p l e R s m args below meth c n0 T cells slots its) (hx : p.tables.exec = Jvm.exec) (hZ : Z.Warmed39 s.vm) {C n d : String} {index i kk : Nat} {ty : FieldType} (hown : s.vm.findClass own = some m.cls) (w : (Cond.fieldLink own index C n d).before a0 Z = true)
    {ns : List (String × String)} {vs : List Value} (hi : its[i]? = some (own_obj Z C ns vs)) (j : Nat) (hj : ns[j]? = some (n, d)) {v v' old : Value} (hv : vs[j]? = some old) (ap : own_apart Z C ns)
    (La : (Cond.lays C C n d).before a0 Z = true ∨ ((Cond.laysFinal C C n d).before a0 Z = true ∧ own = C ∧ meth.name = "<init>")) (wi : (Cond.instantiable C kk).before a0 Z = true) (hty : parseFieldDescriptor d = some ty) (hn : narrow ty v = v') (hf : fits ty v' = true)
    (hd : decode c.code pc = .ok (.putfield index, 3)) {its2 : List (Cell → Prop)} (h2 : its.set i (own_obj Z C ns (vs.set j v')) = its2)
    (k : ∀ T', own_at p l e R s m args below meth c n0 T' cells slots its2 → own_go p e R s below n0 Q (T'.setTop (mkF m (pc + 3) Ls stk))) :
    own_go p e R s below n0 Q (T.setTop (mkF m pc Ls (v :: .ref (n0 + i) :: stk))) := by
  obtain ⟨L, X, N, H⟩ := A
  obtain ⟨cl, g1, g2⟩ := H.2 i _ hi
  obtain ⟨T', h', X', e', W, st⟩ := putFN X hx hZ hown w Via.refl rfl ((g2 _ _ g1).2 j _ old hj hv) (g2 _ _ g1).1 La wi hty hn hf (g := mkF m pc Ls (v :: .ref (n0 + i) :: stk)) rfl rfl hd
  have N' := Fr.snoc X' N (Nat.le_add_right n0 i)
  have W2 := W
  obtain ⟨cl2, w1, w2, w3, -⟩ := W2
  refine own_by st (k T' ⟨_, X', N', ?_⟩)
  rw [e', ← h2]
  exact H.wr hi W fun cl3 q1 q2 => by
    cases w1.symm.trans q1
    exact q2.set ap hj hv w3 w2
theorem own_ia.arr {ty : FieldType} {xs : List Int32} {cl : Cell} (O : own_ia Z ty xs cl) {a : Addr} (hc : h[a]? = some cl) : Arr Z h a cl ty := ⟨hc, O.2.2.1, O.2.2.2.1⟩
theorem own_ia.inb {ty : FieldType} {xs : List Int32} {cl : Cell} (O : own_ia Z ty xs cl) {j : Int32} {x : Int32} (hj : ¬ j < 0 ∧ xs[j.toNatClampNeg]? = some x) : ¬ (j < 0 ∨ cl.slots.size ≤ j.toNatClampNeg) ∧ cl.slots[j.toNatClampNeg]? = some (.int x) := by
  have hl := (List.getElem?_eq_some_iff.mp hj.2).1
  refine ⟨fun q => q.elim hj.1 fun q2 => ?_, ?_⟩
  · rw [O.2.1] at q2; simp at q2; omega
  · rw [O.2.1]; simp [hj.2]
theorem own_la.inb {xs : List Int64} {cl : Cell} (O : own_la Z xs cl) {j : Int32} {x : Int64} (hj : ¬ j < 0 ∧ xs[j.toNatClampNeg]? = some x) : ¬ (j < 0 ∨ cl.slots.size ≤ j.toNatClampNeg) ∧ cl.slots[j.toNatClampNeg]? = some (.long x) := by
  have hl := (List.getElem?_eq_some_iff.mp hj.2).1
  refine ⟨fun q => q.elim hj.1 fun q2 => ?_, ?_⟩
  · rw [O.2.1] at q2; simp at q2; omega
  · rw [O.2.1]; simp [hj.2]
theorem own_ia.set {ty : FieldType} {xs : List Int32} {cl : Cell} (O : own_ia Z ty xs cl) (q : Nat) {x : Int32} (hf : fits ty (.int x) = true) : own_ia Z ty (xs.set q x) (cl.setSlot q (.int x)) := by
  refine ⟨by rw [List.length_set]; exact O.1, ?_, O.2.2.1, O.2.2.2.1, fun y hy => ?_, O.2.2.2.2.2⟩
  · rw [Cell.setSlot]; show cl.slots.setIfInBounds q _ = _
    rw [O.2.1, List.setIfInBounds_toArray, List.map_set]
  · rcases List.mem_or_eq_of_mem_set hy with q | rfl
    · exact O.2.2.2.2.1 y q
    · exact hf
theorem own_la.set {xs : List Int64} {cl : Cell} (O : own_la Z xs cl) (q : Nat) {x : Int64} : own_la Z (xs.set q x) (cl.setSlot q (.long x)) := by
  refine ⟨by rw [List.length_set]; exact O.1, ?_, O.2.2.1, O.2.2.2⟩
  rw [Cell.setSlot]; show cl.slots.setIfInBounds q _ = _
  rw [O.2.1, List.setIfInBounds_toArray, List.map_set]
theorem own_iaload (A : own_at p l e R s m args below meth c n0 T cells slots its) (hx : p.tables.exec = Jvm.exec) (hZ : Z.Warmed39 s.vm) {i : Nat} {xs : List Int32} (hi : its[i]? = some (own_ia Z .int xs)) {j x : Int32} (hj : ¬ j < 0 ∧ xs[j.toNatClampNeg]? = some x) (hd : decode c.code pc = .ok (.iaload, 1))
    (k : own_go p e R s below n0 Q (T.setTop (mkF m (pc + 1) Ls (.int x :: stk)))) : own_go p e R s below n0 Q (T.setTop (mkF m pc Ls (.int j :: .ref (n0 + i) :: stk))) := by
  obtain ⟨L, X, N, H⟩ := A
  obtain ⟨cl, g1, g2⟩ := H.2 i _ hi
  exact own_by (fun t k => X.iaload hx g1 (State.isArrayOf_alike hZ.alike g2.2.2.1) g2.2.2.2.1 (g2.inb hj).1 (g2.inb hj).2 (g := mkF m pc Ls (.int j :: .ref (n0 + i) :: stk)) rfl rfl hd t k) k
theorem own_caload (A : own_at p l e R s m args below meth c n0 T cells slots its) (hx : p.tables.exec = Jvm.exec) (hZ : Z.Warmed39 s.vm) {i : Nat} {xs : List Int32} (hi : its[i]? = some (own_ia Z .char xs)) {j x : Int32} (hj : ¬ j < 0 ∧ xs[j.toNatClampNeg]? = some x) (hd : decode c.code pc = .ok (.caload, 1))
    (k : own_go p e R s below n0 Q (T.setTop (mkF m (pc + 1) Ls (.int x :: stk)))) : own_go p e R s below n0 Q (T.setTop (mkF m pc Ls (.int j :: .ref (n0 + i) :: stk))) := by
  obtain ⟨L, X, N, H⟩ := A
  obtain ⟨cl, g1, g2⟩ := H.2 i _ hi
  exact own_by (fun t k => X.caload hx g1 (State.isArrayOf_alike hZ.alike g2.2.2.1) g2.2.2.2.1 (g2.inb hj).1 (g2.inb hj).2 (g := mkF m pc Ls (.int j :: .ref (n0 + i) :: stk)) rfl rfl hd t k) k
theorem own_baload (A : own_at p l e R s m args below meth c n0 T cells slots its) (hx : p.tables.exec = Jvm.exec) (hZ : Z.Warmed39 s.vm) {i : Nat} {xs : List Int32} (hi : its[i]? = some (own_ia Z .byte xs)) {j x : Int32} (hj : ¬ j < 0 ∧ xs[j.toNatClampNeg]? = some x) (hd : decode c.code pc = .ok (.baload, 1))
    (k : own_go p e R s below n0 Q (T.setTop (mkF m (pc + 1) Ls (.int x :: stk)))) : own_go p e R s below n0 Q (T.setTop (mkF m pc Ls (.int j :: .ref (n0 + i) :: stk))) := by
  obtain ⟨L, X, N, H⟩ := A
  obtain ⟨cl, g1, g2⟩ := H.2 i _ hi
  exact own_by (fun t k => X.baloadBytes hx g1 (State.isArrayOf_alike hZ.alike g2.2.2.1) g2.2.2.2.1 (g2.inb hj).1 (g2.inb hj).2 (g := mkF m pc Ls (.int j :: .ref (n0 + i) :: stk)) rfl rfl hd t k) k
theorem own_laload (A : own_at p l e R s m args below meth c n0 T cells slots its) (hx : p.tables.exec = Jvm.exec) (hZ : Z.Warmed39 s.vm) {i : Nat} {xs : List Int64} (hi : its[i]? = some (own_la Z xs)) {j : Int32} {x : Int64} (hj : ¬ j < 0 ∧ xs[j.toNatClampNeg]? = some x) (hd : decode c.code pc = .ok (.laload, 1))
    (k : own_go p e R s below n0 Q (T.setTop (mkF m (pc + 1) Ls (.long x :: stk)))) : own_go p e R s below n0 Q (T.setTop (mkF m pc Ls (.int j :: .ref (n0 + i) :: stk))) := by
  obtain ⟨L, X, N, H⟩ := A
  obtain ⟨cl, g1, g2⟩ := H.2 i _ hi
  exact own_by (fun t k => X.laload hx g1 (State.isArrayOf_alike hZ.alike g2.2.2.1) g2.2.2.2 (g2.inb hj).1 (g2.inb hj).2 (g := mkF m pc Ls (.int j :: .ref (n0 + i) :: stk)) rfl rfl hd t k) k
theorem own_at.wrote (N : Fr n0 locs) (H : own_hp n0 h its) {T' : State} {i sl : Nat} {v : Value} {P P' : Cell → Prop} (X' : Stand p l e R s m args below meth c T' (locs ++ [⟨n0 + i, sl⟩]) cells slots) (e' : T'.heap = h') (hi : its[i]? = some P) (W : Wr h h' (n0 + i) sl v) (hP : ∀ cl, h[n0 + i]? = some cl → P cl → P' (cl.setSlot sl v)) : own_at p l e R s m args below meth c n0 T' cells slots (its.set i P') :=
  ⟨_, X', Fr.snoc X' N (Nat.le_add_right n0 i), by rw [e']; exact H.wr hi W hP⟩
theorem own_ib {xs : List Int32} {ty : FieldType} {cl : Cell} (O : own_ia Z ty xs cl) {j : Int32} {q : Nat} (hj : ¬ j < 0 ∧ j.toNatClampNeg = q ∧ q < xs.length) : ¬ (j < 0 ∨ cl.slots.size ≤ j.toNatClampNeg) := by
  obtain ⟨h1, rfl, h3⟩ := hj
  refine fun z => z.elim h1 fun z => ?_
  rw [O.2.1] at z; simp at z; omega
theorem own_iastore (A : own_at p l e R s m args below meth c n0 T cells slots its) (hx : p.tables.exec = Jvm.exec) (hZ : Z.Warmed39 s.vm) {i : Nat} {xs : List Int32} (hi : its[i]? = some (own_ia Z .int xs)) {j x : Int32} (q : Nat) (hj : ¬ j < 0 ∧ j.toNatClampNeg = q ∧ q < xs.length) (hd : decode c.code pc = .ok (.iastore, 1)) {its2 : List (Cell → Prop)} (h2 : its.set i (own_ia Z .int (xs.set q x)) = its2)
    (k : ∀ T', own_at p l e R s m args below meth c n0 T' cells slots its2 → own_go p e R s below n0 Q (T'.setTop (mkF m (pc + 1) Ls stk))) : own_go p e R s below n0 Q (T.setTop (mkF m pc Ls (.int x :: .int j :: .ref (n0 + i) :: stk))) := by
  obtain ⟨L, X, N, H⟩ := A
  obtain ⟨cl, g1, g2⟩ := H.2 i _ hi
  obtain ⟨T', h', X', e', W, st⟩ := stI X hx hZ rfl (g2.arr g1) (own_ib g2 hj) (g := mkF m pc Ls (.int x :: .int j :: .ref (n0 + i) :: stk)) rfl rfl hd
  obtain ⟨j1, rfl, j3⟩ := hj
  exact own_by st (k T' (h2 ▸ own_at.wrote N H X' e' hi W fun cl _ O => O.set _ rfl))
theorem own_castore (A : own_at p l e R s m args below meth c n0 T cells slots its) (hx : p.tables.exec = Jvm.exec) (hZ : Z.Warmed39 s.vm) {i : Nat} {xs : List Int32} (hi : its[i]? = some (own_ia Z .char xs)) {j x : Int32} (q : Nat) (hj : ¬ j < 0 ∧ j.toNatClampNeg = q ∧ q < xs.length) (hd : decode c.code pc = .ok (.castore, 1)) {its2 : List (Cell → Prop)} (h2 : its.set i (own_ia Z .char (xs.set q (nar .char x))) = its2)
    (k : ∀ T', own_at p l e R s m args below meth c n0 T' cells slots its2 → own_go p e R s below n0 Q (T'.setTop (mkF m (pc + 1) Ls stk))) : own_go p e R s below n0 Q (T.setTop (mkF m pc Ls (.int x :: .int j :: .ref (n0 + i) :: stk))) := by
  obtain ⟨L, X, N, H⟩ := A
  obtain ⟨cl, g1, g2⟩ := H.2 i _ hi
  obtain ⟨T', h', X', e', W, st⟩ := stC X hx hZ rfl (g2.arr g1) (own_ib g2 hj) (g := mkF m pc Ls (.int x :: .int j :: .ref (n0 + i) :: stk)) rfl rfl hd
  obtain ⟨j1, rfl, j3⟩ := hj
  exact own_by st (k T' (h2 ▸ own_at.wrote N H X' e' hi W fun cl _ O => O.set _ (fits_nar_char x)))
theorem own_bastore (A : own_at p l e R s m args below meth c n0 T cells slots its) (hx : p.tables.exec = Jvm.exec) (hZ : Z.Warmed39 s.vm) {i : Nat} {xs : List Int32} (hi : its[i]? = some (own_ia Z .byte xs)) {j x : Int32} (q : Nat) (hj : ¬ j < 0 ∧ j.toNatClampNeg = q ∧ q < xs.length) (hd : decode c.code pc = .ok (.bastore, 1)) {its2 : List (Cell → Prop)} (h2 : its.set i (own_ia Z .byte (xs.set q (nar .byte x))) = its2)
    (k : ∀ T', own_at p l e R s m args below meth c n0 T' cells slots its2 → own_go p e R s below n0 Q (T'.setTop (mkF m (pc + 1) Ls stk))) : own_go p e R s below n0 Q (T.setTop (mkF m pc Ls (.int x :: .int j :: .ref (n0 + i) :: stk))) := by
  obtain ⟨L, X, N, H⟩ := A
  obtain ⟨cl, g1, g2⟩ := H.2 i _ hi
  obtain ⟨T', h', X', e', W, st⟩ := stB X hx hZ rfl (g2.arr g1) (own_ib g2 hj) (g := mkF m pc Ls (.int x :: .int j :: .ref (n0 + i) :: stk)) rfl rfl hd
  obtain ⟨j1, rfl, j3⟩ := hj
  exact own_by st (k T' (h2 ▸ own_at.wrote N H X' e' hi W fun cl _ O => O.set _ (fits_nar_byte x)))
theorem own_lastore (A : own_at p l e R s m args below meth c n0 T cells slots its) (hx : p.tables.exec = Jvm.exec) (hZ : Z.Warmed39 s.vm) {i : Nat} {xs : List Int64} (hi : its[i]? = some (own_la Z xs)) {j : Int32} {x : Int64} (q : Nat) (hj : ¬ j < 0 ∧ j.toNatClampNeg = q ∧ q < xs.length) (hd : decode c.code pc = .ok (.lastore, 1)) {its2 : List (Cell → Prop)} (h2 : its.set i (own_la Z (xs.set q x)) = its2)
    (k : ∀ T', own_at p l e R s m args below meth c n0 T' cells slots its2 → own_go p e R s below n0 Q (T'.setTop (mkF m (pc + 1) Ls stk))) : own_go p e R s below n0 Q (T.setTop (mkF m pc Ls (.long x :: .int j :: .ref (n0 + i) :: stk))) := by
  obtain ⟨L, X, N, H⟩ := A
  obtain ⟨cl, g1, g2⟩ := H.2 i _ hi
  obtain ⟨j1, rfl, j3⟩ := hj
  have hb : ¬ (j < 0 ∨ cl.slots.size ≤ j.toNatClampNeg) := fun z => z.elim j1 fun z => by rw [g2.2.1] at z; simp at z; omega
  obtain ⟨T', h', X', e', W, st⟩ := stJ X hx hZ rfl (⟨g1, g2.2.2.1, g2.2.2.2⟩ : Arr Z T.heap (n0 + i) cl .long) hb (g := mkF m pc Ls (.long x :: .int j :: .ref (n0 + i) :: stk)) rfl rfl hd
  exact own_by st (k T' (h2 ▸ own_at.wrote N H X' e' hi W fun cl _ O => O.set _))
theorem own_len (A : own_at p l e R s m args below meth c n0 T cells slots its) (hx : p.tables.exec = Jvm.exec) (hZ : Z.Warmed39 s.vm) {i : Nat} {ty : FieldType} {xs : List Int32} (hi : its[i]? = some (own_ia Z ty xs)) {z : Int32} (hz : xs.length.toInt32 = z) (hd : decode c.code pc = .ok (.arraylength, 1))
    (k : own_go p e R s below n0 Q (T.setTop (mkF m (pc + 1) Ls (.int z :: stk)))) : own_go p e R s below n0 Q (T.setTop (mkF m pc Ls (.ref (n0 + i) :: stk))) := by
  obtain ⟨L, X, N, H⟩ := A
  obtain ⟨cl, g1, g2⟩ := H.2 i _ hi
  have q : cl.slots.size.toInt32 = z := by rw [g2.2.1]; simpa using hz
  subst q
  exact own_by (fun t k => X.arraylength hx g1 (State.isArrayOf_alike hZ.alike g2.2.2.1) (g := mkF m pc Ls (.ref (n0 + i) :: stk)) rfl rfl hd t k) k
theorem own_lenL (A : own_at p l e R s m args below meth c n0 T cells slots its) (hx : p.tables.exec = Jvm.exec) (hZ : Z.Warmed39 s.vm) {i : Nat} {xs : List Int64} (hi : its[i]? = some (own_la Z xs)) {z : Int32} (hz : xs.length.toInt32 = z) (hd : decode c.code pc = .ok (.arraylength, 1))
    (k : own_go p e R s below n0 Q (T.setTop (mkF m (pc + 1) Ls (.int z :: stk)))) : own_go p e R s below n0 Q (T.setTop (mkF m pc Ls (.ref (n0 + i) :: stk))) := by
  obtain ⟨L, X, N, H⟩ := A
  obtain ⟨cl, g1, g2⟩ := H.2 i _ hi
  have q : cl.slots.size.toInt32 = z := by rw [g2.2.1]; simpa using hz
  subst q
  exact own_by (fun t k => X.arraylength hx g1 (State.isArrayOf_alike hZ.alike g2.2.2.1) (g := mkF m pc Ls (.ref (n0 + i) :: stk)) rfl rfl hd t k) k
theorem own_ldcI (A : own_at p l e R s m args below meth c n0 T cells slots its) (hx : p.tables.exec = Jvm.exec) (hZ : Z.Warmed39 s.vm) (hown : s.vm.findClass own = some m.cls) {index : Nat} {v : Int32} (w : (Cond.constant own index v).before a0 Z = true) (hd : decode c.code pc = .ok (.ldc index, 2))
    (k : own_go p e R s below n0 Q (T.setTop (mkF m (pc + 2) Ls (.int v :: stk)))) : own_go p e R s below n0 Q (T.setTop (mkF m pc Ls stk)) := by
  obtain ⟨L, X, N, H⟩ := A
  exact own_by (X.ldcInt hx hown (mvT hZ w) (g := mkF m pc Ls stk) rfl hd) k
theorem own_ldcJ (A : own_at p l e R s m args below meth c n0 T cells slots its) (hx : p.tables.exec = Jvm.exec) (hZ : Z.Warmed39 s.vm) (hown : s.vm.findClass own = some m.cls) {index : Nat} {v : Int64} (w : (Cond.constantLong own index v).before a0 Z = true) (hd : decode c.code pc = .ok (.ldc2_w index, 3))
    (k : own_go p e R s below n0 Q (T.setTop (mkF m (pc + 3) Ls (.long v :: stk)))) : own_go p e R s below n0 Q (T.setTop (mkF m pc Ls stk)) := by
  obtain ⟨L, X, N, H⟩ := A
  exact own_by (X.ldc2Long hx hown (mvT hZ w) (g := mkF m pc Ls stk) rfl hd) k
theorem own_irem (A : own_at p l e R s m args below meth c n0 T cells slots its) (hx : p.tables.exec = Jvm.exec) {x y : Int32} (hy : y ≠ 0) (hd : decode c.code pc = .ok (.irem, 1))
    (k : own_go p e R s below n0 Q (T.setTop (mkF m (pc + 1) Ls (.int (x % y) :: stk)))) : own_go p e R s below n0 Q (T.setTop (mkF m pc Ls (.int y :: .int x :: stk))) := by
  obtain ⟨L, X, N, H⟩ := A
  exact own_by (fun t k => iremM X hx (g := mkF m pc Ls (.int y :: .int x :: stk)) rfl hd rfl hy k) k
theorem own_lrem (A : own_at p l e R s m args below meth c n0 T cells slots its) (hx : p.tables.exec = Jvm.exec) {x y : Int64} (hy : y ≠ 0) (hd : decode c.code pc = .ok (.lrem, 1))
    (k : own_go p e R s below n0 Q (T.setTop (mkF m (pc + 1) Ls (.long (x % y) :: stk)))) : own_go p e R s below n0 Q (T.setTop (mkF m pc Ls (.long y :: .long x :: stk))) := by
  rw [← lrem_mod] at k
  exact own_by (fun t k => XS.lrem A.here hx (g := mkF m pc Ls (.long y :: .long x :: stk)) rfl hd rfl hy k) k
theorem own_initO (A : own_at p l e R s m args below meth c n0 T cells slots its) (hx : p.tables.exec = Jvm.exec) (hZ : Z.Warmed39 s.vm) (hown : s.vm.findClass own = some m.cls) {idx : Nat} (w1 : (Cond.methodLink own idx Lib.objectInit).before a0 Z = true) (w2 : (Cond.instanceMethod Lib.objectInit).before a0 Z = true) (w3 : (Cond.code Lib.objectInit object_method_1_code 1 none).before a0 Z = true)
    (hml : Ls.size = c.maxLocals) {a : Addr} (hd : decode c.code pc = .ok (.invokespecial idx, 3)) (hf : 1 ≤ R.frames) {W : Nat} (hW : 2 * 0 + (stk.map fun v => v.category).sum ≤ W) (hl : W + 12 ≤ R.locals)
    (k : ∀ T', own_at p l e R s m args below meth c n0 T' cells slots its → own_go p e R s below n0 Q (T'.setTop (mkF m (pc + 3) Ls stk))) : own_go p e R s below n0 Q (T.setTop (mkF m pc Ls (.ref a :: stk))) := by
  obtain ⟨L, X, N, H⟩ := A
  obtain ⟨T', X', e', st⟩ := initO X hx hZ hown w1 w2 w3 rfl (g := mkF m pc Ls (.ref a :: stk)) rfl hml rfl hd hf hW hl
  exact own_by st (k T' ⟨L, X', N, by rw [e']; exact H⟩)
/-! the end -/
theorem own_ret (A : own_at p l e R s m args below meth c n0 T cells slots its) (hx : p.tables.exec = Jvm.exec) (hlk : meth.locks = false) {w : Value} {t : FieldType} {i : Instr} (hret : meth.sig.returnType = some t) (hn : narrow t w = w)
    (hi : (i = .ireturn ∧ (t = .int ∨ t = .boolean ∨ t = .byte ∨ t = .char ∨ t = .short) ∧ ∃ z, w = .int z) ∨ (i = .lreturn ∧ t = .long ∧ ∃ z, w = .long z) ∨ (i = .dreturn ∧ t = .double ∧ ∃ z, w = .double z) ∨ (i = .freturn ∧ t = .float ∧ ∃ z, w = .float z) ∨ (i = .areturn ∧ t.isReference = true ∧ w.isRef = true))
    (hd : decode c.code pc = .ok (i, 1)) (hc : cells ≤ R.cells) (hs : slots ≤ R.slots) (hQ : Q (some w) its) : own_go p e R s below n0 Q (T.setTop (mkF m pc Ls (w :: stk))) := by
  obtain ⟨L, X, N, H⟩ := A
  obtain ⟨fs, hr, hrun, hended, hW, hsame⟩ := X.leave (v := some w) (fun h => by rw [hret] at h; cases h) hlk
  exact ⟨_, _, _, _, retOut X hx hret hn hi hd hr, hrun, hended, hQ, N, H, hW, hsame.mono hc hs⟩
theorem own_retI (A : own_at p l e R s m args below meth c n0 T cells slots its) (hx : p.tables.exec = Jvm.exec) (hlk : meth.locks = false) {w : Int32} (hret : meth.sig.returnType = some .int) (hd : decode c.code pc = .ok (.ireturn, 1)) (hc : cells ≤ R.cells) (hs : slots ≤ R.slots) (hQ : Q (some (.int w)) its) : own_go p e R s below n0 Q (T.setTop (mkF m pc Ls (.int w :: stk))) :=
  own_ret A hx hlk hret rfl (Or.inl ⟨rfl, Or.inl rfl, w, rfl⟩) hd hc hs hQ
theorem own_retJ (A : own_at p l e R s m args below meth c n0 T cells slots its) (hx : p.tables.exec = Jvm.exec) (hlk : meth.locks = false) {w : Int64} (hret : meth.sig.returnType = some .long) (hd : decode c.code pc = .ok (.lreturn, 1)) (hc : cells ≤ R.cells) (hs : slots ≤ R.slots) (hQ : Q (some (.long w)) its) : own_go p e R s below n0 Q (T.setTop (mkF m pc Ls (.long w :: stk))) :=
  own_ret A hx hlk hret rfl (Or.inr (Or.inl ⟨rfl, rfl, w, rfl⟩)) hd hc hs hQ
theorem own_retA (A : own_at p l e R s m args below meth c n0 T cells slots its) (hx : p.tables.exec = Jvm.exec) (hlk : meth.locks = false) {a : Addr} {t : FieldType} (hret : meth.sig.returnType = some t) (hn : narrow t (.ref a) = .ref a) (ht : t.isReference = true) (hd : decode c.code pc = .ok (.areturn, 1)) (hc : cells ≤ R.cells) (hs : slots ≤ R.slots) (hQ : Q (some (.ref a)) its) : own_go p e R s below n0 Q (T.setTop (mkF m pc Ls (.ref a :: stk))) :=
  own_ret A hx hlk hret hn (Or.inr (Or.inr (Or.inr (Or.inr ⟨rfl, ht, rfl⟩)))) hd hc hs hQ
theorem own_retN (A : own_at p l e R s m args below meth c n0 T cells slots its) (hx : p.tables.exec = Jvm.exec) (hlk : meth.locks = false) {w : Int32} {t : FieldType} (ht : t = .boolean ∨ t = .byte ∨ t = .char ∨ t = .short) (hret : meth.sig.returnType = some t) (hd : decode c.code pc = .ok (.ireturn, 1)) (hc : cells ≤ R.cells) (hs : slots ≤ R.slots) (hQ : Q (some (.int (nar t w))) its) : own_go p e R s below n0 Q (T.setTop (mkF m pc Ls (.int w :: stk))) := by
  obtain ⟨L, X, N, H⟩ := A
  obtain ⟨fs, hr, hrun, hended, hW, hsame⟩ := X.leave (v := some (.int (nar t w))) (fun h => by rw [hret] at h; cases h) hlk
  exact ⟨_, _, _, _, retN X hx hret ht hd hr, hrun, hended, hQ, N, H, hW, hsame.mono hc hs⟩
theorem own_retV (A : own_at p l e R s m args below meth c n0 T cells slots its) (hx : p.tables.exec = Jvm.exec) (hlk : meth.locks = false) (hret : meth.sig.returnType = none) (hd : decode c.code pc = .ok (.return_, 1)) (hc : cells ≤ R.cells) (hs : slots ≤ R.slots) (hQ : Q none its) : own_go p e R s below n0 Q (T.setTop (mkF m pc Ls [])) := by
  obtain ⟨L, X, N, H⟩ := A
  obtain ⟨fs, hr, hrun, hended, hW, hsame⟩ := X.leave (v := none) (fun _ => rfl) hlk
  exact ⟨_, _, _, _, X.returnOut hx hret hd hr, hrun, hended, hQ, N, H, hW, hsame.mono hc hs⟩
/-! contracts -/
/-- a method's contract: with these arguments, over a heap whose new part is its, it returns as Q says -/
def own_met (l : Launch) (Z : State) (n0 : Nat) (y : MethodName) (bytes : ByteArray) (maxL : Nat) (ret : Option FieldType) (rm : Room) (as : Array Value) (its : List (Cell → Prop)) (Q : Option Value → List (Cell → Prop) → Prop) : Prop :=
  ∀ (h0 : Heap) (ws : List Jvm.Cond), own_hp n0 h0 its → MetFree l y (head1 (Jvm.Cond.code y bytes maxL ret :: ws) rm) (fun a U => a = as ∧ Z.Warmed39 U.vm ∧ U.heap = h0) (fun _ _ _ _ _ => True) (fun _ U o U' => ∃ v L, o = .returned v ∧ (Fr n0 L ∧ ∃ its', Q v its' ∧ own_hp n0 U'.heap its') ∧ FrameEnd U o U' L rm.cells rm.slots)
variable {y z : MethodName} {bytes : ByteArray} {maxL : Nat} {ret : Option FieldType} {rm : Room} {as : Array Value} {Q' : Option Value → List (Cell → Prop) → Prop}
theorem own_met.of (hpn : plainFor y = true)
    (body : ∀ (p : Program) (e : Env) (s : State) (m : MethodId) (below : List Frame) (meth : Method) (c : Code) (T : State), p.tables.exec = Jvm.exec → c.code = bytes → c.maxLocals = maxL → meth.sig.returnType = ret → meth.locks = false → Z.Warmed39 s.vm → s.vm.findClass y.cls = some m.cls → meth.name = y.name → own_at p l e rm s m as below meth c n0 T 0 0 its → own_go p e rm s below n0 Q (T.setTop (entryFrame m as maxL))) :
    own_met l Z n0 y bytes maxL ret rm as its Q := by
  intro h0 ws H
  refine MetFree.of_bodySF hpn hisR ?_
  intro p e s m args below meth c s₁ Bd hml0 hP hK
  obtain ⟨rfl, hZ, hh⟩ := hP
  have X0 : Stand p l e rm s m args below meth c s₁ [] 0 0 := Stand.of_body Bd
  have e0 : s₁.heap = h0 := by rw [← hh, Bd.state]; rfl
  obtain ⟨t, v, L, its', h1, h2, h3, h4, h5, h6, h7, h8⟩ := body p e s m below meth c s₁ Bd.exec Bd.bytes hml0 Bd.returns (BodyLoose.notSynchronized Bd) hZ (findClass_of_methodNamed Bd.named) (name_of_methodNamed Bd.named Bd.method).1 ⟨[], X0, Fr.nil n0, by rw [e0]; exact H⟩
  exact ⟨t, _, h1, h2, h3, v, L, rfl, ⟨h5, its', h4, h6⟩, ⟨_, rfl⟩, h7, h8⟩
theorem own_post {A B : Pt} {rm : Room} {v : Option Value} (hP : ∃ L, (Fr n0 L ∧ ∃ its', Q' v its' ∧ own_hp n0 B.U.heap its') ∧ B.locs = A.locs ++ L ∧ B.cells = A.cells + rm.cells ∧ B.slots = A.slots + rm.slots) (X : Stand p l e R s m args below meth c B.U B.locs B.cells B.slots) (N : Fr n0 A.locs) :
    ∃ its', Q' v its' ∧ own_at p l e R s m args below meth c n0 B.U (A.cells + rm.cells) (A.slots + rm.slots) its' := by
  obtain ⟨L, ⟨h1, its', h2, h3⟩, h4, h5, h6⟩ := hP
  rw [h4, h5, h6] at X
  exact ⟨its', h2, _, X, N.app h1, h3⟩
theorem own_callS (A : own_at p l e R s m args below meth c n0 T cells slots its) (hx : p.tables.exec = Jvm.exec) (hZ : Z.Warmed39 s.vm) (hown : s.vm.findClass own = some m.cls) {index : Nat} (w1 : (Cond.methodLink own index y).before a0 Z = true) (w2 : (Cond.static y).before a0 Z = true) (w3 : (Cond.initialized y.cls).before a0 Z = true) (w4 : (Cond.code y bytes maxL ret).before a0 Z = true)
    (hy : y.cls ≠ "java/lang/invoke/MethodHandle" ∧ y.cls ≠ "java/lang/invoke/VarHandle") (M : own_met l Z n0 y bytes maxL ret rm as its Q') (hml : Ls.size = c.maxLocals) (argsL : List Value) (has : argsL.toArray = as) (hstk : stk = argsL.reverse ++ rest) {ps : List FieldType} {r : Option FieldType} (pd : parseMethodDescriptor y.desc = some ⟨ps, r⟩) (hlen : argsL.length = ps.length)
    {W : Nat} (hW : 2 * 0 + (rest.map fun v => v.category).sum ≤ W) (hd : decode c.code pc = .ok (.invokestatic index, 3)) (hf : rm.frames + 1 ≤ R.frames) (hl : W + (maxL + 11) + rm.locals ≤ R.locals) (hc : cells + rm.cells ≤ R.cells) (hs : slots + rm.slots ≤ R.slots)
    (k : ∀ (v : Option Value) (its' : List (Cell → Prop)) (T' : State), Q' v its' → own_at p l e R s m args below meth c n0 T' (cells + rm.cells) (slots + rm.slots) its' → own_go p e R s below n0 Q (T'.setTop (mkF m (pc + 3) Ls (v.toList ++ rest)))) :
    own_go p e R s below n0 Q (T.setTop (mkF m pc Ls stk)) := by
  obtain ⟨L, X, N, H⟩ := A
  subst hstk has
  obtain ⟨v, vm1, B, -, XB, hP, st⟩ := Jvm.LawKit.callS X hx (y := y) hown (mvT hZ w1) (mvT hZ w2) (mvT hZ w3) (mvT hZ w4) hy (backOf (W := W) (Q := fun v h L => Fr n0 L ∧ ∃ its', Q' v its' ∧ own_hp n0 h its') (M T.heap [] H) hZ w4 w3 hf hl) (g := mkF m pc Ls (argsL.reverse ++ rest)) rfl hml (argsL := argsL) (rest := rest) (lenOf pd hlen) rfl hW hd (fun _ _ => ⟨rfl, rfl, hc, hs⟩)
  obtain ⟨its', q1, q2⟩ := own_post hP XB N
  exact own_by st (k v its' B.U q1 q2)
theorem own_tr {u u' : State} (st : Steps p.tables e below u u') (k : own_go p e R s below n0 Q u') : own_go p e R s below n0 Q u := own_by (fun _ q => st.trans q) k
theorem own_callC (A : own_at p l e R s m args below meth c n0 T cells slots its) (hx : p.tables.exec = Jvm.exec) (hZ : Z.Warmed39 s.vm) (hown : s.vm.findClass own = some m.cls) {index : Nat} (hy1 : y.name = "<init>") (w1 : (Cond.methodLink own index y).before a0 Z = true) (w2 : (Cond.instanceMethod y).before a0 Z = true) (w3 : (Cond.initialized y.cls).before a0 Z = true) (w4 : (Cond.code y bytes maxL none).before a0 Z = true)
    (hy : y.cls ≠ "java/lang/invoke/MethodHandle" ∧ y.cls ≠ "java/lang/invoke/VarHandle") (M : own_met l Z n0 y bytes maxL none rm as its Q') (hml : Ls.size = c.maxLocals) (a : Addr) (argsL : List Value) (has : (Value.ref a :: argsL).toArray = as) (hstk : stk = argsL.reverse ++ .ref a :: rest) {ps : List FieldType} {r : Option FieldType} (pd : parseMethodDescriptor y.desc = some ⟨ps, r⟩) (hlen : argsL.length = ps.length)
    {W : Nat} (hW : 2 * 0 + (rest.map fun v => v.category).sum ≤ W) (hd : decode c.code pc = .ok (.invokespecial index, 3)) (hf : rm.frames + 1 ≤ R.frames) (hl : W + (maxL + 11) + rm.locals ≤ R.locals) (hc : cells + rm.cells ≤ R.cells) (hs : slots + rm.slots ≤ R.slots)
    (k : ∀ (v : Option Value) (its' : List (Cell → Prop)) (T' : State), Q' v its' → own_at p l e R s m args below meth c n0 T' (cells + rm.cells) (slots + rm.slots) its' → own_go p e R s below n0 Q (T'.setTop (mkF m (pc + 3) Ls (v.toList ++ rest)))) :
    own_go p e R s below n0 Q (T.setTop (mkF m pc Ls stk)) := by
  obtain ⟨L, X, N, H⟩ := A
  subst hstk has
  obtain ⟨v, vm1, B, -, XB, hP, st⟩ := X.specialBack hx (y := y) hy1 hown (mvT hZ w1) (mvT hZ w2) (mvT hZ w4) hy (backOf (W := W) (Q := fun v h L => Fr n0 L ∧ ∃ its', Q' v its' ∧ own_hp n0 h its') (M T.heap [] H) hZ w4 w3 hf hl) (g := mkF m pc Ls (argsL.reverse ++ .ref a :: rest)) rfl hml (Steps.refl _) (a := a) (argsL := argsL) (rest := rest) (lenOf pd hlen) rfl hW hd (fun _ _ => ⟨rfl, rfl, hc, hs⟩)
  obtain ⟨its', q1, q2⟩ := own_post hP XB N
  exact own_tr st (k v its' B.U q1 q2)
theorem own_callV (A : own_at p l e R s m args below meth c n0 T cells slots its) (hx : p.tables.exec = Jvm.exec) (hZ : Z.Warmed39 s.vm) (hown : s.vm.findClass own = some m.cls) {index i : Nat} (w1 : (Cond.methodLink own index y).before a0 Z = true) (w2 : (Cond.declares y).before a0 Z = true) (w3 : (Cond.selects y.cls y y).before a0 Z = true) (w4 : (Cond.instanceMethod y).before a0 Z = true) (w5 : (Cond.initialized y.cls).before a0 Z = true) (w6 : (Cond.code y bytes maxL ret).before a0 Z = true)
    (hy : y.cls ≠ "java/lang/invoke/MethodHandle" ∧ y.cls ≠ "java/lang/invoke/VarHandle") {ns : List (String × String)} {vs : List Value} (hi : its[i]? = some (own_obj Z y.cls ns vs)) (M : own_met l Z n0 y bytes maxL ret rm as its Q') (hml : Ls.size = c.maxLocals) (argsL : List Value) (has : (Value.ref (n0 + i) :: argsL).toArray = as) (hstk : stk = argsL.reverse ++ .ref (n0 + i) :: rest) {ps : List FieldType} {r : Option FieldType} (pd : parseMethodDescriptor y.desc = some ⟨ps, r⟩) (hlen : argsL.length = ps.length)
    {W : Nat} (hW : 2 * 0 + (rest.map fun v => v.category).sum ≤ W) (hd : decode c.code pc = .ok (.invokevirtual index, 3)) (hf : rm.frames + 1 ≤ R.frames) (hl : W + (maxL + 11) + rm.locals ≤ R.locals) (hc : cells + rm.cells ≤ R.cells) (hs : slots + rm.slots ≤ R.slots)
    (k : ∀ (v : Option Value) (its' : List (Cell → Prop)) (T' : State), Q' v its' → own_at p l e R s m args below meth c n0 T' (cells + rm.cells) (slots + rm.slots) its' → own_go p e R s below n0 Q (T'.setTop (mkF m (pc + 3) Ls (v.toList ++ rest)))) :
    own_go p e R s below n0 Q (T.setTop (mkF m pc Ls stk)) := by
  obtain ⟨L, X, N, H⟩ := A
  subst hstk has
  obtain ⟨cl, g1, g2⟩ := H.2 i _ hi
  obtain ⟨cq, kq, q3a, q3b, q3c⟩ := isOf (T := T) hZ rfl (g2 _ _ g1).1
  obtain ⟨v, vm1, B, -, XB, hP, st⟩ := X.virtualBack hx (y := y) (z := y) hown (mvT hZ w1) (mvT hZ w2) (notFace_of_selects (args := #[]) (mvT hZ w3)) (mvT hZ w3) (mvT hZ w4) hy (backOf (W := W) (Q := fun v h L => Fr n0 L ∧ ∃ its', Q' v its' ∧ own_hp n0 h its') (M T.heap [] H) hZ w6 w5 hf hl) q3a q3c (g := mkF m pc Ls (argsL.reverse ++ .ref (n0 + i) :: rest)) rfl hml (Steps.refl _) (argsL := argsL) (rest := rest) (lenOf pd hlen) rfl hW hd (fun _ _ => ⟨rfl, rfl, hc, hs⟩)
  obtain ⟨its', q1, q2⟩ := own_post hP XB N
  exact own_tr st (k v its' B.U q1 q2)
theorem own_callP (A : own_at p l e R s m args below meth c n0 T cells slots its) (hx : p.tables.exec = Jvm.exec) (hZ : Z.Warmed39 s.vm) (hown : s.vm.findClass own = some m.cls) {index i : Nat} (w1 : (Cond.methodLink own index y).before a0 Z = true) (w2 : (Cond.privateMethod y).before a0 Z = true) {kk : Nat} (w3 : (Cond.instantiable y.cls kk).before a0 Z = true) (w4 : (Cond.instanceMethod y).before a0 Z = true) (w5 : (Cond.initialized y.cls).before a0 Z = true) (w6 : (Cond.code y bytes maxL ret).before a0 Z = true)
    (hy : y.cls ≠ "java/lang/invoke/MethodHandle" ∧ y.cls ≠ "java/lang/invoke/VarHandle") {ns : List (String × String)} {vs : List Value} (hi : its[i]? = some (own_obj Z y.cls ns vs)) (M : own_met l Z n0 y bytes maxL ret rm as its Q') (hml : Ls.size = c.maxLocals) (argsL : List Value) (has : (Value.ref (n0 + i) :: argsL).toArray = as) (hstk : stk = argsL.reverse ++ .ref (n0 + i) :: rest) {ps : List FieldType} {r : Option FieldType} (pd : parseMethodDescriptor y.desc = some ⟨ps, r⟩) (hlen : argsL.length = ps.length)
    {W : Nat} (hW : 2 * 0 + (rest.map fun v => v.category).sum ≤ W) (hd : decode c.code pc = .ok (.invokevirtual index, 3)) (hf : rm.frames + 1 ≤ R.frames) (hl : W + (maxL + 11) + rm.locals ≤ R.locals) (hc : cells + rm.cells ≤ R.cells) (hs : slots + rm.slots ≤ R.slots)
    (k : ∀ (v : Option Value) (its' : List (Cell → Prop)) (T' : State), Q' v its' → own_at p l e R s m args below meth c n0 T' (cells + rm.cells) (slots + rm.slots) its' → own_go p e R s below n0 Q (T'.setTop (mkF m (pc + 3) Ls (v.toList ++ rest)))) :
    own_go p e R s below n0 Q (T.setTop (mkF m pc Ls stk)) := by
  obtain ⟨L, X, N, H⟩ := A
  subst hstk has
  obtain ⟨cl, g1, g2⟩ := H.2 i _ hi
  obtain ⟨cq, q3a, q3b⟩ := (g2 _ _ g1).1.cell
  obtain ⟨c1, k1, i1, i2, -, i4, -⟩ := Cond.instantiable_spec (mvT (s := s) (args := args) hZ w3)
  have hpr : s.PrivateAt y := Cond.privateMethod_at (mvP hZ w2 (args := #[]))
  have hsel : (Cond.selects y.cls y y).before args s = true := selects_self_of_private i1 i2 (Bool.or_eq_false_iff.mp i4).1 hpr (mvT hZ w4) hy
  obtain ⟨v, vm1, B, -, XB, hP, st⟩ := X.privateBack hx (y := y) hown (mvT hZ w1) (mvT hZ w4) hsel hpr (mvT hZ w6) hy (backOf (W := W) (Q := fun v h L => Fr n0 L ∧ ∃ its', Q' v its' ∧ own_hp n0 h its') (M T.heap [] H) hZ w6 w5 hf hl) (g := mkF m pc Ls (argsL.reverse ++ .ref (n0 + i) :: rest)) rfl hml (Steps.refl _) (a := n0 + i) q3a q3b (argsL := argsL) (rest := rest) (lenOf pd hlen) rfl hW hd (fun _ _ => ⟨rfl, rfl, hc, hs⟩)
  obtain ⟨its', q1, q2⟩ := own_post hP XB N
  exact own_tr st (k v its' B.U q1 q2)
/-! comparisons of longs -/
theorem own_lc_lt {x y : Int64} (h : x < y) : lcmpW x y < 0 := by rw [lcW]; exact (lc_lt x y).mpr h
theorem own_lc_nlt {x y : Int64} (h : ¬ x < y) : ¬ lcmpW x y < 0 := by rw [lcW]; exact fun q => h ((lc_lt x y).mp q)
theorem own_lc_gt {x y : Int64} (h : y < x) : 0 < lcmpW x y := by rw [lcW]; exact (lc_gt x y).mpr h
theorem own_lc_ngt {x y : Int64} (h : ¬ y < x) : ¬ 0 < lcmpW x y := by rw [lcW]; exact fun q => h ((lc_gt x y).mp q)
theorem own_lc_eq {x y : Int64} (h : x = y) : lcmpW x y = 0 := by subst h; unfold lcmpW; simp
theorem own_lc_ne {x y : Int64} (h : ¬ x = y) : ¬ lcmpW x y = 0 := by
  unfold lcmpW
  (repeat' split) <;> first | decide | (exfalso; exact h (by assumption))
end Own
theorem d_jdk_30_method_1_0 : decode jdk_30_method_1_code 0 = .ok (.aload_n 0, 1) := by decide +kernel
theorem d_jdk_30_method_1_1 : decode jdk_30_method_1_code 1 = .ok (.invokespecial 1, 3) := by decide +kernel
theorem d_jdk_30_method_1_4 : decode jdk_30_method_1_code 4 = .ok (.return_, 1) := by decide +kernel
theorem pf_gR : plainFor (⟨"java/lang/Record", "<init>", "()V"⟩ : MethodName) = true := by first | exact plainFor_of_name (by first | (simp [plainName, overriddenIn]; done) | decide +kernel) | decide +kernel
theorem ef_gR (m : MethodId) (a : Addr) : entryFrame m #[(.ref a)] 1 = (mkF m 0 #[.val (.ref a)] []) := by first | (simp [entryFrame, mkF, argsToLocals, Value.category]; done) | rfl
set_option maxRecDepth 65536 in
set_option maxHeartbeats 40000000 in
theorem gR (l : Launch) (Z : State) (a0 : Array Value) (hw : ∀ d ∈ tables_1, d.before a0 Z = true) (n0 : Nat) (its : List (Cell → Prop)) (a : Addr)  :
    own_met l Z n0 (⟨"java/lang/Record", "<init>", "()V"⟩ : MethodName) jdk_30_method_1_code 1 none ({ frames := 1, cells := 0, slots := 0, locals := 12 } : Room) #[(.ref a)] its (fun v its' => v = none ∧ its' = its) := by
  refine own_met.of pf_gR ?_
  intro p e s m below meth c T0 hx hby hml hret hlk hZ hown hnm A0
  replace hown : s.vm.findClass "java/lang/Record" = some m.cls := hown
  replace hml : c.maxLocals = 1 := hml
  rw [ef_gR m a]
  show own_go _ _ _ _ _ _ _ (T0.setTop (mkF m 0 #[.val (.ref a)] []))
  refine own_by (u' := T0.setTop (mkF m 1 #[.val (.ref a)] [(.ref a)])) (fun _ k => XS.aloadN A0.here hx rfl (own_db hby d_jdk_30_method_1_0) rfl rfl k) ?_
  refine own_initO A0 hx hZ hown (hw _ (List.mem_of_getElem? (i := 14) rfl)) (hw _ (List.mem_of_getElem? (i := 15) rfl)) (hw _ (List.mem_of_getElem? (i := 16) rfl)) (by rw [hml]; rfl) (own_db hby d_jdk_30_method_1_1) (by decide) (W := 0) (by show 2 * 0 + _ ≤ _; exact Nat.le_of_eq rfl) (by decide) ?_
  intro T1 A2
  show own_go _ _ _ _ _ _ _ (T1.setTop (mkF m 4 #[.val (.ref a)] []))
  exact own_retV A2 hx hlk hret (own_db hby d_jdk_30_method_1_4) (by decide) (by decide) ⟨rfl, rfl⟩
theorem d_jdk_29_method_65_0 : decode jdk_29_method_65_code 0 = .ok (.iload_n 0, 1) := by decide +kernel
theorem d_jdk_29_method_65_1 : decode jdk_29_method_65_code 1 = .ok (.iload_n 1, 1) := by decide +kernel
theorem d_jdk_29_method_65_2 : decode jdk_29_method_65_code 2 = .ok (.if_icmp .lt 7, 3) := by decide +kernel
theorem d_jdk_29_method_65_9 : decode jdk_29_method_65_code 9 = .ok (.iload_n 1, 1) := by decide +kernel
theorem d_jdk_29_method_65_10 : decode jdk_29_method_65_code 10 = .ok (.ireturn, 1) := by decide +kernel
theorem d_jdk_29_method_65_5 : decode jdk_29_method_65_code 5 = .ok (.iload_n 0, 1) := by decide +kernel
theorem d_jdk_29_method_65_6 : decode jdk_29_method_65_code 6 = .ok (.goto 4, 3) := by decide +kernel
def f4 (x1 : Int32) (x2 : Int32) : Int32 := if x1 < x2 then x2
  else x1
theorem pf_g4 : plainFor (⟨"java/lang/Math", "max", "(II)I"⟩ : MethodName) = true := by first | exact plainFor_of_name (by first | (simp [plainName, overriddenIn]; done) | decide +kernel) | decide +kernel
theorem ef_g4 (m : MethodId) (x1 : Int32) (x2 : Int32) : entryFrame m #[(.int x1), (.int x2)] 2 = (mkF m 0 #[.val (.int x1), .val (.int x2)] []) := by first | (simp [entryFrame, mkF, argsToLocals, Value.category]; done) | rfl
set_option maxRecDepth 65536 in
set_option maxHeartbeats 40000000 in
theorem g4 (l : Launch) (Z : State) (a0 : Array Value) (hw : ∀ d ∈ tables_1, d.before a0 Z = true) (n0 : Nat) (its : List (Cell → Prop)) (x1 : Int32) (x2 : Int32)  :
    own_met l Z n0 (⟨"java/lang/Math", "max", "(II)I"⟩ : MethodName) jdk_29_method_65_code 2 (some .int) ({ frames := 0, cells := 0, slots := 0, locals := 0 } : Room) #[(.int x1), (.int x2)] its (fun v its' => v = some (.int (f4 x1 x2)) ∧ its' = its) := by
  refine own_met.of pf_g4 ?_
  intro p e s m below meth c T0 hx hby hml hret hlk hZ hown hnm A0
  replace hown : s.vm.findClass "java/lang/Math" = some m.cls := hown
  replace hml : c.maxLocals = 2 := hml
  rw [ef_g4 m x1 x2]
  show own_go _ _ _ _ _ _ _ (T0.setTop (mkF m 0 #[.val (.int x1), .val (.int x2)] []))
  refine own_by (u' := T0.setTop (mkF m 1 #[.val (.int x1), .val (.int x2)] [(.int x1)])) (fun _ k => XS.iloadN A0.here hx rfl (own_db hby d_jdk_29_method_65_0) rfl k) ?_
  refine own_by (u' := T0.setTop (mkF m 2 #[.val (.int x1), .val (.int x2)] [(.int x2), (.int x1)])) (fun _ k => XS.iloadN A0.here hx rfl (own_db hby d_jdk_29_method_65_1) rfl k) ?_
  by_cases hc1 : x1 < x2
  · refine own_by (u' := T0.setTop (mkF m 9 #[.val (.int x1), .val (.int x2)] [])) (fun _ k => XS.icmpYes A0.here hx rfl (pc0 := 2) (pc' := 9) rfl (own_db hby d_jdk_29_method_65_2) rfl (tlt hc1).1 (by decide) (by decide) k) ?_
    refine own_by (u' := T0.setTop (mkF m 10 #[.val (.int x1), .val (.int x2)] [(.int x2)])) (fun _ k => XS.iloadN A0.here hx rfl (own_db hby d_jdk_29_method_65_9) rfl k) ?_
    exact own_retI A0 hx hlk hret (own_db hby d_jdk_29_method_65_10) (by decide) (by decide) ⟨by rw [show f4 x1 x2 = x2 from by unfold f4; simp only [if_pos hc1]] <;> rfl, rfl⟩
  · refine own_by (u' := T0.setTop (mkF m 5 #[.val (.int x1), .val (.int x2)] [])) (fun _ k => XS.icmpNo A0.here hx rfl (own_db hby d_jdk_29_method_65_2) rfl (flt hc1).1 k) ?_
    refine own_by (u' := T0.setTop (mkF m 6 #[.val (.int x1), .val (.int x2)] [(.int x1)])) (fun _ k => XS.iloadN A0.here hx rfl (own_db hby d_jdk_29_method_65_5) rfl k) ?_
    refine own_by (u' := T0.setTop (mkF m 10 #[.val (.int x1), .val (.int x2)] [(.int x1)])) (fun _ k => XS.goto A0.here hx rfl (pc0 := 6) (pc' := 10) rfl (own_db hby d_jdk_29_method_65_6) (by decide) (by decide) k) ?_
    exact own_retI A0 hx hlk hret (own_db hby d_jdk_29_method_65_10) (by decide) (by decide) ⟨by rw [show f4 x1 x2 = x1 from by unfold f4; simp only [if_neg hc1]] <;> rfl, rfl⟩
theorem d_jdk_29_method_69_0 : decode jdk_29_method_69_code 0 = .ok (.iload_n 0, 1) := by decide +kernel
theorem d_jdk_29_method_69_1 : decode jdk_29_method_69_code 1 = .ok (.iload_n 1, 1) := by decide +kernel
theorem d_jdk_29_method_69_2 : decode jdk_29_method_69_code 2 = .ok (.if_icmp .gt 7, 3) := by decide +kernel
theorem d_jdk_29_method_69_9 : decode jdk_29_method_69_code 9 = .ok (.iload_n 1, 1) := by decide +kernel
theorem d_jdk_29_method_69_10 : decode jdk_29_method_69_code 10 = .ok (.ireturn, 1) := by decide +kernel
theorem d_jdk_29_method_69_5 : decode jdk_29_method_69_code 5 = .ok (.iload_n 0, 1) := by decide +kernel
theorem d_jdk_29_method_69_6 : decode jdk_29_method_69_code 6 = .ok (.goto 4, 3) := by decide +kernel
def f5 (x1 : Int32) (x2 : Int32) : Int32 := if x2 < x1 then x2
  else x1
theorem pf_g5 : plainFor (⟨"java/lang/Math", "min", "(II)I"⟩ : MethodName) = true := by first | exact plainFor_of_name (by first | (simp [plainName, overriddenIn]; done) | decide +kernel) | decide +kernel
theorem ef_g5 (m : MethodId) (x1 : Int32) (x2 : Int32) : entryFrame m #[(.int x1), (.int x2)] 2 = (mkF m 0 #[.val (.int x1), .val (.int x2)] []) := by first | (simp [entryFrame, mkF, argsToLocals, Value.category]; done) | rfl
set_option maxRecDepth 65536 in
set_option maxHeartbeats 40000000 in
theorem g5 (l : Launch) (Z : State) (a0 : Array Value) (hw : ∀ d ∈ tables_1, d.before a0 Z = true) (n0 : Nat) (its : List (Cell → Prop)) (x1 : Int32) (x2 : Int32)  :
    own_met l Z n0 (⟨"java/lang/Math", "min", "(II)I"⟩ : MethodName) jdk_29_method_69_code 2 (some .int) ({ frames := 0, cells := 0, slots := 0, locals := 0 } : Room) #[(.int x1), (.int x2)] its (fun v its' => v = some (.int (f5 x1 x2)) ∧ its' = its) := by
  refine own_met.of pf_g5 ?_
  intro p e s m below meth c T0 hx hby hml hret hlk hZ hown hnm A0
  replace hown : s.vm.findClass "java/lang/Math" = some m.cls := hown
  replace hml : c.maxLocals = 2 := hml
  rw [ef_g5 m x1 x2]
  show own_go _ _ _ _ _ _ _ (T0.setTop (mkF m 0 #[.val (.int x1), .val (.int x2)] []))
  refine own_by (u' := T0.setTop (mkF m 1 #[.val (.int x1), .val (.int x2)] [(.int x1)])) (fun _ k => XS.iloadN A0.here hx rfl (own_db hby d_jdk_29_method_69_0) rfl k) ?_
  refine own_by (u' := T0.setTop (mkF m 2 #[.val (.int x1), .val (.int x2)] [(.int x2), (.int x1)])) (fun _ k => XS.iloadN A0.here hx rfl (own_db hby d_jdk_29_method_69_1) rfl k) ?_
  by_cases hc1 : x2 < x1
  · refine own_by (u' := T0.setTop (mkF m 9 #[.val (.int x1), .val (.int x2)] [])) (fun _ k => XS.icmpYes A0.here hx rfl (pc0 := 2) (pc' := 9) rfl (own_db hby d_jdk_29_method_69_2) rfl (tlt hc1).2.2.1 (by decide) (by decide) k) ?_
    refine own_by (u' := T0.setTop (mkF m 10 #[.val (.int x1), .val (.int x2)] [(.int x2)])) (fun _ k => XS.iloadN A0.here hx rfl (own_db hby d_jdk_29_method_69_9) rfl k) ?_
    exact own_retI A0 hx hlk hret (own_db hby d_jdk_29_method_69_10) (by decide) (by decide) ⟨by rw [show f5 x1 x2 = x2 from by unfold f5; simp only [if_pos hc1]] <;> rfl, rfl⟩
  · refine own_by (u' := T0.setTop (mkF m 5 #[.val (.int x1), .val (.int x2)] [])) (fun _ k => XS.icmpNo A0.here hx rfl (own_db hby d_jdk_29_method_69_2) rfl (flt hc1).2.2.1 k) ?_
    refine own_by (u' := T0.setTop (mkF m 6 #[.val (.int x1), .val (.int x2)] [(.int x1)])) (fun _ k => XS.iloadN A0.here hx rfl (own_db hby d_jdk_29_method_69_5) rfl k) ?_
    refine own_by (u' := T0.setTop (mkF m 10 #[.val (.int x1), .val (.int x2)] [(.int x1)])) (fun _ k => XS.goto A0.here hx rfl (pc0 := 6) (pc' := 10) rfl (own_db hby d_jdk_29_method_69_6) (by decide) (by decide) k) ?_
    exact own_retI A0 hx hlk hret (own_db hby d_jdk_29_method_69_10) (by decide) (by decide) ⟨by rw [show f5 x1 x2 = x1 from by unfold f5; simp only [if_neg hc1]] <;> rfl, rfl⟩
def ns_CardMemory_Write : List (String × String) := [("address", "I"), ("bytes", "[B")]
theorem ap_ns_CardMemory_Write {Z : State} {a0 : Array Value} (hw : ∀ d ∈ tables_1, d.before a0 Z = true) : own_apart Z "com/example/holdfast/holdfast/store/CardMemory$Write" ns_CardMemory_Write := own_apart_of (a0 := a0) (own_cons ⟨(Or.inr (hw _ (List.mem_of_getElem? (i := 18) rfl))), .int, by decide⟩ (own_cons ⟨(Or.inr (hw _ (List.mem_of_getElem? (i := 20) rfl))), (.array .byte), by decide⟩ own_nil)) (by decide +kernel)
theorem d_prog_11_method_1_0 : decode prog_11_method_1_code 0 = .ok (.aload_n 0, 1) := by decide +kernel
theorem d_prog_11_method_1_1 : decode prog_11_method_1_code 1 = .ok (.invokespecial 3, 3) := by decide +kernel
theorem pd___V : parseMethodDescriptor "()V" = some ⟨[], none⟩ := by decide +kernel
theorem d_prog_11_method_1_4 : decode prog_11_method_1_code 4 = .ok (.aload_n 0, 1) := by decide +kernel
theorem d_prog_11_method_1_5 : decode prog_11_method_1_code 5 = .ok (.iload_n 1, 1) := by decide +kernel
theorem d_prog_11_method_1_6 : decode prog_11_method_1_code 6 = .ok (.putfield 9, 3) := by decide +kernel
theorem d_prog_11_method_1_9 : decode prog_11_method_1_code 9 = .ok (.aload_n 0, 1) := by decide +kernel
theorem d_prog_11_method_1_10 : decode prog_11_method_1_code 10 = .ok (.aload_n 2, 1) := by decide +kernel
theorem d_prog_11_method_1_11 : decode prog_11_method_1_code 11 = .ok (.putfield 15, 3) := by decide +kernel
theorem d_prog_11_method_1_14 : decode prog_11_method_1_code 14 = .ok (.return_, 1) := by decide +kernel
theorem pf_g1 : plainFor (⟨"com/example/holdfast/holdfast/store/CardMemory$Write", "<init>", "(I[B)V"⟩ : MethodName) = true := by first | exact plainFor_of_name (by first | (simp [plainName, overriddenIn]; done) | decide +kernel) | decide +kernel
theorem ef_g1 (m : MethodId) (i : Nat) (n0 : Nat) (p0 : Int32) (r1 : Addr) : entryFrame m #[(.ref (n0 + i)), (.int p0), (.ref r1)] 3 = (mkF m 0 #[.val (.ref (n0 + i)), .val (.int p0), .val (.ref r1)] []) := by first | (simp [entryFrame, mkF, argsToLocals, Value.category]; done) | rfl
set_option maxRecDepth 65536 in
set_option maxHeartbeats 40000000 in
theorem g1 (l : Launch) (Z : State) (a0 : Array Value) (hw : ∀ d ∈ tables_1, d.before a0 Z = true) (n0 : Nat) (its : List (Cell → Prop)) (i : Nat) (p0 : Int32) (r1 : Addr) (hi : its[i]? = some (own_obj Z "com/example/holdfast/holdfast/store/CardMemory$Write" ns_CardMemory_Write [(.int (0 : Int32)), .null])) :
    own_met l Z n0 (⟨"com/example/holdfast/holdfast/store/CardMemory$Write", "<init>", "(I[B)V"⟩ : MethodName) prog_11_method_1_code 3 none ({ frames := 2, cells := 0, slots := 0, locals := 24 } : Room) #[(.ref (n0 + i)), (.int p0), (.ref r1)] its (fun v its' => v = none ∧ its' = its.set i (own_obj Z "com/example/holdfast/holdfast/store/CardMemory$Write" ns_CardMemory_Write [(.int p0), (.ref r1)])) := by
  refine own_met.of pf_g1 ?_
  intro p e s m below meth c T0 hx hby hml hret hlk hZ hown hnm A0
  replace hown : s.vm.findClass "com/example/holdfast/holdfast/store/CardMemory$Write" = some m.cls := hown
  replace hml : c.maxLocals = 3 := hml
  rw [ef_g1 m i n0 p0 r1]
  show own_go _ _ _ _ _ _ _ (T0.setTop (mkF m 0 #[.val (.ref (n0 + i)), .val (.int p0), .val (.ref r1)] []))
  refine own_by (u' := T0.setTop (mkF m 1 #[.val (.ref (n0 + i)), .val (.int p0), .val (.ref r1)] [(.ref (n0 + i))])) (fun _ k => XS.aloadN A0.here hx rfl (own_db hby d_prog_11_method_1_0) rfl rfl k) ?_
  refine own_callC (y := (⟨"java/lang/Record", "<init>", "()V"⟩ : MethodName)) (rest := []) A0 hx hZ hown rfl (hw _ (List.mem_of_getElem? (i := 9) rfl)) (hw _ (List.mem_of_getElem? (i := 10) rfl)) (hw _ (List.mem_of_getElem? (i := 12) rfl)) (hw _ (List.mem_of_getElem? (i := 13) rfl)) (by decide) (gR l Z a0 hw n0 its (n0 + i)) (by rw [hml]; rfl) (n0 + i) [] rfl rfl pd___V rfl (W := 0) (by show 2 * 0 + _ ≤ _; exact Nat.le_of_eq rfl) (own_db hby d_prog_11_method_1_1) (by decide) (by decide) (by decide) (by decide) ?_
  intro v1 i2 T4 hq3 A5
  obtain ⟨rfl, he6⟩ := hq3
  rw [he6] at A5
  replace A5 : own_at p l e _ s m _ below meth c n0 T4 0 0 its := A5
  show own_go _ _ _ _ _ _ _ (T4.setTop (mkF m 4 #[.val (.ref (n0 + i)), .val (.int p0), .val (.ref r1)] []))
  refine own_by (u' := T4.setTop (mkF m 5 #[.val (.ref (n0 + i)), .val (.int p0), .val (.ref r1)] [(.ref (n0 + i))])) (fun _ k => XS.aloadN A5.here hx rfl (own_db hby d_prog_11_method_1_4) rfl rfl k) ?_
  refine own_by (u' := T4.setTop (mkF m 6 #[.val (.ref (n0 + i)), .val (.int p0), .val (.ref r1)] [(.int p0), (.ref (n0 + i))])) (fun _ k => XS.iloadN A5.here hx rfl (own_db hby d_prog_11_method_1_5) rfl k) ?_
  refine own_putF A5 hx hZ hown (hw _ (List.mem_of_getElem? (i := 17) rfl)) (i := i) hi 0 rfl (v' := (.int p0)) rfl (ap_ns_CardMemory_Write hw) (Or.inr ⟨(hw _ (List.mem_of_getElem? (i := 18) rfl)), rfl, hnm⟩) (hw _ (List.mem_of_getElem? (i := 4) rfl)) (ty := .int) (by decide) rfl rfl (own_db hby d_prog_11_method_1_6) (its2 := (its.set i (own_obj Z "com/example/holdfast/holdfast/store/CardMemory$Write" ns_CardMemory_Write [(.int p0), .null]))) rfl ?_
  intro T7 A8
  show own_go _ _ _ _ _ _ _ (T7.setTop (mkF m 9 #[.val (.ref (n0 + i)), .val (.int p0), .val (.ref r1)] []))
  refine own_by (u' := T7.setTop (mkF m 10 #[.val (.ref (n0 + i)), .val (.int p0), .val (.ref r1)] [(.ref (n0 + i))])) (fun _ k => XS.aloadN A8.here hx rfl (own_db hby d_prog_11_method_1_9) rfl rfl k) ?_
  refine own_by (u' := T7.setTop (mkF m 11 #[.val (.ref (n0 + i)), .val (.int p0), .val (.ref r1)] [(.ref r1), (.ref (n0 + i))])) (fun _ k => XS.aloadN A8.here hx rfl (own_db hby d_prog_11_method_1_10) rfl rfl k) ?_
  refine own_putF A8 hx hZ hown (hw _ (List.mem_of_getElem? (i := 19) rfl)) (i := i) (own_geti hi) 1 rfl (v' := (.ref r1)) rfl (ap_ns_CardMemory_Write hw) (Or.inr ⟨(hw _ (List.mem_of_getElem? (i := 20) rfl)), rfl, hnm⟩) (hw _ (List.mem_of_getElem? (i := 4) rfl)) (ty := (.array .byte)) (by decide) rfl rfl (own_db hby d_prog_11_method_1_11) (its2 := (its.set i (own_obj Z "com/example/holdfast/holdfast/store/CardMemory$Write" ns_CardMemory_Write [(.int p0), (.ref r1)]))) (List.set_set ..) ?_
  intro T9 A10
  show own_go _ _ _ _ _ _ _ (T9.setTop (mkF m 14 #[.val (.ref (n0 + i)), .val (.int p0), .val (.ref r1)] []))
  exact own_retV A10 hx hlk hret (own_db hby d_prog_11_method_1_14) (by decide) (by decide) ⟨rfl, rfl⟩
theorem d_prog_11_method_3_0 : decode prog_11_method_3_code 0 = .ok (.aload_n 0, 1) := by decide +kernel
theorem d_prog_11_method_3_1 : decode prog_11_method_3_code 1 = .ok (.getfield 9, 3) := by decide +kernel
theorem d_prog_11_method_3_4 : decode prog_11_method_3_code 4 = .ok (.iload_n 1, 1) := by decide +kernel
theorem d_prog_11_method_3_5 : decode prog_11_method_3_code 5 = .ok (.invokestatic 19, 3) := by decide +kernel
theorem pd__II_I : parseMethodDescriptor "(II)I" = some ⟨[.int, .int], some .int⟩ := by decide +kernel
theorem d_prog_11_method_3_8 : decode prog_11_method_3_code 8 = .ok (.aload_n 0, 1) := by decide +kernel
theorem d_prog_11_method_3_9 : decode prog_11_method_3_code 9 = .ok (.getfield 9, 3) := by decide +kernel
theorem d_prog_11_method_3_12 : decode prog_11_method_3_code 12 = .ok (.aload_n 0, 1) := by decide +kernel
theorem d_prog_11_method_3_13 : decode prog_11_method_3_code 13 = .ok (.getfield 15, 3) := by decide +kernel
theorem d_prog_11_method_3_16 : decode prog_11_method_3_code 16 = .ok (.arraylength, 1) := by decide +kernel
theorem d_prog_11_method_3_17 : decode prog_11_method_3_code 17 = .ok (.iadd, 1) := by decide +kernel
theorem d_prog_11_method_3_18 : decode prog_11_method_3_code 18 = .ok (.iload_n 1, 1) := by decide +kernel
theorem d_prog_11_method_3_19 : decode prog_11_method_3_code 19 = .ok (.iload_n 2, 1) := by decide +kernel
theorem d_prog_11_method_3_20 : decode prog_11_method_3_code 20 = .ok (.iadd, 1) := by decide +kernel
theorem d_prog_11_method_3_21 : decode prog_11_method_3_code 21 = .ok (.invokestatic 25, 3) := by decide +kernel
theorem d_prog_11_method_3_24 : decode prog_11_method_3_code 24 = .ok (.if_icmp .ge 7, 3) := by decide +kernel
theorem d_prog_11_method_3_27 : decode prog_11_method_3_code 27 = .ok (.iconst 1, 1) := by decide +kernel
theorem d_prog_11_method_3_28 : decode prog_11_method_3_code 28 = .ok (.goto 4, 3) := by decide +kernel
theorem d_prog_11_method_3_32 : decode prog_11_method_3_code 32 = .ok (.ireturn, 1) := by decide +kernel
theorem d_prog_11_method_3_31 : decode prog_11_method_3_code 31 = .ok (.iconst 0, 1) := by decide +kernel
def f3 (p0 : Int32) (z : Int32) (y0 : Int32) (y1 : Int32) : Int32 := if (f4 p0 y0) < (f5 (p0 + z) (y0 + y1)) then (1 : Int32)
  else (0 : Int32)
theorem pf_g3 : plainFor (⟨"com/example/holdfast/holdfast/store/CardMemory$Write", "overlaps", "(II)Z"⟩ : MethodName) = true := by first | exact plainFor_of_name (by first | (simp [plainName, overriddenIn]; done) | decide +kernel) | decide +kernel
theorem ef_g3 (m : MethodId) (n0 : Nat) (y0 : Int32) (y1 : Int32) : entryFrame m #[(.ref (n0 + 1)), (.int y0), (.int y1)] 3 = (mkF m 0 #[.val (.ref (n0 + 1)), .val (.int y0), .val (.int y1)] []) := by first | (simp [entryFrame, mkF, argsToLocals, Value.category]; done) | rfl
set_option maxRecDepth 65536 in
set_option maxHeartbeats 40000000 in
theorem g3 (l : Launch) (Z : State) (a0 : Array Value) (hw : ∀ d ∈ tables_1, d.before a0 Z = true) (n0 : Nat) (xs : List Int32) (z : Int32) (p0 : Int32) (y0 : Int32) (y1 : Int32) (hz : xs.length.toInt32 = z) :
    own_met l Z n0 (⟨"com/example/holdfast/holdfast/store/CardMemory$Write", "overlaps", "(II)Z"⟩ : MethodName) prog_11_method_3_code 3 (some .boolean) ({ frames := 1, cells := 0, slots := 0, locals := 14 } : Room) #[(.ref (n0 + 1)), (.int y0), (.int y1)] [(own_ia Z .byte xs), (own_obj Z "com/example/holdfast/holdfast/store/CardMemory$Write" ns_CardMemory_Write [(.int p0), (.ref (n0 + 0))])] (fun v its' => v = some (.int (f3 p0 z y0 y1)) ∧ its' = [(own_ia Z .byte xs), (own_obj Z "com/example/holdfast/holdfast/store/CardMemory$Write" ns_CardMemory_Write [(.int p0), (.ref (n0 + 0))])]) := by
  refine own_met.of pf_g3 ?_
  intro p e s m below meth c T0 hx hby hml hret hlk hZ hown hnm A0
  replace hown : s.vm.findClass "com/example/holdfast/holdfast/store/CardMemory$Write" = some m.cls := hown
  replace hml : c.maxLocals = 3 := hml
  rw [ef_g3 m n0 y0 y1]
  show own_go _ _ _ _ _ _ _ (T0.setTop (mkF m 0 #[.val (.ref (n0 + 1)), .val (.int y0), .val (.int y1)] []))
  refine own_by (u' := T0.setTop (mkF m 1 #[.val (.ref (n0 + 1)), .val (.int y0), .val (.int y1)] [(.ref (n0 + 1))])) (fun _ k => XS.aloadN A0.here hx rfl (own_db hby d_prog_11_method_3_0) rfl rfl k) ?_
  refine own_getF A0 hx hZ hown (hw _ (List.mem_of_getElem? (i := 17) rfl)) (i := 1) rfl 0 rfl rfl (own_db hby d_prog_11_method_3_1) ?_
  intro T1 A2
  show own_go _ _ _ _ _ _ _ (T1.setTop (mkF m 4 #[.val (.ref (n0 + 1)), .val (.int y0), .val (.int y1)] [(.int p0)]))
  refine own_by (u' := T1.setTop (mkF m 5 #[.val (.ref (n0 + 1)), .val (.int y0), .val (.int y1)] [(.int y0), (.int p0)])) (fun _ k => XS.iloadN A2.here hx rfl (own_db hby d_prog_11_method_3_4) rfl k) ?_
  refine own_callS (y := (⟨"java/lang/Math", "max", "(II)I"⟩ : MethodName)) (rest := []) A2 hx hZ hown (hw _ (List.mem_of_getElem? (i := 26) rfl)) (hw _ (List.mem_of_getElem? (i := 27) rfl)) (hw _ (List.mem_of_getElem? (i := 28) rfl)) (hw _ (List.mem_of_getElem? (i := 29) rfl)) (by decide) (g4 l Z a0 hw n0 [(own_ia Z .byte xs), (own_obj Z "com/example/holdfast/holdfast/store/CardMemory$Write" ns_CardMemory_Write [(.int p0), (.ref (n0 + 0))])] p0 y0) (by rw [hml]; rfl) [(.int p0), (.int y0)] rfl rfl pd__II_I rfl (W := 0) (by show 2 * 0 + _ ≤ _; exact Nat.le_of_eq rfl) (own_db hby d_prog_11_method_3_5) (by decide) (by decide) (by decide) (by decide) ?_
  intro v3 i4 T6 hq5 A7
  obtain ⟨rfl, he8⟩ := hq5
  rw [he8] at A7
  replace A7 : own_at p l e _ s m _ below meth c n0 T6 0 0 [(own_ia Z .byte xs), (own_obj Z "com/example/holdfast/holdfast/store/CardMemory$Write" ns_CardMemory_Write [(.int p0), (.ref (n0 + 0))])] := A7
  show own_go _ _ _ _ _ _ _ (T6.setTop (mkF m 8 #[.val (.ref (n0 + 1)), .val (.int y0), .val (.int y1)] [(.int (f4 p0 y0))]))
  refine own_by (u' := T6.setTop (mkF m 9 #[.val (.ref (n0 + 1)), .val (.int y0), .val (.int y1)] [(.ref (n0 + 1)), (.int (f4 p0 y0))])) (fun _ k => XS.aloadN A7.here hx rfl (own_db hby d_prog_11_method_3_8) rfl rfl k) ?_
  refine own_getF A7 hx hZ hown (hw _ (List.mem_of_getElem? (i := 17) rfl)) (i := 1) rfl 0 rfl rfl (own_db hby d_prog_11_method_3_9) ?_
  intro T9 A10
  show own_go _ _ _ _ _ _ _ (T9.setTop (mkF m 12 #[.val (.ref (n0 + 1)), .val (.int y0), .val (.int y1)] [(.int p0), (.int (f4 p0 y0))]))
  refine own_by (u' := T9.setTop (mkF m 13 #[.val (.ref (n0 + 1)), .val (.int y0), .val (.int y1)] [(.ref (n0 + 1)), (.int p0), (.int (f4 p0 y0))])) (fun _ k => XS.aloadN A10.here hx rfl (own_db hby d_prog_11_method_3_12) rfl rfl k) ?_
  refine own_getF A10 hx hZ hown (hw _ (List.mem_of_getElem? (i := 19) rfl)) (i := 1) rfl 1 rfl rfl (own_db hby d_prog_11_method_3_13) ?_
  intro T11 A12
  show own_go _ _ _ _ _ _ _ (T11.setTop (mkF m 16 #[.val (.ref (n0 + 1)), .val (.int y0), .val (.int y1)] [(.ref (n0 + 0)), (.int p0), (.int (f4 p0 y0))]))
  refine own_len A12 hx hZ (i := 0) rfl (z := z) hz (own_db hby d_prog_11_method_3_16) ?_
  show own_go _ _ _ _ _ _ _ (T11.setTop (mkF m 17 #[.val (.ref (n0 + 1)), .val (.int y0), .val (.int y1)] [(.int z), (.int p0), (.int (f4 p0 y0))]))
  refine own_by (u' := T11.setTop (mkF m 18 #[.val (.ref (n0 + 1)), .val (.int y0), .val (.int y1)] [(.int (p0 + z)), (.int (f4 p0 y0))])) (fun _ k => XS.iadd A12.here hx rfl (own_db hby d_prog_11_method_3_17) rfl k) ?_
  refine own_by (u' := T11.setTop (mkF m 19 #[.val (.ref (n0 + 1)), .val (.int y0), .val (.int y1)] [(.int y0), (.int (p0 + z)), (.int (f4 p0 y0))])) (fun _ k => XS.iloadN A12.here hx rfl (own_db hby d_prog_11_method_3_18) rfl k) ?_
  refine own_by (u' := T11.setTop (mkF m 20 #[.val (.ref (n0 + 1)), .val (.int y0), .val (.int y1)] [(.int y1), (.int y0), (.int (p0 + z)), (.int (f4 p0 y0))])) (fun _ k => XS.iloadN A12.here hx rfl (own_db hby d_prog_11_method_3_19) rfl k) ?_
  refine own_by (u' := T11.setTop (mkF m 21 #[.val (.ref (n0 + 1)), .val (.int y0), .val (.int y1)] [(.int (y0 + y1)), (.int (p0 + z)), (.int (f4 p0 y0))])) (fun _ k => XS.iadd A12.here hx rfl (own_db hby d_prog_11_method_3_20) rfl k) ?_
  refine own_callS (y := (⟨"java/lang/Math", "min", "(II)I"⟩ : MethodName)) (rest := [(.int (f4 p0 y0))]) A12 hx hZ hown (hw _ (List.mem_of_getElem? (i := 30) rfl)) (hw _ (List.mem_of_getElem? (i := 31) rfl)) (hw _ (List.mem_of_getElem? (i := 28) rfl)) (hw _ (List.mem_of_getElem? (i := 32) rfl)) (by decide) (g5 l Z a0 hw n0 [(own_ia Z .byte xs), (own_obj Z "com/example/holdfast/holdfast/store/CardMemory$Write" ns_CardMemory_Write [(.int p0), (.ref (n0 + 0))])] (p0 + z) (y0 + y1)) (by rw [hml]; rfl) [(.int (p0 + z)), (.int (y0 + y1))] rfl rfl pd__II_I rfl (W := 1) (by show 2 * 0 + _ ≤ _; exact Nat.le_of_eq rfl) (own_db hby d_prog_11_method_3_21) (by decide) (by decide) (by decide) (by decide) ?_
  intro v13 i14 T16 hq15 A17
  obtain ⟨rfl, he18⟩ := hq15
  rw [he18] at A17
  replace A17 : own_at p l e _ s m _ below meth c n0 T16 0 0 [(own_ia Z .byte xs), (own_obj Z "com/example/holdfast/holdfast/store/CardMemory$Write" ns_CardMemory_Write [(.int p0), (.ref (n0 + 0))])] := A17
  show own_go _ _ _ _ _ _ _ (T16.setTop (mkF m 24 #[.val (.ref (n0 + 1)), .val (.int y0), .val (.int y1)] [(.int (f5 (p0 + z) (y0 + y1))), (.int (f4 p0 y0))]))
  by_cases hc19 : (f4 p0 y0) < (f5 (p0 + z) (y0 + y1))
  · refine own_by (u' := T16.setTop (mkF m 27 #[.val (.ref (n0 + 1)), .val (.int y0), .val (.int y1)] [])) (fun _ k => XS.icmpNo A17.here hx rfl (own_db hby d_prog_11_method_3_24) rfl (tlt hc19).2.1 k) ?_
    refine own_by (u' := T16.setTop (mkF m 28 #[.val (.ref (n0 + 1)), .val (.int y0), .val (.int y1)] [(.int (1 : Int32))])) (fun _ k => XS.iconst A17.here hx rfl (own_db hby d_prog_11_method_3_27) k) ?_
    refine own_by (u' := T16.setTop (mkF m 32 #[.val (.ref (n0 + 1)), .val (.int y0), .val (.int y1)] [(.int (1 : Int32))])) (fun _ k => XS.goto A17.here hx rfl (pc0 := 28) (pc' := 32) rfl (own_db hby d_prog_11_method_3_28) (by decide) (by decide) k) ?_
    exact own_retN A17 hx hlk (t := .boolean) (by simp) hret (own_db hby d_prog_11_method_3_32) (by decide) (by decide) ⟨by rw [show f3 p0 z y0 y1 = (1 : Int32) from by unfold f3; simp only [if_pos hc19]] <;> rfl, rfl⟩
  · refine own_by (u' := T16.setTop (mkF m 31 #[.val (.ref (n0 + 1)), .val (.int y0), .val (.int y1)] [])) (fun _ k => XS.icmpYes A17.here hx rfl (pc0 := 24) (pc' := 31) rfl (own_db hby d_prog_11_method_3_24) rfl (flt hc19).2.1 (by decide) (by decide) k) ?_
    refine own_by (u' := T16.setTop (mkF m 32 #[.val (.ref (n0 + 1)), .val (.int y0), .val (.int y1)] [(.int (0 : Int32))])) (fun _ k => XS.iconst A17.here hx rfl (own_db hby d_prog_11_method_3_31) k) ?_
    exact own_retN A17 hx hlk (t := .boolean) (by simp) hret (own_db hby d_prog_11_method_3_32) (by decide) (by decide) ⟨by rw [show f3 p0 z y0 y1 = (0 : Int32) from by unfold f3; simp only [if_neg hc19]] <;> rfl, rfl⟩
theorem own_n15 (x : Int32) : 0 ≤ (x &&& (15 : Int32)).toInt ∧ (x &&& (15 : Int32)).toInt ≤ 15 := c_and x 15 (by decide)
theorem own_pos (x : Int32) : 0 ≤ (x &&& (2147483647 : Int32)).toInt := (c_and x 2147483647 (by decide)).1
theorem own_D (k : Int32) (h0 : 0 ≤ k.toInt) : ((2147483647 : Int64) - k.toInt64 + (1 : Int64)).toInt = 2147483648 - k.toInt := by
  have b := rng32 k
  have q1 := c_lsub 2147483647 k.toInt64
  have q2 := c_ladd ((2147483647 : Int64) - k.toInt64) 1
  have b1 := rng64 ((2147483647 : Int64) - k.toInt64)
  have b2 := rng64 ((2147483647 : Int64) - k.toInt64 + (1 : Int64))
  have e1 : (2147483647 : Int64).toInt = 2147483647 := rfl
  have e2 : (1 : Int64).toInt = 1 := rfl
  rw [c_i2l, e1] at q1
  rw [e2] at q2
  omega
theorem own_nz (k : Int32) (h0 : 0 ≤ k.toInt) : (2147483647 : Int64) - k.toInt64 + (1 : Int64) ≠ 0 := fun h => by
  have q := own_D k h0
  have b := rng32 k
  have e0 : (0 : Int64).toInt = 0 := rfl
  rw [h, e0] at q
  omega
theorem own_mod (x k : Int32) (h0 : 0 ≤ k.toInt) : 0 ≤ ((((x &&& (2147483647 : Int32)).toInt64) % ((2147483647 : Int64) - k.toInt64 + (1 : Int64))).toInt32).toInt ∧ ((((x &&& (2147483647 : Int32)).toInt64) % ((2147483647 : Int64) - k.toInt64 + (1 : Int64))).toInt32).toInt + k.toInt ≤ 2147483647 := by
  have b := rng32 k
  have hp := own_pos x
  have q := (c_lrem (x &&& (2147483647 : Int32)).toInt64 ((2147483647 : Int64) - k.toInt64 + (1 : Int64)) _ (own_D k h0)).1 (by rw [c_i2l]; exact hp)
  rw [lrem_mod, c_i2l] at q
  have t := c_l2i ((x &&& (2147483647 : Int32)).toInt64 % ((2147483647 : Int64) - k.toInt64 + (1 : Int64)))
  have b2 := rng32 ((x &&& (2147483647 : Int32)).toInt64 % ((2147483647 : Int64) - k.toInt64 + (1 : Int64))).toInt32
  have m1 := Int.emod_nonneg (x &&& (2147483647 : Int32)).toInt (b := 2147483648 - k.toInt) (by omega)
  have m2 := Int.emod_lt_of_pos (x &&& (2147483647 : Int32)).toInt (b := 2147483648 - k.toInt) (by omega)
  rw [q] at t
  omega
theorem own_neg {x : Int32} (h : 0 ≤ x.toInt) : ¬ x < 0 := by
  have e0 : (0 : Int32).toInt = 0 := rfl
  rw [Int32.lt_iff_toInt_lt, e0]; omega
theorem own_cap {x : Int32} (h : 0 ≤ x.toInt ∧ x.toInt ≤ 15) : x.toNatClampNeg ≤ 15 := by
  rw [Int32.toNatClampNeg]; omega
theorem own_ln {x : Int32} (h : 0 ≤ x.toInt ∧ x.toInt ≤ 15) : (List.replicate (x.toNatClampNeg) (0 : Int32)).length.toInt32 = x := by
  rw [List.length_replicate]; exact (back32 (own_neg h.1)).1
theorem own_ov (a n f l : Int32) (hn : 0 ≤ n.toInt ∧ n.toInt ≤ 15) (ha : 0 ≤ a.toInt ∧ a.toInt + n.toInt ≤ 2147483647) (hl : 0 ≤ l.toInt) (hf : 0 ≤ f.toInt ∧ f.toInt + l.toInt ≤ 2147483647) :
    f3 a n f l = if (0 : Int32) < n then (if (0 : Int32) < l then (if a.toInt64 < f.toInt64 + l.toInt64 then (if f.toInt64 < a.toInt64 + n.toInt64 then 1 else 0) else 0) else 0) else 0 := by
  have e0 : (0 : Int32).toInt = 0 := rfl
  have q1 := c_ladd f.toInt64 l.toInt64
  have q2 := c_ladd a.toInt64 n.toInt64
  have b1 := rng64 (f.toInt64 + l.toInt64)
  have b2 := rng64 (a.toInt64 + n.toInt64)
  have q3 := c_iadd a n
  have q4 := c_iadd f l
  have b3 := rng32 (a + n)
  have b4 := rng32 (f + l)
  rw [c_i2l, c_i2l] at q1 q2
  unfold f3 f4 f5
  simp only [Int32.lt_iff_toInt_lt, Int64.lt_iff_toInt_lt, c_i2l, e0] at *
  repeat' split
  all_goals first | rfl | (exfalso; omega)
theorem pd__I_B_V : parseMethodDescriptor "(I[B)V" = some ⟨[.int, (.array .byte)], none⟩ := by decide +kernel
theorem pd__II_Z : parseMethodDescriptor "(II)Z" = some ⟨[.int, .int], some .boolean⟩ := by decide +kernel
theorem pf_g0 : plainFor x = true := by first | exact plainFor_of_name (by first | (simp [plainName, overriddenIn]; done) | decide +kernel) | decide +kernel
theorem ef_g0 (m : MethodId) (x1 : Int32) (x2 : Int32) (x3 : Int32) (x4 : Int32) : entryFrame m #[(.int x1), (.int x2), (.int x3), (.int x4)] maxLocals = (mkF m 0 #[.val (.int x1), .val (.int x2), .val (.int x3), .val (.int x4), .unset, .unset, .unset, .unset, .unset, .unset, .unset, .unset] []) := by first | (simp [entryFrame, mkF, argsToLocals, Value.category, maxLocals]; done) | rfl
set_option maxRecDepth 65536 in
set_option maxHeartbeats 40000000 in
theorem g0 (l : Launch) (Z : State) (a0 : Array Value) (hw : ∀ d ∈ tables_1, d.before a0 Z = true) (n0 : Nat) (x1 : Int32) (x2 : Int32) (x3 : Int32) (x4 : Int32)  :
    own_met l Z n0 x code maxLocals ret room_1 #[(.int x1), (.int x2), (.int x3), (.int x4)] [] (fun v _ => v = some (.int 1) ∧ True) := by
  refine own_met.of pf_g0 ?_
  intro p e s m below meth c T0 hx hby hml hret hlk hZ hown hnm A0
  replace hown : s.vm.findClass "com/example/holdfast/holdfast/store/WriteOverlapsPinLaw" = some m.cls := hown
  replace hml : c.maxLocals = 12 := hml
  rw [ef_g0 m x1 x2 x3 x4]
  show own_go _ _ _ _ _ _ _ (T0.setTop (mkF m 0 #[.val (.int x1), .val (.int x2), .val (.int x3), .val (.int x4), .unset, .unset, .unset, .unset, .unset, .unset, .unset, .unset] []))
  refine own_by (u' := T0.setTop (mkF m 1 #[.val (.int x1), .val (.int x2), .val (.int x3), .val (.int x4), .unset, .unset, .unset, .unset, .unset, .unset, .unset, .unset] [(.int x2)])) (fun _ k => XS.iloadN A0.here hx rfl (own_db hby at_0) rfl k) ?_
  refine own_by (u' := T0.setTop (mkF m 3 #[.val (.int x1), .val (.int x2), .val (.int x3), .val (.int x4), .unset, .unset, .unset, .unset, .unset, .unset, .unset, .unset] [(.int (15 : Int32)), (.int x2)])) (fun _ k => XS.bipush A0.here hx rfl (own_db hby at_1) k) ?_
  refine own_by (u' := T0.setTop (mkF m 4 #[.val (.int x1), .val (.int x2), .val (.int x3), .val (.int x4), .unset, .unset, .unset, .unset, .unset, .unset, .unset, .unset] [(.int (x2 &&& (15 : Int32)))])) (fun _ k => XS.iand A0.here hx rfl (own_db hby at_3) rfl k) ?_
  refine own_by (u' := T0.setTop (mkF m 6 #[.val (.int x1), .val (.int x2), .val (.int x3), .val (.int x4), .val (.int (x2 &&& (15 : Int32))), .unset, .unset, .unset, .unset, .unset, .unset, .unset] [])) (fun _ k => XS.istore A0.here hx rfl (own_db hby at_4) rfl (l' := #[.val (.int x1), .val (.int x2), .val (.int x3), .val (.int x4), .val (.int (x2 &&& (15 : Int32))), .unset, .unset, .unset, .unset, .unset, .unset, .unset]) rfl k) ?_
  refine own_by (u' := T0.setTop (mkF m 7 #[.val (.int x1), .val (.int x2), .val (.int x3), .val (.int x4), .val (.int (x2 &&& (15 : Int32))), .unset, .unset, .unset, .unset, .unset, .unset, .unset] [(.int x1)])) (fun _ k => XS.iloadN A0.here hx rfl (own_db hby at_6) rfl k) ?_
  refine own_ldcI A0 hx hZ hown (hw _ (List.mem_of_getElem? (i := 0) rfl)) (own_db hby at_7) ?_
  show own_go _ _ _ _ _ _ _ (T0.setTop (mkF m 9 #[.val (.int x1), .val (.int x2), .val (.int x3), .val (.int x4), .val (.int (x2 &&& (15 : Int32))), .unset, .unset, .unset, .unset, .unset, .unset, .unset] [(.int (2147483647 : Int32)), (.int x1)]))
  refine own_by (u' := T0.setTop (mkF m 10 #[.val (.int x1), .val (.int x2), .val (.int x3), .val (.int x4), .val (.int (x2 &&& (15 : Int32))), .unset, .unset, .unset, .unset, .unset, .unset, .unset] [(.int (x1 &&& (2147483647 : Int32)))])) (fun _ k => XS.iand A0.here hx rfl (own_db hby at_9) rfl k) ?_
  refine own_by (u' := T0.setTop (mkF m 11 #[.val (.int x1), .val (.int x2), .val (.int x3), .val (.int x4), .val (.int (x2 &&& (15 : Int32))), .unset, .unset, .unset, .unset, .unset, .unset, .unset] [(.long ((x1 &&& (2147483647 : Int32)).toInt64))])) (fun _ k => XS.i2l A0.here hx rfl (own_db hby at_10) rfl k) ?_
  refine own_ldcJ A0 hx hZ hown (hw _ (List.mem_of_getElem? (i := 1) rfl)) (own_db hby at_11) ?_
  show own_go _ _ _ _ _ _ _ (T0.setTop (mkF m 14 #[.val (.int x1), .val (.int x2), .val (.int x3), .val (.int x4), .val (.int (x2 &&& (15 : Int32))), .unset, .unset, .unset, .unset, .unset, .unset, .unset] [(.long (2147483647 : Int64)), (.long ((x1 &&& (2147483647 : Int32)).toInt64))]))
  refine own_by (u' := T0.setTop (mkF m 16 #[.val (.int x1), .val (.int x2), .val (.int x3), .val (.int x4), .val (.int (x2 &&& (15 : Int32))), .unset, .unset, .unset, .unset, .unset, .unset, .unset] [(.int (x2 &&& (15 : Int32))), (.long (2147483647 : Int64)), (.long ((x1 &&& (2147483647 : Int32)).toInt64))])) (fun _ k => XS.iload A0.here hx rfl (own_db hby at_14) rfl k) ?_
  refine own_by (u' := T0.setTop (mkF m 17 #[.val (.int x1), .val (.int x2), .val (.int x3), .val (.int x4), .val (.int (x2 &&& (15 : Int32))), .unset, .unset, .unset, .unset, .unset, .unset, .unset] [(.long ((x2 &&& (15 : Int32)).toInt64)), (.long (2147483647 : Int64)), (.long ((x1 &&& (2147483647 : Int32)).toInt64))])) (fun _ k => XS.i2l A0.here hx rfl (own_db hby at_16) rfl k) ?_
  refine own_by (u' := T0.setTop (mkF m 18 #[.val (.int x1), .val (.int x2), .val (.int x3), .val (.int x4), .val (.int (x2 &&& (15 : Int32))), .unset, .unset, .unset, .unset, .unset, .unset, .unset] [(.long ((2147483647 : Int64) - ((x2 &&& (15 : Int32)).toInt64))), (.long ((x1 &&& (2147483647 : Int32)).toInt64))])) (fun _ k => XS.lsub A0.here hx rfl (own_db hby at_17) rfl k) ?_
  refine own_by (u' := T0.setTop (mkF m 19 #[.val (.int x1), .val (.int x2), .val (.int x3), .val (.int x4), .val (.int (x2 &&& (15 : Int32))), .unset, .unset, .unset, .unset, .unset, .unset, .unset] [(.long (1 : Int64)), (.long ((2147483647 : Int64) - ((x2 &&& (15 : Int32)).toInt64))), (.long ((x1 &&& (2147483647 : Int32)).toInt64))])) (fun _ k => XS.lconst A0.here hx rfl (own_db hby at_18) k) ?_
  refine own_by (u' := T0.setTop (mkF m 20 #[.val (.int x1), .val (.int x2), .val (.int x3), .val (.int x4), .val (.int (x2 &&& (15 : Int32))), .unset, .unset, .unset, .unset, .unset, .unset, .unset] [(.long (((2147483647 : Int64) - ((x2 &&& (15 : Int32)).toInt64)) + (1 : Int64))), (.long ((x1 &&& (2147483647 : Int32)).toInt64))])) (fun _ k => XS.ladd A0.here hx rfl (own_db hby at_19) rfl k) ?_
  refine own_lrem A0 hx (own_nz _ (own_n15 _).1) (own_db hby at_20) ?_
  show own_go _ _ _ _ _ _ _ (T0.setTop (mkF m 21 #[.val (.int x1), .val (.int x2), .val (.int x3), .val (.int x4), .val (.int (x2 &&& (15 : Int32))), .unset, .unset, .unset, .unset, .unset, .unset, .unset] [(.long (((x1 &&& (2147483647 : Int32)).toInt64) % (((2147483647 : Int64) - ((x2 &&& (15 : Int32)).toInt64)) + (1 : Int64))))]))
  refine own_by (u' := T0.setTop (mkF m 22 #[.val (.int x1), .val (.int x2), .val (.int x3), .val (.int x4), .val (.int (x2 &&& (15 : Int32))), .unset, .unset, .unset, .unset, .unset, .unset, .unset] [(.int ((((x1 &&& (2147483647 : Int32)).toInt64) % (((2147483647 : Int64) - ((x2 &&& (15 : Int32)).toInt64)) + (1 : Int64))).toInt32))])) (fun _ k => XS.l2i A0.here hx rfl (own_db hby at_21) rfl k) ?_
  refine own_by (u' := T0.setTop (mkF m 24 #[.val (.int x1), .val (.int x2), .val (.int x3), .val (.int x4), .val (.int (x2 &&& (15 : Int32))), .val (.int ((((x1 &&& (2147483647 : Int32)).toInt64) % (((2147483647 : Int64) - ((x2 &&& (15 : Int32)).toInt64)) + (1 : Int64))).toInt32)), .unset, .unset, .unset, .unset, .unset, .unset] [])) (fun _ k => XS.istore A0.here hx rfl (own_db hby at_22) rfl (l' := #[.val (.int x1), .val (.int x2), .val (.int x3), .val (.int x4), .val (.int (x2 &&& (15 : Int32))), .val (.int ((((x1 &&& (2147483647 : Int32)).toInt64) % (((2147483647 : Int64) - ((x2 &&& (15 : Int32)).toInt64)) + (1 : Int64))).toInt32)), .unset, .unset, .unset, .unset, .unset, .unset]) rfl k) ?_
  refine own_by (u' := T0.setTop (mkF m 25 #[.val (.int x1), .val (.int x2), .val (.int x3), .val (.int x4), .val (.int (x2 &&& (15 : Int32))), .val (.int ((((x1 &&& (2147483647 : Int32)).toInt64) % (((2147483647 : Int64) - ((x2 &&& (15 : Int32)).toInt64)) + (1 : Int64))).toInt32)), .unset, .unset, .unset, .unset, .unset, .unset] [(.int x4)])) (fun _ k => XS.iloadN A0.here hx rfl (own_db hby at_24) rfl k) ?_
  refine own_ldcI A0 hx hZ hown (hw _ (List.mem_of_getElem? (i := 0) rfl)) (own_db hby at_25) ?_
  show own_go _ _ _ _ _ _ _ (T0.setTop (mkF m 27 #[.val (.int x1), .val (.int x2), .val (.int x3), .val (.int x4), .val (.int (x2 &&& (15 : Int32))), .val (.int ((((x1 &&& (2147483647 : Int32)).toInt64) % (((2147483647 : Int64) - ((x2 &&& (15 : Int32)).toInt64)) + (1 : Int64))).toInt32)), .unset, .unset, .unset, .unset, .unset, .unset] [(.int (2147483647 : Int32)), (.int x4)]))
  refine own_by (u' := T0.setTop (mkF m 28 #[.val (.int x1), .val (.int x2), .val (.int x3), .val (.int x4), .val (.int (x2 &&& (15 : Int32))), .val (.int ((((x1 &&& (2147483647 : Int32)).toInt64) % (((2147483647 : Int64) - ((x2 &&& (15 : Int32)).toInt64)) + (1 : Int64))).toInt32)), .unset, .unset, .unset, .unset, .unset, .unset] [(.int (x4 &&& (2147483647 : Int32)))])) (fun _ k => XS.iand A0.here hx rfl (own_db hby at_27) rfl k) ?_
  refine own_by (u' := T0.setTop (mkF m 30 #[.val (.int x1), .val (.int x2), .val (.int x3), .val (.int x4), .val (.int (x2 &&& (15 : Int32))), .val (.int ((((x1 &&& (2147483647 : Int32)).toInt64) % (((2147483647 : Int64) - ((x2 &&& (15 : Int32)).toInt64)) + (1 : Int64))).toInt32)), .val (.int (x4 &&& (2147483647 : Int32))), .unset, .unset, .unset, .unset, .unset] [])) (fun _ k => XS.istore A0.here hx rfl (own_db hby at_28) rfl (l' := #[.val (.int x1), .val (.int x2), .val (.int x3), .val (.int x4), .val (.int (x2 &&& (15 : Int32))), .val (.int ((((x1 &&& (2147483647 : Int32)).toInt64) % (((2147483647 : Int64) - ((x2 &&& (15 : Int32)).toInt64)) + (1 : Int64))).toInt32)), .val (.int (x4 &&& (2147483647 : Int32))), .unset, .unset, .unset, .unset, .unset]) rfl k) ?_
  refine own_by (u' := T0.setTop (mkF m 31 #[.val (.int x1), .val (.int x2), .val (.int x3), .val (.int x4), .val (.int (x2 &&& (15 : Int32))), .val (.int ((((x1 &&& (2147483647 : Int32)).toInt64) % (((2147483647 : Int64) - ((x2 &&& (15 : Int32)).toInt64)) + (1 : Int64))).toInt32)), .val (.int (x4 &&& (2147483647 : Int32))), .unset, .unset, .unset, .unset, .unset] [(.int x3)])) (fun _ k => XS.iloadN A0.here hx rfl (own_db hby at_30) rfl k) ?_
  refine own_ldcI A0 hx hZ hown (hw _ (List.mem_of_getElem? (i := 0) rfl)) (own_db hby at_31) ?_
  show own_go _ _ _ _ _ _ _ (T0.setTop (mkF m 33 #[.val (.int x1), .val (.int x2), .val (.int x3), .val (.int x4), .val (.int (x2 &&& (15 : Int32))), .val (.int ((((x1 &&& (2147483647 : Int32)).toInt64) % (((2147483647 : Int64) - ((x2 &&& (15 : Int32)).toInt64)) + (1 : Int64))).toInt32)), .val (.int (x4 &&& (2147483647 : Int32))), .unset, .unset, .unset, .unset, .unset] [(.int (2147483647 : Int32)), (.int x3)]))
  refine own_by (u' := T0.setTop (mkF m 34 #[.val (.int x1), .val (.int x2), .val (.int x3), .val (.int x4), .val (.int (x2 &&& (15 : Int32))), .val (.int ((((x1 &&& (2147483647 : Int32)).toInt64) % (((2147483647 : Int64) - ((x2 &&& (15 : Int32)).toInt64)) + (1 : Int64))).toInt32)), .val (.int (x4 &&& (2147483647 : Int32))), .unset, .unset, .unset, .unset, .unset] [(.int (x3 &&& (2147483647 : Int32)))])) (fun _ k => XS.iand A0.here hx rfl (own_db hby at_33) rfl k) ?_
  refine own_by (u' := T0.setTop (mkF m 35 #[.val (.int x1), .val (.int x2), .val (.int x3), .val (.int x4), .val (.int (x2 &&& (15 : Int32))), .val (.int ((((x1 &&& (2147483647 : Int32)).toInt64) % (((2147483647 : Int64) - ((x2 &&& (15 : Int32)).toInt64)) + (1 : Int64))).toInt32)), .val (.int (x4 &&& (2147483647 : Int32))), .unset, .unset, .unset, .unset, .unset] [(.long ((x3 &&& (2147483647 : Int32)).toInt64))])) (fun _ k => XS.i2l A0.here hx rfl (own_db hby at_34) rfl k) ?_
  refine own_ldcJ A0 hx hZ hown (hw _ (List.mem_of_getElem? (i := 1) rfl)) (own_db hby at_35) ?_
  show own_go _ _ _ _ _ _ _ (T0.setTop (mkF m 38 #[.val (.int x1), .val (.int x2), .val (.int x3), .val (.int x4), .val (.int (x2 &&& (15 : Int32))), .val (.int ((((x1 &&& (2147483647 : Int32)).toInt64) % (((2147483647 : Int64) - ((x2 &&& (15 : Int32)).toInt64)) + (1 : Int64))).toInt32)), .val (.int (x4 &&& (2147483647 : Int32))), .unset, .unset, .unset, .unset, .unset] [(.long (2147483647 : Int64)), (.long ((x3 &&& (2147483647 : Int32)).toInt64))]))
  refine own_by (u' := T0.setTop (mkF m 40 #[.val (.int x1), .val (.int x2), .val (.int x3), .val (.int x4), .val (.int (x2 &&& (15 : Int32))), .val (.int ((((x1 &&& (2147483647 : Int32)).toInt64) % (((2147483647 : Int64) - ((x2 &&& (15 : Int32)).toInt64)) + (1 : Int64))).toInt32)), .val (.int (x4 &&& (2147483647 : Int32))), .unset, .unset, .unset, .unset, .unset] [(.int (x4 &&& (2147483647 : Int32))), (.long (2147483647 : Int64)), (.long ((x3 &&& (2147483647 : Int32)).toInt64))])) (fun _ k => XS.iload A0.here hx rfl (own_db hby at_38) rfl k) ?_
  refine own_by (u' := T0.setTop (mkF m 41 #[.val (.int x1), .val (.int x2), .val (.int x3), .val (.int x4), .val (.int (x2 &&& (15 : Int32))), .val (.int ((((x1 &&& (2147483647 : Int32)).toInt64) % (((2147483647 : Int64) - ((x2 &&& (15 : Int32)).toInt64)) + (1 : Int64))).toInt32)), .val (.int (x4 &&& (2147483647 : Int32))), .unset, .unset, .unset, .unset, .unset] [(.long ((x4 &&& (2147483647 : Int32)).toInt64)), (.long (2147483647 : Int64)), (.long ((x3 &&& (2147483647 : Int32)).toInt64))])) (fun _ k => XS.i2l A0.here hx rfl (own_db hby at_40) rfl k) ?_
  refine own_by (u' := T0.setTop (mkF m 42 #[.val (.int x1), .val (.int x2), .val (.int x3), .val (.int x4), .val (.int (x2 &&& (15 : Int32))), .val (.int ((((x1 &&& (2147483647 : Int32)).toInt64) % (((2147483647 : Int64) - ((x2 &&& (15 : Int32)).toInt64)) + (1 : Int64))).toInt32)), .val (.int (x4 &&& (2147483647 : Int32))), .unset, .unset, .unset, .unset, .unset] [(.long ((2147483647 : Int64) - ((x4 &&& (2147483647 : Int32)).toInt64))), (.long ((x3 &&& (2147483647 : Int32)).toInt64))])) (fun _ k => XS.lsub A0.here hx rfl (own_db hby at_41) rfl k) ?_
  refine own_by (u' := T0.setTop (mkF m 43 #[.val (.int x1), .val (.int x2), .val (.int x3), .val (.int x4), .val (.int (x2 &&& (15 : Int32))), .val (.int ((((x1 &&& (2147483647 : Int32)).toInt64) % (((2147483647 : Int64) - ((x2 &&& (15 : Int32)).toInt64)) + (1 : Int64))).toInt32)), .val (.int (x4 &&& (2147483647 : Int32))), .unset, .unset, .unset, .unset, .unset] [(.long (1 : Int64)), (.long ((2147483647 : Int64) - ((x4 &&& (2147483647 : Int32)).toInt64))), (.long ((x3 &&& (2147483647 : Int32)).toInt64))])) (fun _ k => XS.lconst A0.here hx rfl (own_db hby at_42) k) ?_
  refine own_by (u' := T0.setTop (mkF m 44 #[.val (.int x1), .val (.int x2), .val (.int x3), .val (.int x4), .val (.int (x2 &&& (15 : Int32))), .val (.int ((((x1 &&& (2147483647 : Int32)).toInt64) % (((2147483647 : Int64) - ((x2 &&& (15 : Int32)).toInt64)) + (1 : Int64))).toInt32)), .val (.int (x4 &&& (2147483647 : Int32))), .unset, .unset, .unset, .unset, .unset] [(.long (((2147483647 : Int64) - ((x4 &&& (2147483647 : Int32)).toInt64)) + (1 : Int64))), (.long ((x3 &&& (2147483647 : Int32)).toInt64))])) (fun _ k => XS.ladd A0.here hx rfl (own_db hby at_43) rfl k) ?_
  refine own_lrem A0 hx (own_nz _ (own_pos _)) (own_db hby at_44) ?_
  show own_go _ _ _ _ _ _ _ (T0.setTop (mkF m 45 #[.val (.int x1), .val (.int x2), .val (.int x3), .val (.int x4), .val (.int (x2 &&& (15 : Int32))), .val (.int ((((x1 &&& (2147483647 : Int32)).toInt64) % (((2147483647 : Int64) - ((x2 &&& (15 : Int32)).toInt64)) + (1 : Int64))).toInt32)), .val (.int (x4 &&& (2147483647 : Int32))), .unset, .unset, .unset, .unset, .unset] [(.long (((x3 &&& (2147483647 : Int32)).toInt64) % (((2147483647 : Int64) - ((x4 &&& (2147483647 : Int32)).toInt64)) + (1 : Int64))))]))
  refine own_by (u' := T0.setTop (mkF m 46 #[.val (.int x1), .val (.int x2), .val (.int x3), .val (.int x4), .val (.int (x2 &&& (15 : Int32))), .val (.int ((((x1 &&& (2147483647 : Int32)).toInt64) % (((2147483647 : Int64) - ((x2 &&& (15 : Int32)).toInt64)) + (1 : Int64))).toInt32)), .val (.int (x4 &&& (2147483647 : Int32))), .unset, .unset, .unset, .unset, .unset] [(.int ((((x3 &&& (2147483647 : Int32)).toInt64) % (((2147483647 : Int64) - ((x4 &&& (2147483647 : Int32)).toInt64)) + (1 : Int64))).toInt32))])) (fun _ k => XS.l2i A0.here hx rfl (own_db hby at_45) rfl k) ?_
  refine own_by (u' := T0.setTop (mkF m 48 #[.val (.int x1), .val (.int x2), .val (.int x3), .val (.int x4), .val (.int (x2 &&& (15 : Int32))), .val (.int ((((x1 &&& (2147483647 : Int32)).toInt64) % (((2147483647 : Int64) - ((x2 &&& (15 : Int32)).toInt64)) + (1 : Int64))).toInt32)), .val (.int (x4 &&& (2147483647 : Int32))), .val (.int ((((x3 &&& (2147483647 : Int32)).toInt64) % (((2147483647 : Int64) - ((x4 &&& (2147483647 : Int32)).toInt64)) + (1 : Int64))).toInt32)), .unset, .unset, .unset, .unset] [])) (fun _ k => XS.istore A0.here hx rfl (own_db hby at_46) rfl (l' := #[.val (.int x1), .val (.int x2), .val (.int x3), .val (.int x4), .val (.int (x2 &&& (15 : Int32))), .val (.int ((((x1 &&& (2147483647 : Int32)).toInt64) % (((2147483647 : Int64) - ((x2 &&& (15 : Int32)).toInt64)) + (1 : Int64))).toInt32)), .val (.int (x4 &&& (2147483647 : Int32))), .val (.int ((((x3 &&& (2147483647 : Int32)).toInt64) % (((2147483647 : Int64) - ((x4 &&& (2147483647 : Int32)).toInt64)) + (1 : Int64))).toInt32)), .unset, .unset, .unset, .unset]) rfl k) ?_
  have J1 : ∀ (T2 : State) (nn : Int32) (aa : Int32) (ll : Int32) (ff : Int32), own_at p l e room_1 s m #[(.int x1), (.int x2), (.int x3), (.int x4)] below meth c n0 T2 0 0 [] → (0 ≤ nn.toInt ∧ nn.toInt ≤ 15) → (0 ≤ aa.toInt ∧ aa.toInt + nn.toInt ≤ 2147483647) → (0 ≤ ll.toInt) → (0 ≤ ff.toInt ∧ ff.toInt + ll.toInt ≤ 2147483647) → own_go p e room_1 s below n0 (fun v _ => v = some (.int 1) ∧ True) (T2.setTop (mkF m 48 #[.val (.int x1), .val (.int x2), .val (.int x3), .val (.int x4), .val (.int nn), .val (.int aa), .val (.int ll), .val (.int ff), .unset, .unset, .unset, .unset] [])) := by
    intro T2 nn aa ll ff A3 hn ha hl hf
    refine own_by (u' := T2.setTop (mkF m 50 #[.val (.int x1), .val (.int x2), .val (.int x3), .val (.int x4), .val (.int nn), .val (.int aa), .val (.int ll), .val (.int ff), .unset, .unset, .unset, .unset] [(.int nn)])) (fun _ k => XS.iload A3.here hx rfl (own_db hby at_48) rfl k) ?_
    refine own_newP (aty := .byte) A3 hx hZ (hw _ (List.mem_of_getElem? (i := 2) rfl)) (own_db hby at_50) (nn.toNatClampNeg) ⟨own_neg hn.1, rfl⟩ (cap := 15) (own_cap hn) (by decide) rfl (by decide) (by decide) ?_
    intro T4 A5
    replace A5 : own_at p l e _ s m _ below meth c n0 T4 1 15 [(own_ia Z .byte (List.replicate (nn.toNatClampNeg) 0))] := A5
    show own_go _ _ _ _ _ _ _ (T4.setTop (mkF m 52 #[.val (.int x1), .val (.int x2), .val (.int x3), .val (.int x4), .val (.int nn), .val (.int aa), .val (.int ll), .val (.int ff), .unset, .unset, .unset, .unset] [(.ref (n0 + 0))]))
    refine own_by (u' := T4.setTop (mkF m 54 #[.val (.int x1), .val (.int x2), .val (.int x3), .val (.int x4), .val (.int nn), .val (.int aa), .val (.int ll), .val (.int ff), .val (.ref (n0 + 0)), .unset, .unset, .unset] [])) (fun _ k => XS.astore A5.here hx rfl (own_db hby at_52) rfl rfl (l' := #[.val (.int x1), .val (.int x2), .val (.int x3), .val (.int x4), .val (.int nn), .val (.int aa), .val (.int ll), .val (.int ff), .val (.ref (n0 + 0)), .unset, .unset, .unset]) rfl k) ?_
    refine own_new (ns := ns_CardMemory_Write) (vs := [(.int (0 : Int32)), .null]) A5 hx hZ hown (hw _ (List.mem_of_getElem? (i := 3) rfl)) (hw _ (List.mem_of_getElem? (i := 4) rfl)) (hw _ (List.mem_of_getElem? (i := 5) rfl)) (own_cons ⟨(Or.inr (hw _ (List.mem_of_getElem? (i := 18) rfl))), .int, by decide, rfl⟩ (own_cons ⟨(Or.inr (hw _ (List.mem_of_getElem? (i := 20) rfl))), (.array .byte), by decide, rfl⟩ own_nil)) (own_db hby at_54) (by decide) (by decide) ?_
    intro T6 A7
    replace A7 : own_at p l e _ s m _ below meth c n0 T6 2 17 [(own_ia Z .byte (List.replicate (nn.toNatClampNeg) 0)), (own_obj Z "com/example/holdfast/holdfast/store/CardMemory$Write" ns_CardMemory_Write [(.int (0 : Int32)), .null])] := A7
    show own_go _ _ _ _ _ _ _ (T6.setTop (mkF m 57 #[.val (.int x1), .val (.int x2), .val (.int x3), .val (.int x4), .val (.int nn), .val (.int aa), .val (.int ll), .val (.int ff), .val (.ref (n0 + 0)), .unset, .unset, .unset] [(.ref (n0 + 1))]))
    refine own_by (u' := T6.setTop (mkF m 58 #[.val (.int x1), .val (.int x2), .val (.int x3), .val (.int x4), .val (.int nn), .val (.int aa), .val (.int ll), .val (.int ff), .val (.ref (n0 + 0)), .unset, .unset, .unset] [(.ref (n0 + 1)), (.ref (n0 + 1))])) (fun _ k => XS.dup A7.here hx rfl (own_db hby at_57) rfl rfl k) ?_
    refine own_by (u' := T6.setTop (mkF m 60 #[.val (.int x1), .val (.int x2), .val (.int x3), .val (.int x4), .val (.int nn), .val (.int aa), .val (.int ll), .val (.int ff), .val (.ref (n0 + 0)), .unset, .unset, .unset] [(.int aa), (.ref (n0 + 1)), (.ref (n0 + 1))])) (fun _ k => XS.iload A7.here hx rfl (own_db hby at_58) rfl k) ?_
    refine own_by (u' := T6.setTop (mkF m 62 #[.val (.int x1), .val (.int x2), .val (.int x3), .val (.int x4), .val (.int nn), .val (.int aa), .val (.int ll), .val (.int ff), .val (.ref (n0 + 0)), .unset, .unset, .unset] [(.ref (n0 + 0)), (.int aa), (.ref (n0 + 1)), (.ref (n0 + 1))])) (fun _ k => XS.aload A7.here hx rfl (own_db hby at_60) rfl rfl k) ?_
    refine own_callC (y := (⟨"com/example/holdfast/holdfast/store/CardMemory$Write", "<init>", "(I[B)V"⟩ : MethodName)) (rest := [(.ref (n0 + 1))]) A7 hx hZ hown rfl (hw _ (List.mem_of_getElem? (i := 6) rfl)) (hw _ (List.mem_of_getElem? (i := 7) rfl)) (hw _ (List.mem_of_getElem? (i := 5) rfl)) (hw _ (List.mem_of_getElem? (i := 8) rfl)) (by decide) (g1 l Z a0 hw n0 [(own_ia Z .byte (List.replicate (nn.toNatClampNeg) 0)), (own_obj Z "com/example/holdfast/holdfast/store/CardMemory$Write" ns_CardMemory_Write [(.int (0 : Int32)), .null])] 1 aa (n0 + 0) rfl) (by rw [hml]; rfl) (n0 + 1) [(.int aa), (.ref (n0 + 0))] rfl rfl pd__I_B_V rfl (W := 1) (by show 2 * 0 + _ ≤ _; exact Nat.le_of_eq rfl) (own_db hby at_62) (by decide) (by decide) (by decide) (by decide) ?_
    intro v8 i9 T11 hq10 A12
    obtain ⟨rfl, he13⟩ := hq10
    rw [he13] at A12
    replace A12 : own_at p l e _ s m _ below meth c n0 T11 2 17 [(own_ia Z .byte (List.replicate (nn.toNatClampNeg) 0)), (own_obj Z "com/example/holdfast/holdfast/store/CardMemory$Write" ns_CardMemory_Write [(.int aa), (.ref (n0 + 0))])] := A12
    show own_go _ _ _ _ _ _ _ (T11.setTop (mkF m 65 #[.val (.int x1), .val (.int x2), .val (.int x3), .val (.int x4), .val (.int nn), .val (.int aa), .val (.int ll), .val (.int ff), .val (.ref (n0 + 0)), .unset, .unset, .unset] [(.ref (n0 + 1))]))
    refine own_by (u' := T11.setTop (mkF m 67 #[.val (.int x1), .val (.int x2), .val (.int x3), .val (.int x4), .val (.int nn), .val (.int aa), .val (.int ll), .val (.int ff), .val (.ref (n0 + 0)), .val (.ref (n0 + 1)), .unset, .unset] [])) (fun _ k => XS.astore A12.here hx rfl (own_db hby at_65) rfl rfl (l' := #[.val (.int x1), .val (.int x2), .val (.int x3), .val (.int x4), .val (.int nn), .val (.int aa), .val (.int ll), .val (.int ff), .val (.ref (n0 + 0)), .val (.ref (n0 + 1)), .unset, .unset]) rfl k) ?_
    refine own_by (u' := T11.setTop (mkF m 69 #[.val (.int x1), .val (.int x2), .val (.int x3), .val (.int x4), .val (.int nn), .val (.int aa), .val (.int ll), .val (.int ff), .val (.ref (n0 + 0)), .val (.ref (n0 + 1)), .unset, .unset] [(.ref (n0 + 1))])) (fun _ k => XS.aload A12.here hx rfl (own_db hby at_67) rfl rfl k) ?_
    refine own_by (u' := T11.setTop (mkF m 71 #[.val (.int x1), .val (.int x2), .val (.int x3), .val (.int x4), .val (.int nn), .val (.int aa), .val (.int ll), .val (.int ff), .val (.ref (n0 + 0)), .val (.ref (n0 + 1)), .unset, .unset] [(.int ff), (.ref (n0 + 1))])) (fun _ k => XS.iload A12.here hx rfl (own_db hby at_69) rfl k) ?_
    refine own_by (u' := T11.setTop (mkF m 73 #[.val (.int x1), .val (.int x2), .val (.int x3), .val (.int x4), .val (.int nn), .val (.int aa), .val (.int ll), .val (.int ff), .val (.ref (n0 + 0)), .val (.ref (n0 + 1)), .unset, .unset] [(.int ll), (.int ff), (.ref (n0 + 1))])) (fun _ k => XS.iload A12.here hx rfl (own_db hby at_71) rfl k) ?_
    refine own_callV (y := (⟨"com/example/holdfast/holdfast/store/CardMemory$Write", "overlaps", "(II)Z"⟩ : MethodName)) (rest := []) A12 hx hZ hown (hw _ (List.mem_of_getElem? (i := 21) rfl)) (hw _ (List.mem_of_getElem? (i := 22) rfl)) (hw _ (List.mem_of_getElem? (i := 24) rfl)) (hw _ (List.mem_of_getElem? (i := 23) rfl)) (hw _ (List.mem_of_getElem? (i := 5) rfl)) (hw _ (List.mem_of_getElem? (i := 25) rfl)) (by decide) (i := 1) rfl (g3 l Z a0 hw n0 (List.replicate (nn.toNatClampNeg) 0) nn aa ff ll (own_ln hn)) (by rw [hml]; rfl) [(.int ff), (.int ll)] rfl rfl pd__II_Z rfl (W := 0) (by show 2 * 0 + _ ≤ _; exact Nat.le_of_eq rfl) (own_db hby at_73) (by decide) (by decide) (by decide) (by decide) ?_
    intro v14 i15 T17 hq16 A18
    obtain ⟨rfl, he19⟩ := hq16
    rw [he19] at A18
    replace A18 : own_at p l e _ s m _ below meth c n0 T17 2 17 [(own_ia Z .byte (List.replicate (nn.toNatClampNeg) 0)), (own_obj Z "com/example/holdfast/holdfast/store/CardMemory$Write" ns_CardMemory_Write [(.int aa), (.ref (n0 + 0))])] := A18
    show own_go _ _ _ _ _ _ _ (T17.setTop (mkF m 76 #[.val (.int x1), .val (.int x2), .val (.int x3), .val (.int x4), .val (.int nn), .val (.int aa), .val (.int ll), .val (.int ff), .val (.ref (n0 + 0)), .val (.ref (n0 + 1)), .unset, .unset] [(.int (f3 aa nn ff ll))]))
    refine own_by (u' := T17.setTop (mkF m 78 #[.val (.int x1), .val (.int x2), .val (.int x3), .val (.int x4), .val (.int nn), .val (.int aa), .val (.int ll), .val (.int ff), .val (.ref (n0 + 0)), .val (.ref (n0 + 1)), .val (.int (f3 aa nn ff ll)), .unset] [])) (fun _ k => XS.istore A18.here hx rfl (own_db hby at_76) rfl (l' := #[.val (.int x1), .val (.int x2), .val (.int x3), .val (.int x4), .val (.int nn), .val (.int aa), .val (.int ll), .val (.int ff), .val (.ref (n0 + 0)), .val (.ref (n0 + 1)), .val (.int (f3 aa nn ff ll)), .unset]) rfl k) ?_
    refine own_by (u' := T17.setTop (mkF m 80 #[.val (.int x1), .val (.int x2), .val (.int x3), .val (.int x4), .val (.int nn), .val (.int aa), .val (.int ll), .val (.int ff), .val (.ref (n0 + 0)), .val (.ref (n0 + 1)), .val (.int (f3 aa nn ff ll)), .unset] [(.int nn)])) (fun _ k => XS.iload A18.here hx rfl (own_db hby at_78) rfl k) ?_
    by_cases hc20 : (0 : Int32) < nn
    · refine own_by (u' := T17.setTop (mkF m 83 #[.val (.int x1), .val (.int x2), .val (.int x3), .val (.int x4), .val (.int nn), .val (.int aa), .val (.int ll), .val (.int ff), .val (.ref (n0 + 0)), .val (.ref (n0 + 1)), .val (.int (f3 aa nn ff ll)), .unset] [])) (fun _ k => XS.ifNo A18.here hx rfl (own_db hby at_80) rfl ((if0 _ _).trans (tlt hc20).2.2.2) k) ?_
      refine own_by (u' := T17.setTop (mkF m 85 #[.val (.int x1), .val (.int x2), .val (.int x3), .val (.int x4), .val (.int nn), .val (.int aa), .val (.int ll), .val (.int ff), .val (.ref (n0 + 0)), .val (.ref (n0 + 1)), .val (.int (f3 aa nn ff ll)), .unset] [(.int ll)])) (fun _ k => XS.iload A18.here hx rfl (own_db hby at_83) rfl k) ?_
      by_cases hc21 : (0 : Int32) < ll
      · refine own_by (u' := T17.setTop (mkF m 88 #[.val (.int x1), .val (.int x2), .val (.int x3), .val (.int x4), .val (.int nn), .val (.int aa), .val (.int ll), .val (.int ff), .val (.ref (n0 + 0)), .val (.ref (n0 + 1)), .val (.int (f3 aa nn ff ll)), .unset] [])) (fun _ k => XS.ifNo A18.here hx rfl (own_db hby at_85) rfl ((if0 _ _).trans (tlt hc21).2.2.2) k) ?_
        refine own_by (u' := T17.setTop (mkF m 90 #[.val (.int x1), .val (.int x2), .val (.int x3), .val (.int x4), .val (.int nn), .val (.int aa), .val (.int ll), .val (.int ff), .val (.ref (n0 + 0)), .val (.ref (n0 + 1)), .val (.int (f3 aa nn ff ll)), .unset] [(.int aa)])) (fun _ k => XS.iload A18.here hx rfl (own_db hby at_88) rfl k) ?_
        refine own_by (u' := T17.setTop (mkF m 91 #[.val (.int x1), .val (.int x2), .val (.int x3), .val (.int x4), .val (.int nn), .val (.int aa), .val (.int ll), .val (.int ff), .val (.ref (n0 + 0)), .val (.ref (n0 + 1)), .val (.int (f3 aa nn ff ll)), .unset] [(.long (aa.toInt64))])) (fun _ k => XS.i2l A18.here hx rfl (own_db hby at_90) rfl k) ?_
        refine own_by (u' := T17.setTop (mkF m 93 #[.val (.int x1), .val (.int x2), .val (.int x3), .val (.int x4), .val (.int nn), .val (.int aa), .val (.int ll), .val (.int ff), .val (.ref (n0 + 0)), .val (.ref (n0 + 1)), .val (.int (f3 aa nn ff ll)), .unset] [(.int ff), (.long (aa.toInt64))])) (fun _ k => XS.iload A18.here hx rfl (own_db hby at_91) rfl k) ?_
        refine own_by (u' := T17.setTop (mkF m 94 #[.val (.int x1), .val (.int x2), .val (.int x3), .val (.int x4), .val (.int nn), .val (.int aa), .val (.int ll), .val (.int ff), .val (.ref (n0 + 0)), .val (.ref (n0 + 1)), .val (.int (f3 aa nn ff ll)), .unset] [(.long (ff.toInt64)), (.long (aa.toInt64))])) (fun _ k => XS.i2l A18.here hx rfl (own_db hby at_93) rfl k) ?_
        refine own_by (u' := T17.setTop (mkF m 96 #[.val (.int x1), .val (.int x2), .val (.int x3), .val (.int x4), .val (.int nn), .val (.int aa), .val (.int ll), .val (.int ff), .val (.ref (n0 + 0)), .val (.ref (n0 + 1)), .val (.int (f3 aa nn ff ll)), .unset] [(.int ll), (.long (ff.toInt64)), (.long (aa.toInt64))])) (fun _ k => XS.iload A18.here hx rfl (own_db hby at_94) rfl k) ?_
        refine own_by (u' := T17.setTop (mkF m 97 #[.val (.int x1), .val (.int x2), .val (.int x3), .val (.int x4), .val (.int nn), .val (.int aa), .val (.int ll), .val (.int ff), .val (.ref (n0 + 0)), .val (.ref (n0 + 1)), .val (.int (f3 aa nn ff ll)), .unset] [(.long (ll.toInt64)), (.long (ff.toInt64)), (.long (aa.toInt64))])) (fun _ k => XS.i2l A18.here hx rfl (own_db hby at_96) rfl k) ?_
        refine own_by (u' := T17.setTop (mkF m 98 #[.val (.int x1), .val (.int x2), .val (.int x3), .val (.int x4), .val (.int nn), .val (.int aa), .val (.int ll), .val (.int ff), .val (.ref (n0 + 0)), .val (.ref (n0 + 1)), .val (.int (f3 aa nn ff ll)), .unset] [(.long ((ff.toInt64) + (ll.toInt64))), (.long (aa.toInt64))])) (fun _ k => XS.ladd A18.here hx rfl (own_db hby at_97) rfl k) ?_
        refine own_by (u' := T17.setTop (mkF m 99 #[.val (.int x1), .val (.int x2), .val (.int x3), .val (.int x4), .val (.int nn), .val (.int aa), .val (.int ll), .val (.int ff), .val (.ref (n0 + 0)), .val (.ref (n0 + 1)), .val (.int (f3 aa nn ff ll)), .unset] [(.int (lcmpW (aa.toInt64) ((ff.toInt64) + (ll.toInt64))))])) (fun _ k => XS.lcmp A18.here hx rfl (own_db hby at_98) rfl k) ?_
        by_cases hc22 : (aa.toInt64) < ((ff.toInt64) + (ll.toInt64))
        · refine own_by (u' := T17.setTop (mkF m 102 #[.val (.int x1), .val (.int x2), .val (.int x3), .val (.int x4), .val (.int nn), .val (.int aa), .val (.int ll), .val (.int ff), .val (.ref (n0 + 0)), .val (.ref (n0 + 1)), .val (.int (f3 aa nn ff ll)), .unset] [])) (fun _ k => XS.ifNo A18.here hx rfl (own_db hby at_99) rfl ((if0 _ _).trans (tlt (own_lc_lt hc22)).2.1) k) ?_
          refine own_by (u' := T17.setTop (mkF m 104 #[.val (.int x1), .val (.int x2), .val (.int x3), .val (.int x4), .val (.int nn), .val (.int aa), .val (.int ll), .val (.int ff), .val (.ref (n0 + 0)), .val (.ref (n0 + 1)), .val (.int (f3 aa nn ff ll)), .unset] [(.int ff)])) (fun _ k => XS.iload A18.here hx rfl (own_db hby at_102) rfl k) ?_
          refine own_by (u' := T17.setTop (mkF m 105 #[.val (.int x1), .val (.int x2), .val (.int x3), .val (.int x4), .val (.int nn), .val (.int aa), .val (.int ll), .val (.int ff), .val (.ref (n0 + 0)), .val (.ref (n0 + 1)), .val (.int (f3 aa nn ff ll)), .unset] [(.long (ff.toInt64))])) (fun _ k => XS.i2l A18.here hx rfl (own_db hby at_104) rfl k) ?_
          refine own_by (u' := T17.setTop (mkF m 107 #[.val (.int x1), .val (.int x2), .val (.int x3), .val (.int x4), .val (.int nn), .val (.int aa), .val (.int ll), .val (.int ff), .val (.ref (n0 + 0)), .val (.ref (n0 + 1)), .val (.int (f3 aa nn ff ll)), .unset] [(.int aa), (.long (ff.toInt64))])) (fun _ k => XS.iload A18.here hx rfl (own_db hby at_105) rfl k) ?_
          refine own_by (u' := T17.setTop (mkF m 108 #[.val (.int x1), .val (.int x2), .val (.int x3), .val (.int x4), .val (.int nn), .val (.int aa), .val (.int ll), .val (.int ff), .val (.ref (n0 + 0)), .val (.ref (n0 + 1)), .val (.int (f3 aa nn ff ll)), .unset] [(.long (aa.toInt64)), (.long (ff.toInt64))])) (fun _ k => XS.i2l A18.here hx rfl (own_db hby at_107) rfl k) ?_
          refine own_by (u' := T17.setTop (mkF m 110 #[.val (.int x1), .val (.int x2), .val (.int x3), .val (.int x4), .val (.int nn), .val (.int aa), .val (.int ll), .val (.int ff), .val (.ref (n0 + 0)), .val (.ref (n0 + 1)), .val (.int (f3 aa nn ff ll)), .unset] [(.int nn), (.long (aa.toInt64)), (.long (ff.toInt64))])) (fun _ k => XS.iload A18.here hx rfl (own_db hby at_108) rfl k) ?_
          refine own_by (u' := T17.setTop (mkF m 111 #[.val (.int x1), .val (.int x2), .val (.int x3), .val (.int x4), .val (.int nn), .val (.int aa), .val (.int ll), .val (.int ff), .val (.ref (n0 + 0)), .val (.ref (n0 + 1)), .val (.int (f3 aa nn ff ll)), .unset] [(.long (nn.toInt64)), (.long (aa.toInt64)), (.long (ff.toInt64))])) (fun _ k => XS.i2l A18.here hx rfl (own_db hby at_110) rfl k) ?_
          refine own_by (u' := T17.setTop (mkF m 112 #[.val (.int x1), .val (.int x2), .val (.int x3), .val (.int x4), .val (.int nn), .val (.int aa), .val (.int ll), .val (.int ff), .val (.ref (n0 + 0)), .val (.ref (n0 + 1)), .val (.int (f3 aa nn ff ll)), .unset] [(.long ((aa.toInt64) + (nn.toInt64))), (.long (ff.toInt64))])) (fun _ k => XS.ladd A18.here hx rfl (own_db hby at_111) rfl k) ?_
          refine own_by (u' := T17.setTop (mkF m 113 #[.val (.int x1), .val (.int x2), .val (.int x3), .val (.int x4), .val (.int nn), .val (.int aa), .val (.int ll), .val (.int ff), .val (.ref (n0 + 0)), .val (.ref (n0 + 1)), .val (.int (f3 aa nn ff ll)), .unset] [(.int (lcmpW (ff.toInt64) ((aa.toInt64) + (nn.toInt64))))])) (fun _ k => XS.lcmp A18.here hx rfl (own_db hby at_112) rfl k) ?_
          by_cases hc23 : (ff.toInt64) < ((aa.toInt64) + (nn.toInt64))
          · refine own_by (u' := T17.setTop (mkF m 116 #[.val (.int x1), .val (.int x2), .val (.int x3), .val (.int x4), .val (.int nn), .val (.int aa), .val (.int ll), .val (.int ff), .val (.ref (n0 + 0)), .val (.ref (n0 + 1)), .val (.int (f3 aa nn ff ll)), .unset] [])) (fun _ k => XS.ifNo A18.here hx rfl (own_db hby at_113) rfl ((if0 _ _).trans (tlt (own_lc_lt hc23)).2.1) k) ?_
            refine own_by (u' := T17.setTop (mkF m 117 #[.val (.int x1), .val (.int x2), .val (.int x3), .val (.int x4), .val (.int nn), .val (.int aa), .val (.int ll), .val (.int ff), .val (.ref (n0 + 0)), .val (.ref (n0 + 1)), .val (.int (f3 aa nn ff ll)), .unset] [(.int (1 : Int32))])) (fun _ k => XS.iconst A18.here hx rfl (own_db hby at_116) k) ?_
            refine own_by (u' := T17.setTop (mkF m 121 #[.val (.int x1), .val (.int x2), .val (.int x3), .val (.int x4), .val (.int nn), .val (.int aa), .val (.int ll), .val (.int ff), .val (.ref (n0 + 0)), .val (.ref (n0 + 1)), .val (.int (f3 aa nn ff ll)), .unset] [(.int (1 : Int32))])) (fun _ k => XS.goto A18.here hx rfl (pc0 := 117) (pc' := 121) rfl (own_db hby at_117) (by decide) (by decide) k) ?_
            refine own_by (u' := T17.setTop (mkF m 123 #[.val (.int x1), .val (.int x2), .val (.int x3), .val (.int x4), .val (.int nn), .val (.int aa), .val (.int ll), .val (.int ff), .val (.ref (n0 + 0)), .val (.ref (n0 + 1)), .val (.int (f3 aa nn ff ll)), .val (.int (1 : Int32))] [])) (fun _ k => XS.istore A18.here hx rfl (own_db hby at_121) rfl (l' := #[.val (.int x1), .val (.int x2), .val (.int x3), .val (.int x4), .val (.int nn), .val (.int aa), .val (.int ll), .val (.int ff), .val (.ref (n0 + 0)), .val (.ref (n0 + 1)), .val (.int (f3 aa nn ff ll)), .val (.int (1 : Int32))]) rfl k) ?_
            refine own_by (u' := T17.setTop (mkF m 125 #[.val (.int x1), .val (.int x2), .val (.int x3), .val (.int x4), .val (.int nn), .val (.int aa), .val (.int ll), .val (.int ff), .val (.ref (n0 + 0)), .val (.ref (n0 + 1)), .val (.int (f3 aa nn ff ll)), .val (.int (1 : Int32))] [(.int (f3 aa nn ff ll))])) (fun _ k => XS.iload A18.here hx rfl (own_db hby at_123) rfl k) ?_
            refine own_by (u' := T17.setTop (mkF m 127 #[.val (.int x1), .val (.int x2), .val (.int x3), .val (.int x4), .val (.int nn), .val (.int aa), .val (.int ll), .val (.int ff), .val (.ref (n0 + 0)), .val (.ref (n0 + 1)), .val (.int (f3 aa nn ff ll)), .val (.int (1 : Int32))] [(.int (1 : Int32)), (.int (f3 aa nn ff ll))])) (fun _ k => XS.iload A18.here hx rfl (own_db hby at_125) rfl k) ?_
            refine own_by (u' := T17.setTop (mkF m 130 #[.val (.int x1), .val (.int x2), .val (.int x3), .val (.int x4), .val (.int nn), .val (.int aa), .val (.int ll), .val (.int ff), .val (.ref (n0 + 0)), .val (.ref (n0 + 1)), .val (.int (f3 aa nn ff ll)), .val (.int (1 : Int32))] [])) (fun _ k => XS.icmpNo A18.here hx rfl (own_db hby at_127) rfl (teq ((own_ov _ _ _ _ hn ha hl hf).trans (by simp [hc20, hc21, hc22, hc23]))).2 k) ?_
            refine own_by (u' := T17.setTop (mkF m 131 #[.val (.int x1), .val (.int x2), .val (.int x3), .val (.int x4), .val (.int nn), .val (.int aa), .val (.int ll), .val (.int ff), .val (.ref (n0 + 0)), .val (.ref (n0 + 1)), .val (.int (f3 aa nn ff ll)), .val (.int (1 : Int32))] [(.int (1 : Int32))])) (fun _ k => XS.iconst A18.here hx rfl (own_db hby at_130) k) ?_
            refine own_by (u' := T17.setTop (mkF m 135 #[.val (.int x1), .val (.int x2), .val (.int x3), .val (.int x4), .val (.int nn), .val (.int aa), .val (.int ll), .val (.int ff), .val (.ref (n0 + 0)), .val (.ref (n0 + 1)), .val (.int (f3 aa nn ff ll)), .val (.int (1 : Int32))] [(.int (1 : Int32))])) (fun _ k => XS.goto A18.here hx rfl (pc0 := 131) (pc' := 135) rfl (own_db hby at_131) (by decide) (by decide) k) ?_
            exact own_retN A18 hx hlk (t := .boolean) (by simp) hret (own_db hby at_135) (by decide) (by decide) ⟨rfl, trivial⟩
          · refine own_by (u' := T17.setTop (mkF m 120 #[.val (.int x1), .val (.int x2), .val (.int x3), .val (.int x4), .val (.int nn), .val (.int aa), .val (.int ll), .val (.int ff), .val (.ref (n0 + 0)), .val (.ref (n0 + 1)), .val (.int (f3 aa nn ff ll)), .unset] [])) (fun _ k => XS.ifYes A18.here hx rfl (pc0 := 113) (pc' := 120) rfl (own_db hby at_113) rfl ((if0 _ _).trans (flt (own_lc_nlt hc23)).2.1) (by decide) (by decide) k) ?_
            refine own_by (u' := T17.setTop (mkF m 121 #[.val (.int x1), .val (.int x2), .val (.int x3), .val (.int x4), .val (.int nn), .val (.int aa), .val (.int ll), .val (.int ff), .val (.ref (n0 + 0)), .val (.ref (n0 + 1)), .val (.int (f3 aa nn ff ll)), .unset] [(.int (0 : Int32))])) (fun _ k => XS.iconst A18.here hx rfl (own_db hby at_120) k) ?_
            refine own_by (u' := T17.setTop (mkF m 123 #[.val (.int x1), .val (.int x2), .val (.int x3), .val (.int x4), .val (.int nn), .val (.int aa), .val (.int ll), .val (.int ff), .val (.ref (n0 + 0)), .val (.ref (n0 + 1)), .val (.int (f3 aa nn ff ll)), .val (.int (0 : Int32))] [])) (fun _ k => XS.istore A18.here hx rfl (own_db hby at_121) rfl (l' := #[.val (.int x1), .val (.int x2), .val (.int x3), .val (.int x4), .val (.int nn), .val (.int aa), .val (.int ll), .val (.int ff), .val (.ref (n0 + 0)), .val (.ref (n0 + 1)), .val (.int (f3 aa nn ff ll)), .val (.int (0 : Int32))]) rfl k) ?_
            refine own_by (u' := T17.setTop (mkF m 125 #[.val (.int x1), .val (.int x2), .val (.int x3), .val (.int x4), .val (.int nn), .val (.int aa), .val (.int ll), .val (.int ff), .val (.ref (n0 + 0)), .val (.ref (n0 + 1)), .val (.int (f3 aa nn ff ll)), .val (.int (0 : Int32))] [(.int (f3 aa nn ff ll))])) (fun _ k => XS.iload A18.here hx rfl (own_db hby at_123) rfl k) ?_
            refine own_by (u' := T17.setTop (mkF m 127 #[.val (.int x1), .val (.int x2), .val (.int x3), .val (.int x4), .val (.int nn), .val (.int aa), .val (.int ll), .val (.int ff), .val (.ref (n0 + 0)), .val (.ref (n0 + 1)), .val (.int (f3 aa nn ff ll)), .val (.int (0 : Int32))] [(.int (0 : Int32)), (.int (f3 aa nn ff ll))])) (fun _ k => XS.iload A18.here hx rfl (own_db hby at_125) rfl k) ?_
            refine own_by (u' := T17.setTop (mkF m 130 #[.val (.int x1), .val (.int x2), .val (.int x3), .val (.int x4), .val (.int nn), .val (.int aa), .val (.int ll), .val (.int ff), .val (.ref (n0 + 0)), .val (.ref (n0 + 1)), .val (.int (f3 aa nn ff ll)), .val (.int (0 : Int32))] [])) (fun _ k => XS.icmpNo A18.here hx rfl (own_db hby at_127) rfl (teq ((own_ov _ _ _ _ hn ha hl hf).trans (by simp [hc20, hc21, hc22, hc23]))).2 k) ?_
            refine own_by (u' := T17.setTop (mkF m 131 #[.val (.int x1), .val (.int x2), .val (.int x3), .val (.int x4), .val (.int nn), .val (.int aa), .val (.int ll), .val (.int ff), .val (.ref (n0 + 0)), .val (.ref (n0 + 1)), .val (.int (f3 aa nn ff ll)), .val (.int (0 : Int32))] [(.int (1 : Int32))])) (fun _ k => XS.iconst A18.here hx rfl (own_db hby at_130) k) ?_
            refine own_by (u' := T17.setTop (mkF m 135 #[.val (.int x1), .val (.int x2), .val (.int x3), .val (.int x4), .val (.int nn), .val (.int aa), .val (.int ll), .val (.int ff), .val (.ref (n0 + 0)), .val (.ref (n0 + 1)), .val (.int (f3 aa nn ff ll)), .val (.int (0 : Int32))] [(.int (1 : Int32))])) (fun _ k => XS.goto A18.here hx rfl (pc0 := 131) (pc' := 135) rfl (own_db hby at_131) (by decide) (by decide) k) ?_
            exact own_retN A18 hx hlk (t := .boolean) (by simp) hret (own_db hby at_135) (by decide) (by decide) ⟨rfl, trivial⟩
        · refine own_by (u' := T17.setTop (mkF m 120 #[.val (.int x1), .val (.int x2), .val (.int x3), .val (.int x4), .val (.int nn), .val (.int aa), .val (.int ll), .val (.int ff), .val (.ref (n0 + 0)), .val (.ref (n0 + 1)), .val (.int (f3 aa nn ff ll)), .unset] [])) (fun _ k => XS.ifYes A18.here hx rfl (pc0 := 99) (pc' := 120) rfl (own_db hby at_99) rfl ((if0 _ _).trans (flt (own_lc_nlt hc22)).2.1) (by decide) (by decide) k) ?_
          refine own_by (u' := T17.setTop (mkF m 121 #[.val (.int x1), .val (.int x2), .val (.int x3), .val (.int x4), .val (.int nn), .val (.int aa), .val (.int ll), .val (.int ff), .val (.ref (n0 + 0)), .val (.ref (n0 + 1)), .val (.int (f3 aa nn ff ll)), .unset] [(.int (0 : Int32))])) (fun _ k => XS.iconst A18.here hx rfl (own_db hby at_120) k) ?_
          refine own_by (u' := T17.setTop (mkF m 123 #[.val (.int x1), .val (.int x2), .val (.int x3), .val (.int x4), .val (.int nn), .val (.int aa), .val (.int ll), .val (.int ff), .val (.ref (n0 + 0)), .val (.ref (n0 + 1)), .val (.int (f3 aa nn ff ll)), .val (.int (0 : Int32))] [])) (fun _ k => XS.istore A18.here hx rfl (own_db hby at_121) rfl (l' := #[.val (.int x1), .val (.int x2), .val (.int x3), .val (.int x4), .val (.int nn), .val (.int aa), .val (.int ll), .val (.int ff), .val (.ref (n0 + 0)), .val (.ref (n0 + 1)), .val (.int (f3 aa nn ff ll)), .val (.int (0 : Int32))]) rfl k) ?_
          refine own_by (u' := T17.setTop (mkF m 125 #[.val (.int x1), .val (.int x2), .val (.int x3), .val (.int x4), .val (.int nn), .val (.int aa), .val (.int ll), .val (.int ff), .val (.ref (n0 + 0)), .val (.ref (n0 + 1)), .val (.int (f3 aa nn ff ll)), .val (.int (0 : Int32))] [(.int (f3 aa nn ff ll))])) (fun _ k => XS.iload A18.here hx rfl (own_db hby at_123) rfl k) ?_
          refine own_by (u' := T17.setTop (mkF m 127 #[.val (.int x1), .val (.int x2), .val (.int x3), .val (.int x4), .val (.int nn), .val (.int aa), .val (.int ll), .val (.int ff), .val (.ref (n0 + 0)), .val (.ref (n0 + 1)), .val (.int (f3 aa nn ff ll)), .val (.int (0 : Int32))] [(.int (0 : Int32)), (.int (f3 aa nn ff ll))])) (fun _ k => XS.iload A18.here hx rfl (own_db hby at_125) rfl k) ?_
          refine own_by (u' := T17.setTop (mkF m 130 #[.val (.int x1), .val (.int x2), .val (.int x3), .val (.int x4), .val (.int nn), .val (.int aa), .val (.int ll), .val (.int ff), .val (.ref (n0 + 0)), .val (.ref (n0 + 1)), .val (.int (f3 aa nn ff ll)), .val (.int (0 : Int32))] [])) (fun _ k => XS.icmpNo A18.here hx rfl (own_db hby at_127) rfl (teq ((own_ov _ _ _ _ hn ha hl hf).trans (by simp [hc20, hc21, hc22]))).2 k) ?_
          refine own_by (u' := T17.setTop (mkF m 131 #[.val (.int x1), .val (.int x2), .val (.int x3), .val (.int x4), .val (.int nn), .val (.int aa), .val (.int ll), .val (.int ff), .val (.ref (n0 + 0)), .val (.ref (n0 + 1)), .val (.int (f3 aa nn ff ll)), .val (.int (0 : Int32))] [(.int (1 : Int32))])) (fun _ k => XS.iconst A18.here hx rfl (own_db hby at_130) k) ?_
          refine own_by (u' := T17.setTop (mkF m 135 #[.val (.int x1), .val (.int x2), .val (.int x3), .val (.int x4), .val (.int nn), .val (.int aa), .val (.int ll), .val (.int ff), .val (.ref (n0 + 0)), .val (.ref (n0 + 1)), .val (.int (f3 aa nn ff ll)), .val (.int (0 : Int32))] [(.int (1 : Int32))])) (fun _ k => XS.goto A18.here hx rfl (pc0 := 131) (pc' := 135) rfl (own_db hby at_131) (by decide) (by decide) k) ?_
          exact own_retN A18 hx hlk (t := .boolean) (by simp) hret (own_db hby at_135) (by decide) (by decide) ⟨rfl, trivial⟩
      · refine own_by (u' := T17.setTop (mkF m 120 #[.val (.int x1), .val (.int x2), .val (.int x3), .val (.int x4), .val (.int nn), .val (.int aa), .val (.int ll), .val (.int ff), .val (.ref (n0 + 0)), .val (.ref (n0 + 1)), .val (.int (f3 aa nn ff ll)), .unset] [])) (fun _ k => XS.ifYes A18.here hx rfl (pc0 := 85) (pc' := 120) rfl (own_db hby at_85) rfl ((if0 _ _).trans (flt hc21).2.2.2) (by decide) (by decide) k) ?_
        refine own_by (u' := T17.setTop (mkF m 121 #[.val (.int x1), .val (.int x2), .val (.int x3), .val (.int x4), .val (.int nn), .val (.int aa), .val (.int ll), .val (.int ff), .val (.ref (n0 + 0)), .val (.ref (n0 + 1)), .val (.int (f3 aa nn ff ll)), .unset] [(.int (0 : Int32))])) (fun _ k => XS.iconst A18.here hx rfl (own_db hby at_120) k) ?_
        refine own_by (u' := T17.setTop (mkF m 123 #[.val (.int x1), .val (.int x2), .val (.int x3), .val (.int x4), .val (.int nn), .val (.int aa), .val (.int ll), .val (.int ff), .val (.ref (n0 + 0)), .val (.ref (n0 + 1)), .val (.int (f3 aa nn ff ll)), .val (.int (0 : Int32))] [])) (fun _ k => XS.istore A18.here hx rfl (own_db hby at_121) rfl (l' := #[.val (.int x1), .val (.int x2), .val (.int x3), .val (.int x4), .val (.int nn), .val (.int aa), .val (.int ll), .val (.int ff), .val (.ref (n0 + 0)), .val (.ref (n0 + 1)), .val (.int (f3 aa nn ff ll)), .val (.int (0 : Int32))]) rfl k) ?_
        refine own_by (u' := T17.setTop (mkF m 125 #[.val (.int x1), .val (.int x2), .val (.int x3), .val (.int x4), .val (.int nn), .val (.int aa), .val (.int ll), .val (.int ff), .val (.ref (n0 + 0)), .val (.ref (n0 + 1)), .val (.int (f3 aa nn ff ll)), .val (.int (0 : Int32))] [(.int (f3 aa nn ff ll))])) (fun _ k => XS.iload A18.here hx rfl (own_db hby at_123) rfl k) ?_
        refine own_by (u' := T17.setTop (mkF m 127 #[.val (.int x1), .val (.int x2), .val (.int x3), .val (.int x4), .val (.int nn), .val (.int aa), .val (.int ll), .val (.int ff), .val (.ref (n0 + 0)), .val (.ref (n0 + 1)), .val (.int (f3 aa nn ff ll)), .val (.int (0 : Int32))] [(.int (0 : Int32)), (.int (f3 aa nn ff ll))])) (fun _ k => XS.iload A18.here hx rfl (own_db hby at_125) rfl k) ?_
        refine own_by (u' := T17.setTop (mkF m 130 #[.val (.int x1), .val (.int x2), .val (.int x3), .val (.int x4), .val (.int nn), .val (.int aa), .val (.int ll), .val (.int ff), .val (.ref (n0 + 0)), .val (.ref (n0 + 1)), .val (.int (f3 aa nn ff ll)), .val (.int (0 : Int32))] [])) (fun _ k => XS.icmpNo A18.here hx rfl (own_db hby at_127) rfl (teq ((own_ov _ _ _ _ hn ha hl hf).trans (by simp [hc20, hc21]))).2 k) ?_
        refine own_by (u' := T17.setTop (mkF m 131 #[.val (.int x1), .val (.int x2), .val (.int x3), .val (.int x4), .val (.int nn), .val (.int aa), .val (.int ll), .val (.int ff), .val (.ref (n0 + 0)), .val (.ref (n0 + 1)), .val (.int (f3 aa nn ff ll)), .val (.int (0 : Int32))] [(.int (1 : Int32))])) (fun _ k => XS.iconst A18.here hx rfl (own_db hby at_130) k) ?_
        refine own_by (u' := T17.setTop (mkF m 135 #[.val (.int x1), .val (.int x2), .val (.int x3), .val (.int x4), .val (.int nn), .val (.int aa), .val (.int ll), .val (.int ff), .val (.ref (n0 + 0)), .val (.ref (n0 + 1)), .val (.int (f3 aa nn ff ll)), .val (.int (0 : Int32))] [(.int (1 : Int32))])) (fun _ k => XS.goto A18.here hx rfl (pc0 := 131) (pc' := 135) rfl (own_db hby at_131) (by decide) (by decide) k) ?_
        exact own_retN A18 hx hlk (t := .boolean) (by simp) hret (own_db hby at_135) (by decide) (by decide) ⟨rfl, trivial⟩
    · refine own_by (u' := T17.setTop (mkF m 120 #[.val (.int x1), .val (.int x2), .val (.int x3), .val (.int x4), .val (.int nn), .val (.int aa), .val (.int ll), .val (.int ff), .val (.ref (n0 + 0)), .val (.ref (n0 + 1)), .val (.int (f3 aa nn ff ll)), .unset] [])) (fun _ k => XS.ifYes A18.here hx rfl (pc0 := 80) (pc' := 120) rfl (own_db hby at_80) rfl ((if0 _ _).trans (flt hc20).2.2.2) (by decide) (by decide) k) ?_
      refine own_by (u' := T17.setTop (mkF m 121 #[.val (.int x1), .val (.int x2), .val (.int x3), .val (.int x4), .val (.int nn), .val (.int aa), .val (.int ll), .val (.int ff), .val (.ref (n0 + 0)), .val (.ref (n0 + 1)), .val (.int (f3 aa nn ff ll)), .unset] [(.int (0 : Int32))])) (fun _ k => XS.iconst A18.here hx rfl (own_db hby at_120) k) ?_
      refine own_by (u' := T17.setTop (mkF m 123 #[.val (.int x1), .val (.int x2), .val (.int x3), .val (.int x4), .val (.int nn), .val (.int aa), .val (.int ll), .val (.int ff), .val (.ref (n0 + 0)), .val (.ref (n0 + 1)), .val (.int (f3 aa nn ff ll)), .val (.int (0 : Int32))] [])) (fun _ k => XS.istore A18.here hx rfl (own_db hby at_121) rfl (l' := #[.val (.int x1), .val (.int x2), .val (.int x3), .val (.int x4), .val (.int nn), .val (.int aa), .val (.int ll), .val (.int ff), .val (.ref (n0 + 0)), .val (.ref (n0 + 1)), .val (.int (f3 aa nn ff ll)), .val (.int (0 : Int32))]) rfl k) ?_
      refine own_by (u' := T17.setTop (mkF m 125 #[.val (.int x1), .val (.int x2), .val (.int x3), .val (.int x4), .val (.int nn), .val (.int aa), .val (.int ll), .val (.int ff), .val (.ref (n0 + 0)), .val (.ref (n0 + 1)), .val (.int (f3 aa nn ff ll)), .val (.int (0 : Int32))] [(.int (f3 aa nn ff ll))])) (fun _ k => XS.iload A18.here hx rfl (own_db hby at_123) rfl k) ?_
      refine own_by (u' := T17.setTop (mkF m 127 #[.val (.int x1), .val (.int x2), .val (.int x3), .val (.int x4), .val (.int nn), .val (.int aa), .val (.int ll), .val (.int ff), .val (.ref (n0 + 0)), .val (.ref (n0 + 1)), .val (.int (f3 aa nn ff ll)), .val (.int (0 : Int32))] [(.int (0 : Int32)), (.int (f3 aa nn ff ll))])) (fun _ k => XS.iload A18.here hx rfl (own_db hby at_125) rfl k) ?_
      refine own_by (u' := T17.setTop (mkF m 130 #[.val (.int x1), .val (.int x2), .val (.int x3), .val (.int x4), .val (.int nn), .val (.int aa), .val (.int ll), .val (.int ff), .val (.ref (n0 + 0)), .val (.ref (n0 + 1)), .val (.int (f3 aa nn ff ll)), .val (.int (0 : Int32))] [])) (fun _ k => XS.icmpNo A18.here hx rfl (own_db hby at_127) rfl (teq ((own_ov _ _ _ _ hn ha hl hf).trans (by simp [hc20]))).2 k) ?_
      refine own_by (u' := T17.setTop (mkF m 131 #[.val (.int x1), .val (.int x2), .val (.int x3), .val (.int x4), .val (.int nn), .val (.int aa), .val (.int ll), .val (.int ff), .val (.ref (n0 + 0)), .val (.ref (n0 + 1)), .val (.int (f3 aa nn ff ll)), .val (.int (0 : Int32))] [(.int (1 : Int32))])) (fun _ k => XS.iconst A18.here hx rfl (own_db hby at_130) k) ?_
      refine own_by (u' := T17.setTop (mkF m 135 #[.val (.int x1), .val (.int x2), .val (.int x3), .val (.int x4), .val (.int nn), .val (.int aa), .val (.int ll), .val (.int ff), .val (.ref (n0 + 0)), .val (.ref (n0 + 1)), .val (.int (f3 aa nn ff ll)), .val (.int (0 : Int32))] [(.int (1 : Int32))])) (fun _ k => XS.goto A18.here hx rfl (pc0 := 131) (pc' := 135) rfl (own_db hby at_131) (by decide) (by decide) k) ?_
      exact own_retN A18 hx hlk (t := .boolean) (by simp) hret (own_db hby at_135) (by decide) (by decide) ⟨rfl, trivial⟩
  exact J1 _ (x2 &&& (15 : Int32)) ((((x1 &&& (2147483647 : Int32)).toInt64) % (((2147483647 : Int64) - ((x2 &&& (15 : Int32)).toInt64)) + (1 : Int64))).toInt32) (x4 &&& (2147483647 : Int32)) ((((x3 &&& (2147483647 : Int32)).toInt64) % (((2147483647 : Int64) - ((x4 &&& (2147483647 : Int32)).toInt64)) + (1 : Int64))).toInt32) (A0) (own_n15 _) (own_mod _ _ (own_n15 _).1) (own_pos _) (own_mod _ _ (own_pos _))
set_option maxRecDepth 65536 in
set_option maxHeartbeats 40000000 in
theorem comes_1 {Post : Tables → Env → Array Value → State → Outcome → State → Prop} (hpost : ∀ tb e args s v u, (limb_1_1.after args s (.returned v) u = true ∧ limb_1_2.after args s (.returned v) u = true ∧ True) → FrameEnd s (.returned v) u (Jvm.fieldLocs frame_1_writes args s ++ Jvm.arrayLocs frame_1_arrays args s ++ Jvm.staticLocs frame_1_statics s) 16 128 → Post tb e args s (.returned v) u) :
    ArmFor flags0 classFile x code maxLocals ret World_1 tables_1 room_1 Calls_1 rest_1 Pre_1 Post := by
  intro l hfl _ _ p e ha hc hk s m args below hf hA hF happ hP
  obtain ⟨hcalls, hrest, hpre⟩ := hP
  obtain ⟨-, -, -, hnamed, -, -, -, hat⟩ := (Spec.applies_iff hf).mp happ
  obtain ⟨hg, hn⟩ := and_e (Cond.before_iff.mp (show (Jvm.Cond.and given_1 narrow_1).before args s = true from hpre))
  obtain ⟨h1, k0⟩ := and_e hg
  obtain ⟨j0, k1⟩ := and_e k0
  obtain ⟨j1, k2⟩ := and_e k1
  obtain ⟨j2, k3⟩ := and_e k2
  obtain ⟨w0, w1, w2, w3, rfl⟩ : ∃ w0 w1 w2 w3 : Value, args = #[w0, w1, w2, w3] := by
    have hs : args.size = 4 := by simpa [Cond.value, given_1] using h1
    obtain ⟨L⟩ := args
    match L, hs with
    | [w0, w1, w2, w3], _ => exact ⟨w0, w1, w2, w3, rfl⟩
  have hw := fun d (hd : d ∈ tables_1) => atoms_spec (ws := Jvm.Cond.code x code maxLocals ret :: tables_1) hat d (List.mem_cons_of_mem _ hd)
  obtain ⟨i0, ei0⟩ := is_v j0
  obtain rfl : w0 = (.int i0) := Option.some.inj ei0
  obtain ⟨i1, ei1⟩ := is_v j1
  obtain rfl : w1 = (.int i1) := Option.some.inj ei1
  obtain ⟨i2, ei2⟩ := is_v j2
  obtain rfl : w2 = (.int i2) := Option.some.inj ei2
  obtain ⟨i3, ei3⟩ := is_v k3
  obtain rfl : w3 = (.int i3) := Option.some.inj ei3
  obtain ⟨n, o, h1, h2, h3, v, L, rfl, ⟨N, its', ⟨rfl, -⟩, -⟩, hq⟩ := g0 l s _ hw s.heap.size i0 i1 i2 i3 s.heap tables_1 ⟨rfl, fun i P q => nomatch q⟩ p e ha hc hk s m _ below hf ((Spec.applies_iff_loose hf).mp happ).1 ⟨rfl, State.Warmed39.refl s, rfl⟩ trivial
  refine ⟨n, _, h1, h2, h3, hpost _ _ _ _ _ _ ⟨Cond.after_iff.mpr rfl, Cond.after_iff.mpr (eq_i res_at (Term.int_eval (1)) rfl), trivial⟩ ⟨hq.1, hq.2.1, (hq.2.2.sift fun y hy => Or.inr (N y hy)).mono (by decide) (by decide)⟩⟩
theorem main_1_1 : Claimed_1_1 := comes_1 fun _ _ _ _ _ _ h hF => ⟨h.1, hF⟩
theorem main_1_2 : Claimed_1_2 := comes_1 fun _ _ _ _ _ _ h hF => ⟨h.2.1, hF⟩
end Jvm.Pilot.@@N@@
namespace Jvm.Pilot.@@N@@
open Jvm Jvm.ClassFile Sem Op Lib Jvm.Free Jvm.Stand Jvm.Pilot.@@N@@.Jvm.D
/-! MADE BY PROGRAM (witnessworld.py) out of the Statement's table words and the real class files: 11 classes; the members and pool entries that the words name. The judged class is class 1, her method 1. -/
namespace start1
open Jvm.ClassFile
def u (s : String) : CpInfo := .utf8 (stringToUtf16 s)
/-- a pool by its gaps: so many unusable entries, then the entry; so many at the end -/
def gap : Nat → List CpInfo → List CpInfo
  | 0, r => r
  | n + 1, r => .unusable :: gap n r
def poolList (es : List (Nat × CpInfo)) (last : Nat) : List CpInfo := es.foldr (fun e r => gap e.1 (e.2 :: r)) (gap last [])
def pool (es : List (Nat × CpInfo)) (last : Nat) : Array CpInfo := ⟨poolList es last⟩
def fileOf (pool : Array CpInfo) (this : Nat) (attrs : Array Attribute := #[]) (ms : Array MethodInfo := #[]) (fl : Nat := 33) (sup : Nat := 0) (ifs : Array Nat := #[]) (fds : Array FieldInfo := #[]) : ClassFile where
  minorVersion := 0
  majorVersion := 65
  constantPool := pool
  accessFlags := fl
  thisClass := this
  superClass := sup
  interfaces := ifs
  fields := fds
  methods := ms
  attributes := attrs
def plain (name : String) (sup : Option ClassId) : Class where
  name := name
  kind := .ordinary
  loader := none
  accessFlags := 33
  super := sup
  interfaces := #[]
  cf := none
  fields := #[]
  methods := #[]
  instanceTypes := #[]
  staticTypes := #[]
  resolved := #[]
  callSites := []
  init := .initialized
  statics := none
  mirror := none

def pool0 : Array CpInfo := pool [(5, u "<init>"), (0, u "()V"), (1, .class_ 10), (1, u "java/lang/Object")] 113

def k0c0 : Code := { maxStack := 0, maxLocals := 1, code := object_method_1_code, exceptionTable := #[], attributes := #[] }
def k0m0 : Method := { name := "<init>", desc := "()V", sig := { parameters := [], returnType := none }, accessFlags := 1, code := some k0c0 }
/-- java/lang/Object -/
def k0 : Class := { plain "java/lang/Object" none with
  accessFlags := 33
  interfaces := #[]
  cf := some (fileOf pool0 8 #[] #[{ accessFlags := 1, nameIndex := 5, descriptorIndex := 6, attributes := #[] }] 33 0 #[] #[])
  fields := #[]
  methods := #[k0m0]
  instanceTypes := #[]
  staticTypes := #[]
  resolved := Array.replicate 124 none
  statics := none }

def pool1 : Array CpInfo := pool [(2, .class_ 4), (1, u "java/lang/Object"), (0, u "<init>"), (0, u "()V"), (0, .integer 2147483647), (2, .long 2147483647), (1, .class_ 13), (0, u "com/example/holdfast/holdfast/store/CardMemory$Write"), (0, .methodref 12 15), (0, .nameAndType 5 16), (0, u "(I[B)V"), (0, .methodref 12 18), (0, .nameAndType 19 20), (0, u "overlaps"), (0, u "(II)Z"), (0, .class_ 22), (0, u "com/example/holdfast/holdfast/store/WriteOverlapsPinLaw"), (2, u "law"), (0, u "(IIII)Z")] 9

def k1m0 : Method := { name := "<init>", desc := "()V", sig := { parameters := [], returnType := none }, accessFlags := 2, code := none }
def k1c1 : Code := { maxStack := 6, maxLocals := 12, code := code, exceptionTable := #[], attributes := #[] }
def k1m1 : Method := { name := "law", desc := "(IIII)Z", sig := { parameters := [.int, .int, .int, .int], returnType := some .boolean }, accessFlags := 9, code := some k1c1 }
/-- com/example/holdfast/holdfast/store/WriteOverlapsPinLaw -/
def k1 : Class := { plain "com/example/holdfast/holdfast/store/WriteOverlapsPinLaw" (some 0) with
  accessFlags := 49
  interfaces := #[]
  cf := some (fileOf pool1 21 #[] #[{ accessFlags := 2, nameIndex := 5, descriptorIndex := 6, attributes := #[] }, { accessFlags := 9, nameIndex := 25, descriptorIndex := 26, attributes := #[] }] 49 2 #[] #[])
  fields := #[]
  methods := #[k1m0, k1m1]
  instanceTypes := #[]
  staticTypes := #[]
  resolved := Array.replicate 36 none
  statics := none }

def pool2 : Array CpInfo := pool [(1, .methodref 2 3), (0, .class_ 4), (0, .nameAndType 5 6), (0, u "java/lang/Object"), (0, u "<init>"), (0, u "()V"), (0, .class_ 8), (0, u "java/lang/Record")] 13

def k2c0 : Code := { maxStack := 1, maxLocals := 1, code := jdk_30_method_1_code, exceptionTable := #[], attributes := #[] }
def k2m0 : Method := { name := "<init>", desc := "()V", sig := { parameters := [], returnType := none }, accessFlags := 4, code := some k2c0 }
/-- java/lang/Record -/
def k2 : Class := { plain "java/lang/Record" (some 0) with
  accessFlags := 1057
  interfaces := #[]
  cf := some (fileOf pool2 7 #[] #[{ accessFlags := 4, nameIndex := 5, descriptorIndex := 6, attributes := #[] }] 1057 2 #[] #[])
  fields := #[]
  methods := #[k2m0]
  instanceTypes := #[]
  staticTypes := #[]
  resolved := Array.replicate 22 none
  statics := none }

def pool3 : Array CpInfo := pool [(1, .class_ 2), (0, u "com/example/holdfast/holdfast/store/CardMemory"), (0, .methodref 4 5), (0, .class_ 6), (0, .nameAndType 7 8), (0, u "java/lang/Record"), (0, u "<init>"), (0, u "()V"), (0, .fieldref 10 11), (0, .class_ 12), (0, .nameAndType 13 14), (0, u "com/example/holdfast/holdfast/store/CardMemory$Write"), (0, u "address"), (0, u "I"), (0, .fieldref 10 16), (0, .nameAndType 17 18), (0, u "bytes"), (0, u "[B"), (0, .methodref 20 21), (0, .class_ 22), (0, .nameAndType 23 24), (0, u "java/lang/Math"), (0, u "max"), (0, u "(II)I"), (0, .methodref 20 26), (0, .nameAndType 27 24), (0, u "min"), (12, u "(I[B)V"), (5, u "overlaps"), (0, u "(II)Z")] 27

def k3c0 : Code := { maxStack := 2, maxLocals := 3, code := prog_11_method_1_code, exceptionTable := #[], attributes := #[] }
def k3m0 : Method := { name := "<init>", desc := "(I[B)V", sig := { parameters := [.int, (.array .byte)], returnType := none }, accessFlags := 1, code := some k3c0 }
def k3c1 : Code := { maxStack := 4, maxLocals := 3, code := prog_11_method_3_code, exceptionTable := #[], attributes := #[] }
def k3m1 : Method := { name := "overlaps", desc := "(II)Z", sig := { parameters := [.int, .int], returnType := some .boolean }, accessFlags := 0, code := some k3c1 }
/-- com/example/holdfast/holdfast/store/CardMemory$Write -/
def k3 : Class := { plain "com/example/holdfast/holdfast/store/CardMemory$Write" (some 2) with
  accessFlags := 49
  interfaces := #[]
  cf := some (fileOf pool3 10 #[.nestHost 1] #[{ accessFlags := 1, nameIndex := 7, descriptorIndex := 40, attributes := #[] }, { accessFlags := 0, nameIndex := 46, descriptorIndex := 47, attributes := #[] }] 49 4 #[] #[{ accessFlags := 18, nameIndex := 13, descriptorIndex := 14, attributes := #[] }, { accessFlags := 18, nameIndex := 17, descriptorIndex := 18, attributes := #[] }])
  fields := #[{ name := "address", type := .int, accessFlags := 18, slot := 0, constantValue := 0 }, { name := "bytes", type := (.array .byte), accessFlags := 18, slot := 1, constantValue := 0 }]
  methods := #[k3m0, k3m1]
  instanceTypes := #[.int, (.array .byte)]
  staticTypes := #[]
  resolved := Array.replicate 75 none
  statics := none }

def pool4 : Array CpInfo := pool [(1, .class_ 2), (0, u "java/lang/Math"), (1, .class_ 6), (1, u "java/lang/Object"), (0, u "<init>"), (0, u "()V"), (89, .class_ 100), (1, u "java/lang/Math$RandomNumberGeneratorHolder"), (71, u "negativeZeroFloatBits"), (0, u "J"), (2, u "negativeZeroDoubleBits"), (21, u "max"), (2, u "min"), (43, u "$assertionsDisabled"), (0, u "Z"), (88, u "(II)I"), (2, u "twoToTheDoubleScaleDown"), (0, u "D"), (4, u "twoToTheDoubleScaleUp"), (9, u "E"), (3, u "PI"), (2, u "TAU"), (2, u "DEGREES_TO_RADIANS"), (0, u "RADIANS_TO_DEGREES")] 94

def k4m0 : Method := { name := "<init>", desc := "()V", sig := { parameters := [], returnType := none }, accessFlags := 2, code := none }
def k4c1 : Code := { maxStack := 2, maxLocals := 2, code := jdk_29_method_65_code, exceptionTable := #[], attributes := #[] }
def k4m1 : Method := { name := "max", desc := "(II)I", sig := { parameters := [.int, .int], returnType := some .int }, accessFlags := 9, code := some k4c1 }
def k4c2 : Code := { maxStack := 2, maxLocals := 2, code := jdk_29_method_69_code, exceptionTable := #[], attributes := #[] }
def k4m2 : Method := { name := "min", desc := "(II)I", sig := { parameters := [.int, .int], returnType := some .int }, accessFlags := 9, code := some k4c2 }
/-- java/lang/Math -/
def k4 : Class := { plain "java/lang/Math" (some 0) with
  accessFlags := 49
  interfaces := #[]
  cf := some (fileOf pool4 1 #[.nestMembers #[98]] #[{ accessFlags := 2, nameIndex := 7, descriptorIndex := 8, attributes := #[] }, { accessFlags := 9, nameIndex := 198, descriptorIndex := 335, attributes := #[] }, { accessFlags := 9, nameIndex := 201, descriptorIndex := 335, attributes := #[] }] 49 4 #[] #[{ accessFlags := 25, nameIndex := 354, descriptorIndex := 339, attributes := #[] }, { accessFlags := 25, nameIndex := 358, descriptorIndex := 339, attributes := #[] }, { accessFlags := 25, nameIndex := 361, descriptorIndex := 339, attributes := #[] }, { accessFlags := 26, nameIndex := 364, descriptorIndex := 339, attributes := #[] }, { accessFlags := 26, nameIndex := 365, descriptorIndex := 339, attributes := #[] }, { accessFlags := 26, nameIndex := 172, descriptorIndex := 173, attributes := #[] }, { accessFlags := 26, nameIndex := 176, descriptorIndex := 173, attributes := #[] }, { accessFlags := 8, nameIndex := 344, descriptorIndex := 339, attributes := #[] }, { accessFlags := 8, nameIndex := 338, descriptorIndex := 339, attributes := #[] }, { accessFlags := 4120, nameIndex := 245, descriptorIndex := 246, attributes := #[] }])
  fields := #[{ name := "E", type := .double, accessFlags := 25, slot := 0, constantValue := 0 }, { name := "PI", type := .double, accessFlags := 25, slot := 1, constantValue := 0 }, { name := "TAU", type := .double, accessFlags := 25, slot := 2, constantValue := 0 }, { name := "DEGREES_TO_RADIANS", type := .double, accessFlags := 26, slot := 3, constantValue := 0 }, { name := "RADIANS_TO_DEGREES", type := .double, accessFlags := 26, slot := 4, constantValue := 0 }, { name := "negativeZeroFloatBits", type := .long, accessFlags := 26, slot := 5, constantValue := 0 }, { name := "negativeZeroDoubleBits", type := .long, accessFlags := 26, slot := 6, constantValue := 0 }, { name := "twoToTheDoubleScaleUp", type := .double, accessFlags := 8, slot := 7, constantValue := 0 }, { name := "twoToTheDoubleScaleDown", type := .double, accessFlags := 8, slot := 8, constantValue := 0 }, { name := "$assertionsDisabled", type := .boolean, accessFlags := 4120, slot := 9, constantValue := 0 }]
  methods := #[k4m0, k4m1, k4m2]
  instanceTypes := #[]
  staticTypes := #[.double, .double, .double, .double, .double, .long, .long, .double, .double, .boolean]
  resolved := Array.replicate 460 none
  statics := none }

def pool5 : Array CpInfo := pool [(1, u "java/lang/Cloneable"), (0, .class_ 1), (0, u "java/lang/Object"), (0, .class_ 3)] 3

/-- java/lang/Cloneable -/
def k5 : Class := { plain "java/lang/Cloneable" (some 0) with
  accessFlags := 1537
  interfaces := #[]
  cf := some (fileOf pool5 2 #[] #[] 1537 4 #[] #[])
  fields := #[]
  methods := #[]
  instanceTypes := #[]
  staticTypes := #[]
  resolved := Array.replicate 8 none
  statics := none }

def pool6 : Array CpInfo := pool [(1, u "java/io/Serializable"), (0, .class_ 1), (0, u "java/lang/Object"), (0, .class_ 3)] 3

/-- java/io/Serializable -/
def k6 : Class := { plain "java/io/Serializable" (some 0) with
  accessFlags := 1537
  interfaces := #[]
  cf := some (fileOf pool6 2 #[] #[] 1537 4 #[] #[])
  fields := #[]
  methods := #[]
  instanceTypes := #[]
  staticTypes := #[]
  resolved := Array.replicate 8 none
  statics := none }

/-- the primitive byte -/
def k7 : Class := { plain "byte" none with kind := .primitive 'B', accessFlags := 0x411 }
/-- [B -/
def k8 : Class := { plain "[B" (some 0) with kind := .array 7 .byte, interfaces := #[5, 6], accessFlags := 1041 }

/-- the primitive int -/
def k9 : Class := { plain "int" none with kind := .primitive 'I', accessFlags := 0x411 }
/-- [I -/
def k10 : Class := { plain "[I" (some 0) with kind := .array 9 .int, interfaces := #[5, 6], accessFlags := 1041 }

def heap : Heap := #[]
def classes : Array Class := #[k0, k1, k2, k3, k4, k5, k6, k7, k8, k9, k10]
def interned : List (Array UInt16 × Addr) := []
def slotsUsed : Nat := 0
def theMethod : MethodId := ⟨1, 1⟩
def args0 : Array Value := #[.int 5, .int 6, .int 7, .int 8]
def aboutOver (below : List Frame) : State where
  vm := { classes := classes, interned := interned.toArray }
  heap := heap
  slotsUsed := slotsUsed
  threads := #[{ frames := .invoking theMethod args0 :: below }]
def below0 : List Frame := [.native { method := ⟨0, 0⟩, args := #[] }]
def about1 : State := aboutOver below0
def p0 : Program := .bare "" "" ""
def e0 : Env := launch0.env 0 0 0
theorem w_frames : about1.frames = Frame.invoking theMethod args0 :: below0 := rfl
set_option maxRecDepth 65536 in
theorem w_args : argsFit about1.vm theMethod args0 = true := by decide +kernel
set_option maxRecDepth 65536 in
theorem w_heap : heapFits about1 = true := by decide +kernel
set_option maxRecDepth 65536 in
theorem w_runnable : about1.curStatus? = some .runnable := by decide +kernel
set_option maxRecDepth 65536 in
theorem w_alone : about1.alone = true := by decide +kernel
set_option maxRecDepth 65536 in
theorem w_named : about1.methodNamed? x = some theMethod := by decide +kernel
set_option maxRecDepth 65536 in
theorem w_hears : about1.hears theMethod below0 = true := by decide +kernel
set_option maxRecDepth 65536 in
theorem w_ripe : about1.ripe theMethod args0 below0 = true := by decide +kernel
theorem w_running : about1.status = .running := rfl
set_option maxRecDepth 65536 in
theorem w_room : about1.hasRoom e0.platform room_1 = true :=
  launch0.hasRoom_least _ room_1 (by decide +kernel) (by decide +kernel) (by decide +kernel) (by decide +kernel) (by decide +kernel) (by decide +kernel)
theorem allAtoms_all (ts : List Jvm.Cond) (a : Array Jvm.Value) (st : Jvm.State) : (allAtoms ts).before a st = ts.all (fun c => c.before a st) := by
  induction ts with
  | nil => rfl
  | cons c t ih =>
    show (Jvm.Cond.and c (allAtoms t)).before a st = _
    rw [Jvm.Cond.before_and, ih, List.all_cons]
def words1 : List Jvm.Cond := Jvm.Cond.code x code maxLocals ret :: tables_1
/-- a 'code' word, met by the world's own term for the bytes: nothing is compared byte by byte -/
theorem code_word {y : MethodName} {bytes : ByteArray} {mx : Nat} {rt : Option FieldType} {a : Array Value} {s : State} {m : MethodId} {meth : Method} {c : Code} (h1 : s.methodNamed? y = some m) (h2 : s.vm.method? m = some meth) (h3 : meth.code = some c) (h4 : c.code = bytes)
    (h5 : (c.maxLocals == mx && c.exceptionTable.isEmpty && decide (c.maxStack ≤ mostOperands) && decide (meth.sig.returnType = rt) && !meth.locks && decide (parseMethodDescriptor y.desc = some meth.sig)) = true) : (Jvm.Cond.code y bytes mx rt).before a s = true := by
  simp only [Bool.and_eq_true, beq_iff_eq, Bool.not_eq_true', decide_eq_true_eq] at h5
  obtain ⟨⟨⟨⟨⟨g1, g2⟩, g3⟩, g4⟩, g5⟩, g6⟩ := h5
  simp [Cond.before, Cond.holds, Cond.value, h1, h2, h3, h4, g1, g2, g3, g4, g5, g6]
def isCode : Jvm.Cond → Bool
  | .code _ _ _ _ => true
  | _ => false
theorem all_split {L : List Jvm.Cond} {P : Jvm.Cond → Bool} (h1 : L.all (fun c => isCode c || P c) = true) (h2 : ∀ c ∈ L.filter isCode, P c = true) : L.all P = true := by
  refine List.all_eq_true.mpr fun c hc => ?_
  have h := List.all_eq_true.mp h1 c hc
  rcases Bool.eq_false_or_eq_true (isCode c) with hi | hi
  · exact h2 c (List.mem_filter.mpr ⟨hc, hi⟩)
  · simpa [hi] using h
set_option maxRecDepth 65536 in
theorem w_c0 : (Jvm.Cond.code x code maxLocals ret).before args0 about1 = true := code_word (m := ⟨1, 1⟩) (meth := k1m1) (c := k1c1) (by decide +kernel) rfl rfl rfl (by decide +kernel)
set_option maxRecDepth 65536 in
theorem w_c1 : (Jvm.Cond.code ({ cls := "com/example/holdfast/holdfast/store/CardMemory$Write", name := "<init>", desc := "(I[B)V" } : Jvm.MethodName) prog_11_method_1_code (3 : Nat) (Option.none : Option Jvm.ClassFile.FieldType)).before args0 about1 = true := code_word (m := ⟨3, 0⟩) (meth := k3m0) (c := k3c0) (by decide +kernel) rfl rfl rfl (by decide +kernel)
set_option maxRecDepth 65536 in
theorem w_c2 : (Jvm.Cond.code ({ cls := "java/lang/Record", name := "<init>", desc := "()V" } : Jvm.MethodName) jdk_30_method_1_code (1 : Nat) (Option.none : Option Jvm.ClassFile.FieldType)).before args0 about1 = true := code_word (m := ⟨2, 0⟩) (meth := k2m0) (c := k2c0) (by decide +kernel) rfl rfl rfl (by decide +kernel)
set_option maxRecDepth 65536 in
theorem w_c3 : (Jvm.Cond.code ({ cls := "java/lang/Object", name := "<init>", desc := "()V" } : Jvm.MethodName) object_method_1_code (1 : Nat) (Option.none : Option Jvm.ClassFile.FieldType)).before args0 about1 = true := code_word (m := ⟨0, 0⟩) (meth := k0m0) (c := k0c0) (by decide +kernel) rfl rfl rfl (by decide +kernel)
set_option maxRecDepth 65536 in
theorem w_c4 : (Jvm.Cond.code ({ cls := "com/example/holdfast/holdfast/store/CardMemory$Write", name := "overlaps", desc := "(II)Z" } : Jvm.MethodName) prog_11_method_3_code (3 : Nat) (Option.some Jvm.ClassFile.FieldType.boolean)).before args0 about1 = true := code_word (m := ⟨3, 1⟩) (meth := k3m1) (c := k3c1) (by decide +kernel) rfl rfl rfl (by decide +kernel)
set_option maxRecDepth 65536 in
theorem w_c5 : (Jvm.Cond.code ({ cls := "java/lang/Math", name := "max", desc := "(II)I" } : Jvm.MethodName) jdk_29_method_65_code (2 : Nat) (Option.some Jvm.ClassFile.FieldType.int)).before args0 about1 = true := code_word (m := ⟨4, 1⟩) (meth := k4m1) (c := k4c1) (by decide +kernel) rfl rfl rfl (by decide +kernel)
set_option maxRecDepth 65536 in
theorem w_c6 : (Jvm.Cond.code ({ cls := "java/lang/Math", name := "min", desc := "(II)I" } : Jvm.MethodName) jdk_29_method_69_code (2 : Nat) (Option.some Jvm.ClassFile.FieldType.int)).before args0 about1 = true := code_word (m := ⟨4, 2⟩) (meth := k4m2) (c := k4c2) (by decide +kernel) rfl rfl rfl (by decide +kernel)
def codes1 : List Jvm.Cond := [Jvm.Cond.code x code maxLocals ret, Jvm.Cond.code ({ cls := "com/example/holdfast/holdfast/store/CardMemory$Write", name := "<init>", desc := "(I[B)V" } : Jvm.MethodName) prog_11_method_1_code (3 : Nat) (Option.none : Option Jvm.ClassFile.FieldType), Jvm.Cond.code ({ cls := "java/lang/Record", name := "<init>", desc := "()V" } : Jvm.MethodName) jdk_30_method_1_code (1 : Nat) (Option.none : Option Jvm.ClassFile.FieldType), Jvm.Cond.code ({ cls := "java/lang/Object", name := "<init>", desc := "()V" } : Jvm.MethodName) object_method_1_code (1 : Nat) (Option.none : Option Jvm.ClassFile.FieldType), Jvm.Cond.code ({ cls := "com/example/holdfast/holdfast/store/CardMemory$Write", name := "overlaps", desc := "(II)Z" } : Jvm.MethodName) prog_11_method_3_code (3 : Nat) (Option.some Jvm.ClassFile.FieldType.boolean), Jvm.Cond.code ({ cls := "java/lang/Math", name := "max", desc := "(II)I" } : Jvm.MethodName) jdk_29_method_65_code (2 : Nat) (Option.some Jvm.ClassFile.FieldType.int), Jvm.Cond.code ({ cls := "java/lang/Math", name := "min", desc := "(II)I" } : Jvm.MethodName) jdk_29_method_69_code (2 : Nat) (Option.some Jvm.ClassFile.FieldType.int)]
set_option maxRecDepth 65536 in
theorem codes_eq : words1.filter isCode = codes1 := rfl
theorem w_codes : ∀ c ∈ words1.filter isCode, c.before args0 about1 = true := by
  rw [codes_eq]
  intro c hc
  simp only [codes1, List.mem_cons, List.not_mem_nil, or_false] at hc
  rcases hc with rfl | rfl | rfl | rfl | rfl | rfl | rfl
  · exact w_c0
  · exact w_c1
  · exact w_c2
  · exact w_c3
  · exact w_c4
  · exact w_c5
  · exact w_c6
set_option maxRecDepth 65536 in
theorem w_t1 : (words1.take 24).all (fun c => isCode c || c.before args0 about1) = true := by decide +kernel
set_option maxRecDepth 65536 in
theorem w_t2 : (words1.drop 24).all (fun c => isCode c || c.before args0 about1) = true := by decide +kernel
theorem w_tables : (allAtoms (Jvm.Cond.code x code maxLocals ret :: tables_1)).before args0 about1 = true := by
  rw [allAtoms_all]
  show words1.all (fun c => c.before args0 about1) = true
  refine all_split ?_ w_codes
  rw [← List.take_append_drop 24 words1, List.all_append, w_t1, w_t2]
  rfl
set_option maxRecDepth 65536 in
theorem w_case : (Jvm.Cond.and given_1 narrow_1).before args0 about1 = true := by decide +kernel
theorem w_applies : (headSpec (Jvm.Cond.code x code maxLocals ret :: tables_1) room_1).applies x e0.platform about1 = true :=
  (Spec.applies_iff w_frames).mpr ⟨w_running, w_runnable, w_alone, w_named, w_hears, w_ripe, w_room, w_tables⟩
theorem atStart : AtStart classFile x code maxLocals ret World_1 tables_1 room_1 Calls_1 rest_1 Pre_1 launch0 p0 e0 about1 theMethod args0 below0 :=
  ⟨lists_1, trivial, launch0.admits_env _ _ _, launch0.least_env, fairChoices_fair.cas, fairChoices_fair.clock, w_frames, w_args, w_heap, w_applies, trivial, trivial, w_case⟩
end start1
theorem witness_1 : WitnessClaimed_1 := ⟨start1.p0, start1.e0, start1.about1, start1.theMethod, start1.args0, start1.below0, start1.atStart⟩
end Jvm.Pilot.@@N@@
