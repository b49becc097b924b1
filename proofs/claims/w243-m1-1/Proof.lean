import JvmDerived
import JvmDerived.Pilot.@@N@@Statement
import JvmDerived.Pilot.@@N@@Code
set_option linter.unusedVariables false
set_option linter.unusedSimpArgs false
namespace Jvm.Pilot.@@N@@
open Jvm Jvm.ClassFile Sem Op Lib Jvm.Free Jvm.Stand Jvm.LawKit Jvm.RoadKit Bundle Jvm.Pilot.@@N@@.Jvm.D
section Own
variable {p : Program} {l : Launch} {e : Env} {R : Room} {s : State} {m : MethodId} {args : Array Value} {below : List Frame} {meth : Method} {c : Code} {T : State} {locs : List Loc} {cells slots n0 : Nat} {Z : State} {a0 : Array Value} {h h' : Heap} {its : List (Cell → Prop)} {Q : Option Value → List (Cell → Prop) → Prop} {pc : Nat} {Ls : Array Slot} {stk rest : List Value} {own : String}
/-- the new part of the heap: the cells from n0 on, one word on each -/
def own_hp (n0 : Nat) (h : Heap) (its : List (Cell → Prop)) : Prop := h.size = n0 + its.length ∧ ∀ (i : Nat) (P : Cell → Prop), its[i]? = some P → ∃ cl : Cell, h[n0 + i]? = some cl ∧ P cl
/-- where the walk stands -/
def own_at (p : Program) (l : Launch) (e : Env) (R : Room) (s : State) (m : MethodId) (args : Array Value) (below : List Frame) (meth : Method) (c : Code) (n0 : Nat) (T : State) (cells slots : Nat) (its : List (Cell → Prop)) : Prop :=
  ∃ locs, Stand p l e R s m args below meth c T locs cells slots ∧ Fr n0 locs ∧ own_hp n0 T.heap its
/-- from u the method comes to its end, and Q holds there -/
def own_go (p : Program) (e : Env) (R : Room) (s : State) (below : List Frame) (n0 : Nat) (Q : Option Value → List (Cell → Prop) → Prop) (u : State) : Prop :=
  ∃ (t : State) (v : Option Value) (L : List Loc) (its : List (Cell → Prop)), Steps p.tables e below u t ∧ t.status = .running ∧ Ended t below (.returned v) ∧ Q v its ∧ Fr n0 L ∧ own_hp n0 t.heap its ∧ s.WarmedH t.vm ∧ s.sameButNew ({ t with vm := s.vm } : State) L R.cells R.slots
theorem own_at.here (A : own_at p l e R s m args below meth c n0 T cells slots its) : At T m c below := by
  obtain ⟨_, X, _⟩ := A; exact X.here
theorem own_at.more (A : own_at p l e R s m args below meth c n0 T cells slots its) {cells' slots' : Nat} (hc : cells ≤ cells') (hs : slots ≤ slots') : own_at p l e R s m args below meth c n0 T cells' slots' its := by
  obtain ⟨L, X, r⟩ := A; exact ⟨L, X.more hc hs, r⟩
theorem own_by {u u' : State} (q : ∀ target, Steps p.tables e below u' target → Steps p.tables e below u target) (k : own_go p e R s below n0 Q u') : own_go p e R s below n0 Q u := by
  obtain ⟨t, v, L, i, h1, r⟩ := k
  exact ⟨t, v, L, i, q t h1, r⟩
theorem own_nil {α : Type} {P : α → Prop} : ∀ x ∈ ([] : List α), P x := fun _ q => nomatch q
theorem own_cons {α : Type} {P : α → Prop} {y : α} {L : List α} (q : P y) (r : ∀ x ∈ L, P x) : ∀ x ∈ y :: L, P x := fun x z => (List.mem_cons.mp z).elim (fun u => u ▸ q) (r x)
theorem own_hp.push (H : own_hp n0 h its) {cl : Cell} {P : Cell → Prop} (hP : P cl) : own_hp n0 (h.push cl) (its ++ [P]) := by
  refine ⟨by rw [Array.size_push, H.1, List.length_append]; rfl, fun i P' hi => ?_⟩
  by_cases q : i < its.length
  · rw [List.getElem?_append_left q] at hi
    obtain ⟨c, h1, h2⟩ := H.2 i P' hi
    refine ⟨c, ?_, h2⟩
    rw [Array.getElem?_push_lt (Array.getElem?_eq_some_iff.mp h1).1]
    exact (Array.getElem?_eq_getElem _).symm.trans h1
  · have q2 : i = its.length := by
      have := (List.getElem?_eq_some_iff.mp hi).1
      simp only [List.length_append, List.length_cons, List.length_nil] at this
      omega
    subst q2
    simp only [List.getElem?_concat_length, Option.some.injEq] at hi
    subst hi
    refine ⟨cl, ?_, hP⟩
    rw [← H.1]; simp
theorem own_hp.wr (H : own_hp n0 h its) {i sl : Nat} {v : Value} {P P' : Cell → Prop} (hi : its[i]? = some P) (W : Wr h h' (n0 + i) sl v) (hP : ∀ cl, h[n0 + i]? = some cl → P cl → P' (cl.setSlot sl v)) : own_hp n0 h' (its.set i P') := by
  obtain ⟨cell, w1, w2, w3, rfl⟩ := W
  refine ⟨by rw [Array.size_setIfInBounds, List.length_set]; exact H.1, fun j P2 hj => ?_⟩
  by_cases q : i = j
  · subst q
    have hl := (List.getElem?_eq_some_iff.mp hi).1
    rw [List.getElem?_set_self hl] at hj
    cases hj
    obtain ⟨cl, g1, g2⟩ := H.2 i P hi
    cases w1.symm.trans g1
    exact ⟨cell.setSlot sl v, by simp [(Array.getElem?_eq_some_iff.mp w1).1], hP _ w1 g2⟩
  · rw [List.getElem?_set_ne q] at hj
    obtain ⟨cl, g1, g2⟩ := H.2 j P2 hj
    exact ⟨cl, by rw [Array.getElem?_setIfInBounds_ne (by omega)]; exact g1, g2⟩
theorem own_geti {i : Nat} {P P' : Cell → Prop} (hi : its[i]? = some P) : (its.set i P')[i]? = some P' := List.getElem?_set_self (List.getElem?_eq_some_iff.mp hi).1
/-- an object of just that class, its fields ns holding vs -/
def own_obj (Z : State) (C : String) (ns : List (String × String)) (vs : List Value) : Cell → Prop := fun cl => ∀ (h : Heap) (a : Addr), h[a]? = some cl → Exa Z h a C ∧ ∀ (i : Nat) (f : String × String) (v : Value), ns[i]? = some f → vs[i]? = some v → Fld Z h a C f.1 f.2 v
/-- an array of ints (shorts, chars, bytes) -/
def own_ia (Z : State) (ty : FieldType) (xs : List Int32) : Cell → Prop := fun cl => xs.length < 2 ^ 31 ∧ cl.slots = (xs.map Value.int).toArray ∧ Z.isArrayOf cl ty ∧ cl.vm ≠ .unknown ∧ (∀ x ∈ xs, fits ty (.int x) = true) ∧ Z.vm.findClass ("[" ++ ty.toString) = some cl.cls
/-- an array of longs -/
def own_la (Z : State) (xs : List Int64) : Cell → Prop := fun cl => xs.length < 2 ^ 31 ∧ cl.slots = (xs.map Value.long).toArray ∧ Z.isArrayOf cl .long ∧ cl.vm ≠ .unknown
/-- the fields' places are unlike -/
def own_apart (Z : State) (C : String) (ns : List (String × String)) : Prop := ∀ (i j : Nat) (f g : String × String), ns[i]? = some f → ns[j]? = some g → i ≠ j → Jvm.RoadKit.slotOf Z C f.1 f.2 ≠ Jvm.RoadKit.slotOf Z C g.1 g.2
theorem own_apart_of {C : String} {ns : List (String × String)} (hL : ∀ f ∈ ns, Laid Z a0 C C f.1 f.2 ∧ ∃ t, parseFieldDescriptor f.2 = some t) (hn : (ns.map (·.1)).Nodup) : own_apart Z C ns := by
  intro i j f g hi hj hij
  obtain ⟨l1, t1, d1⟩ := hL f (List.mem_of_getElem? hi)
  obtain ⟨l2, t2, d2⟩ := hL g (List.mem_of_getElem? hj)
  refine slot_ne l1 l2 (fun q => ?_) d1 d2
  have e1 : (ns.map (·.1))[i]? = some f.1 := by rw [List.getElem?_map, hi]; rfl
  have e2 : (ns.map (·.1))[j]? = some g.1 := by rw [List.getElem?_map, hj]; rfl
  obtain ⟨b1, c1⟩ := List.getElem?_eq_some_iff.mp e1
  obtain ⟨b2, c2⟩ := List.getElem?_eq_some_iff.mp e2
  have pw := List.pairwise_iff_getElem.mp hn
  rcases Nat.lt_or_gt_of_ne hij with z | z
  · exact pw i j b1 b2 z (by rw [c1, c2, q])
  · exact pw j i b2 b1 z (by rw [c1, c2, q])
theorem own_obj.set {C : String} {ns : List (String × String)} {vs : List Value} {j : Nat} {n d : String} {v old : Value} {cl : Cell} (O : own_obj Z C ns vs cl) (ap : own_apart Z C ns) (hj : ns[j]? = some (n, d)) (hv : vs[j]? = some old) (hlt : Jvm.RoadKit.slotOf Z C n d < cl.slots.size) (hst : cl.vm.isStatics = false) : own_obj Z C ns (vs.set j v) (cl.setSlot (Jvm.RoadKit.slotOf Z C n d) v) := by
  intro h2 a2 ha2
  have hb : (#[cl] : Heap)[0]? = some cl := rfl
  have W : Wr (#[cl] : Heap) (#[cl.setSlot (Jvm.RoadKit.slotOf Z C n d) v] : Heap) 0 (Jvm.RoadKit.slotOf Z C n d) v := ⟨cl, hb, hst, hlt, rfl⟩
  obtain ⟨E, F⟩ := O _ _ hb
  have E' : Exa Z (#[cl.setSlot (Jvm.RoadKit.slotOf Z C n d) v] : Heap) 0 C := E.wr W
  refine ⟨?_, fun i f w hi hw => ?_⟩
  · obtain ⟨c1, k, q1, r⟩ := E'
    cases (show (#[cl.setSlot (Jvm.RoadKit.slotOf Z C n d) v] : Heap)[0]? = some _ from rfl).symm.trans q1
    exact ⟨_, k, ha2, r⟩
  · have F' : Fld Z (#[cl.setSlot (Jvm.RoadKit.slotOf Z C n d) v] : Heap) 0 C f.1 f.2 w := by
      by_cases q : j = i
      · subst q
        cases hj.symm.trans hi
        rw [List.getElem?_set_self (List.getElem?_eq_some_iff.mp hv).1] at hw
        cases hw
        exact (F j (n, d) old hj hv).same W
      · rw [List.getElem?_set_ne q] at hw
        exact (F i f w hi hw).other W (Or.inr (ap i j f (n, d) hi hj (Ne.symm q)))
    obtain ⟨c1, cf, k, i1, f1, q1, r⟩ := F'
    cases (show (#[cl.setSlot (Jvm.RoadKit.slotOf Z C n d) v] : Heap)[0]? = some _ from rfl).symm.trans q1
    exact ⟨_, cf, k, i1, f1, ha2, r⟩
theorem own_db {bs : ByteArray} (h1 : c.code = bs) {r : Except DecodeError (Instr × Nat)} (h2 : decode bs pc = r) : decode c.code pc = r := h1 ▸ h2
/-! steps -/
theorem own_new (A : own_at p l e R s m args below meth c n0 T cells slots its) (hx : p.tables.exec = Jvm.exec) (hZ : Z.Warmed39 s.vm) {C : String} {index n : Nat} (hown : s.vm.findClass own = some m.cls) (w : (Cond.classLink own index C).before a0 Z = true) (wi : (Cond.instantiable C n).before a0 Z = true) (wz : (Cond.initialized C).before a0 Z = true)
    {ns : List (String × String)} {vs : List Value} (hns : ∀ f ∈ ns.zip vs, Laid Z a0 C C f.1.1 f.1.2 ∧ ∃ ty, parseFieldDescriptor f.1.2 = some ty ∧ f.2 = defaultValue ty)
    (hd : decode c.code pc = .ok (.new index, 3)) (hc : cells + 1 ≤ R.cells) (hl : slots + n ≤ R.slots)
    (k : ∀ T', own_at p l e R s m args below meth c n0 T' (cells + 1) (slots + n) (its ++ [own_obj Z C ns vs]) → own_go p e R s below n0 Q (T'.setTop (mkF m (pc + 3) Ls (.ref (n0 + its.length) :: stk)))) :
    own_go p e R s below n0 Q (T.setTop (mkF m pc Ls stk)) := by
  obtain ⟨L, X, N, H⟩ := A
  obtain ⟨vm', cC, kC, h1, h2, h3, h4, X', st⟩ := X.newCold hx hown (mv hZ w) (mv hZ wi) (mv hZ wz) (g := mkF m pc Ls stk) rfl hd hc hl
  rw [H.1] at st
  rw [hZ.alike.findClass] at h1
  obtain ⟨kZ, z1, -⟩ := Vm.findClass_spec h1
  obtain ⟨k', z2, z3⟩ := hZ.alike.2.2 _ _ z1
  cases h2.symm.trans z2
  have ei : kC.instanceTypes = kZ.instanceTypes := by rw [z3]
  refine own_by st (k _ ⟨L, X', N, H.push fun h2 a2 ha2 => ⟨⟨_, kZ, ha2, h1, z1, rfl, fun _ => by simp [ei]⟩, fun i f v hi hv => ?_⟩⟩)
  have hz : (ns.zip vs)[i]? = some (f, v) := List.getElem?_zip_eq_some.mpr ⟨hi, hv⟩
  obtain ⟨La, ty, ht, hdv⟩ := hns _ (List.mem_of_getElem? hz)
  obtain ⟨c1, k1, cf, kf, i1, f1, a1, a2', a3, a4, a5, a6, -⟩ := La.spec
  cases h1.symm.trans a1
  cases z1.symm.trans a2'
  dsimp only at hdv ht a3
  subst hdv
  exact ⟨_, cf, kf, i1, f1, ha2, a3, a4, by simp, rfl, a5, by simp [ei, a6, (State.fieldFound?_type a3 ht).2]⟩
theorem own_fit0 {ty : FieldType} (h0 : defaultValue ty = .int 0) : fits ty (.int 0) = true := by
  cases ty <;> first | rfl | (simp [defaultValue] at h0)
theorem own_newP (A : own_at p l e R s m args below meth c n0 T cells slots its) (hx : p.tables.exec = Jvm.exec) (hZ : Z.Warmed39 s.vm) {aty : ArrayType} (w : (Cond.arrayClass (newarray.typeOf aty)).before a0 Z = true)
    (hd : decode c.code pc = .ok (.newarray aty, 2)) {n : Int32} (q : Nat) (hn : ¬ n < 0 ∧ n.toNatClampNeg = q) {cap : Nat} (hcap : q ≤ cap) (hb : cap * 8 ≤ 536870912) (h0 : defaultValue (newarray.typeOf aty) = .int 0) (hc : cells + 1 ≤ R.cells) (hl : slots + cap ≤ R.slots)
    (k : ∀ T', own_at p l e R s m args below meth c n0 T' (cells + 1) (slots + cap) (its ++ [own_ia Z (newarray.typeOf aty) (List.replicate q 0)]) → own_go p e R s below n0 Q (T'.setTop (mkF m (pc + 2) Ls (.ref (n0 + its.length) :: stk)))) :
    own_go p e R s below n0 Q (T.setTop (mkF m pc Ls (.int n :: stk))) := by
  obtain ⟨L, X, N, H⟩ := A
  obtain ⟨hn, rfl⟩ := hn
  have hcb : componentBytes (newarray.typeOf aty) ≤ 8 := by cases aty <;> decide
  obtain ⟨cA, kA, comp, h1, h2, h3, X', st⟩ := X.newarrayPrim hx (mvA hZ w) (g := mkF m pc Ls (.int n :: stk)) rfl hd rfl hn (Nat.le_trans (Nat.mul_le_mul hcap hcb) hb) hc (by omega)
  rw [H.1] at st
  rw [hZ.alike.findClass] at h1
  obtain ⟨kZ, z1, -⟩ := Vm.findClass_spec h1
  obtain ⟨k', z2, z3⟩ := hZ.alike.2.2 _ _ z1
  cases h2.symm.trans z2
  refine own_by st (k _ ⟨L, X'.more (Nat.le_refl _) (by omega), N, H.push ⟨by rw [List.length_replicate]; exact n.toNatClampNeg_lt, by rw [h0]; simp [List.map_replicate], ⟨by simp, kZ, z1, comp, by rw [← h3, z3]⟩, by simp, fun x hx => ?_, h1⟩⟩)
  rw [List.eq_of_mem_replicate hx]
  exact own_fit0 h0
theorem own_newL (A : own_at p l e R s m args below meth c n0 T cells slots its) (hx : p.tables.exec = Jvm.exec) (hZ : Z.Warmed39 s.vm) (w : (Cond.arrayClass .long).before a0 Z = true)
    (hd : decode c.code pc = .ok (.newarray .long, 2)) {n : Int32} (q : Nat) (hn : ¬ n < 0 ∧ n.toNatClampNeg = q) {cap : Nat} (hcap : q ≤ cap) (hb : cap * 8 ≤ 536870912) (hc : cells + 1 ≤ R.cells) (hl : slots + cap ≤ R.slots)
    (k : ∀ T', own_at p l e R s m args below meth c n0 T' (cells + 1) (slots + cap) (its ++ [own_la Z (List.replicate q 0)]) → own_go p e R s below n0 Q (T'.setTop (mkF m (pc + 2) Ls (.ref (n0 + its.length) :: stk)))) :
    own_go p e R s below n0 Q (T.setTop (mkF m pc Ls (.int n :: stk))) := by
  obtain ⟨L, X, N, H⟩ := A
  obtain ⟨hn, rfl⟩ := hn
  obtain ⟨cA, kA, comp, h1, h2, h3, X', st⟩ := X.newarrayPrim hx (atype := .long) (mvA hZ w) (g := mkF m pc Ls (.int n :: stk)) rfl hd rfl hn (Nat.le_trans (Nat.mul_le_mul hcap (by decide)) hb) hc (by omega)
  rw [H.1] at st
  rw [hZ.alike.findClass] at h1
  obtain ⟨kZ, z1, -⟩ := Vm.findClass_spec h1
  obtain ⟨k', z2, z3⟩ := hZ.alike.2.2 _ _ z1
  cases h2.symm.trans z2
  exact own_by st (k _ ⟨L, X'.more (Nat.le_refl _) (by omega), N, H.push ⟨by rw [List.length_replicate]; exact n.toNatClampNeg_lt, by simp [List.map_replicate, newarray.typeOf, defaultValue], ⟨by simp, kZ, z1, comp, by rw [z3] at h3; exact h3⟩, by simp⟩⟩)
theorem own_getF (A : own_at p l e R s m args below meth c n0 T cells slots its) (hx : p.tables.exec = Jvm.exec) (hZ : Z.Warmed39 s.vm) {C n d : String} {index i : Nat} (hown : s.vm.findClass own = some m.cls) (w : (Cond.fieldLink own index C n d).before a0 Z = true)
    {ns : List (String × String)} {vs : List Value} (hi : its[i]? = some (own_obj Z C ns vs)) (j : Nat) (hj : ns[j]? = some (n, d)) {v : Value} (hv : vs[j]? = some v) (hd : decode c.code pc = .ok (.getfield index, 3))
    (k : ∀ T', own_at p l e R s m args below meth c n0 T' cells slots its → own_go p e R s below n0 Q (T'.setTop (mkF m (pc + 3) Ls (v :: stk)))) :
    own_go p e R s below n0 Q (T.setTop (mkF m pc Ls (.ref (n0 + i) :: stk))) := by
  obtain ⟨L, X, N, H⟩ := A
  obtain ⟨cl, g1, g2⟩ := H.2 i _ hi
  obtain ⟨T', X', e', st⟩ := getF X hx hZ hown (host := "") (Or.inl w) Via.refl rfl ((g2 _ _ g1).2 j _ v hj hv) (g := mkF m pc Ls (.ref (n0 + i) :: stk)) rfl rfl hd
  exact own_by st (k T' ⟨L, X', N, by rw [e']; exact H⟩)
theorem own_putF (A : own_at p l e R s m args below meth c n0 T cells slots its) (hx : p.tables.exec = Jvm.exec) (hZ : Z.Warmed39 s.vm) {C n d : String} {index i kk : Nat} {ty : FieldType} (hown : s.vm.findClass own = some m.cls) (w : (Cond.fieldLink own index C n d).before a0 Z = true)
    {ns : List (String × String)} {vs : List Value} (hi : its[i]? = some (own_obj Z C ns vs)) (j : Nat) (hj : ns[j]? = some (n, d)) {v v' old : Value} (hv : vs[j]? = some old) (ap : own_apart Z C ns)
    (La : (Cond.lays C C n d).before a0 Z = true ∨ ((Cond.laysFinal C C n d).before a0 Z = true ∧ own = C ∧ meth.name = "<init>")) (wi : (Cond.instantiable C kk).before a0 Z = true) (hty : parseFieldDescriptor d = some ty) (hn : narrow ty v = v') (hf : fits ty v' = true)
    (hd : decode c.code pc = .ok (.putfield index, 3)) {its2 : List (Cell → Prop)} (h2 : its.set i (own_obj Z C ns (vs.set j v')) = its2)
    (k : ∀ T', own_at p l e R s m args below meth c n0 T' cells slots its2 → own_go p e R s below n0 Q (T'.setTop (mkF m (pc + 3) Ls stk))) :
    own_go p e R s below n0 Q (T.setTop (mkF m pc Ls (v :: .ref (n0 + i) :: stk))) := by
  obtain ⟨L, X, N, H⟩ := A
  obtain ⟨cl, g1, g2⟩ := H.2 i _ hi
  obtain ⟨T', h', X', e', W, st⟩ := putFN X hx hZ hown w Via.refl rfl ((g2 _ _ g1).2 j _ old hj hv) (g2 _ _ g1).1 La wi hty hn hf (g := mkF m pc Ls (v :: .ref (n0 + i) :: stk)) rfl rfl hd
  have N' := Fr.snoc X' N (Nat.le_add_right n0 i)
  have W2 := W
  obtain ⟨cl2, w1, w2, w3, -⟩ := W2
  refine own_by st (k T' ⟨_, X', N', ?_⟩)
  rw [e', ← h2]
  exact H.wr hi W fun cl3 q1 q2 => by
    cases w1.symm.trans q1
    exact q2.set ap hj hv w3 w2
theorem own_ia.arr {ty : FieldType} {xs : List Int32} {cl : Cell} (O : own_ia Z ty xs cl) {a : Addr} (hc : h[a]? = some cl) : Arr Z h a cl ty := ⟨hc, O.2.2.1, O.2.2.2.1⟩
theorem own_ia.inb {ty : FieldType} {xs : List Int32} {cl : Cell} (O : own_ia Z ty xs cl) {j : Int32} {x : Int32} (hj : ¬ j < 0 ∧ xs[j.toNatClampNeg]? = some x) : ¬ (j < 0 ∨ cl.slots.size ≤ j.toNatClampNeg) ∧ cl.slots[j.toNatClampNeg]? = some (.int x) := by
  have hl := (List.getElem?_eq_some_iff.mp hj.2).1
  refine ⟨fun q => q.elim hj.1 fun q2 => ?_, ?_⟩
  · rw [O.2.1] at q2; simp at q2; omega
  · rw [O.2.1]; simp [hj.2]
theorem own_la.inb {xs : List Int64} {cl : Cell} (O : own_la Z xs cl) {j : Int32} {x : Int64} (hj : ¬ j < 0 ∧ xs[j.toNatClampNeg]? = some x) : ¬ (j < 0 ∨ cl.slots.size ≤ j.toNatClampNeg) ∧ cl.slots[j.toNatClampNeg]? = some (.long x) := by
  have hl := (List.getElem?_eq_some_iff.mp hj.2).1
  refine ⟨fun q => q.elim hj.1 fun q2 => ?_, ?_⟩
  · rw [O.2.1] at q2; simp at q2; omega
  · rw [O.2.1]; simp [hj.2]
theorem own_ia.set {ty : FieldType} {xs : List Int32} {cl : Cell} (O : own_ia Z ty xs cl) (q : Nat) {x : Int32} (hf : fits ty (.int x) = true) : own_ia Z ty (xs.set q x) (cl.setSlot q (.int x)) := by
  refine ⟨by rw [List.length_set]; exact O.1, ?_, O.2.2.1, O.2.2.2.1, fun y hy => ?_, O.2.2.2.2.2⟩
  · rw [Cell.setSlot]; show cl.slots.setIfInBounds q _ = _
    rw [O.2.1, List.setIfInBounds_toArray, List.map_set]
  · rcases List.mem_or_eq_of_mem_set hy with q | rfl
    · exact O.2.2.2.2.1 y q
    · exact hf
theorem own_la.set {xs : List Int64} {cl : Cell} (O : own_la Z xs cl) (q : Nat) {x : Int64} : own_la Z (xs.set q x) (cl.setSlot q (.long x)) := by
  refine ⟨by rw [List.length_set]; exact O.1, ?_, O.2.2.1, O.2.2.2⟩
  rw [Cell.setSlot]; show cl.slots.setIfInBounds q _ = _
  rw [O.2.1, List.setIfInBounds_toArray, List.map_set]
theorem own_iaload (A : own_at p l e R s m args below meth c n0 T cells slots its) (hx : p.tables.exec = Jvm.exec) (hZ : Z.Warmed39 s.vm) {i : Nat} {xs : List Int32} (hi : its[i]? = some (own_ia Z .int xs)) {j x : Int32} (hj : ¬ j < 0 ∧ xs[j.toNatClampNeg]? = some x) (hd : decode c.code pc = .ok (.iaload, 1))
    (k : own_go p e R s below n0 Q (T.setTop (mkF m (pc + 1) Ls (.int x :: stk)))) : own_go p e R s below n0 Q (T.setTop (mkF m pc Ls (.int j :: .ref (n0 + i) :: stk))) := by
  obtain ⟨L, X, N, H⟩ := A
  obtain ⟨cl, g1, g2⟩ := H.2 i _ hi
  exact own_by (fun t k => X.iaload hx g1 (State.isArrayOf_alike hZ.alike g2.2.2.1) g2.2.2.2.1 (g2.inb hj).1 (g2.inb hj).2 (g := mkF m pc Ls (.int j :: .ref (n0 + i) :: stk)) rfl rfl hd t k) k
theorem own_caload (A : own_at p l e R s m args below meth c n0 T cells slots its) (hx : p.tables.exec = Jvm.exec) (hZ : Z.Warmed39 s.vm) {i : Nat} {xs : List Int32} (hi : its[i]? = some (own_ia Z .char xs)) {j x : Int32} (hj : ¬ j < 0 ∧ xs[j.toNatClampNeg]? = some x) (hd : decode c.code pc = .ok (.caload, 1))
    (k : own_go p e R s below n0 Q (T.setTop (mkF m (pc + 1) Ls (.int x :: stk)))) : own_go p e R s below n0 Q (T.setTop (mkF m pc Ls (.int j :: .ref (n0 + i) :: stk))) := by
  obtain ⟨L, X, N, H⟩ := A
  obtain ⟨cl, g1, g2⟩ := H.2 i _ hi
  exact own_by (fun t k => X.caload hx g1 (State.isArrayOf_alike hZ.alike g2.2.2.1) g2.2.2.2.1 (g2.inb hj).1 (g2.inb hj).2 (g := mkF m pc Ls (.int j :: .ref (n0 + i) :: stk)) rfl rfl hd t k) k
theorem own_baload (A : own_at p l e R s m args below meth c n0 T cells slots its) (hx : p.tables.exec = Jvm.exec) (hZ : Z.Warmed39 s.vm) {i : Nat} {xs : List Int32} (hi : its[i]? = some (own_ia Z .byte xs)) {j x : Int32} (hj : ¬ j < 0 ∧ xs[j.toNatClampNeg]? = some x) (hd : decode c.code pc = .ok (.baload, 1))
    (k : own_go p e R s below n0 Q (T.setTop (mkF m (pc + 1) Ls (.int x :: stk)))) : own_go p e R s below n0 Q (T.setTop (mkF m pc Ls (.int j :: .ref (n0 + i) :: stk))) := by
  obtain ⟨L, X, N, H⟩ := A
  obtain ⟨cl, g1, g2⟩ := H.2 i _ hi
  exact own_by (fun t k => X.baloadBytes hx g1 (State.isArrayOf_alike hZ.alike g2.2.2.1) g2.2.2.2.1 (g2.inb hj).1 (g2.inb hj).2 (g := mkF m pc Ls (.int j :: .ref (n0 + i) :: stk)) rfl rfl hd t k) k
theorem own_laload (A : own_at p l e R s m args below meth c n0 T cells slots its) (hx : p.tables.exec = Jvm.exec) (hZ : Z.Warmed39 s.vm) {i : Nat} {xs : List Int64} (hi : its[i]? = some (own_la Z xs)) {j : Int32} {x : Int64} (hj : ¬ j < 0 ∧ xs[j.toNatClampNeg]? = some x) (hd : decode c.code pc = .ok (.laload, 1))
    (k : own_go p e R s below n0 Q (T.setTop (mkF m (pc + 1) Ls (.long x :: stk)))) : own_go p e R s below n0 Q (T.setTop (mkF m pc Ls (.int j :: .ref (n0 + i) :: stk))) := by
  obtain ⟨L, X, N, H⟩ := A
  obtain ⟨cl, g1, g2⟩ := H.2 i _ hi
  exact own_by (fun t k => X.laload hx g1 (State.isArrayOf_alike hZ.alike g2.2.2.1) g2.2.2.2 (g2.inb hj).1 (g2.inb hj).2 (g := mkF m pc Ls (.int j :: .ref (n0 + i) :: stk)) rfl rfl hd t k) k
theorem own_at.wrote (N : Fr n0 locs) (H : own_hp n0 h its) {T' : State} {i sl : Nat} {v : Value} {P P' : Cell → Prop} (X' : Stand p l e R s m args below meth c T' (locs ++ [⟨n0 + i, sl⟩]) cells slots) (e' : T'.heap = h') (hi : its[i]? = some P) (W : Wr h h' (n0 + i) sl v) (hP : ∀ cl, h[n0 + i]? = some cl → P cl → P' (cl.setSlot sl v)) : own_at p l e R s m args below meth c n0 T' cells slots (its.set i P') :=
  ⟨_, X', Fr.snoc X' N (Nat.le_add_right n0 i), by rw [e']; exact H.wr hi W hP⟩
theorem own_ib {xs : List Int32} {ty : FieldType} {cl : Cell} (O : own_ia Z ty xs cl) {j : Int32} {q : Nat} (hj : ¬ j < 0 ∧ j.toNatClampNeg = q ∧ q < xs.length) : ¬ (j < 0 ∨ cl.slots.size ≤ j.toNatClampNeg) := by
  obtain ⟨h1, rfl, h3⟩ := hj
  refine fun z => z.elim h1 fun z => ?_
  rw [O.2.1] at z; simp at z; omega
theorem own_iastore (A : own_at p l e R s m args below meth c n0 T cells slots its) (hx : p.tables.exec = Jvm.exec) (hZ : Z.Warmed39 s.vm) {i : Nat} {xs : List Int32} (hi : its[i]? = some (own_ia Z .int xs)) {j x : Int32} (q : Nat) (hj : ¬ j < 0 ∧ j.toNatClampNeg = q ∧ q < xs.length) (hd : decode c.code pc = .ok (.iastore, 1)) {its2 : List (Cell → Prop)} (h2 : its.set i (own_ia Z .int (xs.set q x)) = its2)
    (k : ∀ T', own_at p l e R s m args below meth c n0 T' cells slots its2 → own_go p e R s below n0 Q (T'.setTop (mkF m (pc + 1) Ls stk))) : own_go p e R s below n0 Q (T.setTop (mkF m pc Ls (.int x :: .int j :: .ref (n0 + i) :: stk))) := by
  obtain ⟨L, X, N, H⟩ := A
  obtain ⟨cl, g1, g2⟩ := H.2 i _ hi
  obtain ⟨T', h', X', e', W, st⟩ := stI X hx hZ rfl (g2.arr g1) (own_ib g2 hj) (g := mkF m pc Ls (.int x :: .int j :: .ref (n0 + i) :: stk)) rfl rfl hd
  obtain ⟨j1, rfl, j3⟩ := hj
  exact own_by st (k T' (h2 ▸ own_at.wrote N H X' e' hi W fun cl _ O => O.set _ rfl))
theorem own_castore (A : own_at p l e R s m args below meth c n0 T cells slots its) (hx : p.tables.exec = Jvm.exec) (hZ : Z.Warmed39 s.vm) {i : Nat} {xs : List Int32} (hi : its[i]? = some (own_ia Z .char xs)) {j x : Int32} (q : Nat) (hj : ¬ j < 0 ∧ j.toNatClampNeg = q ∧ q < xs.length) (hd : decode c.code pc = .ok (.castore, 1)) {its2 : List (Cell → Prop)} (h2 : its.set i (own_ia Z .char (xs.set q (nar .char x))) = its2)
    (k : ∀ T', own_at p l e R s m args below meth c n0 T' cells slots its2 → own_go p e R s below n0 Q (T'.setTop (mkF m (pc + 1) Ls stk))) : own_go p e R s below n0 Q (T.setTop (mkF m pc Ls (.int x :: .int j :: .ref (n0 + i) :: stk))) := by
  obtain ⟨L, X, N, H⟩ := A
  obtain ⟨cl, g1, g2⟩ := H.2 i _ hi
  obtain ⟨T', h', X', e', W, st⟩ := stC X hx hZ rfl (g2.arr g1) (own_ib g2 hj) (g := mkF m pc Ls (.int x :: .int j :: .ref (n0 + i) :: stk)) rfl rfl hd
  obtain ⟨j1, rfl, j3⟩ := hj
  exact own_by st (k T' (h2 ▸ own_at.wrote N H X' e' hi W fun cl _ O => O.set _ (fits_nar_char x)))
theorem own_bastore (A : own_at p l e R s m args below meth c n0 T cells slots its) (hx : p.tables.exec = Jvm.exec) (hZ : Z.Warmed39 s.vm) {i : Nat} {xs : List Int32} (hi : its[i]? = some (own_ia Z .byte xs)) {j x : Int32} (q : Nat) (hj : ¬ j < 0 ∧ j.toNatClampNeg = q ∧ q < xs.length) (hd : decode c.code pc = .ok (.bastore, 1)) {its2 : List (Cell → Prop)} (h2 : its.set i (own_ia Z .byte (xs.set q (nar .byte x))) = its2)
    (k : ∀ T', own_at p l e R s m args below meth c n0 T' cells slots its2 → own_go p e R s below n0 Q (T'.setTop (mkF m (pc + 1) Ls stk))) : own_go p e R s below n0 Q (T.setTop (mkF m pc Ls (.int x :: .int j :: .ref (n0 + i) :: stk))) := by
  obtain ⟨L, X, N, H⟩ := A
  obtain ⟨cl, g1, g2⟩ := H.2 i _ hi
  obtain ⟨T', h', X', e', W, st⟩ := stB X hx hZ rfl (g2.arr g1) (own_ib g2 hj) (g := mkF m pc Ls (.int x :: .int j :: .ref (n0 + i) :: stk)) rfl rfl hd
  obtain ⟨j1, rfl, j3⟩ := hj
  exact own_by st (k T' (h2 ▸ own_at.wrote N H X' e' hi W fun cl _ O => O.set _ (fits_nar_byte x)))
theorem own_lastore (A : own_at p l e R s m args below meth c n0 T cells slots its) (hx : p.tables.exec = Jvm.exec) (hZ : Z.Warmed39 s.vm) {i : Nat} {xs : List Int64} (hi : its[i]? = some (own_la Z xs)) {j : Int32} {x : Int64} (q : Nat) (hj : ¬ j < 0 ∧ j.toNatClampNeg = q ∧ q < xs.length) (hd : decode c.code pc = .ok (.lastore, 1)) {its2 : List (Cell → Prop)} (h2 : its.set i (own_la Z (xs.set q x)) = its2)
    (k : ∀ T', own_at p l e R s m args below meth c n0 T' cells slots its2 → own_go p e R s below n0 Q (T'.setTop (mkF m (pc + 1) Ls stk))) : own_go p e R s below n0 Q (T.setTop (mkF m pc Ls (.long x :: .int j :: .ref (n0 + i) :: stk))) := by
  obtain ⟨L, X, N, H⟩ := A
  obtain ⟨cl, g1, g2⟩ := H.2 i _ hi
  obtain ⟨j1, rfl, j3⟩ := hj
  have hb : ¬ (j < 0 ∨ cl.slots.size ≤ j.toNatClampNeg) := fun z => z.elim j1 fun z => by rw [g2.2.1] at z; simp at z; omega
  obtain ⟨T', h', X', e', W, st⟩ := stJ X hx hZ rfl (⟨g1, g2.2.2.1, g2.2.2.2⟩ : Arr Z T.heap (n0 + i) cl .long) hb (g := mkF m pc Ls (.long x :: .int j :: .ref (n0 + i) :: stk)) rfl rfl hd
  exact own_by st (k T' (h2 ▸ own_at.wrote N H X' e' hi W fun cl _ O => O.set _))
theorem own_len (A : own_at p l e R s m args below meth c n0 T cells slots its) (hx : p.tables.exec = Jvm.exec) (hZ : Z.Warmed39 s.vm) {i : Nat} {ty : FieldType} {xs : List Int32} (hi : its[i]? = some (own_ia Z ty xs)) {z : Int32} (hz : xs.length.toInt32 = z) (hd : decode c.code pc = .ok (.arraylength, 1))
    (k : own_go p e R s below n0 Q (T.setTop (mkF m (pc + 1) Ls (.int z :: stk)))) : own_go p e R s below n0 Q (T.setTop (mkF m pc Ls (.ref (n0 + i) :: stk))) := by
  obtain ⟨L, X, N, H⟩ := A
  obtain ⟨cl, g1, g2⟩ := H.2 i _ hi
  have q : cl.slots.size.toInt32 = z := by rw [g2.2.1]; simpa using hz
  subst q
  exact own_by (fun t k => X.arraylength hx g1 (State.isArrayOf_alike hZ.alike g2.2.2.1) (g := mkF m pc Ls (.ref (n0 + i) :: stk)) rfl rfl hd t k) k
theorem own_lenL (A : own_at p l e R s m args below meth c n0 T cells slots its) (hx : p.tables.exec = Jvm.exec) (hZ : Z.Warmed39 s.vm) {i : Nat} {xs : List Int64} (hi : its[i]? = some (own_la Z xs)) {z : Int32} (hz : xs.length.toInt32 = z) (hd : decode c.code pc = .ok (.arraylength, 1))
    (k : own_go p e R s below n0 Q (T.setTop (mkF m (pc + 1) Ls (.int z :: stk)))) : own_go p e R s below n0 Q (T.setTop (mkF m pc Ls (.ref (n0 + i) :: stk))) := by
  obtain ⟨L, X, N, H⟩ := A
  obtain ⟨cl, g1, g2⟩ := H.2 i _ hi
  have q : cl.slots.size.toInt32 = z := by rw [g2.2.1]; simpa using hz
  subst q
  exact own_by (fun t k => X.arraylength hx g1 (State.isArrayOf_alike hZ.alike g2.2.2.1) (g := mkF m pc Ls (.ref (n0 + i) :: stk)) rfl rfl hd t k) k
theorem own_ldcI (A : own_at p l e R s m args below meth c n0 T cells slots its) (hx : p.tables.exec = Jvm.exec) (hZ : Z.Warmed39 s.vm) (hown : s.vm.findClass own = some m.cls) {index : Nat} {v : Int32} (w : (Cond.constant own index v).before a0 Z = true) (hd : decode c.code pc = .ok (.ldc index, 2))
    (k : own_go p e R s below n0 Q (T.setTop (mkF m (pc + 2) Ls (.int v :: stk)))) : own_go p e R s below n0 Q (T.setTop (mkF m pc Ls stk)) := by
  obtain ⟨L, X, N, H⟩ := A
  exact own_by (X.ldcInt hx hown (mvT hZ w) (g := mkF m pc Ls stk) rfl hd) k
theorem own_ldcJ (A : own_at p l e R s m args below meth c n0 T cells slots its) (hx : p.tables.exec = Jvm.exec) (hZ : Z.Warmed39 s.vm) (hown : s.vm.findClass own = some m.cls) {index : Nat} {v : Int64} (w : (Cond.constantLong own index v).before a0 Z = true) (hd : decode c.code pc = .ok (.ldc2_w index, 3))
    (k : own_go p e R s below n0 Q (T.setTop (mkF m (pc + 3) Ls (.long v :: stk)))) : own_go p e R s below n0 Q (T.setTop (mkF m pc Ls stk)) := by
  obtain ⟨L, X, N, H⟩ := A
  exact own_by (X.ldc2Long hx hown (mvT hZ w) (g := mkF m pc Ls stk) rfl hd) k
theorem own_irem (A : own_at p l e R s m args below meth c n0 T cells slots its) (hx : p.tables.exec = Jvm.exec) {x y : Int32} (hy : y ≠ 0) (hd : decode c.code pc = .ok (.irem, 1))
    (k : own_go p e R s below n0 Q (T.setTop (mkF m (pc + 1) Ls (.int (x % y) :: stk)))) : own_go p e R s below n0 Q (T.setTop (mkF m pc Ls (.int y :: .int x :: stk))) := by
  obtain ⟨L, X, N, H⟩ := A
  exact own_by (fun t k => iremM X hx (g := mkF m pc Ls (.int y :: .int x :: stk)) rfl hd rfl hy k) k
theorem own_lrem (A : own_at p l e R s m args below meth c n0 T cells slots its) (hx : p.tables.exec = Jvm.exec) {x y : Int64} (hy : y ≠ 0) (hd : decode c.code pc = .ok (.lrem, 1))
    (k : own_go p e R s below n0 Q (T.setTop (mkF m (pc + 1) Ls (.long (x % y) :: stk)))) : own_go p e R s below n0 Q (T.setTop (mkF m pc Ls (.long y :: .long x :: stk))) := by
  rw [← lrem_mod] at k
  exact own_by (fun t k => XS.lrem A.here hx (g := mkF m pc Ls (.long y :: .long x :: stk)) rfl hd rfl hy k) k
/-! the end -/
theorem own_ret (A : own_at p l e R s m args below meth c n0 T cells slots its) (hx : p.tables.exec = Jvm.exec) (hlk : meth.locks = false) {w : Value} {t : FieldType} {i : Instr} (hret : meth.sig.returnType = some t) (hn : narrow t w = w)
    (hi : (i = .ireturn ∧ (t = .int ∨ t = .boolean ∨ t = .byte ∨ t = .char ∨ t = .short) ∧ ∃ z, w = .int z) ∨ (i = .lreturn ∧ t = .long ∧ ∃ z, w = .long z) ∨ (i = .dreturn ∧ t = .double ∧ ∃ z, w = .double z) ∨ (i = .freturn ∧ t = .float ∧ ∃ z, w = .float z) ∨ (i = .areturn ∧ t.isReference = true ∧ w.isRef = true))
    (hd : decode c.code pc = .ok (i, 1)) (hc : cells ≤ R.cells) (hs : slots ≤ R.slots) (hQ : Q (some w) its) : own_go p e R s below n0 Q (T.setTop (mkF m pc Ls (w :: stk))) := by
  obtain ⟨L, X, N, H⟩ := A
  obtain ⟨fs, hr, hrun, hended, hW, hsame⟩ := X.leave (v := some w) (fun h => by rw [hret] at h; cases h) hlk
  exact ⟨_, _, _, _, retOut X hx hret hn hi hd hr, hrun, hended, hQ, N, H, hW, hsame.mono hc hs⟩
theorem own_retI (A : own_at p l e R s m args below meth c n0 T cells slots its) (hx : p.tables.exec = Jvm.exec) (hlk : meth.locks = false) {w : Int32} (hret : meth.sig.returnType = some .int) (hd : decode c.code pc = .ok (.ireturn, 1)) (hc : cells ≤ R.cells) (hs : slots ≤ R.slots) (hQ : Q (some (.int w)) its) : own_go p e R s below n0 Q (T.setTop (mkF m pc Ls (.int w :: stk))) :=
  own_ret A hx hlk hret rfl (Or.inl ⟨rfl, Or.inl rfl, w, rfl⟩) hd hc hs hQ
theorem own_retJ (A : own_at p l e R s m args below meth c n0 T cells slots its) (hx : p.tables.exec = Jvm.exec) (hlk : meth.locks = false) {w : Int64} (hret : meth.sig.returnType = some .long) (hd : decode c.code pc = .ok (.lreturn, 1)) (hc : cells ≤ R.cells) (hs : slots ≤ R.slots) (hQ : Q (some (.long w)) its) : own_go p e R s below n0 Q (T.setTop (mkF m pc Ls (.long w :: stk))) :=
  own_ret A hx hlk hret rfl (Or.inr (Or.inl ⟨rfl, rfl, w, rfl⟩)) hd hc hs hQ
theorem own_retA (A : own_at p l e R s m args below meth c n0 T cells slots its) (hx : p.tables.exec = Jvm.exec) (hlk : meth.locks = false) {a : Addr} {t : FieldType} (hret : meth.sig.returnType = some t) (hn : narrow t (.ref a) = .ref a) (ht : t.isReference = true) (hd : decode c.code pc = .ok (.areturn, 1)) (hc : cells ≤ R.cells) (hs : slots ≤ R.slots) (hQ : Q (some (.ref a)) its) : own_go p e R s below n0 Q (T.setTop (mkF m pc Ls (.ref a :: stk))) :=
  own_ret A hx hlk hret hn (Or.inr (Or.inr (Or.inr (Or.inr ⟨rfl, ht, rfl⟩)))) hd hc hs hQ
theorem own_retN (A : own_at p l e R s m args below meth c n0 T cells slots its) (hx : p.tables.exec = Jvm.exec) (hlk : meth.locks = false) {w : Int32} {t : FieldType} (ht : t = .boolean ∨ t = .byte ∨ t = .char ∨ t = .short) (hret : meth.sig.returnType = some t) (hd : decode c.code pc = .ok (.ireturn, 1)) (hc : cells ≤ R.cells) (hs : slots ≤ R.slots) (hQ : Q (some (.int (nar t w))) its) : own_go p e R s below n0 Q (T.setTop (mkF m pc Ls (.int w :: stk))) := by
  obtain ⟨L, X, N, H⟩ := A
  obtain ⟨fs, hr, hrun, hended, hW, hsame⟩ := X.leave (v := some (.int (nar t w))) (fun h => by rw [hret] at h; cases h) hlk
  exact ⟨_, _, _, _, retN X hx hret ht hd hr, hrun, hended, hQ, N, H, hW, hsame.mono hc hs⟩
theorem own_retV (A : own_at p l e R s m args below meth c n0 T cells slots its) (hx : p.tables.exec = Jvm.exec) (hlk : meth.locks = false) (hret : meth.sig.returnType = none) (hd : decode c.code pc = .ok (.return_, 1)) (hc : cells ≤ R.cells) (hs : slots ≤ R.slots) (hQ : Q none its) : own_go p e R s below n0 Q (T.setTop (mkF m pc Ls [])) := by
  obtain ⟨L, X, N, H⟩ := A
  obtain ⟨fs, hr, hrun, hended, hW, hsame⟩ := X.leave (v := none) (fun _ => rfl) hlk
  exact ⟨_, _, _, _, X.returnOut hx hret hd hr, hrun, hended, hQ, N, H, hW, hsame.mono hc hs⟩
/-! contracts -/
/-- a method's contract: with these arguments, over a heap whose new part is its, it returns as Q says -/
def own_met (l : Launch) (Z : State) (n0 : Nat) (y : MethodName) (bytes : ByteArray) (maxL : Nat) (ret : Option FieldType) (rm : Room) (as : Array Value) (its : List (Cell → Prop)) (Q : Option Value → List (Cell → Prop) → Prop) : Prop :=
  ∀ (h0 : Heap) (ws : List Jvm.Cond), own_hp n0 h0 its → MetFree l y (head1 (Jvm.Cond.code y bytes maxL ret :: ws) rm) (fun a U => a = as ∧ Z.Warmed39 U.vm ∧ U.heap = h0) (fun _ _ _ _ _ => True) (fun _ U o U' => ∃ v L, o = .returned v ∧ (Fr n0 L ∧ ∃ its', Q v its' ∧ own_hp n0 U'.heap its') ∧ FrameEnd U o U' L rm.cells rm.slots)
variable {y z : MethodName} {bytes : ByteArray} {maxL : Nat} {ret : Option FieldType} {rm : Room} {as : Array Value} {Q' : Option Value → List (Cell → Prop) → Prop}
theorem own_met.of (hpn : plainFor y = true)
    (body : ∀ (p : Program) (e : Env) (s : State) (m : MethodId) (below : List Frame) (meth : Method) (c : Code) (T : State), p.tables.exec = Jvm.exec → c.code = bytes → c.maxLocals = maxL → meth.sig.returnType = ret → meth.locks = false → Z.Warmed39 s.vm → s.vm.findClass y.cls = some m.cls → meth.name = y.name → own_at p l e rm s m as below meth c n0 T 0 0 its → own_go p e rm s below n0 Q (T.setTop (entryFrame m as maxL))) :
    own_met l Z n0 y bytes maxL ret rm as its Q := by
  intro h0 ws H
  refine MetFree.of_bodySF hpn hisR ?_
  intro p e s m args below meth c s₁ Bd hml0 hP hK
  obtain ⟨rfl, hZ, hh⟩ := hP
  have X0 : Stand p l e rm s m args below meth c s₁ [] 0 0 := Stand.of_body Bd
  have e0 : s₁.heap = h0 := by rw [← hh, Bd.state]; rfl
  obtain ⟨t, v, L, its', h1, h2, h3, h4, h5, h6, h7, h8⟩ := body p e s m below meth c s₁ Bd.exec Bd.bytes hml0 Bd.returns (BodyLoose.notSynchronized Bd) hZ (findClass_of_methodNamed Bd.named) (name_of_methodNamed Bd.named Bd.method).1 ⟨[], X0, Fr.nil n0, by rw [e0]; exact H⟩
  exact ⟨t, _, h1, h2, h3, v, L, rfl, ⟨h5, its', h4, h6⟩, ⟨_, rfl⟩, h7, h8⟩
theorem own_post {A B : Pt} {rm : Room} {v : Option Value} (hP : ∃ L, (Fr n0 L ∧ ∃ its', Q' v its' ∧ own_hp n0 B.U.heap its') ∧ B.locs = A.locs ++ L ∧ B.cells = A.cells + rm.cells ∧ B.slots = A.slots + rm.slots) (X : Stand p l e R s m args below meth c B.U B.locs B.cells B.slots) (N : Fr n0 A.locs) :
    ∃ its', Q' v its' ∧ own_at p l e R s m args below meth c n0 B.U (A.cells + rm.cells) (A.slots + rm.slots) its' := by
  obtain ⟨L, ⟨h1, its', h2, h3⟩, h4, h5, h6⟩ := hP
  rw [h4, h5, h6] at X
  exact ⟨its', h2, _, X, N.app h1, h3⟩
theorem own_callS (A : own_at p l e R s m args below meth c n0 T cells slots its) (hx : p.tables.exec = Jvm.exec) (hZ : Z.Warmed39 s.vm) (hown : s.vm.findClass own = some m.cls) {index : Nat} (w1 : (Cond.methodLink own index y).before a0 Z = true) (w2 : (Cond.static y).before a0 Z = true) (w3 : (Cond.initialized y.cls).before a0 Z = true) (w4 : (Cond.code y bytes maxL ret).before a0 Z = true)
    (hy : y.cls ≠ "java/lang/invoke/MethodHandle" ∧ y.cls ≠ "java/lang/invoke/VarHandle") (M : own_met l Z n0 y bytes maxL ret rm as its Q') (hml : Ls.size = c.maxLocals) (argsL : List Value) (has : argsL.toArray = as) (hstk : stk = argsL.reverse ++ rest) {ps : List FieldType} {r : Option FieldType} (pd : parseMethodDescriptor y.desc = some ⟨ps, r⟩) (hlen : argsL.length = ps.length)
    {W : Nat} (hW : 2 * 0 + (rest.map fun v => v.category).sum ≤ W) (hd : decode c.code pc = .ok (.invokestatic index, 3)) (hf : rm.frames + 1 ≤ R.frames) (hl : W + (maxL + 11) + rm.locals ≤ R.locals) (hc : cells + rm.cells ≤ R.cells) (hs : slots + rm.slots ≤ R.slots)
    (k : ∀ (v : Option Value) (its' : List (Cell → Prop)) (T' : State), Q' v its' → own_at p l e R s m args below meth c n0 T' (cells + rm.cells) (slots + rm.slots) its' → own_go p e R s below n0 Q (T'.setTop (mkF m (pc + 3) Ls (v.toList ++ rest)))) :
    own_go p e R s below n0 Q (T.setTop (mkF m pc Ls stk)) := by
  obtain ⟨L, X, N, H⟩ := A
  subst hstk has
  obtain ⟨v, vm1, B, -, XB, hP, st⟩ := Jvm.LawKit.callS X hx (y := y) hown (mvT hZ w1) (mvT hZ w2) (mvT hZ w3) (mvT hZ w4) hy (backOf (W := W) (Q := fun v h L => Fr n0 L ∧ ∃ its', Q' v its' ∧ own_hp n0 h its') (M T.heap [] H) hZ w4 w3 hf hl) (g := mkF m pc Ls (argsL.reverse ++ rest)) rfl hml (argsL := argsL) (rest := rest) (lenOf pd hlen) rfl hW hd (fun _ _ => ⟨rfl, rfl, hc, hs⟩)
  obtain ⟨its', q1, q2⟩ := own_post hP XB N
  exact own_by st (k v its' B.U q1 q2)
theorem own_tr {u u' : State} (st : Steps p.tables e below u u') (k : own_go p e R s below n0 Q u') : own_go p e R s below n0 Q u := own_by (fun _ q => st.trans q) k
theorem own_callC (A : own_at p l e R s m args below meth c n0 T cells slots its) (hx : p.tables.exec = Jvm.exec) (hZ : Z.Warmed39 s.vm) (hown : s.vm.findClass own = some m.cls) {index : Nat} (hy1 : y.name = "<init>") (w1 : (Cond.methodLink own index y).before a0 Z = true) (w2 : (Cond.instanceMethod y).before a0 Z = true) (w3 : (Cond.initialized y.cls).before a0 Z = true) (w4 : (Cond.code y bytes maxL none).before a0 Z = true)
    (hy : y.cls ≠ "java/lang/invoke/MethodHandle" ∧ y.cls ≠ "java/lang/invoke/VarHandle") (M : own_met l Z n0 y bytes maxL none rm as its Q') (hml : Ls.size = c.maxLocals) (a : Addr) (argsL : List Value) (has : (Value.ref a :: argsL).toArray = as) (hstk : stk = argsL.reverse ++ .ref a :: rest) {ps : List FieldType} {r : Option FieldType} (pd : parseMethodDescriptor y.desc = some ⟨ps, r⟩) (hlen : argsL.length = ps.length)
    {W : Nat} (hW : 2 * 0 + (rest.map fun v => v.category).sum ≤ W) (hd : decode c.code pc = .ok (.invokespecial index, 3)) (hf : rm.frames + 1 ≤ R.frames) (hl : W + (maxL + 11) + rm.locals ≤ R.locals) (hc : cells + rm.cells ≤ R.cells) (hs : slots + rm.slots ≤ R.slots)
    (k : ∀ (v : Option Value) (its' : List (Cell → Prop)) (T' : State), Q' v its' → own_at p l e R s m args below meth c n0 T' (cells + rm.cells) (slots + rm.slots) its' → own_go p e R s below n0 Q (T'.setTop (mkF m (pc + 3) Ls (v.toList ++ rest)))) :
    own_go p e R s below n0 Q (T.setTop (mkF m pc Ls stk)) := by
  obtain ⟨L, X, N, H⟩ := A
  subst hstk has
  obtain ⟨v, vm1, B, -, XB, hP, st⟩ := X.specialBack hx (y := y) hy1 hown (mvT hZ w1) (mvT hZ w2) (mvT hZ w4) hy (backOf (W := W) (Q := fun v h L => Fr n0 L ∧ ∃ its', Q' v its' ∧ own_hp n0 h its') (M T.heap [] H) hZ w4 w3 hf hl) (g := mkF m pc Ls (argsL.reverse ++ .ref a :: rest)) rfl hml (Steps.refl _) (a := a) (argsL := argsL) (rest := rest) (lenOf pd hlen) rfl hW hd (fun _ _ => ⟨rfl, rfl, hc, hs⟩)
  obtain ⟨its', q1, q2⟩ := own_post hP XB N
  exact own_tr st (k v its' B.U q1 q2)
theorem own_callV (A : own_at p l e R s m args below meth c n0 T cells slots its) (hx : p.tables.exec = Jvm.exec) (hZ : Z.Warmed39 s.vm) (hown : s.vm.findClass own = some m.cls) {index i : Nat} (w1 : (Cond.methodLink own index y).before a0 Z = true) (w2 : (Cond.declares y).before a0 Z = true) (w3 : (Cond.selects y.cls y y).before a0 Z = true) (w4 : (Cond.instanceMethod y).before a0 Z = true) (w5 : (Cond.initialized y.cls).before a0 Z = true) (w6 : (Cond.code y bytes maxL ret).before a0 Z = true)
    (hy : y.cls ≠ "java/lang/invoke/MethodHandle" ∧ y.cls ≠ "java/lang/invoke/VarHandle") {ns : List (String × String)} {vs : List Value} (hi : its[i]? = some (own_obj Z y.cls ns vs)) (M : own_met l Z n0 y bytes maxL ret rm as its Q') (hml : Ls.size = c.maxLocals) (argsL : List Value) (has : (Value.ref (n0 + i) :: argsL).toArray = as) (hstk : stk = argsL.reverse ++ .ref (n0 + i) :: rest) {ps : List FieldType} {r : Option FieldType} (pd : parseMethodDescriptor y.desc = some ⟨ps, r⟩) (hlen : argsL.length = ps.length)
    {W : Nat} (hW : 2 * 0 + (rest.map fun v => v.category).sum ≤ W) (hd : decode c.code pc = .ok (.invokevirtual index, 3)) (hf : rm.frames + 1 ≤ R.frames) (hl : W + (maxL + 11) + rm.locals ≤ R.locals) (hc : cells + rm.cells ≤ R.cells) (hs : slots + rm.slots ≤ R.slots)
    (k : ∀ (v : Option Value) (its' : List (Cell → Prop)) (T' : State), Q' v its' → own_at p l e R s m args below meth c n0 T' (cells + rm.cells) (slots + rm.slots) its' → own_go p e R s below n0 Q (T'.setTop (mkF m (pc + 3) Ls (v.toList ++ rest)))) :
    own_go p e R s below n0 Q (T.setTop (mkF m pc Ls stk)) := by
  obtain ⟨L, X, N, H⟩ := A
  subst hstk has
  obtain ⟨cl, g1, g2⟩ := H.2 i _ hi
  obtain ⟨cq, kq, q3a, q3b, q3c⟩ := isOf (T := T) hZ rfl (g2 _ _ g1).1
  obtain ⟨v, vm1, B, -, XB, hP, st⟩ := X.virtualBack hx (y := y) (z := y) hown (mvT hZ w1) (mvT hZ w2) (notFace_of_selects (args := #[]) (mvT hZ w3)) (mvT hZ w3) (mvT hZ w4) hy (backOf (W := W) (Q := fun v h L => Fr n0 L ∧ ∃ its', Q' v its' ∧ own_hp n0 h its') (M T.heap [] H) hZ w6 w5 hf hl) q3a q3c (g := mkF m pc Ls (argsL.reverse ++ .ref (n0 + i) :: rest)) rfl hml (Steps.refl _) (argsL := argsL) (rest := rest) (lenOf pd hlen) rfl hW hd (fun _ _ => ⟨rfl, rfl, hc, hs⟩)
  obtain ⟨its', q1, q2⟩ := own_post hP XB N
  exact own_tr st (k v its' B.U q1 q2)
theorem own_callP (A : own_at p l e R s m args below meth c n0 T cells slots its) (hx : p.tables.exec = Jvm.exec) (hZ : Z.Warmed39 s.vm) (hown : s.vm.findClass own = some m.cls) {index i : Nat} (w1 : (Cond.methodLink own index y).before a0 Z = true) (w2 : (Cond.privateMethod y).before a0 Z = true) {kk : Nat} (w3 : (Cond.instantiable y.cls kk).before a0 Z = true) (w4 : (Cond.instanceMethod y).before a0 Z = true) (w5 : (Cond.initialized y.cls).before a0 Z = true) (w6 : (Cond.code y bytes maxL ret).before a0 Z = true)
    (hy : y.cls ≠ "java/lang/invoke/MethodHandle" ∧ y.cls ≠ "java/lang/invoke/VarHandle") {ns : List (String × String)} {vs : List Value} (hi : its[i]? = some (own_obj Z y.cls ns vs)) (M : own_met l Z n0 y bytes maxL ret rm as its Q') (hml : Ls.size = c.maxLocals) (argsL : List Value) (has : (Value.ref (n0 + i) :: argsL).toArray = as) (hstk : stk = argsL.reverse ++ .ref (n0 + i) :: rest) {ps : List FieldType} {r : Option FieldType} (pd : parseMethodDescriptor y.desc = some ⟨ps, r⟩) (hlen : argsL.length = ps.length)
    {W : Nat} (hW : 2 * 0 + (rest.map fun v => v.category).sum ≤ W) (hd : decode c.code pc = .ok (.invokevirtual index, 3)) (hf : rm.frames + 1 ≤ R.frames) (hl : W + (maxL + 11) + rm.locals ≤ R.locals) (hc : cells + rm.cells ≤ R.cells) (hs : slots + rm.slots ≤ R.slots)
    (k : ∀ (v : Option Value) (its' : List (Cell → Prop)) (T' : State), Q' v its' → own_at p l e R s m args below meth c n0 T' (cells + rm.cells) (slots + rm.slots) its' → own_go p e R s below n0 Q (T'.setTop (mkF m (pc + 3) Ls (v.toList ++ rest)))) :
    own_go p e R s below n0 Q (T.setTop (mkF m pc Ls stk)) := by
  obtain ⟨L, X, N, H⟩ := A
  subst hstk has
  obtain ⟨cl, g1, g2⟩ := H.2 i _ hi
  obtain ⟨cq, q3a, q3b⟩ := (g2 _ _ g1).1.cell
  obtain ⟨c1, k1, i1, i2, -, i4, -⟩ := Cond.instantiable_spec (mvT (s := s) (args := args) hZ w3)
  have hpr : s.PrivateAt y := Cond.privateMethod_at (mvP hZ w2 (args := #[]))
  have hsel : (Cond.selects y.cls y y).before args s = true := selects_self_of_private i1 i2 (Bool.or_eq_false_iff.mp i4).1 hpr (mvT hZ w4) hy
  obtain ⟨v, vm1, B, -, XB, hP, st⟩ := X.privateBack hx (y := y) hown (mvT hZ w1) (mvT hZ w4) hsel hpr (mvT hZ w6) hy (backOf (W := W) (Q := fun v h L => Fr n0 L ∧ ∃ its', Q' v its' ∧ own_hp n0 h its') (M T.heap [] H) hZ w6 w5 hf hl) (g := mkF m pc Ls (argsL.reverse ++ .ref (n0 + i) :: rest)) rfl hml (Steps.refl _) (a := n0 + i) q3a q3b (argsL := argsL) (rest := rest) (lenOf pd hlen) rfl hW hd (fun _ _ => ⟨rfl, rfl, hc, hs⟩)
  obtain ⟨its', q1, q2⟩ := own_post hP XB N
  exact own_tr st (k v its' B.U q1 q2)
/-! comparisons of longs -/
theorem own_lc_lt {x y : Int64} (h : x < y) : lcmpW x y < 0 := by rw [lcW]; exact (lc_lt x y).mpr h
theorem own_lc_nlt {x y : Int64} (h : ¬ x < y) : ¬ lcmpW x y < 0 := by rw [lcW]; exact fun q => h ((lc_lt x y).mp q)
theorem own_lc_gt {x y : Int64} (h : y < x) : 0 < lcmpW x y := by rw [lcW]; exact (lc_gt x y).mpr h
theorem own_lc_ngt {x y : Int64} (h : ¬ y < x) : ¬ 0 < lcmpW x y := by rw [lcW]; exact fun q => h ((lc_gt x y).mp q)
theorem own_lc_eq {x y : Int64} (h : x = y) : lcmpW x y = 0 := by subst h; unfold lcmpW; simp
theorem own_lc_ne {x y : Int64} (h : ¬ x = y) : ¬ lcmpW x y = 0 := by
  unfold lcmpW
  (repeat' split) <;> first | decide | (exfalso; exact h (by assumption))
end Own
def own_g (xs : List Int32) (j : Int32) : Int32 := xs.getD j.toNatClampNeg 0
theorem own_rd {xs : List Int32} {j : Int32} {n : Nat} (hn : xs.length = n) (h0 : 0 ≤ j.toInt) (h1 : j.toInt < n) : ¬ j < 0 ∧ xs[j.toNatClampNeg]? = some (own_g xs j) := by
  have e0 : (0 : Int32).toInt = 0 := rfl
  have q : j.toNatClampNeg < xs.length := by rw [Int32.toNatClampNeg]; omega
  refine ⟨by rw [Int32.lt_iff_toInt_lt, e0]; omega, ?_⟩
  unfold own_g
  rw [List.getD_eq_getElem?_getD, List.getElem?_eq_getElem q]; rfl
theorem own_inc {j : Int32} (d : Int32) (n : Nat) (hd : d.toInt = n) (hn : n ≤ 100) (h0 : 0 ≤ j.toInt) (h1 : j.toInt < 1000) : (j + d).toInt = j.toInt + n := by
  have b := rng32 j
  have q := c_iadd j d
  have b2 := rng32 (j + d)
  rw [hd] at q; omega
theorem own_dec {j : Int32} (d : Int32) (n : Nat) (hd : d.toInt = n) (hn : n ≤ 100) (h0 : 0 ≤ j.toInt) (h1 : j.toInt < 1000) : (j - d).toInt = j.toInt - n := by
  have b := rng32 j
  have q := c_isub j d
  have b2 := rng32 (j - d)
  rw [hd] at q; omega
theorem own_lt {a b : Int32} : a < b ↔ a.toInt < b.toInt := Int32.lt_iff_toInt_lt
theorem own_pos (x : Int32) : 0 ≤ (x &&& (2147483647 : Int32)).toInt := (c_and x 2147483647 (by decide)).1
theorem own_rem (x : Int32) (d : Int32) (n : Nat) (hd : d.toInt = n) (hn : 0 < n) : 0 ≤ ((x &&& (2147483647 : Int32)) % d).toInt ∧ ((x &&& (2147483647 : Int32)) % d).toInt < n := by
  have q := (c_irem (x &&& (2147483647 : Int32)) d n hd).1 (own_pos x)
  have m1 := Int.emod_nonneg (x &&& (2147483647 : Int32)).toInt (b := (n : Int)) (by omega)
  have m2 := Int.emod_lt_of_pos (x &&& (2147483647 : Int32)).toInt (b := (n : Int)) (by omega)
  omega

theorem d_method_2_0 : decode method_2_code 0 = .ok (.iload_n 0, 1) := by decide +kernel
theorem d_method_2_1 : decode method_2_code 1 = .ok (.iconst 2, 1) := by decide +kernel
theorem d_method_2_2 : decode method_2_code 2 = .ok (.iload_n 3, 1) := by decide +kernel
theorem d_method_2_3 : decode method_2_code 3 = .ok (.imul, 1) := by decide +kernel
theorem d_method_2_4 : decode method_2_code 4 = .ok (.iushr, 1) := by decide +kernel
theorem d_method_2_5 : decode method_2_code 5 = .ok (.iconst 3, 1) := by decide +kernel
theorem d_method_2_6 : decode method_2_code 6 = .ok (.iand, 1) := by decide +kernel
theorem d_method_2_7 : decode method_2_code 7 = .ok (.istore 4, 2) := by decide +kernel
theorem d_method_2_9 : decode method_2_code 9 = .ok (.iload 4, 2) := by decide +kernel
theorem d_method_2_11 : decode method_2_code 11 = .ok (.ifCond .ne 6, 3) := by decide +kernel
theorem d_method_2_14 : decode method_2_code 14 = .ok (.bipush 10, 2) := by decide +kernel
theorem d_method_2_16 : decode method_2_code 16 = .ok (.ireturn, 1) := by decide +kernel
theorem d_method_2_17 : decode method_2_code 17 = .ok (.iload 4, 2) := by decide +kernel
theorem d_method_2_19 : decode method_2_code 19 = .ok (.iconst 1, 1) := by decide +kernel
theorem d_method_2_20 : decode method_2_code 20 = .ok (.if_icmp .ne 6, 3) := by decide +kernel
theorem d_method_2_23 : decode method_2_code 23 = .ok (.bipush 13, 2) := by decide +kernel
theorem d_method_2_25 : decode method_2_code 25 = .ok (.ireturn, 1) := by decide +kernel
theorem d_method_2_26 : decode method_2_code 26 = .ok (.lload_n 1, 1) := by decide +kernel
theorem d_method_2_27 : decode method_2_code 27 = .ok (.bipush 8, 2) := by decide +kernel
theorem d_method_2_29 : decode method_2_code 29 = .ok (.iload_n 3, 1) := by decide +kernel
theorem d_method_2_30 : decode method_2_code 30 = .ok (.imul, 1) := by decide +kernel
theorem d_method_2_31 : decode method_2_code 31 = .ok (.lushr, 1) := by decide +kernel
theorem d_method_2_32 : decode method_2_code 32 = .ok (.l2i, 1) := by decide +kernel
theorem d_method_2_33 : decode method_2_code 33 = .ok (.i2b, 1) := by decide +kernel
theorem d_method_2_34 : decode method_2_code 34 = .ok (.ireturn, 1) := by decide +kernel
def f1 (x1 : Int32) (x2 : Int64) (x3 : Int32) : Int32 := if (((x1.toUInt32 >>> (((2 : Int32) * x3) &&& 31).toUInt32).toInt32) &&& (3 : Int32)) = (0 : Int32) then (10 : Int32)
  else if (((x1.toUInt32 >>> (((2 : Int32) * x3) &&& 31).toUInt32).toInt32) &&& (3 : Int32)) = (1 : Int32) then (13 : Int32)
  else (nar .byte ((((x2.toUInt64 >>> (((8 : Int32) * x3) &&& 0x3f).toInt64.toUInt64).toInt64).toInt32).toInt8.toInt32))
theorem pf_g1 : plainFor (⟨"com/example/halfpast/halfpast/api/HttpHeadEndPinLaw", "pick", "(IJI)B"⟩ : MethodName) = true := by first | exact plainFor_of_name (by first | (simp [plainName, overriddenIn]; done) | decide +kernel) | decide +kernel
theorem ef_g1 (m : MethodId) (x1 : Int32) (x2 : Int64) (x3 : Int32) : entryFrame m #[(.int x1), (.long x2), (.int x3)] 5 = (mkF m 0 #[.val (.int x1), .val (.long x2), .second, .val (.int x3), .unset] []) := by first | (simp [entryFrame, mkF, argsToLocals, Value.category]; done) | rfl
set_option maxRecDepth 65536 in
set_option maxHeartbeats 40000000 in
theorem g1 (l : Launch) (Z : State) (a0 : Array Value) (hw : ∀ d ∈ tables_1, d.before a0 Z = true) (n0 : Nat) (its : List (Cell → Prop)) (x1 : Int32) (x2 : Int64) (x3 : Int32)  :
    own_met l Z n0 (⟨"com/example/halfpast/halfpast/api/HttpHeadEndPinLaw", "pick", "(IJI)B"⟩ : MethodName) method_2_code 5 (some .byte) ({ frames := 0, cells := 0, slots := 0, locals := 0 } : Room) #[(.int x1), (.long x2), (.int x3)] its (fun v its' => v = some (.int (f1 x1 x2 x3)) ∧ its' = its) := by
  refine own_met.of pf_g1 ?_
  intro p e s m below meth c T0 hx hby hml hret hlk hZ hown hnm A0
  replace hown : s.vm.findClass "com/example/halfpast/halfpast/api/HttpHeadEndPinLaw" = some m.cls := hown
  replace hml : c.maxLocals = 5 := hml
  rw [ef_g1 m x1 x2 x3]
  show own_go _ _ _ _ _ _ _ (T0.setTop (mkF m 0 #[.val (.int x1), .val (.long x2), .second, .val (.int x3), .unset] []))
  refine own_by (u' := T0.setTop (mkF m 1 #[.val (.int x1), .val (.long x2), .second, .val (.int x3), .unset] [(.int x1)])) (fun _ k => XS.iloadN A0.here hx rfl (own_db hby d_method_2_0) rfl k) ?_
  refine own_by (u' := T0.setTop (mkF m 2 #[.val (.int x1), .val (.long x2), .second, .val (.int x3), .unset] [(.int (2 : Int32)), (.int x1)])) (fun _ k => XS.iconst A0.here hx rfl (own_db hby d_method_2_1) k) ?_
  refine own_by (u' := T0.setTop (mkF m 3 #[.val (.int x1), .val (.long x2), .second, .val (.int x3), .unset] [(.int x3), (.int (2 : Int32)), (.int x1)])) (fun _ k => XS.iloadN A0.here hx rfl (own_db hby d_method_2_2) rfl k) ?_
  refine own_by (u' := T0.setTop (mkF m 4 #[.val (.int x1), .val (.long x2), .second, .val (.int x3), .unset] [(.int ((2 : Int32) * x3)), (.int x1)])) (fun _ k => XS.imul A0.here hx rfl (own_db hby d_method_2_3) rfl k) ?_
  refine own_by (u' := T0.setTop (mkF m 5 #[.val (.int x1), .val (.long x2), .second, .val (.int x3), .unset] [(.int ((x1.toUInt32 >>> (((2 : Int32) * x3) &&& 31).toUInt32).toInt32))])) (fun _ k => XS.iushr A0.here hx rfl (own_db hby d_method_2_4) rfl k) ?_
  refine own_by (u' := T0.setTop (mkF m 6 #[.val (.int x1), .val (.long x2), .second, .val (.int x3), .unset] [(.int (3 : Int32)), (.int ((x1.toUInt32 >>> (((2 : Int32) * x3) &&& 31).toUInt32).toInt32))])) (fun _ k => XS.iconst A0.here hx rfl (own_db hby d_method_2_5) k) ?_
  refine own_by (u' := T0.setTop (mkF m 7 #[.val (.int x1), .val (.long x2), .second, .val (.int x3), .unset] [(.int (((x1.toUInt32 >>> (((2 : Int32) * x3) &&& 31).toUInt32).toInt32) &&& (3 : Int32)))])) (fun _ k => XS.iand A0.here hx rfl (own_db hby d_method_2_6) rfl k) ?_
  refine own_by (u' := T0.setTop (mkF m 9 #[.val (.int x1), .val (.long x2), .second, .val (.int x3), .val (.int (((x1.toUInt32 >>> (((2 : Int32) * x3) &&& 31).toUInt32).toInt32) &&& (3 : Int32)))] [])) (fun _ k => XS.istore A0.here hx rfl (own_db hby d_method_2_7) rfl (l' := #[.val (.int x1), .val (.long x2), .second, .val (.int x3), .val (.int (((x1.toUInt32 >>> (((2 : Int32) * x3) &&& 31).toUInt32).toInt32) &&& (3 : Int32)))]) rfl k) ?_
  refine own_by (u' := T0.setTop (mkF m 11 #[.val (.int x1), .val (.long x2), .second, .val (.int x3), .val (.int (((x1.toUInt32 >>> (((2 : Int32) * x3) &&& 31).toUInt32).toInt32) &&& (3 : Int32)))] [(.int (((x1.toUInt32 >>> (((2 : Int32) * x3) &&& 31).toUInt32).toInt32) &&& (3 : Int32)))])) (fun _ k => XS.iload A0.here hx rfl (own_db hby d_method_2_9) rfl k) ?_
  by_cases hc1 : (((x1.toUInt32 >>> (((2 : Int32) * x3) &&& 31).toUInt32).toInt32) &&& (3 : Int32)) = (0 : Int32)
  · refine own_by (u' := T0.setTop (mkF m 14 #[.val (.int x1), .val (.long x2), .second, .val (.int x3), .val (.int (((x1.toUInt32 >>> (((2 : Int32) * x3) &&& 31).toUInt32).toInt32) &&& (3 : Int32)))] [])) (fun _ k => XS.ifNo A0.here hx rfl (own_db hby d_method_2_11) rfl ((if0 _ _).trans (teq hc1).2) k) ?_
    refine own_by (u' := T0.setTop (mkF m 16 #[.val (.int x1), .val (.long x2), .second, .val (.int x3), .val (.int (((x1.toUInt32 >>> (((2 : Int32) * x3) &&& 31).toUInt32).toInt32) &&& (3 : Int32)))] [(.int (10 : Int32))])) (fun _ k => XS.bipush A0.here hx rfl (own_db hby d_method_2_14) k) ?_
    exact own_retN A0 hx hlk (t := .byte) (by simp) hret (own_db hby d_method_2_16) (by decide) (by decide) ⟨by rw [show f1 x1 x2 x3 = (10 : Int32) from by unfold f1; simp only [if_pos hc1]] <;> rfl, rfl⟩
  · refine own_by (u' := T0.setTop (mkF m 17 #[.val (.int x1), .val (.long x2), .second, .val (.int x3), .val (.int (((x1.toUInt32 >>> (((2 : Int32) * x3) &&& 31).toUInt32).toInt32) &&& (3 : Int32)))] [])) (fun _ k => XS.ifYes A0.here hx rfl (pc0 := 11) (pc' := 17) rfl (own_db hby d_method_2_11) rfl ((if0 _ _).trans (feq hc1).2) (by decide) (by decide) k) ?_
    refine own_by (u' := T0.setTop (mkF m 19 #[.val (.int x1), .val (.long x2), .second, .val (.int x3), .val (.int (((x1.toUInt32 >>> (((2 : Int32) * x3) &&& 31).toUInt32).toInt32) &&& (3 : Int32)))] [(.int (((x1.toUInt32 >>> (((2 : Int32) * x3) &&& 31).toUInt32).toInt32) &&& (3 : Int32)))])) (fun _ k => XS.iload A0.here hx rfl (own_db hby d_method_2_17) rfl k) ?_
    refine own_by (u' := T0.setTop (mkF m 20 #[.val (.int x1), .val (.long x2), .second, .val (.int x3), .val (.int (((x1.toUInt32 >>> (((2 : Int32) * x3) &&& 31).toUInt32).toInt32) &&& (3 : Int32)))] [(.int (1 : Int32)), (.int (((x1.toUInt32 >>> (((2 : Int32) * x3) &&& 31).toUInt32).toInt32) &&& (3 : Int32)))])) (fun _ k => XS.iconst A0.here hx rfl (own_db hby d_method_2_19) k) ?_
    by_cases hc2 : (((x1.toUInt32 >>> (((2 : Int32) * x3) &&& 31).toUInt32).toInt32) &&& (3 : Int32)) = (1 : Int32)
    · refine own_by (u' := T0.setTop (mkF m 23 #[.val (.int x1), .val (.long x2), .second, .val (.int x3), .val (.int (((x1.toUInt32 >>> (((2 : Int32) * x3) &&& 31).toUInt32).toInt32) &&& (3 : Int32)))] [])) (fun _ k => XS.icmpNo A0.here hx rfl (own_db hby d_method_2_20) rfl (teq hc2).2 k) ?_
      refine own_by (u' := T0.setTop (mkF m 25 #[.val (.int x1), .val (.long x2), .second, .val (.int x3), .val (.int (((x1.toUInt32 >>> (((2 : Int32) * x3) &&& 31).toUInt32).toInt32) &&& (3 : Int32)))] [(.int (13 : Int32))])) (fun _ k => XS.bipush A0.here hx rfl (own_db hby d_method_2_23) k) ?_
      exact own_retN A0 hx hlk (t := .byte) (by simp) hret (own_db hby d_method_2_25) (by decide) (by decide) ⟨by rw [show f1 x1 x2 x3 = (13 : Int32) from by unfold f1; simp only [if_neg hc1, if_pos hc2]] <;> rfl, rfl⟩
    · refine own_by (u' := T0.setTop (mkF m 26 #[.val (.int x1), .val (.long x2), .second, .val (.int x3), .val (.int (((x1.toUInt32 >>> (((2 : Int32) * x3) &&& 31).toUInt32).toInt32) &&& (3 : Int32)))] [])) (fun _ k => XS.icmpYes A0.here hx rfl (pc0 := 20) (pc' := 26) rfl (own_db hby d_method_2_20) rfl (feq hc2).2 (by decide) (by decide) k) ?_
      refine own_by (u' := T0.setTop (mkF m 27 #[.val (.int x1), .val (.long x2), .second, .val (.int x3), .val (.int (((x1.toUInt32 >>> (((2 : Int32) * x3) &&& 31).toUInt32).toInt32) &&& (3 : Int32)))] [(.long x2)])) (fun _ k => XS.lloadN A0.here hx rfl (own_db hby d_method_2_26) rfl k) ?_
      refine own_by (u' := T0.setTop (mkF m 29 #[.val (.int x1), .val (.long x2), .second, .val (.int x3), .val (.int (((x1.toUInt32 >>> (((2 : Int32) * x3) &&& 31).toUInt32).toInt32) &&& (3 : Int32)))] [(.int (8 : Int32)), (.long x2)])) (fun _ k => XS.bipush A0.here hx rfl (own_db hby d_method_2_27) k) ?_
      refine own_by (u' := T0.setTop (mkF m 30 #[.val (.int x1), .val (.long x2), .second, .val (.int x3), .val (.int (((x1.toUInt32 >>> (((2 : Int32) * x3) &&& 31).toUInt32).toInt32) &&& (3 : Int32)))] [(.int x3), (.int (8 : Int32)), (.long x2)])) (fun _ k => XS.iloadN A0.here hx rfl (own_db hby d_method_2_29) rfl k) ?_
      refine own_by (u' := T0.setTop (mkF m 31 #[.val (.int x1), .val (.long x2), .second, .val (.int x3), .val (.int (((x1.toUInt32 >>> (((2 : Int32) * x3) &&& 31).toUInt32).toInt32) &&& (3 : Int32)))] [(.int ((8 : Int32) * x3)), (.long x2)])) (fun _ k => XS.imul A0.here hx rfl (own_db hby d_method_2_30) rfl k) ?_
      refine own_by (u' := T0.setTop (mkF m 32 #[.val (.int x1), .val (.long x2), .second, .val (.int x3), .val (.int (((x1.toUInt32 >>> (((2 : Int32) * x3) &&& 31).toUInt32).toInt32) &&& (3 : Int32)))] [(.long ((x2.toUInt64 >>> (((8 : Int32) * x3) &&& 0x3f).toInt64.toUInt64).toInt64))])) (fun _ k => XS.lushr A0.here hx rfl (own_db hby d_method_2_31) rfl k) ?_
      refine own_by (u' := T0.setTop (mkF m 33 #[.val (.int x1), .val (.long x2), .second, .val (.int x3), .val (.int (((x1.toUInt32 >>> (((2 : Int32) * x3) &&& 31).toUInt32).toInt32) &&& (3 : Int32)))] [(.int (((x2.toUInt64 >>> (((8 : Int32) * x3) &&& 0x3f).toInt64.toUInt64).toInt64).toInt32))])) (fun _ k => XS.l2i A0.here hx rfl (own_db hby d_method_2_32) rfl k) ?_
      refine own_by (u' := T0.setTop (mkF m 34 #[.val (.int x1), .val (.long x2), .second, .val (.int x3), .val (.int (((x1.toUInt32 >>> (((2 : Int32) * x3) &&& 31).toUInt32).toInt32) &&& (3 : Int32)))] [(.int ((((x2.toUInt64 >>> (((8 : Int32) * x3) &&& 0x3f).toInt64.toUInt64).toInt64).toInt32).toInt8.toInt32))])) (fun _ k => XS.i2b A0.here hx rfl (own_db hby d_method_2_33) rfl k) ?_
      exact own_retN A0 hx hlk (t := .byte) (by simp) hret (own_db hby d_method_2_34) (by decide) (by decide) ⟨by rw [show f1 x1 x2 x3 = (nar .byte ((((x2.toUInt64 >>> (((8 : Int32) * x3) &&& 0x3f).toInt64.toUInt64).toInt64).toInt32).toInt8.toInt32)) from by unfold f1; simp only [if_neg hc1, if_neg hc2]] <;> rfl, rfl⟩
theorem own_rdd {xs : List Int32} {ee : Int32} (h6 : xs.length = 6) (d : Int32) (n : Nat) (hd : d.toInt = n) (hn : n ≤ 3) (h0 : n ≤ ee.toInt) (h1 : 0 < n) (h2 : ee.toInt ≤ 6) : ¬ (ee - d) < 0 ∧ xs[(ee - d).toNatClampNeg]? = some (own_g xs (ee - d)) := by
  have q := own_dec (j := ee) d n hd (by omega) (by omega) (by omega)
  exact own_rd h6 (by omega) (by omega)
theorem own_rd3 {xs : List Int32} {ee fm : Int32} (h6 : xs.length = 6) (he : 2 ≤ ee.toInt ∧ ee.toInt ≤ 6) (hf : 0 ≤ fm.toInt) (h : ¬ (ee - (3 : Int32)) < fm) : ¬ (ee - (3 : Int32)) < 0 ∧ xs[(ee - (3 : Int32)).toNatClampNeg]? = some (own_g xs (ee - (3 : Int32))) := by
  have q := own_dec (j := ee) 3 3 rfl (by omega) (by omega) (by omega)
  rw [own_lt] at h
  exact own_rd h6 (by omega) (by omega)
theorem d_method_3_0 : decode method_3_code 0 = .ok (.iload_n 1, 1) := by decide +kernel
theorem d_method_3_1 : decode method_3_code 1 = .ok (.iload_n 3, 1) := by decide +kernel
theorem d_method_3_2 : decode method_3_code 2 = .ok (.if_icmp .gt 13, 3) := by decide +kernel
theorem d_method_3_15 : decode method_3_code 15 = .ok (.iconst 0, 1) := by decide +kernel
theorem d_method_3_16 : decode method_3_code 16 = .ok (.ireturn, 1) := by decide +kernel
theorem d_method_3_5 : decode method_3_code 5 = .ok (.aload_n 0, 1) := by decide +kernel
theorem d_method_3_6 : decode method_3_code 6 = .ok (.iload_n 1, 1) := by decide +kernel
theorem d_method_3_7 : decode method_3_code 7 = .ok (.iconst 1, 1) := by decide +kernel
theorem d_method_3_8 : decode method_3_code 8 = .ok (.isub, 1) := by decide +kernel
theorem d_method_3_9 : decode method_3_code 9 = .ok (.baload, 1) := by decide +kernel
theorem d_method_3_10 : decode method_3_code 10 = .ok (.bipush 10, 2) := by decide +kernel
theorem d_method_3_12 : decode method_3_code 12 = .ok (.if_icmp .eq 5, 3) := by decide +kernel
theorem d_method_3_17 : decode method_3_code 17 = .ok (.iload_n 1, 1) := by decide +kernel
theorem d_method_3_18 : decode method_3_code 18 = .ok (.iconst 2, 1) := by decide +kernel
theorem d_method_3_19 : decode method_3_code 19 = .ok (.isub, 1) := by decide +kernel
theorem d_method_3_20 : decode method_3_code 20 = .ok (.iload_n 2, 1) := by decide +kernel
theorem d_method_3_21 : decode method_3_code 21 = .ok (.if_icmp .lt 15, 3) := by decide +kernel
theorem d_method_3_36 : decode method_3_code 36 = .ok (.iload_n 1, 1) := by decide +kernel
theorem d_method_3_37 : decode method_3_code 37 = .ok (.iconst 3, 1) := by decide +kernel
theorem d_method_3_38 : decode method_3_code 38 = .ok (.isub, 1) := by decide +kernel
theorem d_method_3_39 : decode method_3_code 39 = .ok (.iload_n 2, 1) := by decide +kernel
theorem d_method_3_40 : decode method_3_code 40 = .ok (.if_icmp .lt 27, 3) := by decide +kernel
theorem d_method_3_67 : decode method_3_code 67 = .ok (.iconst 0, 1) := by decide +kernel
theorem d_method_3_68 : decode method_3_code 68 = .ok (.ireturn, 1) := by decide +kernel
theorem d_method_3_43 : decode method_3_code 43 = .ok (.aload_n 0, 1) := by decide +kernel
theorem d_method_3_44 : decode method_3_code 44 = .ok (.iload_n 1, 1) := by decide +kernel
theorem d_method_3_45 : decode method_3_code 45 = .ok (.iconst 2, 1) := by decide +kernel
theorem d_method_3_46 : decode method_3_code 46 = .ok (.isub, 1) := by decide +kernel
theorem d_method_3_47 : decode method_3_code 47 = .ok (.baload, 1) := by decide +kernel
theorem d_method_3_48 : decode method_3_code 48 = .ok (.bipush 13, 2) := by decide +kernel
theorem d_method_3_50 : decode method_3_code 50 = .ok (.if_icmp .ne 17, 3) := by decide +kernel
theorem d_method_3_53 : decode method_3_code 53 = .ok (.aload_n 0, 1) := by decide +kernel
theorem d_method_3_54 : decode method_3_code 54 = .ok (.iload_n 1, 1) := by decide +kernel
theorem d_method_3_55 : decode method_3_code 55 = .ok (.iconst 3, 1) := by decide +kernel
theorem d_method_3_56 : decode method_3_code 56 = .ok (.isub, 1) := by decide +kernel
theorem d_method_3_57 : decode method_3_code 57 = .ok (.baload, 1) := by decide +kernel
theorem d_method_3_58 : decode method_3_code 58 = .ok (.bipush 10, 2) := by decide +kernel
theorem d_method_3_60 : decode method_3_code 60 = .ok (.if_icmp .ne 7, 3) := by decide +kernel
theorem d_method_3_63 : decode method_3_code 63 = .ok (.iconst 1, 1) := by decide +kernel
theorem d_method_3_64 : decode method_3_code 64 = .ok (.goto 4, 3) := by decide +kernel
theorem d_method_3_24 : decode method_3_code 24 = .ok (.aload_n 0, 1) := by decide +kernel
theorem d_method_3_25 : decode method_3_code 25 = .ok (.iload_n 1, 1) := by decide +kernel
theorem d_method_3_26 : decode method_3_code 26 = .ok (.iconst 2, 1) := by decide +kernel
theorem d_method_3_27 : decode method_3_code 27 = .ok (.isub, 1) := by decide +kernel
theorem d_method_3_28 : decode method_3_code 28 = .ok (.baload, 1) := by decide +kernel
theorem d_method_3_29 : decode method_3_code 29 = .ok (.bipush 10, 2) := by decide +kernel
theorem d_method_3_31 : decode method_3_code 31 = .ok (.if_icmp .ne 5, 3) := by decide +kernel
theorem d_method_3_34 : decode method_3_code 34 = .ok (.iconst 1, 1) := by decide +kernel
theorem d_method_3_35 : decode method_3_code 35 = .ok (.ireturn, 1) := by decide +kernel
def f2 (xs : List Int32) (ee : Int32) (fm : Int32) (to : Int32) : Int32 := if to < ee then (0 : Int32)
  else if (own_g xs (ee - (1 : Int32))) = (10 : Int32) then (if (ee - (2 : Int32)) < fm then (if (ee - (3 : Int32)) < fm then (0 : Int32)
      else if (own_g xs (ee - (2 : Int32))) = (13 : Int32) then (if (own_g xs (ee - (3 : Int32))) = (10 : Int32) then (1 : Int32)
        else (0 : Int32))
      else (0 : Int32))
    else if (own_g xs (ee - (2 : Int32))) = (10 : Int32) then (1 : Int32)
    else if (ee - (3 : Int32)) < fm then (0 : Int32)
    else if (own_g xs (ee - (2 : Int32))) = (13 : Int32) then (if (own_g xs (ee - (3 : Int32))) = (10 : Int32) then (1 : Int32)
      else (0 : Int32))
    else (0 : Int32))
  else (0 : Int32)
theorem pf_g2 : plainFor (⟨"com/example/halfpast/halfpast/api/HttpHeadEndPinLaw", "endsAt", "([BIII)Z"⟩ : MethodName) = true := by first | exact plainFor_of_name (by first | (simp [plainName, overriddenIn]; done) | decide +kernel) | decide +kernel
theorem ef_g2 (m : MethodId) (n0 : Nat) (ee : Int32) (fm : Int32) (to : Int32) : entryFrame m #[(.ref (n0 + 0)), (.int ee), (.int fm), (.int to)] 4 = (mkF m 0 #[.val (.ref (n0 + 0)), .val (.int ee), .val (.int fm), .val (.int to)] []) := by first | (simp [entryFrame, mkF, argsToLocals, Value.category]; done) | rfl
set_option maxRecDepth 65536 in
set_option maxHeartbeats 40000000 in
theorem g2 (l : Launch) (Z : State) (a0 : Array Value) (hw : ∀ d ∈ tables_1, d.before a0 Z = true) (n0 : Nat) (xs : List Int32) (ee : Int32) (fm : Int32) (to : Int32) (h6 : xs.length = 6) (he : 2 ≤ ee.toInt ∧ ee.toInt ≤ 6) (hf : 0 ≤ fm.toInt) :
    own_met l Z n0 (⟨"com/example/halfpast/halfpast/api/HttpHeadEndPinLaw", "endsAt", "([BIII)Z"⟩ : MethodName) method_3_code 4 (some .boolean) ({ frames := 0, cells := 0, slots := 0, locals := 0 } : Room) #[(.ref (n0 + 0)), (.int ee), (.int fm), (.int to)] [(own_ia Z .byte xs)] (fun v its' => v = some (.int (f2 xs ee fm to)) ∧ its' = [(own_ia Z .byte xs)]) := by
  refine own_met.of pf_g2 ?_
  intro p e s m below meth c T0 hx hby hml hret hlk hZ hown hnm A0
  replace hown : s.vm.findClass "com/example/halfpast/halfpast/api/HttpHeadEndPinLaw" = some m.cls := hown
  replace hml : c.maxLocals = 4 := hml
  rw [ef_g2 m n0 ee fm to]
  show own_go _ _ _ _ _ _ _ (T0.setTop (mkF m 0 #[.val (.ref (n0 + 0)), .val (.int ee), .val (.int fm), .val (.int to)] []))
  refine own_by (u' := T0.setTop (mkF m 1 #[.val (.ref (n0 + 0)), .val (.int ee), .val (.int fm), .val (.int to)] [(.int ee)])) (fun _ k => XS.iloadN A0.here hx rfl (own_db hby d_method_3_0) rfl k) ?_
  refine own_by (u' := T0.setTop (mkF m 2 #[.val (.ref (n0 + 0)), .val (.int ee), .val (.int fm), .val (.int to)] [(.int to), (.int ee)])) (fun _ k => XS.iloadN A0.here hx rfl (own_db hby d_method_3_1) rfl k) ?_
  by_cases hc1 : to < ee
  · refine own_by (u' := T0.setTop (mkF m 15 #[.val (.ref (n0 + 0)), .val (.int ee), .val (.int fm), .val (.int to)] [])) (fun _ k => XS.icmpYes A0.here hx rfl (pc0 := 2) (pc' := 15) rfl (own_db hby d_method_3_2) rfl (tlt hc1).2.2.1 (by decide) (by decide) k) ?_
    refine own_by (u' := T0.setTop (mkF m 16 #[.val (.ref (n0 + 0)), .val (.int ee), .val (.int fm), .val (.int to)] [(.int (0 : Int32))])) (fun _ k => XS.iconst A0.here hx rfl (own_db hby d_method_3_15) k) ?_
    exact own_retN A0 hx hlk (t := .boolean) (by simp) hret (own_db hby d_method_3_16) (by decide) (by decide) ⟨by rw [show f2 xs ee fm to = (0 : Int32) from by unfold f2; simp only [if_pos hc1]] <;> rfl, rfl⟩
  · refine own_by (u' := T0.setTop (mkF m 5 #[.val (.ref (n0 + 0)), .val (.int ee), .val (.int fm), .val (.int to)] [])) (fun _ k => XS.icmpNo A0.here hx rfl (own_db hby d_method_3_2) rfl (flt hc1).2.2.1 k) ?_
    refine own_by (u' := T0.setTop (mkF m 6 #[.val (.ref (n0 + 0)), .val (.int ee), .val (.int fm), .val (.int to)] [(.ref (n0 + 0))])) (fun _ k => XS.aloadN A0.here hx rfl (own_db hby d_method_3_5) rfl rfl k) ?_
    refine own_by (u' := T0.setTop (mkF m 7 #[.val (.ref (n0 + 0)), .val (.int ee), .val (.int fm), .val (.int to)] [(.int ee), (.ref (n0 + 0))])) (fun _ k => XS.iloadN A0.here hx rfl (own_db hby d_method_3_6) rfl k) ?_
    refine own_by (u' := T0.setTop (mkF m 8 #[.val (.ref (n0 + 0)), .val (.int ee), .val (.int fm), .val (.int to)] [(.int (1 : Int32)), (.int ee), (.ref (n0 + 0))])) (fun _ k => XS.iconst A0.here hx rfl (own_db hby d_method_3_7) k) ?_
    refine own_by (u' := T0.setTop (mkF m 9 #[.val (.ref (n0 + 0)), .val (.int ee), .val (.int fm), .val (.int to)] [(.int (ee - (1 : Int32))), (.ref (n0 + 0))])) (fun _ k => XS.isub A0.here hx rfl (own_db hby d_method_3_8) rfl k) ?_
    refine own_baload A0 hx hZ (i := 0) rfl (x := (own_g xs (ee - (1 : Int32)))) (own_rdd h6 1 1 rfl (by omega) (by omega) (by omega) he.2) (own_db hby d_method_3_9) ?_
    show own_go _ _ _ _ _ _ _ (T0.setTop (mkF m 10 #[.val (.ref (n0 + 0)), .val (.int ee), .val (.int fm), .val (.int to)] [(.int (own_g xs (ee - (1 : Int32))))]))
    refine own_by (u' := T0.setTop (mkF m 12 #[.val (.ref (n0 + 0)), .val (.int ee), .val (.int fm), .val (.int to)] [(.int (10 : Int32)), (.int (own_g xs (ee - (1 : Int32))))])) (fun _ k => XS.bipush A0.here hx rfl (own_db hby d_method_3_10) k) ?_
    by_cases hc2 : (own_g xs (ee - (1 : Int32))) = (10 : Int32)
    · refine own_by (u' := T0.setTop (mkF m 17 #[.val (.ref (n0 + 0)), .val (.int ee), .val (.int fm), .val (.int to)] [])) (fun _ k => XS.icmpYes A0.here hx rfl (pc0 := 12) (pc' := 17) rfl (own_db hby d_method_3_12) rfl (teq hc2).1 (by decide) (by decide) k) ?_
      refine own_by (u' := T0.setTop (mkF m 18 #[.val (.ref (n0 + 0)), .val (.int ee), .val (.int fm), .val (.int to)] [(.int ee)])) (fun _ k => XS.iloadN A0.here hx rfl (own_db hby d_method_3_17) rfl k) ?_
      refine own_by (u' := T0.setTop (mkF m 19 #[.val (.ref (n0 + 0)), .val (.int ee), .val (.int fm), .val (.int to)] [(.int (2 : Int32)), (.int ee)])) (fun _ k => XS.iconst A0.here hx rfl (own_db hby d_method_3_18) k) ?_
      refine own_by (u' := T0.setTop (mkF m 20 #[.val (.ref (n0 + 0)), .val (.int ee), .val (.int fm), .val (.int to)] [(.int (ee - (2 : Int32)))])) (fun _ k => XS.isub A0.here hx rfl (own_db hby d_method_3_19) rfl k) ?_
      refine own_by (u' := T0.setTop (mkF m 21 #[.val (.ref (n0 + 0)), .val (.int ee), .val (.int fm), .val (.int to)] [(.int fm), (.int (ee - (2 : Int32)))])) (fun _ k => XS.iloadN A0.here hx rfl (own_db hby d_method_3_20) rfl k) ?_
      by_cases hc3 : (ee - (2 : Int32)) < fm
      · refine own_by (u' := T0.setTop (mkF m 36 #[.val (.ref (n0 + 0)), .val (.int ee), .val (.int fm), .val (.int to)] [])) (fun _ k => XS.icmpYes A0.here hx rfl (pc0 := 21) (pc' := 36) rfl (own_db hby d_method_3_21) rfl (tlt hc3).1 (by decide) (by decide) k) ?_
        refine own_by (u' := T0.setTop (mkF m 37 #[.val (.ref (n0 + 0)), .val (.int ee), .val (.int fm), .val (.int to)] [(.int ee)])) (fun _ k => XS.iloadN A0.here hx rfl (own_db hby d_method_3_36) rfl k) ?_
        refine own_by (u' := T0.setTop (mkF m 38 #[.val (.ref (n0 + 0)), .val (.int ee), .val (.int fm), .val (.int to)] [(.int (3 : Int32)), (.int ee)])) (fun _ k => XS.iconst A0.here hx rfl (own_db hby d_method_3_37) k) ?_
        refine own_by (u' := T0.setTop (mkF m 39 #[.val (.ref (n0 + 0)), .val (.int ee), .val (.int fm), .val (.int to)] [(.int (ee - (3 : Int32)))])) (fun _ k => XS.isub A0.here hx rfl (own_db hby d_method_3_38) rfl k) ?_
        refine own_by (u' := T0.setTop (mkF m 40 #[.val (.ref (n0 + 0)), .val (.int ee), .val (.int fm), .val (.int to)] [(.int fm), (.int (ee - (3 : Int32)))])) (fun _ k => XS.iloadN A0.here hx rfl (own_db hby d_method_3_39) rfl k) ?_
        by_cases hc4 : (ee - (3 : Int32)) < fm
        · refine own_by (u' := T0.setTop (mkF m 67 #[.val (.ref (n0 + 0)), .val (.int ee), .val (.int fm), .val (.int to)] [])) (fun _ k => XS.icmpYes A0.here hx rfl (pc0 := 40) (pc' := 67) rfl (own_db hby d_method_3_40) rfl (tlt hc4).1 (by decide) (by decide) k) ?_
          refine own_by (u' := T0.setTop (mkF m 68 #[.val (.ref (n0 + 0)), .val (.int ee), .val (.int fm), .val (.int to)] [(.int (0 : Int32))])) (fun _ k => XS.iconst A0.here hx rfl (own_db hby d_method_3_67) k) ?_
          exact own_retN A0 hx hlk (t := .boolean) (by simp) hret (own_db hby d_method_3_68) (by decide) (by decide) ⟨by rw [show f2 xs ee fm to = (0 : Int32) from by unfold f2; simp only [if_neg hc1, if_pos hc2, if_pos hc3, if_pos hc4]] <;> rfl, rfl⟩
        · refine own_by (u' := T0.setTop (mkF m 43 #[.val (.ref (n0 + 0)), .val (.int ee), .val (.int fm), .val (.int to)] [])) (fun _ k => XS.icmpNo A0.here hx rfl (own_db hby d_method_3_40) rfl (flt hc4).1 k) ?_
          refine own_by (u' := T0.setTop (mkF m 44 #[.val (.ref (n0 + 0)), .val (.int ee), .val (.int fm), .val (.int to)] [(.ref (n0 + 0))])) (fun _ k => XS.aloadN A0.here hx rfl (own_db hby d_method_3_43) rfl rfl k) ?_
          refine own_by (u' := T0.setTop (mkF m 45 #[.val (.ref (n0 + 0)), .val (.int ee), .val (.int fm), .val (.int to)] [(.int ee), (.ref (n0 + 0))])) (fun _ k => XS.iloadN A0.here hx rfl (own_db hby d_method_3_44) rfl k) ?_
          refine own_by (u' := T0.setTop (mkF m 46 #[.val (.ref (n0 + 0)), .val (.int ee), .val (.int fm), .val (.int to)] [(.int (2 : Int32)), (.int ee), (.ref (n0 + 0))])) (fun _ k => XS.iconst A0.here hx rfl (own_db hby d_method_3_45) k) ?_
          refine own_by (u' := T0.setTop (mkF m 47 #[.val (.ref (n0 + 0)), .val (.int ee), .val (.int fm), .val (.int to)] [(.int (ee - (2 : Int32))), (.ref (n0 + 0))])) (fun _ k => XS.isub A0.here hx rfl (own_db hby d_method_3_46) rfl k) ?_
          refine own_baload A0 hx hZ (i := 0) rfl (x := (own_g xs (ee - (2 : Int32)))) (own_rdd h6 2 2 rfl (by omega) (by omega) (by omega) he.2) (own_db hby d_method_3_47) ?_
          show own_go _ _ _ _ _ _ _ (T0.setTop (mkF m 48 #[.val (.ref (n0 + 0)), .val (.int ee), .val (.int fm), .val (.int to)] [(.int (own_g xs (ee - (2 : Int32))))]))
          refine own_by (u' := T0.setTop (mkF m 50 #[.val (.ref (n0 + 0)), .val (.int ee), .val (.int fm), .val (.int to)] [(.int (13 : Int32)), (.int (own_g xs (ee - (2 : Int32))))])) (fun _ k => XS.bipush A0.here hx rfl (own_db hby d_method_3_48) k) ?_
          by_cases hc5 : (own_g xs (ee - (2 : Int32))) = (13 : Int32)
          · refine own_by (u' := T0.setTop (mkF m 53 #[.val (.ref (n0 + 0)), .val (.int ee), .val (.int fm), .val (.int to)] [])) (fun _ k => XS.icmpNo A0.here hx rfl (own_db hby d_method_3_50) rfl (teq hc5).2 k) ?_
            refine own_by (u' := T0.setTop (mkF m 54 #[.val (.ref (n0 + 0)), .val (.int ee), .val (.int fm), .val (.int to)] [(.ref (n0 + 0))])) (fun _ k => XS.aloadN A0.here hx rfl (own_db hby d_method_3_53) rfl rfl k) ?_
            refine own_by (u' := T0.setTop (mkF m 55 #[.val (.ref (n0 + 0)), .val (.int ee), .val (.int fm), .val (.int to)] [(.int ee), (.ref (n0 + 0))])) (fun _ k => XS.iloadN A0.here hx rfl (own_db hby d_method_3_54) rfl k) ?_
            refine own_by (u' := T0.setTop (mkF m 56 #[.val (.ref (n0 + 0)), .val (.int ee), .val (.int fm), .val (.int to)] [(.int (3 : Int32)), (.int ee), (.ref (n0 + 0))])) (fun _ k => XS.iconst A0.here hx rfl (own_db hby d_method_3_55) k) ?_
            refine own_by (u' := T0.setTop (mkF m 57 #[.val (.ref (n0 + 0)), .val (.int ee), .val (.int fm), .val (.int to)] [(.int (ee - (3 : Int32))), (.ref (n0 + 0))])) (fun _ k => XS.isub A0.here hx rfl (own_db hby d_method_3_56) rfl k) ?_
            refine own_baload A0 hx hZ (i := 0) rfl (x := (own_g xs (ee - (3 : Int32)))) (own_rd3 h6 he hf hc4) (own_db hby d_method_3_57) ?_
            show own_go _ _ _ _ _ _ _ (T0.setTop (mkF m 58 #[.val (.ref (n0 + 0)), .val (.int ee), .val (.int fm), .val (.int to)] [(.int (own_g xs (ee - (3 : Int32))))]))
            refine own_by (u' := T0.setTop (mkF m 60 #[.val (.ref (n0 + 0)), .val (.int ee), .val (.int fm), .val (.int to)] [(.int (10 : Int32)), (.int (own_g xs (ee - (3 : Int32))))])) (fun _ k => XS.bipush A0.here hx rfl (own_db hby d_method_3_58) k) ?_
            by_cases hc6 : (own_g xs (ee - (3 : Int32))) = (10 : Int32)
            · refine own_by (u' := T0.setTop (mkF m 63 #[.val (.ref (n0 + 0)), .val (.int ee), .val (.int fm), .val (.int to)] [])) (fun _ k => XS.icmpNo A0.here hx rfl (own_db hby d_method_3_60) rfl (teq hc6).2 k) ?_
              refine own_by (u' := T0.setTop (mkF m 64 #[.val (.ref (n0 + 0)), .val (.int ee), .val (.int fm), .val (.int to)] [(.int (1 : Int32))])) (fun _ k => XS.iconst A0.here hx rfl (own_db hby d_method_3_63) k) ?_
              refine own_by (u' := T0.setTop (mkF m 68 #[.val (.ref (n0 + 0)), .val (.int ee), .val (.int fm), .val (.int to)] [(.int (1 : Int32))])) (fun _ k => XS.goto A0.here hx rfl (pc0 := 64) (pc' := 68) rfl (own_db hby d_method_3_64) (by decide) (by decide) k) ?_
              exact own_retN A0 hx hlk (t := .boolean) (by simp) hret (own_db hby d_method_3_68) (by decide) (by decide) ⟨by rw [show f2 xs ee fm to = (1 : Int32) from by unfold f2; simp only [if_neg hc1, if_pos hc2, if_pos hc3, if_neg hc4, if_pos hc5, if_pos hc6]] <;> rfl, rfl⟩
            · refine own_by (u' := T0.setTop (mkF m 67 #[.val (.ref (n0 + 0)), .val (.int ee), .val (.int fm), .val (.int to)] [])) (fun _ k => XS.icmpYes A0.here hx rfl (pc0 := 60) (pc' := 67) rfl (own_db hby d_method_3_60) rfl (feq hc6).2 (by decide) (by decide) k) ?_
              refine own_by (u' := T0.setTop (mkF m 68 #[.val (.ref (n0 + 0)), .val (.int ee), .val (.int fm), .val (.int to)] [(.int (0 : Int32))])) (fun _ k => XS.iconst A0.here hx rfl (own_db hby d_method_3_67) k) ?_
              exact own_retN A0 hx hlk (t := .boolean) (by simp) hret (own_db hby d_method_3_68) (by decide) (by decide) ⟨by rw [show f2 xs ee fm to = (0 : Int32) from by unfold f2; simp only [if_neg hc1, if_pos hc2, if_pos hc3, if_neg hc4, if_pos hc5, if_neg hc6]] <;> rfl, rfl⟩
          · refine own_by (u' := T0.setTop (mkF m 67 #[.val (.ref (n0 + 0)), .val (.int ee), .val (.int fm), .val (.int to)] [])) (fun _ k => XS.icmpYes A0.here hx rfl (pc0 := 50) (pc' := 67) rfl (own_db hby d_method_3_50) rfl (feq hc5).2 (by decide) (by decide) k) ?_
            refine own_by (u' := T0.setTop (mkF m 68 #[.val (.ref (n0 + 0)), .val (.int ee), .val (.int fm), .val (.int to)] [(.int (0 : Int32))])) (fun _ k => XS.iconst A0.here hx rfl (own_db hby d_method_3_67) k) ?_
            exact own_retN A0 hx hlk (t := .boolean) (by simp) hret (own_db hby d_method_3_68) (by decide) (by decide) ⟨by rw [show f2 xs ee fm to = (0 : Int32) from by unfold f2; simp only [if_neg hc1, if_pos hc2, if_pos hc3, if_neg hc4, if_neg hc5]] <;> rfl, rfl⟩
      · refine own_by (u' := T0.setTop (mkF m 24 #[.val (.ref (n0 + 0)), .val (.int ee), .val (.int fm), .val (.int to)] [])) (fun _ k => XS.icmpNo A0.here hx rfl (own_db hby d_method_3_21) rfl (flt hc3).1 k) ?_
        refine own_by (u' := T0.setTop (mkF m 25 #[.val (.ref (n0 + 0)), .val (.int ee), .val (.int fm), .val (.int to)] [(.ref (n0 + 0))])) (fun _ k => XS.aloadN A0.here hx rfl (own_db hby d_method_3_24) rfl rfl k) ?_
        refine own_by (u' := T0.setTop (mkF m 26 #[.val (.ref (n0 + 0)), .val (.int ee), .val (.int fm), .val (.int to)] [(.int ee), (.ref (n0 + 0))])) (fun _ k => XS.iloadN A0.here hx rfl (own_db hby d_method_3_25) rfl k) ?_
        refine own_by (u' := T0.setTop (mkF m 27 #[.val (.ref (n0 + 0)), .val (.int ee), .val (.int fm), .val (.int to)] [(.int (2 : Int32)), (.int ee), (.ref (n0 + 0))])) (fun _ k => XS.iconst A0.here hx rfl (own_db hby d_method_3_26) k) ?_
        refine own_by (u' := T0.setTop (mkF m 28 #[.val (.ref (n0 + 0)), .val (.int ee), .val (.int fm), .val (.int to)] [(.int (ee - (2 : Int32))), (.ref (n0 + 0))])) (fun _ k => XS.isub A0.here hx rfl (own_db hby d_method_3_27) rfl k) ?_
        refine own_baload A0 hx hZ (i := 0) rfl (x := (own_g xs (ee - (2 : Int32)))) (own_rdd h6 2 2 rfl (by omega) (by omega) (by omega) he.2) (own_db hby d_method_3_28) ?_
        show own_go _ _ _ _ _ _ _ (T0.setTop (mkF m 29 #[.val (.ref (n0 + 0)), .val (.int ee), .val (.int fm), .val (.int to)] [(.int (own_g xs (ee - (2 : Int32))))]))
        refine own_by (u' := T0.setTop (mkF m 31 #[.val (.ref (n0 + 0)), .val (.int ee), .val (.int fm), .val (.int to)] [(.int (10 : Int32)), (.int (own_g xs (ee - (2 : Int32))))])) (fun _ k => XS.bipush A0.here hx rfl (own_db hby d_method_3_29) k) ?_
        by_cases hc7 : (own_g xs (ee - (2 : Int32))) = (10 : Int32)
        · refine own_by (u' := T0.setTop (mkF m 34 #[.val (.ref (n0 + 0)), .val (.int ee), .val (.int fm), .val (.int to)] [])) (fun _ k => XS.icmpNo A0.here hx rfl (own_db hby d_method_3_31) rfl (teq hc7).2 k) ?_
          refine own_by (u' := T0.setTop (mkF m 35 #[.val (.ref (n0 + 0)), .val (.int ee), .val (.int fm), .val (.int to)] [(.int (1 : Int32))])) (fun _ k => XS.iconst A0.here hx rfl (own_db hby d_method_3_34) k) ?_
          exact own_retN A0 hx hlk (t := .boolean) (by simp) hret (own_db hby d_method_3_35) (by decide) (by decide) ⟨by rw [show f2 xs ee fm to = (1 : Int32) from by unfold f2; simp only [if_neg hc1, if_pos hc2, if_neg hc3, if_pos hc7]] <;> rfl, rfl⟩
        · refine own_by (u' := T0.setTop (mkF m 36 #[.val (.ref (n0 + 0)), .val (.int ee), .val (.int fm), .val (.int to)] [])) (fun _ k => XS.icmpYes A0.here hx rfl (pc0 := 31) (pc' := 36) rfl (own_db hby d_method_3_31) rfl (feq hc7).2 (by decide) (by decide) k) ?_
          refine own_by (u' := T0.setTop (mkF m 37 #[.val (.ref (n0 + 0)), .val (.int ee), .val (.int fm), .val (.int to)] [(.int ee)])) (fun _ k => XS.iloadN A0.here hx rfl (own_db hby d_method_3_36) rfl k) ?_
          refine own_by (u' := T0.setTop (mkF m 38 #[.val (.ref (n0 + 0)), .val (.int ee), .val (.int fm), .val (.int to)] [(.int (3 : Int32)), (.int ee)])) (fun _ k => XS.iconst A0.here hx rfl (own_db hby d_method_3_37) k) ?_
          refine own_by (u' := T0.setTop (mkF m 39 #[.val (.ref (n0 + 0)), .val (.int ee), .val (.int fm), .val (.int to)] [(.int (ee - (3 : Int32)))])) (fun _ k => XS.isub A0.here hx rfl (own_db hby d_method_3_38) rfl k) ?_
          refine own_by (u' := T0.setTop (mkF m 40 #[.val (.ref (n0 + 0)), .val (.int ee), .val (.int fm), .val (.int to)] [(.int fm), (.int (ee - (3 : Int32)))])) (fun _ k => XS.iloadN A0.here hx rfl (own_db hby d_method_3_39) rfl k) ?_
          by_cases hc8 : (ee - (3 : Int32)) < fm
          · refine own_by (u' := T0.setTop (mkF m 67 #[.val (.ref (n0 + 0)), .val (.int ee), .val (.int fm), .val (.int to)] [])) (fun _ k => XS.icmpYes A0.here hx rfl (pc0 := 40) (pc' := 67) rfl (own_db hby d_method_3_40) rfl (tlt hc8).1 (by decide) (by decide) k) ?_
            refine own_by (u' := T0.setTop (mkF m 68 #[.val (.ref (n0 + 0)), .val (.int ee), .val (.int fm), .val (.int to)] [(.int (0 : Int32))])) (fun _ k => XS.iconst A0.here hx rfl (own_db hby d_method_3_67) k) ?_
            exact own_retN A0 hx hlk (t := .boolean) (by simp) hret (own_db hby d_method_3_68) (by decide) (by decide) ⟨by rw [show f2 xs ee fm to = (0 : Int32) from by unfold f2; simp only [if_neg hc1, if_pos hc2, if_neg hc3, if_neg hc7, if_pos hc8]] <;> rfl, rfl⟩
          · refine own_by (u' := T0.setTop (mkF m 43 #[.val (.ref (n0 + 0)), .val (.int ee), .val (.int fm), .val (.int to)] [])) (fun _ k => XS.icmpNo A0.here hx rfl (own_db hby d_method_3_40) rfl (flt hc8).1 k) ?_
            refine own_by (u' := T0.setTop (mkF m 44 #[.val (.ref (n0 + 0)), .val (.int ee), .val (.int fm), .val (.int to)] [(.ref (n0 + 0))])) (fun _ k => XS.aloadN A0.here hx rfl (own_db hby d_method_3_43) rfl rfl k) ?_
            refine own_by (u' := T0.setTop (mkF m 45 #[.val (.ref (n0 + 0)), .val (.int ee), .val (.int fm), .val (.int to)] [(.int ee), (.ref (n0 + 0))])) (fun _ k => XS.iloadN A0.here hx rfl (own_db hby d_method_3_44) rfl k) ?_
            refine own_by (u' := T0.setTop (mkF m 46 #[.val (.ref (n0 + 0)), .val (.int ee), .val (.int fm), .val (.int to)] [(.int (2 : Int32)), (.int ee), (.ref (n0 + 0))])) (fun _ k => XS.iconst A0.here hx rfl (own_db hby d_method_3_45) k) ?_
            refine own_by (u' := T0.setTop (mkF m 47 #[.val (.ref (n0 + 0)), .val (.int ee), .val (.int fm), .val (.int to)] [(.int (ee - (2 : Int32))), (.ref (n0 + 0))])) (fun _ k => XS.isub A0.here hx rfl (own_db hby d_method_3_46) rfl k) ?_
            refine own_baload A0 hx hZ (i := 0) rfl (x := (own_g xs (ee - (2 : Int32)))) (own_rdd h6 2 2 rfl (by omega) (by omega) (by omega) he.2) (own_db hby d_method_3_47) ?_
            show own_go _ _ _ _ _ _ _ (T0.setTop (mkF m 48 #[.val (.ref (n0 + 0)), .val (.int ee), .val (.int fm), .val (.int to)] [(.int (own_g xs (ee - (2 : Int32))))]))
            refine own_by (u' := T0.setTop (mkF m 50 #[.val (.ref (n0 + 0)), .val (.int ee), .val (.int fm), .val (.int to)] [(.int (13 : Int32)), (.int (own_g xs (ee - (2 : Int32))))])) (fun _ k => XS.bipush A0.here hx rfl (own_db hby d_method_3_48) k) ?_
            by_cases hc9 : (own_g xs (ee - (2 : Int32))) = (13 : Int32)
            · refine own_by (u' := T0.setTop (mkF m 53 #[.val (.ref (n0 + 0)), .val (.int ee), .val (.int fm), .val (.int to)] [])) (fun _ k => XS.icmpNo A0.here hx rfl (own_db hby d_method_3_50) rfl (teq hc9).2 k) ?_
              refine own_by (u' := T0.setTop (mkF m 54 #[.val (.ref (n0 + 0)), .val (.int ee), .val (.int fm), .val (.int to)] [(.ref (n0 + 0))])) (fun _ k => XS.aloadN A0.here hx rfl (own_db hby d_method_3_53) rfl rfl k) ?_
              refine own_by (u' := T0.setTop (mkF m 55 #[.val (.ref (n0 + 0)), .val (.int ee), .val (.int fm), .val (.int to)] [(.int ee), (.ref (n0 + 0))])) (fun _ k => XS.iloadN A0.here hx rfl (own_db hby d_method_3_54) rfl k) ?_
              refine own_by (u' := T0.setTop (mkF m 56 #[.val (.ref (n0 + 0)), .val (.int ee), .val (.int fm), .val (.int to)] [(.int (3 : Int32)), (.int ee), (.ref (n0 + 0))])) (fun _ k => XS.iconst A0.here hx rfl (own_db hby d_method_3_55) k) ?_
              refine own_by (u' := T0.setTop (mkF m 57 #[.val (.ref (n0 + 0)), .val (.int ee), .val (.int fm), .val (.int to)] [(.int (ee - (3 : Int32))), (.ref (n0 + 0))])) (fun _ k => XS.isub A0.here hx rfl (own_db hby d_method_3_56) rfl k) ?_
              refine own_baload A0 hx hZ (i := 0) rfl (x := (own_g xs (ee - (3 : Int32)))) (own_rd3 h6 he hf hc8) (own_db hby d_method_3_57) ?_
              show own_go _ _ _ _ _ _ _ (T0.setTop (mkF m 58 #[.val (.ref (n0 + 0)), .val (.int ee), .val (.int fm), .val (.int to)] [(.int (own_g xs (ee - (3 : Int32))))]))
              refine own_by (u' := T0.setTop (mkF m 60 #[.val (.ref (n0 + 0)), .val (.int ee), .val (.int fm), .val (.int to)] [(.int (10 : Int32)), (.int (own_g xs (ee - (3 : Int32))))])) (fun _ k => XS.bipush A0.here hx rfl (own_db hby d_method_3_58) k) ?_
              by_cases hc10 : (own_g xs (ee - (3 : Int32))) = (10 : Int32)
              · refine own_by (u' := T0.setTop (mkF m 63 #[.val (.ref (n0 + 0)), .val (.int ee), .val (.int fm), .val (.int to)] [])) (fun _ k => XS.icmpNo A0.here hx rfl (own_db hby d_method_3_60) rfl (teq hc10).2 k) ?_
                refine own_by (u' := T0.setTop (mkF m 64 #[.val (.ref (n0 + 0)), .val (.int ee), .val (.int fm), .val (.int to)] [(.int (1 : Int32))])) (fun _ k => XS.iconst A0.here hx rfl (own_db hby d_method_3_63) k) ?_
                refine own_by (u' := T0.setTop (mkF m 68 #[.val (.ref (n0 + 0)), .val (.int ee), .val (.int fm), .val (.int to)] [(.int (1 : Int32))])) (fun _ k => XS.goto A0.here hx rfl (pc0 := 64) (pc' := 68) rfl (own_db hby d_method_3_64) (by decide) (by decide) k) ?_
                exact own_retN A0 hx hlk (t := .boolean) (by simp) hret (own_db hby d_method_3_68) (by decide) (by decide) ⟨by rw [show f2 xs ee fm to = (1 : Int32) from by unfold f2; simp only [if_neg hc1, if_pos hc2, if_neg hc3, if_neg hc7, if_neg hc8, if_pos hc9, if_pos hc10]] <;> rfl, rfl⟩
              · refine own_by (u' := T0.setTop (mkF m 67 #[.val (.ref (n0 + 0)), .val (.int ee), .val (.int fm), .val (.int to)] [])) (fun _ k => XS.icmpYes A0.here hx rfl (pc0 := 60) (pc' := 67) rfl (own_db hby d_method_3_60) rfl (feq hc10).2 (by decide) (by decide) k) ?_
                refine own_by (u' := T0.setTop (mkF m 68 #[.val (.ref (n0 + 0)), .val (.int ee), .val (.int fm), .val (.int to)] [(.int (0 : Int32))])) (fun _ k => XS.iconst A0.here hx rfl (own_db hby d_method_3_67) k) ?_
                exact own_retN A0 hx hlk (t := .boolean) (by simp) hret (own_db hby d_method_3_68) (by decide) (by decide) ⟨by rw [show f2 xs ee fm to = (0 : Int32) from by unfold f2; simp only [if_neg hc1, if_pos hc2, if_neg hc3, if_neg hc7, if_neg hc8, if_pos hc9, if_neg hc10]] <;> rfl, rfl⟩
            · refine own_by (u' := T0.setTop (mkF m 67 #[.val (.ref (n0 + 0)), .val (.int ee), .val (.int fm), .val (.int to)] [])) (fun _ k => XS.icmpYes A0.here hx rfl (pc0 := 50) (pc' := 67) rfl (own_db hby d_method_3_50) rfl (feq hc9).2 (by decide) (by decide) k) ?_
              refine own_by (u' := T0.setTop (mkF m 68 #[.val (.ref (n0 + 0)), .val (.int ee), .val (.int fm), .val (.int to)] [(.int (0 : Int32))])) (fun _ k => XS.iconst A0.here hx rfl (own_db hby d_method_3_67) k) ?_
              exact own_retN A0 hx hlk (t := .boolean) (by simp) hret (own_db hby d_method_3_68) (by decide) (by decide) ⟨by rw [show f2 xs ee fm to = (0 : Int32) from by unfold f2; simp only [if_neg hc1, if_pos hc2, if_neg hc3, if_neg hc7, if_neg hc8, if_neg hc9]] <;> rfl, rfl⟩
    · refine own_by (u' := T0.setTop (mkF m 15 #[.val (.ref (n0 + 0)), .val (.int ee), .val (.int fm), .val (.int to)] [])) (fun _ k => XS.icmpNo A0.here hx rfl (own_db hby d_method_3_12) rfl (feq hc2).1 k) ?_
      refine own_by (u' := T0.setTop (mkF m 16 #[.val (.ref (n0 + 0)), .val (.int ee), .val (.int fm), .val (.int to)] [(.int (0 : Int32))])) (fun _ k => XS.iconst A0.here hx rfl (own_db hby d_method_3_15) k) ?_
      exact own_retN A0 hx hlk (t := .boolean) (by simp) hret (own_db hby d_method_3_16) (by decide) (by decide) ⟨by rw [show f2 xs ee fm to = (0 : Int32) from by unfold f2; simp only [if_neg hc1, if_neg hc2]] <;> rfl, rfl⟩
def own_h3 (xs : List Int32) (to i : Int32) : Int32 := if (i + (2 : Int32)) < to then (if own_g xs (i + (1 : Int32)) = 13 then (if own_g xs (i + (2 : Int32)) = 10 then i + (3 : Int32) else -1) else -1) else -1
def own_hit (xs : List Int32) (to i : Int32) : Int32 := if own_g xs i = 10 then (if (i + (1 : Int32)) < to then (if own_g xs (i + (1 : Int32)) = 10 then i + (2 : Int32) else own_h3 xs to i) else own_h3 xs to i) else -1
def own_scan (xs : List Int32) (to : Int32) : Nat → Int32 → Int32
  | 0, _ => -1
  | k + 1, i => if own_hit xs to i = -1 then own_scan xs to k (i + (1 : Int32)) else own_hit xs to i
theorem own_z {ii en : Int32} (hi : 0 ≤ ii.toInt ∧ (ii.toInt + ((0 : Nat) : Int) = en.toInt ∨ (0 = 0 ∧ en.toInt ≤ ii.toInt))) : ¬ ii < en := by rw [own_lt]; omega
theorem own_s {k : Nat} {ii en : Int32} (hi : 0 ≤ ii.toInt ∧ (ii.toInt + ((k + 1 : Nat) : Int) = en.toInt ∨ (k + 1 = 0 ∧ en.toInt ≤ ii.toInt))) : ii < en := by rw [own_lt]; omega
theorem own_ub {k : Nat} {ii en : Int32} (he : en.toInt ≤ 6) (hi : 0 ≤ ii.toInt ∧ (ii.toInt + ((k + 1 : Nat) : Int) = en.toInt ∨ (k + 1 = 0 ∧ en.toInt ≤ ii.toInt))) : 0 ≤ ii.toInt ∧ ii.toInt < (6 : Nat) := by omega
theorem own_nx {k : Nat} {ii en : Int32} (he : en.toInt ≤ 6) (hi : 0 ≤ ii.toInt ∧ (ii.toInt + ((k + 1 : Nat) : Int) = en.toInt ∨ (k + 1 = 0 ∧ en.toInt ≤ ii.toInt))) : 0 ≤ (ii + (1 : Int32)).toInt ∧ ((ii + (1 : Int32)).toInt + (k : Int) = en.toInt ∨ (k = 0 ∧ en.toInt ≤ (ii + (1 : Int32)).toInt)) := by
  have q := own_inc (j := ii) 1 1 rfl (by omega) (by omega) (by omega)
  omega
theorem own_rda {xs : List Int32} {ii to : Int32} (h6 : xs.length = 6) (d : Int32) (n : Nat) (hd : d.toInt = n) (hn : n ≤ 3) (hb : 0 ≤ ii.toInt ∧ ii.toInt < (6 : Nat)) (ht : to.toInt ≤ 6) (h : (ii + d) < to) : ¬ (ii + d) < 0 ∧ xs[(ii + d).toNatClampNeg]? = some (own_g xs (ii + d)) := by
  have q := own_inc (j := ii) d n hd (by omega) (by omega) (by omega)
  rw [own_lt] at h
  exact own_rd h6 (by omega) (by omega)
theorem own_rd1 {xs : List Int32} {ii to : Int32} (h6 : xs.length = 6) (hb : 0 ≤ ii.toInt ∧ ii.toInt < (6 : Nat)) (ht : to.toInt ≤ 6) (h : (ii + (2 : Int32)) < to) : ¬ (ii + (1 : Int32)) < 0 ∧ xs[(ii + (1 : Int32)).toNatClampNeg]? = some (own_g xs (ii + (1 : Int32))) := by
  have q := own_inc (j := ii) 2 2 rfl (by omega) (by omega) (by omega)
  have q2 := own_inc (j := ii) 1 1 rfl (by omega) (by omega) (by omega)
  rw [own_lt] at h
  exact own_rd h6 (by omega) (by omega)
theorem own_nn {ii : Int32} (hb : 0 ≤ ii.toInt ∧ ii.toInt < (6 : Nat)) (d : Int32) (n : Nat) (hd : d.toInt = n) (hn : n ≤ 3) : ¬ (ii + d) < 0 ∧ ¬ (ii + d) = -1 := by
  have q := own_inc (j := ii) d n hd (by omega) (by omega) (by omega)
  have e0 : (0 : Int32).toInt = 0 := rfl
  have e1 : (-1 : Int32).toInt = -1 := rfl
  rw [own_lt, ← Int32.toInt_inj, e0, e1]
  omega
theorem d_prog_2_method_2_0 : decode prog_2_method_2_code 0 = .ok (.iconst (-1), 1) := by decide +kernel
theorem d_prog_2_method_2_1 : decode prog_2_method_2_code 1 = .ok (.istore_n 3, 1) := by decide +kernel
theorem d_prog_2_method_2_2 : decode prog_2_method_2_code 2 = .ok (.iload_n 1, 1) := by decide +kernel
theorem d_prog_2_method_2_3 : decode prog_2_method_2_code 3 = .ok (.istore 4, 2) := by decide +kernel
theorem d_prog_2_method_2_5 : decode prog_2_method_2_code 5 = .ok (.iload 4, 2) := by decide +kernel
theorem d_prog_2_method_2_7 : decode prog_2_method_2_code 7 = .ok (.iload_n 2, 1) := by decide +kernel
theorem d_prog_2_method_2_8 : decode prog_2_method_2_code 8 = .ok (.if_icmp .ge 84, 3) := by decide +kernel
theorem d_prog_2_method_2_92 : decode prog_2_method_2_code 92 = .ok (.iload_n 3, 1) := by decide +kernel
theorem d_prog_2_method_2_93 : decode prog_2_method_2_code 93 = .ok (.ireturn, 1) := by decide +kernel
theorem d_prog_2_method_2_11 : decode prog_2_method_2_code 11 = .ok (.iload_n 3, 1) := by decide +kernel
theorem d_prog_2_method_2_12 : decode prog_2_method_2_code 12 = .ok (.ifCond .ge 80, 3) := by decide +kernel
theorem d_prog_2_method_2_15 : decode prog_2_method_2_code 15 = .ok (.aload_n 0, 1) := by decide +kernel
theorem d_prog_2_method_2_16 : decode prog_2_method_2_code 16 = .ok (.iload 4, 2) := by decide +kernel
theorem d_prog_2_method_2_18 : decode prog_2_method_2_code 18 = .ok (.baload, 1) := by decide +kernel
theorem d_prog_2_method_2_19 : decode prog_2_method_2_code 19 = .ok (.bipush 10, 2) := by decide +kernel
theorem d_prog_2_method_2_21 : decode prog_2_method_2_code 21 = .ok (.if_icmp .ne 65, 3) := by decide +kernel
theorem d_prog_2_method_2_24 : decode prog_2_method_2_code 24 = .ok (.iload 4, 2) := by decide +kernel
theorem d_prog_2_method_2_26 : decode prog_2_method_2_code 26 = .ok (.iconst 1, 1) := by decide +kernel
theorem d_prog_2_method_2_27 : decode prog_2_method_2_code 27 = .ok (.iadd, 1) := by decide +kernel
theorem d_prog_2_method_2_28 : decode prog_2_method_2_code 28 = .ok (.iload_n 2, 1) := by decide +kernel
theorem d_prog_2_method_2_29 : decode prog_2_method_2_code 29 = .ok (.if_icmp .ge 22, 3) := by decide +kernel
theorem d_prog_2_method_2_32 : decode prog_2_method_2_code 32 = .ok (.aload_n 0, 1) := by decide +kernel
theorem d_prog_2_method_2_33 : decode prog_2_method_2_code 33 = .ok (.iload 4, 2) := by decide +kernel
theorem d_prog_2_method_2_35 : decode prog_2_method_2_code 35 = .ok (.iconst 1, 1) := by decide +kernel
theorem d_prog_2_method_2_36 : decode prog_2_method_2_code 36 = .ok (.iadd, 1) := by decide +kernel
theorem d_prog_2_method_2_37 : decode prog_2_method_2_code 37 = .ok (.baload, 1) := by decide +kernel
theorem d_prog_2_method_2_38 : decode prog_2_method_2_code 38 = .ok (.bipush 10, 2) := by decide +kernel
theorem d_prog_2_method_2_40 : decode prog_2_method_2_code 40 = .ok (.if_icmp .ne 11, 3) := by decide +kernel
theorem d_prog_2_method_2_43 : decode prog_2_method_2_code 43 = .ok (.iload 4, 2) := by decide +kernel
theorem d_prog_2_method_2_45 : decode prog_2_method_2_code 45 = .ok (.iconst 2, 1) := by decide +kernel
theorem d_prog_2_method_2_46 : decode prog_2_method_2_code 46 = .ok (.iadd, 1) := by decide +kernel
theorem d_prog_2_method_2_47 : decode prog_2_method_2_code 47 = .ok (.istore_n 3, 1) := by decide +kernel
theorem d_prog_2_method_2_48 : decode prog_2_method_2_code 48 = .ok (.goto 38, 3) := by decide +kernel
theorem d_prog_2_method_2_86 : decode prog_2_method_2_code 86 = .ok (.iinc 4 1, 3) := by decide +kernel
theorem d_prog_2_method_2_89 : decode prog_2_method_2_code 89 = .ok (.goto (-84), 3) := by decide +kernel
theorem d_prog_2_method_2_51 : decode prog_2_method_2_code 51 = .ok (.iload 4, 2) := by decide +kernel
theorem d_prog_2_method_2_53 : decode prog_2_method_2_code 53 = .ok (.iconst 2, 1) := by decide +kernel
theorem d_prog_2_method_2_54 : decode prog_2_method_2_code 54 = .ok (.iadd, 1) := by decide +kernel
theorem d_prog_2_method_2_55 : decode prog_2_method_2_code 55 = .ok (.iload_n 2, 1) := by decide +kernel
theorem d_prog_2_method_2_56 : decode prog_2_method_2_code 56 = .ok (.if_icmp .ge 30, 3) := by decide +kernel
theorem d_prog_2_method_2_59 : decode prog_2_method_2_code 59 = .ok (.aload_n 0, 1) := by decide +kernel
theorem d_prog_2_method_2_60 : decode prog_2_method_2_code 60 = .ok (.iload 4, 2) := by decide +kernel
theorem d_prog_2_method_2_62 : decode prog_2_method_2_code 62 = .ok (.iconst 1, 1) := by decide +kernel
theorem d_prog_2_method_2_63 : decode prog_2_method_2_code 63 = .ok (.iadd, 1) := by decide +kernel
theorem d_prog_2_method_2_64 : decode prog_2_method_2_code 64 = .ok (.baload, 1) := by decide +kernel
theorem d_prog_2_method_2_65 : decode prog_2_method_2_code 65 = .ok (.bipush 13, 2) := by decide +kernel
theorem d_prog_2_method_2_67 : decode prog_2_method_2_code 67 = .ok (.if_icmp .ne 19, 3) := by decide +kernel
theorem d_prog_2_method_2_70 : decode prog_2_method_2_code 70 = .ok (.aload_n 0, 1) := by decide +kernel
theorem d_prog_2_method_2_71 : decode prog_2_method_2_code 71 = .ok (.iload 4, 2) := by decide +kernel
theorem d_prog_2_method_2_73 : decode prog_2_method_2_code 73 = .ok (.iconst 2, 1) := by decide +kernel
theorem d_prog_2_method_2_74 : decode prog_2_method_2_code 74 = .ok (.iadd, 1) := by decide +kernel
theorem d_prog_2_method_2_75 : decode prog_2_method_2_code 75 = .ok (.baload, 1) := by decide +kernel
theorem d_prog_2_method_2_76 : decode prog_2_method_2_code 76 = .ok (.bipush 10, 2) := by decide +kernel
theorem d_prog_2_method_2_78 : decode prog_2_method_2_code 78 = .ok (.if_icmp .ne 8, 3) := by decide +kernel
theorem d_prog_2_method_2_81 : decode prog_2_method_2_code 81 = .ok (.iload 4, 2) := by decide +kernel
theorem d_prog_2_method_2_83 : decode prog_2_method_2_code 83 = .ok (.iconst 3, 1) := by decide +kernel
theorem d_prog_2_method_2_84 : decode prog_2_method_2_code 84 = .ok (.iadd, 1) := by decide +kernel
theorem d_prog_2_method_2_85 : decode prog_2_method_2_code 85 = .ok (.istore_n 3, 1) := by decide +kernel
theorem pf_g3 : plainFor (⟨"com/example/halfpast/halfpast/api/HttpHead", "end", "([BII)I"⟩ : MethodName) = true := by first | exact plainFor_of_name (by first | (simp [plainName, overriddenIn]; done) | decide +kernel) | decide +kernel
theorem ef_g3 (m : MethodId) (n0 : Nat) (fm : Int32) (to : Int32) : entryFrame m #[(.ref (n0 + 0)), (.int fm), (.int to)] 5 = (mkF m 0 #[.val (.ref (n0 + 0)), .val (.int fm), .val (.int to), .unset, .unset] []) := by first | (simp [entryFrame, mkF, argsToLocals, Value.category]; done) | rfl
set_option maxRecDepth 65536 in
set_option maxHeartbeats 40000000 in
theorem g3 (l : Launch) (Z : State) (a0 : Array Value) (hw : ∀ d ∈ tables_1, d.before a0 Z = true) (n0 : Nat) (xs : List Int32) (fm : Int32) (to : Int32) (h6 : xs.length = 6) (hf : 0 ≤ fm.toInt) (hto : to.toInt ≤ 6) :
    own_met l Z n0 (⟨"com/example/halfpast/halfpast/api/HttpHead", "end", "([BII)I"⟩ : MethodName) prog_2_method_2_code 5 (some .int) ({ frames := 0, cells := 0, slots := 0, locals := 0 } : Room) #[(.ref (n0 + 0)), (.int fm), (.int to)] [(own_ia Z .byte xs)] (fun v its' => v = some (.int (own_scan xs to (to.toInt - fm.toInt).toNat fm)) ∧ its' = [own_ia Z .byte xs]) := by
  refine own_met.of pf_g3 ?_
  intro p e s m below meth c T0 hx hby hml hret hlk hZ hown hnm A0
  replace hown : s.vm.findClass "com/example/halfpast/halfpast/api/HttpHead" = some m.cls := hown
  replace hml : c.maxLocals = 5 := hml
  rw [ef_g3 m n0 fm to]
  show own_go _ _ _ _ _ _ _ (T0.setTop (mkF m 0 #[.val (.ref (n0 + 0)), .val (.int fm), .val (.int to), .unset, .unset] []))
  refine own_by (u' := T0.setTop (mkF m 1 #[.val (.ref (n0 + 0)), .val (.int fm), .val (.int to), .unset, .unset] [(.int (-1 : Int32))])) (fun _ k => XS.iconst A0.here hx rfl (own_db hby d_prog_2_method_2_0) k) ?_
  refine own_by (u' := T0.setTop (mkF m 2 #[.val (.ref (n0 + 0)), .val (.int fm), .val (.int to), .val (.int (-1 : Int32)), .unset] [])) (fun _ k => XS.istoreN A0.here hx rfl (own_db hby d_prog_2_method_2_1) rfl (l' := #[.val (.ref (n0 + 0)), .val (.int fm), .val (.int to), .val (.int (-1 : Int32)), .unset]) rfl k) ?_
  refine own_by (u' := T0.setTop (mkF m 3 #[.val (.ref (n0 + 0)), .val (.int fm), .val (.int to), .val (.int (-1 : Int32)), .unset] [(.int fm)])) (fun _ k => XS.iloadN A0.here hx rfl (own_db hby d_prog_2_method_2_2) rfl k) ?_
  refine own_by (u' := T0.setTop (mkF m 5 #[.val (.ref (n0 + 0)), .val (.int fm), .val (.int to), .val (.int (-1 : Int32)), .val (.int fm)] [])) (fun _ k => XS.istore A0.here hx rfl (own_db hby d_prog_2_method_2_3) rfl (l' := #[.val (.ref (n0 + 0)), .val (.int fm), .val (.int to), .val (.int (-1 : Int32)), .val (.int fm)]) rfl k) ?_
  have lp1 : ∀ (k : Nat) (T2 : State) (ii : Int32), own_at p l e ({ frames := 0, cells := 0, slots := 0, locals := 0 } : Room) s m #[(.ref (n0 + 0)), (.int fm), (.int to)] below meth c n0 T2 0 0 [(own_ia Z .byte xs)] → (0 ≤ ii.toInt ∧ (ii.toInt + ((k : Nat) : Int) = to.toInt ∨ (k = 0 ∧ to.toInt ≤ ii.toInt))) → (own_scan xs to k ii = own_scan xs to (to.toInt - fm.toInt).toNat fm) → own_go p e ({ frames := 0, cells := 0, slots := 0, locals := 0 } : Room) s below n0 (fun v its' => v = some (.int (own_scan xs to (to.toInt - fm.toInt).toNat fm)) ∧ its' = [own_ia Z .byte xs]) (T2.setTop (mkF m 5 #[.val (.ref (n0 + 0)), .val (.int fm), .val (.int to), .val (.int (-1 : Int32)), .val (.int ii)] [])) := by
    intro k
    induction k with
    | zero =>
      intro T2 ii A3 hi hv
      refine own_by (u' := T2.setTop (mkF m 7 #[.val (.ref (n0 + 0)), .val (.int fm), .val (.int to), .val (.int (-1 : Int32)), .val (.int ii)] [(.int ii)])) (fun _ k => XS.iload A3.here hx rfl (own_db hby d_prog_2_method_2_5) rfl k) ?_
      refine own_by (u' := T2.setTop (mkF m 8 #[.val (.ref (n0 + 0)), .val (.int fm), .val (.int to), .val (.int (-1 : Int32)), .val (.int ii)] [(.int to), (.int ii)])) (fun _ k => XS.iloadN A3.here hx rfl (own_db hby d_prog_2_method_2_7) rfl k) ?_
      refine own_by (u' := T2.setTop (mkF m 92 #[.val (.ref (n0 + 0)), .val (.int fm), .val (.int to), .val (.int (-1 : Int32)), .val (.int ii)] [])) (fun _ k => XS.icmpYes A3.here hx rfl (pc0 := 8) (pc' := 92) rfl (own_db hby d_prog_2_method_2_8) rfl (flt (own_z hi)).2.1 (by decide) (by decide) k) ?_
      refine own_by (u' := T2.setTop (mkF m 93 #[.val (.ref (n0 + 0)), .val (.int fm), .val (.int to), .val (.int (-1 : Int32)), .val (.int ii)] [(.int (-1 : Int32))])) (fun _ k => XS.iloadN A3.here hx rfl (own_db hby d_prog_2_method_2_92) rfl k) ?_
      exact own_retI A3 hx hlk hret (own_db hby d_prog_2_method_2_93) (by decide) (by decide) ⟨congrArg (fun z => some (Value.int z)) hv, rfl⟩
    | succ k ih4 =>
      intro T2 ii A3 hi hv
      refine own_by (u' := T2.setTop (mkF m 7 #[.val (.ref (n0 + 0)), .val (.int fm), .val (.int to), .val (.int (-1 : Int32)), .val (.int ii)] [(.int ii)])) (fun _ k => XS.iload A3.here hx rfl (own_db hby d_prog_2_method_2_5) rfl k) ?_
      refine own_by (u' := T2.setTop (mkF m 8 #[.val (.ref (n0 + 0)), .val (.int fm), .val (.int to), .val (.int (-1 : Int32)), .val (.int ii)] [(.int to), (.int ii)])) (fun _ k => XS.iloadN A3.here hx rfl (own_db hby d_prog_2_method_2_7) rfl k) ?_
      refine own_by (u' := T2.setTop (mkF m 11 #[.val (.ref (n0 + 0)), .val (.int fm), .val (.int to), .val (.int (-1 : Int32)), .val (.int ii)] [])) (fun _ k => XS.icmpNo A3.here hx rfl (own_db hby d_prog_2_method_2_8) rfl (tlt (own_s hi)).2.1 k) ?_
      refine own_by (u' := T2.setTop (mkF m 12 #[.val (.ref (n0 + 0)), .val (.int fm), .val (.int to), .val (.int (-1 : Int32)), .val (.int ii)] [(.int (-1 : Int32))])) (fun _ k => XS.iloadN A3.here hx rfl (own_db hby d_prog_2_method_2_11) rfl k) ?_
      refine own_by (u' := T2.setTop (mkF m 15 #[.val (.ref (n0 + 0)), .val (.int fm), .val (.int to), .val (.int (-1 : Int32)), .val (.int ii)] [])) (fun _ k => XS.ifNo A3.here hx rfl (own_db hby d_prog_2_method_2_12) rfl ((if0 _ _).trans (tlt (by decide)).2.1) k) ?_
      refine own_by (u' := T2.setTop (mkF m 16 #[.val (.ref (n0 + 0)), .val (.int fm), .val (.int to), .val (.int (-1 : Int32)), .val (.int ii)] [(.ref (n0 + 0))])) (fun _ k => XS.aloadN A3.here hx rfl (own_db hby d_prog_2_method_2_15) rfl rfl k) ?_
      refine own_by (u' := T2.setTop (mkF m 18 #[.val (.ref (n0 + 0)), .val (.int fm), .val (.int to), .val (.int (-1 : Int32)), .val (.int ii)] [(.int ii), (.ref (n0 + 0))])) (fun _ k => XS.iload A3.here hx rfl (own_db hby d_prog_2_method_2_16) rfl k) ?_
      refine own_baload A3 hx hZ (i := 0) rfl (x := (own_g xs ii)) (own_rd h6 hi.1 (own_ub hto hi).2) (own_db hby d_prog_2_method_2_18) ?_
      show own_go _ _ _ _ _ _ _ (T2.setTop (mkF m 19 #[.val (.ref (n0 + 0)), .val (.int fm), .val (.int to), .val (.int (-1 : Int32)), .val (.int ii)] [(.int (own_g xs ii))]))
      refine own_by (u' := T2.setTop (mkF m 21 #[.val (.ref (n0 + 0)), .val (.int fm), .val (.int to), .val (.int (-1 : Int32)), .val (.int ii)] [(.int (10 : Int32)), (.int (own_g xs ii))])) (fun _ k => XS.bipush A3.here hx rfl (own_db hby d_prog_2_method_2_19) k) ?_
      by_cases hc5 : (own_g xs ii) = (10 : Int32)
      · refine own_by (u' := T2.setTop (mkF m 24 #[.val (.ref (n0 + 0)), .val (.int fm), .val (.int to), .val (.int (-1 : Int32)), .val (.int ii)] [])) (fun _ k => XS.icmpNo A3.here hx rfl (own_db hby d_prog_2_method_2_21) rfl (teq hc5).2 k) ?_
        refine own_by (u' := T2.setTop (mkF m 26 #[.val (.ref (n0 + 0)), .val (.int fm), .val (.int to), .val (.int (-1 : Int32)), .val (.int ii)] [(.int ii)])) (fun _ k => XS.iload A3.here hx rfl (own_db hby d_prog_2_method_2_24) rfl k) ?_
        refine own_by (u' := T2.setTop (mkF m 27 #[.val (.ref (n0 + 0)), .val (.int fm), .val (.int to), .val (.int (-1 : Int32)), .val (.int ii)] [(.int (1 : Int32)), (.int ii)])) (fun _ k => XS.iconst A3.here hx rfl (own_db hby d_prog_2_method_2_26) k) ?_
        refine own_by (u' := T2.setTop (mkF m 28 #[.val (.ref (n0 + 0)), .val (.int fm), .val (.int to), .val (.int (-1 : Int32)), .val (.int ii)] [(.int (ii + (1 : Int32)))])) (fun _ k => XS.iadd A3.here hx rfl (own_db hby d_prog_2_method_2_27) rfl k) ?_
        refine own_by (u' := T2.setTop (mkF m 29 #[.val (.ref (n0 + 0)), .val (.int fm), .val (.int to), .val (.int (-1 : Int32)), .val (.int ii)] [(.int to), (.int (ii + (1 : Int32)))])) (fun _ k => XS.iloadN A3.here hx rfl (own_db hby d_prog_2_method_2_28) rfl k) ?_
        by_cases hc6 : (ii + (1 : Int32)) < to
        · refine own_by (u' := T2.setTop (mkF m 32 #[.val (.ref (n0 + 0)), .val (.int fm), .val (.int to), .val (.int (-1 : Int32)), .val (.int ii)] [])) (fun _ k => XS.icmpNo A3.here hx rfl (own_db hby d_prog_2_method_2_29) rfl (tlt hc6).2.1 k) ?_
          refine own_by (u' := T2.setTop (mkF m 33 #[.val (.ref (n0 + 0)), .val (.int fm), .val (.int to), .val (.int (-1 : Int32)), .val (.int ii)] [(.ref (n0 + 0))])) (fun _ k => XS.aloadN A3.here hx rfl (own_db hby d_prog_2_method_2_32) rfl rfl k) ?_
          refine own_by (u' := T2.setTop (mkF m 35 #[.val (.ref (n0 + 0)), .val (.int fm), .val (.int to), .val (.int (-1 : Int32)), .val (.int ii)] [(.int ii), (.ref (n0 + 0))])) (fun _ k => XS.iload A3.here hx rfl (own_db hby d_prog_2_method_2_33) rfl k) ?_
          refine own_by (u' := T2.setTop (mkF m 36 #[.val (.ref (n0 + 0)), .val (.int fm), .val (.int to), .val (.int (-1 : Int32)), .val (.int ii)] [(.int (1 : Int32)), (.int ii), (.ref (n0 + 0))])) (fun _ k => XS.iconst A3.here hx rfl (own_db hby d_prog_2_method_2_35) k) ?_
          refine own_by (u' := T2.setTop (mkF m 37 #[.val (.ref (n0 + 0)), .val (.int fm), .val (.int to), .val (.int (-1 : Int32)), .val (.int ii)] [(.int (ii + (1 : Int32))), (.ref (n0 + 0))])) (fun _ k => XS.iadd A3.here hx rfl (own_db hby d_prog_2_method_2_36) rfl k) ?_
          refine own_baload A3 hx hZ (i := 0) rfl (x := (own_g xs (ii + (1 : Int32)))) (own_rda h6 1 1 rfl (by omega) (own_ub hto hi) hto hc6) (own_db hby d_prog_2_method_2_37) ?_
          show own_go _ _ _ _ _ _ _ (T2.setTop (mkF m 38 #[.val (.ref (n0 + 0)), .val (.int fm), .val (.int to), .val (.int (-1 : Int32)), .val (.int ii)] [(.int (own_g xs (ii + (1 : Int32))))]))
          refine own_by (u' := T2.setTop (mkF m 40 #[.val (.ref (n0 + 0)), .val (.int fm), .val (.int to), .val (.int (-1 : Int32)), .val (.int ii)] [(.int (10 : Int32)), (.int (own_g xs (ii + (1 : Int32))))])) (fun _ k => XS.bipush A3.here hx rfl (own_db hby d_prog_2_method_2_38) k) ?_
          by_cases hc7 : (own_g xs (ii + (1 : Int32))) = (10 : Int32)
          · refine own_by (u' := T2.setTop (mkF m 43 #[.val (.ref (n0 + 0)), .val (.int fm), .val (.int to), .val (.int (-1 : Int32)), .val (.int ii)] [])) (fun _ k => XS.icmpNo A3.here hx rfl (own_db hby d_prog_2_method_2_40) rfl (teq hc7).2 k) ?_
            refine own_by (u' := T2.setTop (mkF m 45 #[.val (.ref (n0 + 0)), .val (.int fm), .val (.int to), .val (.int (-1 : Int32)), .val (.int ii)] [(.int ii)])) (fun _ k => XS.iload A3.here hx rfl (own_db hby d_prog_2_method_2_43) rfl k) ?_
            refine own_by (u' := T2.setTop (mkF m 46 #[.val (.ref (n0 + 0)), .val (.int fm), .val (.int to), .val (.int (-1 : Int32)), .val (.int ii)] [(.int (2 : Int32)), (.int ii)])) (fun _ k => XS.iconst A3.here hx rfl (own_db hby d_prog_2_method_2_45) k) ?_
            refine own_by (u' := T2.setTop (mkF m 47 #[.val (.ref (n0 + 0)), .val (.int fm), .val (.int to), .val (.int (-1 : Int32)), .val (.int ii)] [(.int (ii + (2 : Int32)))])) (fun _ k => XS.iadd A3.here hx rfl (own_db hby d_prog_2_method_2_46) rfl k) ?_
            refine own_by (u' := T2.setTop (mkF m 48 #[.val (.ref (n0 + 0)), .val (.int fm), .val (.int to), .val (.int (ii + (2 : Int32))), .val (.int ii)] [])) (fun _ k => XS.istoreN A3.here hx rfl (own_db hby d_prog_2_method_2_47) rfl (l' := #[.val (.ref (n0 + 0)), .val (.int fm), .val (.int to), .val (.int (ii + (2 : Int32))), .val (.int ii)]) rfl k) ?_
            refine own_by (u' := T2.setTop (mkF m 86 #[.val (.ref (n0 + 0)), .val (.int fm), .val (.int to), .val (.int (ii + (2 : Int32))), .val (.int ii)] [])) (fun _ k => XS.goto A3.here hx rfl (pc0 := 48) (pc' := 86) rfl (own_db hby d_prog_2_method_2_48) (by decide) (by decide) k) ?_
            refine own_by (u' := T2.setTop (mkF m 89 #[.val (.ref (n0 + 0)), .val (.int fm), .val (.int to), .val (.int (ii + (2 : Int32))), .val (.int (ii + (1 : Int32)))] [])) (fun _ k => XS.iinc A3.here hx rfl (own_db hby d_prog_2_method_2_86) rfl (l' := #[.val (.ref (n0 + 0)), .val (.int fm), .val (.int to), .val (.int (ii + (2 : Int32))), .val (.int (ii + (1 : Int32)))]) rfl k) ?_
            refine own_by (u' := T2.setTop (mkF m 5 #[.val (.ref (n0 + 0)), .val (.int fm), .val (.int to), .val (.int (ii + (2 : Int32))), .val (.int (ii + (1 : Int32)))] [])) (fun _ k => XS.goto A3.here hx rfl (pc0 := 89) (pc' := 5) rfl (own_db hby d_prog_2_method_2_89) (by decide) (by decide) k) ?_
            refine own_by (u' := T2.setTop (mkF m 7 #[.val (.ref (n0 + 0)), .val (.int fm), .val (.int to), .val (.int (ii + (2 : Int32))), .val (.int (ii + (1 : Int32)))] [(.int (ii + (1 : Int32)))])) (fun _ k => XS.iload A3.here hx rfl (own_db hby d_prog_2_method_2_5) rfl k) ?_
            refine own_by (u' := T2.setTop (mkF m 8 #[.val (.ref (n0 + 0)), .val (.int fm), .val (.int to), .val (.int (ii + (2 : Int32))), .val (.int (ii + (1 : Int32)))] [(.int to), (.int (ii + (1 : Int32)))])) (fun _ k => XS.iloadN A3.here hx rfl (own_db hby d_prog_2_method_2_7) rfl k) ?_
            refine own_by (u' := T2.setTop (mkF m 11 #[.val (.ref (n0 + 0)), .val (.int fm), .val (.int to), .val (.int (ii + (2 : Int32))), .val (.int (ii + (1 : Int32)))] [])) (fun _ k => XS.icmpNo A3.here hx rfl (own_db hby d_prog_2_method_2_8) rfl (tlt hc6).2.1 k) ?_
            refine own_by (u' := T2.setTop (mkF m 12 #[.val (.ref (n0 + 0)), .val (.int fm), .val (.int to), .val (.int (ii + (2 : Int32))), .val (.int (ii + (1 : Int32)))] [(.int (ii + (2 : Int32)))])) (fun _ k => XS.iloadN A3.here hx rfl (own_db hby d_prog_2_method_2_11) rfl k) ?_
            refine own_by (u' := T2.setTop (mkF m 92 #[.val (.ref (n0 + 0)), .val (.int fm), .val (.int to), .val (.int (ii + (2 : Int32))), .val (.int (ii + (1 : Int32)))] [])) (fun _ k => XS.ifYes A3.here hx rfl (pc0 := 12) (pc' := 92) rfl (own_db hby d_prog_2_method_2_12) rfl ((if0 _ _).trans (flt (own_nn (own_ub hto hi) 2 2 rfl (by omega)).1).2.1) (by decide) (by decide) k) ?_
            refine own_by (u' := T2.setTop (mkF m 93 #[.val (.ref (n0 + 0)), .val (.int fm), .val (.int to), .val (.int (ii + (2 : Int32))), .val (.int (ii + (1 : Int32)))] [(.int (ii + (2 : Int32)))])) (fun _ k => XS.iloadN A3.here hx rfl (own_db hby d_prog_2_method_2_92) rfl k) ?_
            exact own_retI A3 hx hlk hret (own_db hby d_prog_2_method_2_93) (by decide) (by decide) ⟨by rw [← hv]; show _ = some (Value.int (if own_hit xs to ii = -1 then own_scan xs to k (ii + (1 : Int32)) else own_hit xs to ii)); rw [show own_hit xs to ii = (ii + (2 : Int32)) from by unfold own_hit; try unfold own_h3; simp [hc5, hc6, hc7], if_neg (own_nn (own_ub hto hi) 2 2 rfl (by omega)).2], rfl⟩
          · refine own_by (u' := T2.setTop (mkF m 51 #[.val (.ref (n0 + 0)), .val (.int fm), .val (.int to), .val (.int (-1 : Int32)), .val (.int ii)] [])) (fun _ k => XS.icmpYes A3.here hx rfl (pc0 := 40) (pc' := 51) rfl (own_db hby d_prog_2_method_2_40) rfl (feq hc7).2 (by decide) (by decide) k) ?_
            refine own_by (u' := T2.setTop (mkF m 53 #[.val (.ref (n0 + 0)), .val (.int fm), .val (.int to), .val (.int (-1 : Int32)), .val (.int ii)] [(.int ii)])) (fun _ k => XS.iload A3.here hx rfl (own_db hby d_prog_2_method_2_51) rfl k) ?_
            refine own_by (u' := T2.setTop (mkF m 54 #[.val (.ref (n0 + 0)), .val (.int fm), .val (.int to), .val (.int (-1 : Int32)), .val (.int ii)] [(.int (2 : Int32)), (.int ii)])) (fun _ k => XS.iconst A3.here hx rfl (own_db hby d_prog_2_method_2_53) k) ?_
            refine own_by (u' := T2.setTop (mkF m 55 #[.val (.ref (n0 + 0)), .val (.int fm), .val (.int to), .val (.int (-1 : Int32)), .val (.int ii)] [(.int (ii + (2 : Int32)))])) (fun _ k => XS.iadd A3.here hx rfl (own_db hby d_prog_2_method_2_54) rfl k) ?_
            refine own_by (u' := T2.setTop (mkF m 56 #[.val (.ref (n0 + 0)), .val (.int fm), .val (.int to), .val (.int (-1 : Int32)), .val (.int ii)] [(.int to), (.int (ii + (2 : Int32)))])) (fun _ k => XS.iloadN A3.here hx rfl (own_db hby d_prog_2_method_2_55) rfl k) ?_
            by_cases hc8 : (ii + (2 : Int32)) < to
            · refine own_by (u' := T2.setTop (mkF m 59 #[.val (.ref (n0 + 0)), .val (.int fm), .val (.int to), .val (.int (-1 : Int32)), .val (.int ii)] [])) (fun _ k => XS.icmpNo A3.here hx rfl (own_db hby d_prog_2_method_2_56) rfl (tlt hc8).2.1 k) ?_
              refine own_by (u' := T2.setTop (mkF m 60 #[.val (.ref (n0 + 0)), .val (.int fm), .val (.int to), .val (.int (-1 : Int32)), .val (.int ii)] [(.ref (n0 + 0))])) (fun _ k => XS.aloadN A3.here hx rfl (own_db hby d_prog_2_method_2_59) rfl rfl k) ?_
              refine own_by (u' := T2.setTop (mkF m 62 #[.val (.ref (n0 + 0)), .val (.int fm), .val (.int to), .val (.int (-1 : Int32)), .val (.int ii)] [(.int ii), (.ref (n0 + 0))])) (fun _ k => XS.iload A3.here hx rfl (own_db hby d_prog_2_method_2_60) rfl k) ?_
              refine own_by (u' := T2.setTop (mkF m 63 #[.val (.ref (n0 + 0)), .val (.int fm), .val (.int to), .val (.int (-1 : Int32)), .val (.int ii)] [(.int (1 : Int32)), (.int ii), (.ref (n0 + 0))])) (fun _ k => XS.iconst A3.here hx rfl (own_db hby d_prog_2_method_2_62) k) ?_
              refine own_by (u' := T2.setTop (mkF m 64 #[.val (.ref (n0 + 0)), .val (.int fm), .val (.int to), .val (.int (-1 : Int32)), .val (.int ii)] [(.int (ii + (1 : Int32))), (.ref (n0 + 0))])) (fun _ k => XS.iadd A3.here hx rfl (own_db hby d_prog_2_method_2_63) rfl k) ?_
              refine own_baload A3 hx hZ (i := 0) rfl (x := (own_g xs (ii + (1 : Int32)))) (own_rd1 h6 (own_ub hto hi) hto hc8) (own_db hby d_prog_2_method_2_64) ?_
              show own_go _ _ _ _ _ _ _ (T2.setTop (mkF m 65 #[.val (.ref (n0 + 0)), .val (.int fm), .val (.int to), .val (.int (-1 : Int32)), .val (.int ii)] [(.int (own_g xs (ii + (1 : Int32))))]))
              refine own_by (u' := T2.setTop (mkF m 67 #[.val (.ref (n0 + 0)), .val (.int fm), .val (.int to), .val (.int (-1 : Int32)), .val (.int ii)] [(.int (13 : Int32)), (.int (own_g xs (ii + (1 : Int32))))])) (fun _ k => XS.bipush A3.here hx rfl (own_db hby d_prog_2_method_2_65) k) ?_
              by_cases hc9 : (own_g xs (ii + (1 : Int32))) = (13 : Int32)
              · refine own_by (u' := T2.setTop (mkF m 70 #[.val (.ref (n0 + 0)), .val (.int fm), .val (.int to), .val (.int (-1 : Int32)), .val (.int ii)] [])) (fun _ k => XS.icmpNo A3.here hx rfl (own_db hby d_prog_2_method_2_67) rfl (teq hc9).2 k) ?_
                refine own_by (u' := T2.setTop (mkF m 71 #[.val (.ref (n0 + 0)), .val (.int fm), .val (.int to), .val (.int (-1 : Int32)), .val (.int ii)] [(.ref (n0 + 0))])) (fun _ k => XS.aloadN A3.here hx rfl (own_db hby d_prog_2_method_2_70) rfl rfl k) ?_
                refine own_by (u' := T2.setTop (mkF m 73 #[.val (.ref (n0 + 0)), .val (.int fm), .val (.int to), .val (.int (-1 : Int32)), .val (.int ii)] [(.int ii), (.ref (n0 + 0))])) (fun _ k => XS.iload A3.here hx rfl (own_db hby d_prog_2_method_2_71) rfl k) ?_
                refine own_by (u' := T2.setTop (mkF m 74 #[.val (.ref (n0 + 0)), .val (.int fm), .val (.int to), .val (.int (-1 : Int32)), .val (.int ii)] [(.int (2 : Int32)), (.int ii), (.ref (n0 + 0))])) (fun _ k => XS.iconst A3.here hx rfl (own_db hby d_prog_2_method_2_73) k) ?_
                refine own_by (u' := T2.setTop (mkF m 75 #[.val (.ref (n0 + 0)), .val (.int fm), .val (.int to), .val (.int (-1 : Int32)), .val (.int ii)] [(.int (ii + (2 : Int32))), (.ref (n0 + 0))])) (fun _ k => XS.iadd A3.here hx rfl (own_db hby d_prog_2_method_2_74) rfl k) ?_
                refine own_baload A3 hx hZ (i := 0) rfl (x := (own_g xs (ii + (2 : Int32)))) (own_rda h6 2 2 rfl (by omega) (own_ub hto hi) hto hc8) (own_db hby d_prog_2_method_2_75) ?_
                show own_go _ _ _ _ _ _ _ (T2.setTop (mkF m 76 #[.val (.ref (n0 + 0)), .val (.int fm), .val (.int to), .val (.int (-1 : Int32)), .val (.int ii)] [(.int (own_g xs (ii + (2 : Int32))))]))
                refine own_by (u' := T2.setTop (mkF m 78 #[.val (.ref (n0 + 0)), .val (.int fm), .val (.int to), .val (.int (-1 : Int32)), .val (.int ii)] [(.int (10 : Int32)), (.int (own_g xs (ii + (2 : Int32))))])) (fun _ k => XS.bipush A3.here hx rfl (own_db hby d_prog_2_method_2_76) k) ?_
                by_cases hc10 : (own_g xs (ii + (2 : Int32))) = (10 : Int32)
                · refine own_by (u' := T2.setTop (mkF m 81 #[.val (.ref (n0 + 0)), .val (.int fm), .val (.int to), .val (.int (-1 : Int32)), .val (.int ii)] [])) (fun _ k => XS.icmpNo A3.here hx rfl (own_db hby d_prog_2_method_2_78) rfl (teq hc10).2 k) ?_
                  refine own_by (u' := T2.setTop (mkF m 83 #[.val (.ref (n0 + 0)), .val (.int fm), .val (.int to), .val (.int (-1 : Int32)), .val (.int ii)] [(.int ii)])) (fun _ k => XS.iload A3.here hx rfl (own_db hby d_prog_2_method_2_81) rfl k) ?_
                  refine own_by (u' := T2.setTop (mkF m 84 #[.val (.ref (n0 + 0)), .val (.int fm), .val (.int to), .val (.int (-1 : Int32)), .val (.int ii)] [(.int (3 : Int32)), (.int ii)])) (fun _ k => XS.iconst A3.here hx rfl (own_db hby d_prog_2_method_2_83) k) ?_
                  refine own_by (u' := T2.setTop (mkF m 85 #[.val (.ref (n0 + 0)), .val (.int fm), .val (.int to), .val (.int (-1 : Int32)), .val (.int ii)] [(.int (ii + (3 : Int32)))])) (fun _ k => XS.iadd A3.here hx rfl (own_db hby d_prog_2_method_2_84) rfl k) ?_
                  refine own_by (u' := T2.setTop (mkF m 86 #[.val (.ref (n0 + 0)), .val (.int fm), .val (.int to), .val (.int (ii + (3 : Int32))), .val (.int ii)] [])) (fun _ k => XS.istoreN A3.here hx rfl (own_db hby d_prog_2_method_2_85) rfl (l' := #[.val (.ref (n0 + 0)), .val (.int fm), .val (.int to), .val (.int (ii + (3 : Int32))), .val (.int ii)]) rfl k) ?_
                  refine own_by (u' := T2.setTop (mkF m 89 #[.val (.ref (n0 + 0)), .val (.int fm), .val (.int to), .val (.int (ii + (3 : Int32))), .val (.int (ii + (1 : Int32)))] [])) (fun _ k => XS.iinc A3.here hx rfl (own_db hby d_prog_2_method_2_86) rfl (l' := #[.val (.ref (n0 + 0)), .val (.int fm), .val (.int to), .val (.int (ii + (3 : Int32))), .val (.int (ii + (1 : Int32)))]) rfl k) ?_
                  refine own_by (u' := T2.setTop (mkF m 5 #[.val (.ref (n0 + 0)), .val (.int fm), .val (.int to), .val (.int (ii + (3 : Int32))), .val (.int (ii + (1 : Int32)))] [])) (fun _ k => XS.goto A3.here hx rfl (pc0 := 89) (pc' := 5) rfl (own_db hby d_prog_2_method_2_89) (by decide) (by decide) k) ?_
                  refine own_by (u' := T2.setTop (mkF m 7 #[.val (.ref (n0 + 0)), .val (.int fm), .val (.int to), .val (.int (ii + (3 : Int32))), .val (.int (ii + (1 : Int32)))] [(.int (ii + (1 : Int32)))])) (fun _ k => XS.iload A3.here hx rfl (own_db hby d_prog_2_method_2_5) rfl k) ?_
                  refine own_by (u' := T2.setTop (mkF m 8 #[.val (.ref (n0 + 0)), .val (.int fm), .val (.int to), .val (.int (ii + (3 : Int32))), .val (.int (ii + (1 : Int32)))] [(.int to), (.int (ii + (1 : Int32)))])) (fun _ k => XS.iloadN A3.here hx rfl (own_db hby d_prog_2_method_2_7) rfl k) ?_
                  refine own_by (u' := T2.setTop (mkF m 11 #[.val (.ref (n0 + 0)), .val (.int fm), .val (.int to), .val (.int (ii + (3 : Int32))), .val (.int (ii + (1 : Int32)))] [])) (fun _ k => XS.icmpNo A3.here hx rfl (own_db hby d_prog_2_method_2_8) rfl (tlt hc6).2.1 k) ?_
                  refine own_by (u' := T2.setTop (mkF m 12 #[.val (.ref (n0 + 0)), .val (.int fm), .val (.int to), .val (.int (ii + (3 : Int32))), .val (.int (ii + (1 : Int32)))] [(.int (ii + (3 : Int32)))])) (fun _ k => XS.iloadN A3.here hx rfl (own_db hby d_prog_2_method_2_11) rfl k) ?_
                  refine own_by (u' := T2.setTop (mkF m 92 #[.val (.ref (n0 + 0)), .val (.int fm), .val (.int to), .val (.int (ii + (3 : Int32))), .val (.int (ii + (1 : Int32)))] [])) (fun _ k => XS.ifYes A3.here hx rfl (pc0 := 12) (pc' := 92) rfl (own_db hby d_prog_2_method_2_12) rfl ((if0 _ _).trans (flt (own_nn (own_ub hto hi) 3 3 rfl (by omega)).1).2.1) (by decide) (by decide) k) ?_
                  refine own_by (u' := T2.setTop (mkF m 93 #[.val (.ref (n0 + 0)), .val (.int fm), .val (.int to), .val (.int (ii + (3 : Int32))), .val (.int (ii + (1 : Int32)))] [(.int (ii + (3 : Int32)))])) (fun _ k => XS.iloadN A3.here hx rfl (own_db hby d_prog_2_method_2_92) rfl k) ?_
                  exact own_retI A3 hx hlk hret (own_db hby d_prog_2_method_2_93) (by decide) (by decide) ⟨by rw [← hv]; show _ = some (Value.int (if own_hit xs to ii = -1 then own_scan xs to k (ii + (1 : Int32)) else own_hit xs to ii)); rw [show own_hit xs to ii = (ii + (3 : Int32)) from by unfold own_hit; try unfold own_h3; simp [hc5, hc6, hc7, hc8, hc9, hc10], if_neg (own_nn (own_ub hto hi) 3 3 rfl (by omega)).2], rfl⟩
                · refine own_by (u' := T2.setTop (mkF m 86 #[.val (.ref (n0 + 0)), .val (.int fm), .val (.int to), .val (.int (-1 : Int32)), .val (.int ii)] [])) (fun _ k => XS.icmpYes A3.here hx rfl (pc0 := 78) (pc' := 86) rfl (own_db hby d_prog_2_method_2_78) rfl (feq hc10).2 (by decide) (by decide) k) ?_
                  refine own_by (u' := T2.setTop (mkF m 89 #[.val (.ref (n0 + 0)), .val (.int fm), .val (.int to), .val (.int (-1 : Int32)), .val (.int (ii + (1 : Int32)))] [])) (fun _ k => XS.iinc A3.here hx rfl (own_db hby d_prog_2_method_2_86) rfl (l' := #[.val (.ref (n0 + 0)), .val (.int fm), .val (.int to), .val (.int (-1 : Int32)), .val (.int (ii + (1 : Int32)))]) rfl k) ?_
                  refine own_by (u' := T2.setTop (mkF m 5 #[.val (.ref (n0 + 0)), .val (.int fm), .val (.int to), .val (.int (-1 : Int32)), .val (.int (ii + (1 : Int32)))] [])) (fun _ k => XS.goto A3.here hx rfl (pc0 := 89) (pc' := 5) rfl (own_db hby d_prog_2_method_2_89) (by decide) (by decide) k) ?_
                  exact ih4 _ (ii + (1 : Int32)) A3 (own_nx hto hi) (by rw [← hv]; show _ = (if own_hit xs to ii = -1 then own_scan xs to k (ii + (1 : Int32)) else own_hit xs to ii); rw [if_pos (show own_hit xs to ii = -1 from by unfold own_hit; try unfold own_h3; simp [hc5, hc6, hc7, hc8, hc9, hc10])])
              · refine own_by (u' := T2.setTop (mkF m 86 #[.val (.ref (n0 + 0)), .val (.int fm), .val (.int to), .val (.int (-1 : Int32)), .val (.int ii)] [])) (fun _ k => XS.icmpYes A3.here hx rfl (pc0 := 67) (pc' := 86) rfl (own_db hby d_prog_2_method_2_67) rfl (feq hc9).2 (by decide) (by decide) k) ?_
                refine own_by (u' := T2.setTop (mkF m 89 #[.val (.ref (n0 + 0)), .val (.int fm), .val (.int to), .val (.int (-1 : Int32)), .val (.int (ii + (1 : Int32)))] [])) (fun _ k => XS.iinc A3.here hx rfl (own_db hby d_prog_2_method_2_86) rfl (l' := #[.val (.ref (n0 + 0)), .val (.int fm), .val (.int to), .val (.int (-1 : Int32)), .val (.int (ii + (1 : Int32)))]) rfl k) ?_
                refine own_by (u' := T2.setTop (mkF m 5 #[.val (.ref (n0 + 0)), .val (.int fm), .val (.int to), .val (.int (-1 : Int32)), .val (.int (ii + (1 : Int32)))] [])) (fun _ k => XS.goto A3.here hx rfl (pc0 := 89) (pc' := 5) rfl (own_db hby d_prog_2_method_2_89) (by decide) (by decide) k) ?_
                exact ih4 _ (ii + (1 : Int32)) A3 (own_nx hto hi) (by rw [← hv]; show _ = (if own_hit xs to ii = -1 then own_scan xs to k (ii + (1 : Int32)) else own_hit xs to ii); rw [if_pos (show own_hit xs to ii = -1 from by unfold own_hit; try unfold own_h3; simp [hc5, hc6, hc7, hc8, hc9])])
            · refine own_by (u' := T2.setTop (mkF m 86 #[.val (.ref (n0 + 0)), .val (.int fm), .val (.int to), .val (.int (-1 : Int32)), .val (.int ii)] [])) (fun _ k => XS.icmpYes A3.here hx rfl (pc0 := 56) (pc' := 86) rfl (own_db hby d_prog_2_method_2_56) rfl (flt hc8).2.1 (by decide) (by decide) k) ?_
              refine own_by (u' := T2.setTop (mkF m 89 #[.val (.ref (n0 + 0)), .val (.int fm), .val (.int to), .val (.int (-1 : Int32)), .val (.int (ii + (1 : Int32)))] [])) (fun _ k => XS.iinc A3.here hx rfl (own_db hby d_prog_2_method_2_86) rfl (l' := #[.val (.ref (n0 + 0)), .val (.int fm), .val (.int to), .val (.int (-1 : Int32)), .val (.int (ii + (1 : Int32)))]) rfl k) ?_
              refine own_by (u' := T2.setTop (mkF m 5 #[.val (.ref (n0 + 0)), .val (.int fm), .val (.int to), .val (.int (-1 : Int32)), .val (.int (ii + (1 : Int32)))] [])) (fun _ k => XS.goto A3.here hx rfl (pc0 := 89) (pc' := 5) rfl (own_db hby d_prog_2_method_2_89) (by decide) (by decide) k) ?_
              exact ih4 _ (ii + (1 : Int32)) A3 (own_nx hto hi) (by rw [← hv]; show _ = (if own_hit xs to ii = -1 then own_scan xs to k (ii + (1 : Int32)) else own_hit xs to ii); rw [if_pos (show own_hit xs to ii = -1 from by unfold own_hit; try unfold own_h3; simp [hc5, hc6, hc7, hc8])])
        · refine own_by (u' := T2.setTop (mkF m 51 #[.val (.ref (n0 + 0)), .val (.int fm), .val (.int to), .val (.int (-1 : Int32)), .val (.int ii)] [])) (fun _ k => XS.icmpYes A3.here hx rfl (pc0 := 29) (pc' := 51) rfl (own_db hby d_prog_2_method_2_29) rfl (flt hc6).2.1 (by decide) (by decide) k) ?_
          refine own_by (u' := T2.setTop (mkF m 53 #[.val (.ref (n0 + 0)), .val (.int fm), .val (.int to), .val (.int (-1 : Int32)), .val (.int ii)] [(.int ii)])) (fun _ k => XS.iload A3.here hx rfl (own_db hby d_prog_2_method_2_51) rfl k) ?_
          refine own_by (u' := T2.setTop (mkF m 54 #[.val (.ref (n0 + 0)), .val (.int fm), .val (.int to), .val (.int (-1 : Int32)), .val (.int ii)] [(.int (2 : Int32)), (.int ii)])) (fun _ k => XS.iconst A3.here hx rfl (own_db hby d_prog_2_method_2_53) k) ?_
          refine own_by (u' := T2.setTop (mkF m 55 #[.val (.ref (n0 + 0)), .val (.int fm), .val (.int to), .val (.int (-1 : Int32)), .val (.int ii)] [(.int (ii + (2 : Int32)))])) (fun _ k => XS.iadd A3.here hx rfl (own_db hby d_prog_2_method_2_54) rfl k) ?_
          refine own_by (u' := T2.setTop (mkF m 56 #[.val (.ref (n0 + 0)), .val (.int fm), .val (.int to), .val (.int (-1 : Int32)), .val (.int ii)] [(.int to), (.int (ii + (2 : Int32)))])) (fun _ k => XS.iloadN A3.here hx rfl (own_db hby d_prog_2_method_2_55) rfl k) ?_
          by_cases hc11 : (ii + (2 : Int32)) < to
          · refine own_by (u' := T2.setTop (mkF m 59 #[.val (.ref (n0 + 0)), .val (.int fm), .val (.int to), .val (.int (-1 : Int32)), .val (.int ii)] [])) (fun _ k => XS.icmpNo A3.here hx rfl (own_db hby d_prog_2_method_2_56) rfl (tlt hc11).2.1 k) ?_
            refine own_by (u' := T2.setTop (mkF m 60 #[.val (.ref (n0 + 0)), .val (.int fm), .val (.int to), .val (.int (-1 : Int32)), .val (.int ii)] [(.ref (n0 + 0))])) (fun _ k => XS.aloadN A3.here hx rfl (own_db hby d_prog_2_method_2_59) rfl rfl k) ?_
            refine own_by (u' := T2.setTop (mkF m 62 #[.val (.ref (n0 + 0)), .val (.int fm), .val (.int to), .val (.int (-1 : Int32)), .val (.int ii)] [(.int ii), (.ref (n0 + 0))])) (fun _ k => XS.iload A3.here hx rfl (own_db hby d_prog_2_method_2_60) rfl k) ?_
            refine own_by (u' := T2.setTop (mkF m 63 #[.val (.ref (n0 + 0)), .val (.int fm), .val (.int to), .val (.int (-1 : Int32)), .val (.int ii)] [(.int (1 : Int32)), (.int ii), (.ref (n0 + 0))])) (fun _ k => XS.iconst A3.here hx rfl (own_db hby d_prog_2_method_2_62) k) ?_
            refine own_by (u' := T2.setTop (mkF m 64 #[.val (.ref (n0 + 0)), .val (.int fm), .val (.int to), .val (.int (-1 : Int32)), .val (.int ii)] [(.int (ii + (1 : Int32))), (.ref (n0 + 0))])) (fun _ k => XS.iadd A3.here hx rfl (own_db hby d_prog_2_method_2_63) rfl k) ?_
            refine own_baload A3 hx hZ (i := 0) rfl (x := (own_g xs (ii + (1 : Int32)))) (own_rd1 h6 (own_ub hto hi) hto hc11) (own_db hby d_prog_2_method_2_64) ?_
            show own_go _ _ _ _ _ _ _ (T2.setTop (mkF m 65 #[.val (.ref (n0 + 0)), .val (.int fm), .val (.int to), .val (.int (-1 : Int32)), .val (.int ii)] [(.int (own_g xs (ii + (1 : Int32))))]))
            refine own_by (u' := T2.setTop (mkF m 67 #[.val (.ref (n0 + 0)), .val (.int fm), .val (.int to), .val (.int (-1 : Int32)), .val (.int ii)] [(.int (13 : Int32)), (.int (own_g xs (ii + (1 : Int32))))])) (fun _ k => XS.bipush A3.here hx rfl (own_db hby d_prog_2_method_2_65) k) ?_
            by_cases hc12 : (own_g xs (ii + (1 : Int32))) = (13 : Int32)
            · refine own_by (u' := T2.setTop (mkF m 70 #[.val (.ref (n0 + 0)), .val (.int fm), .val (.int to), .val (.int (-1 : Int32)), .val (.int ii)] [])) (fun _ k => XS.icmpNo A3.here hx rfl (own_db hby d_prog_2_method_2_67) rfl (teq hc12).2 k) ?_
              refine own_by (u' := T2.setTop (mkF m 71 #[.val (.ref (n0 + 0)), .val (.int fm), .val (.int to), .val (.int (-1 : Int32)), .val (.int ii)] [(.ref (n0 + 0))])) (fun _ k => XS.aloadN A3.here hx rfl (own_db hby d_prog_2_method_2_70) rfl rfl k) ?_
              refine own_by (u' := T2.setTop (mkF m 73 #[.val (.ref (n0 + 0)), .val (.int fm), .val (.int to), .val (.int (-1 : Int32)), .val (.int ii)] [(.int ii), (.ref (n0 + 0))])) (fun _ k => XS.iload A3.here hx rfl (own_db hby d_prog_2_method_2_71) rfl k) ?_
              refine own_by (u' := T2.setTop (mkF m 74 #[.val (.ref (n0 + 0)), .val (.int fm), .val (.int to), .val (.int (-1 : Int32)), .val (.int ii)] [(.int (2 : Int32)), (.int ii), (.ref (n0 + 0))])) (fun _ k => XS.iconst A3.here hx rfl (own_db hby d_prog_2_method_2_73) k) ?_
              refine own_by (u' := T2.setTop (mkF m 75 #[.val (.ref (n0 + 0)), .val (.int fm), .val (.int to), .val (.int (-1 : Int32)), .val (.int ii)] [(.int (ii + (2 : Int32))), (.ref (n0 + 0))])) (fun _ k => XS.iadd A3.here hx rfl (own_db hby d_prog_2_method_2_74) rfl k) ?_
              refine own_baload A3 hx hZ (i := 0) rfl (x := (own_g xs (ii + (2 : Int32)))) (own_rda h6 2 2 rfl (by omega) (own_ub hto hi) hto hc11) (own_db hby d_prog_2_method_2_75) ?_
              show own_go _ _ _ _ _ _ _ (T2.setTop (mkF m 76 #[.val (.ref (n0 + 0)), .val (.int fm), .val (.int to), .val (.int (-1 : Int32)), .val (.int ii)] [(.int (own_g xs (ii + (2 : Int32))))]))
              refine own_by (u' := T2.setTop (mkF m 78 #[.val (.ref (n0 + 0)), .val (.int fm), .val (.int to), .val (.int (-1 : Int32)), .val (.int ii)] [(.int (10 : Int32)), (.int (own_g xs (ii + (2 : Int32))))])) (fun _ k => XS.bipush A3.here hx rfl (own_db hby d_prog_2_method_2_76) k) ?_
              by_cases hc13 : (own_g xs (ii + (2 : Int32))) = (10 : Int32)
              · refine own_by (u' := T2.setTop (mkF m 81 #[.val (.ref (n0 + 0)), .val (.int fm), .val (.int to), .val (.int (-1 : Int32)), .val (.int ii)] [])) (fun _ k => XS.icmpNo A3.here hx rfl (own_db hby d_prog_2_method_2_78) rfl (teq hc13).2 k) ?_
                refine own_by (u' := T2.setTop (mkF m 83 #[.val (.ref (n0 + 0)), .val (.int fm), .val (.int to), .val (.int (-1 : Int32)), .val (.int ii)] [(.int ii)])) (fun _ k => XS.iload A3.here hx rfl (own_db hby d_prog_2_method_2_81) rfl k) ?_
                refine own_by (u' := T2.setTop (mkF m 84 #[.val (.ref (n0 + 0)), .val (.int fm), .val (.int to), .val (.int (-1 : Int32)), .val (.int ii)] [(.int (3 : Int32)), (.int ii)])) (fun _ k => XS.iconst A3.here hx rfl (own_db hby d_prog_2_method_2_83) k) ?_
                refine own_by (u' := T2.setTop (mkF m 85 #[.val (.ref (n0 + 0)), .val (.int fm), .val (.int to), .val (.int (-1 : Int32)), .val (.int ii)] [(.int (ii + (3 : Int32)))])) (fun _ k => XS.iadd A3.here hx rfl (own_db hby d_prog_2_method_2_84) rfl k) ?_
                refine own_by (u' := T2.setTop (mkF m 86 #[.val (.ref (n0 + 0)), .val (.int fm), .val (.int to), .val (.int (ii + (3 : Int32))), .val (.int ii)] [])) (fun _ k => XS.istoreN A3.here hx rfl (own_db hby d_prog_2_method_2_85) rfl (l' := #[.val (.ref (n0 + 0)), .val (.int fm), .val (.int to), .val (.int (ii + (3 : Int32))), .val (.int ii)]) rfl k) ?_
                refine own_by (u' := T2.setTop (mkF m 89 #[.val (.ref (n0 + 0)), .val (.int fm), .val (.int to), .val (.int (ii + (3 : Int32))), .val (.int (ii + (1 : Int32)))] [])) (fun _ k => XS.iinc A3.here hx rfl (own_db hby d_prog_2_method_2_86) rfl (l' := #[.val (.ref (n0 + 0)), .val (.int fm), .val (.int to), .val (.int (ii + (3 : Int32))), .val (.int (ii + (1 : Int32)))]) rfl k) ?_
                refine own_by (u' := T2.setTop (mkF m 5 #[.val (.ref (n0 + 0)), .val (.int fm), .val (.int to), .val (.int (ii + (3 : Int32))), .val (.int (ii + (1 : Int32)))] [])) (fun _ k => XS.goto A3.here hx rfl (pc0 := 89) (pc' := 5) rfl (own_db hby d_prog_2_method_2_89) (by decide) (by decide) k) ?_
                refine own_by (u' := T2.setTop (mkF m 7 #[.val (.ref (n0 + 0)), .val (.int fm), .val (.int to), .val (.int (ii + (3 : Int32))), .val (.int (ii + (1 : Int32)))] [(.int (ii + (1 : Int32)))])) (fun _ k => XS.iload A3.here hx rfl (own_db hby d_prog_2_method_2_5) rfl k) ?_
                refine own_by (u' := T2.setTop (mkF m 8 #[.val (.ref (n0 + 0)), .val (.int fm), .val (.int to), .val (.int (ii + (3 : Int32))), .val (.int (ii + (1 : Int32)))] [(.int to), (.int (ii + (1 : Int32)))])) (fun _ k => XS.iloadN A3.here hx rfl (own_db hby d_prog_2_method_2_7) rfl k) ?_
                refine own_by (u' := T2.setTop (mkF m 92 #[.val (.ref (n0 + 0)), .val (.int fm), .val (.int to), .val (.int (ii + (3 : Int32))), .val (.int (ii + (1 : Int32)))] [])) (fun _ k => XS.icmpYes A3.here hx rfl (pc0 := 8) (pc' := 92) rfl (own_db hby d_prog_2_method_2_8) rfl (flt hc6).2.1 (by decide) (by decide) k) ?_
                refine own_by (u' := T2.setTop (mkF m 93 #[.val (.ref (n0 + 0)), .val (.int fm), .val (.int to), .val (.int (ii + (3 : Int32))), .val (.int (ii + (1 : Int32)))] [(.int (ii + (3 : Int32)))])) (fun _ k => XS.iloadN A3.here hx rfl (own_db hby d_prog_2_method_2_92) rfl k) ?_
                exact own_retI A3 hx hlk hret (own_db hby d_prog_2_method_2_93) (by decide) (by decide) ⟨by rw [← hv]; show _ = some (Value.int (if own_hit xs to ii = -1 then own_scan xs to k (ii + (1 : Int32)) else own_hit xs to ii)); rw [show own_hit xs to ii = (ii + (3 : Int32)) from by unfold own_hit; try unfold own_h3; simp [hc5, hc6, hc11, hc12, hc13], if_neg (own_nn (own_ub hto hi) 3 3 rfl (by omega)).2], rfl⟩
              · refine own_by (u' := T2.setTop (mkF m 86 #[.val (.ref (n0 + 0)), .val (.int fm), .val (.int to), .val (.int (-1 : Int32)), .val (.int ii)] [])) (fun _ k => XS.icmpYes A3.here hx rfl (pc0 := 78) (pc' := 86) rfl (own_db hby d_prog_2_method_2_78) rfl (feq hc13).2 (by decide) (by decide) k) ?_
                refine own_by (u' := T2.setTop (mkF m 89 #[.val (.ref (n0 + 0)), .val (.int fm), .val (.int to), .val (.int (-1 : Int32)), .val (.int (ii + (1 : Int32)))] [])) (fun _ k => XS.iinc A3.here hx rfl (own_db hby d_prog_2_method_2_86) rfl (l' := #[.val (.ref (n0 + 0)), .val (.int fm), .val (.int to), .val (.int (-1 : Int32)), .val (.int (ii + (1 : Int32)))]) rfl k) ?_
                refine own_by (u' := T2.setTop (mkF m 5 #[.val (.ref (n0 + 0)), .val (.int fm), .val (.int to), .val (.int (-1 : Int32)), .val (.int (ii + (1 : Int32)))] [])) (fun _ k => XS.goto A3.here hx rfl (pc0 := 89) (pc' := 5) rfl (own_db hby d_prog_2_method_2_89) (by decide) (by decide) k) ?_
                exact ih4 _ (ii + (1 : Int32)) A3 (own_nx hto hi) (by rw [← hv]; show _ = (if own_hit xs to ii = -1 then own_scan xs to k (ii + (1 : Int32)) else own_hit xs to ii); rw [if_pos (show own_hit xs to ii = -1 from by unfold own_hit; try unfold own_h3; simp [hc5, hc6, hc11, hc12, hc13])])
            · refine own_by (u' := T2.setTop (mkF m 86 #[.val (.ref (n0 + 0)), .val (.int fm), .val (.int to), .val (.int (-1 : Int32)), .val (.int ii)] [])) (fun _ k => XS.icmpYes A3.here hx rfl (pc0 := 67) (pc' := 86) rfl (own_db hby d_prog_2_method_2_67) rfl (feq hc12).2 (by decide) (by decide) k) ?_
              refine own_by (u' := T2.setTop (mkF m 89 #[.val (.ref (n0 + 0)), .val (.int fm), .val (.int to), .val (.int (-1 : Int32)), .val (.int (ii + (1 : Int32)))] [])) (fun _ k => XS.iinc A3.here hx rfl (own_db hby d_prog_2_method_2_86) rfl (l' := #[.val (.ref (n0 + 0)), .val (.int fm), .val (.int to), .val (.int (-1 : Int32)), .val (.int (ii + (1 : Int32)))]) rfl k) ?_
              refine own_by (u' := T2.setTop (mkF m 5 #[.val (.ref (n0 + 0)), .val (.int fm), .val (.int to), .val (.int (-1 : Int32)), .val (.int (ii + (1 : Int32)))] [])) (fun _ k => XS.goto A3.here hx rfl (pc0 := 89) (pc' := 5) rfl (own_db hby d_prog_2_method_2_89) (by decide) (by decide) k) ?_
              exact ih4 _ (ii + (1 : Int32)) A3 (own_nx hto hi) (by rw [← hv]; show _ = (if own_hit xs to ii = -1 then own_scan xs to k (ii + (1 : Int32)) else own_hit xs to ii); rw [if_pos (show own_hit xs to ii = -1 from by unfold own_hit; try unfold own_h3; simp [hc5, hc6, hc11, hc12])])
          · refine own_by (u' := T2.setTop (mkF m 86 #[.val (.ref (n0 + 0)), .val (.int fm), .val (.int to), .val (.int (-1 : Int32)), .val (.int ii)] [])) (fun _ k => XS.icmpYes A3.here hx rfl (pc0 := 56) (pc' := 86) rfl (own_db hby d_prog_2_method_2_56) rfl (flt hc11).2.1 (by decide) (by decide) k) ?_
            refine own_by (u' := T2.setTop (mkF m 89 #[.val (.ref (n0 + 0)), .val (.int fm), .val (.int to), .val (.int (-1 : Int32)), .val (.int (ii + (1 : Int32)))] [])) (fun _ k => XS.iinc A3.here hx rfl (own_db hby d_prog_2_method_2_86) rfl (l' := #[.val (.ref (n0 + 0)), .val (.int fm), .val (.int to), .val (.int (-1 : Int32)), .val (.int (ii + (1 : Int32)))]) rfl k) ?_
            refine own_by (u' := T2.setTop (mkF m 5 #[.val (.ref (n0 + 0)), .val (.int fm), .val (.int to), .val (.int (-1 : Int32)), .val (.int (ii + (1 : Int32)))] [])) (fun _ k => XS.goto A3.here hx rfl (pc0 := 89) (pc' := 5) rfl (own_db hby d_prog_2_method_2_89) (by decide) (by decide) k) ?_
            exact ih4 _ (ii + (1 : Int32)) A3 (own_nx hto hi) (by rw [← hv]; show _ = (if own_hit xs to ii = -1 then own_scan xs to k (ii + (1 : Int32)) else own_hit xs to ii); rw [if_pos (show own_hit xs to ii = -1 from by unfold own_hit; try unfold own_h3; simp [hc5, hc6, hc11])])
      · refine own_by (u' := T2.setTop (mkF m 86 #[.val (.ref (n0 + 0)), .val (.int fm), .val (.int to), .val (.int (-1 : Int32)), .val (.int ii)] [])) (fun _ k => XS.icmpYes A3.here hx rfl (pc0 := 21) (pc' := 86) rfl (own_db hby d_prog_2_method_2_21) rfl (feq hc5).2 (by decide) (by decide) k) ?_
        refine own_by (u' := T2.setTop (mkF m 89 #[.val (.ref (n0 + 0)), .val (.int fm), .val (.int to), .val (.int (-1 : Int32)), .val (.int (ii + (1 : Int32)))] [])) (fun _ k => XS.iinc A3.here hx rfl (own_db hby d_prog_2_method_2_86) rfl (l' := #[.val (.ref (n0 + 0)), .val (.int fm), .val (.int to), .val (.int (-1 : Int32)), .val (.int (ii + (1 : Int32)))]) rfl k) ?_
        refine own_by (u' := T2.setTop (mkF m 5 #[.val (.ref (n0 + 0)), .val (.int fm), .val (.int to), .val (.int (-1 : Int32)), .val (.int (ii + (1 : Int32)))] [])) (fun _ k => XS.goto A3.here hx rfl (pc0 := 89) (pc' := 5) rfl (own_db hby d_prog_2_method_2_89) (by decide) (by decide) k) ?_
        exact ih4 _ (ii + (1 : Int32)) A3 (own_nx hto hi) (by rw [← hv]; show _ = (if own_hit xs to ii = -1 then own_scan xs to k (ii + (1 : Int32)) else own_hit xs to ii); rw [if_pos (show own_hit xs to ii = -1 from by unfold own_hit; try unfold own_h3; simp [hc5])])
  exact lp1 ((to.toInt - fm.toInt).toNat) _ fm A0 ⟨hf, by omega⟩ rfl
def own_q2 (xs : List Int32) (fm to : Int32) (j : Nat) : Prop := fm.toInt ≤ (j : Int) ∧ (j : Int) + 2 ≤ to.toInt ∧ xs.getD j 0 = 10 ∧ xs.getD (j + 1) 0 = 10
def own_q3 (xs : List Int32) (fm to : Int32) (j : Nat) : Prop := fm.toInt ≤ (j : Int) ∧ (j : Int) + 3 ≤ to.toInt ∧ xs.getD j 0 = 10 ∧ xs.getD (j + 1) 0 = 13 ∧ xs.getD (j + 2) 0 = 10
theorem own_gn {xs : List Int32} {i : Int32} {j : Nat} (h : i.toInt = j) : own_g xs i = xs.getD j 0 := by
  unfold own_g; rw [Int32.toNatClampNeg, h]; rfl
theorem own_hits {xs : List Int32} {fm to i : Int32} {j : Nat} (hj : i.toInt = j) (h6 : j < 6) (hf : fm.toInt ≤ (j : Int)) :
    (own_hit xs to i = -1 ∧ ¬ own_q2 xs fm to j ∧ ¬ own_q3 xs fm to j) ∨ ((own_hit xs to i).toInt = (j : Int) + 2 ∧ own_q2 xs fm to j) ∨ ((own_hit xs to i).toInt = (j : Int) + 3 ∧ own_q3 xs fm to j ∧ ¬ own_q2 xs fm to j) := by
  have q1 := own_inc (j := i) 1 1 rfl (by omega) (by omega) (by omega)
  have q2 := own_inc (j := i) 2 2 rfl (by omega) (by omega) (by omega)
  have q3 := own_inc (j := i) 3 3 rfl (by omega) (by omega) (by omega)
  have g0 := own_gn (xs := xs) hj
  have g1 : own_g xs (i + 1) = xs.getD (j + 1) 0 := own_gn (by rw [q1]; omega)
  have g2 : own_g xs (i + 2) = xs.getD (j + 2) 0 := own_gn (by rw [q2]; omega)
  unfold own_hit own_h3 own_q2 own_q3
  simp only [g0, g1, g2, own_lt, q1, q2, hj]
  by_cases a0 : xs.getD j 0 = 10
  · by_cases a1 : xs.getD (j + 1) 0 = 10
    · have a1' : ¬ xs.getD (j + 1) 0 = 13 := by rw [a1]; decide
      by_cases t1 : (j : Int) + (1 : Nat) < to.toInt
      · refine Or.inr (Or.inl ⟨?_, hf, by omega, a0, a1⟩)
        rw [if_pos a0, if_pos t1, if_pos a1, q2]; omega
      · refine Or.inl ⟨?_, fun z => by omega, fun z => a1' z.2.2.2.1⟩
        rw [if_pos a0, if_neg t1, if_neg (by omega)]
    · by_cases t2 : (j : Int) + (2 : Nat) < to.toInt
      · have t1 : (j : Int) + (1 : Nat) < to.toInt := by omega
        by_cases a2 : xs.getD (j + 1) 0 = 13
        · by_cases a3 : xs.getD (j + 2) 0 = 10
          · refine Or.inr (Or.inr ⟨?_, ⟨hf, by omega, a0, a2, a3⟩, fun z => a1 z.2.2.2⟩)
            rw [if_pos a0, if_pos t1, if_neg a1, if_pos t2, if_pos a2, if_pos a3, q3]; omega
          · refine Or.inl ⟨?_, fun z => a1 z.2.2.2, fun z => a3 z.2.2.2.2⟩
            rw [if_pos a0, if_pos t1, if_neg a1, if_pos t2, if_pos a2, if_neg a3]
        · refine Or.inl ⟨?_, fun z => a1 z.2.2.2, fun z => a2 z.2.2.2.1⟩
          rw [if_pos a0, if_pos t1, if_neg a1, if_pos t2, if_neg a2]
      · refine Or.inl ⟨?_, fun z => a1 z.2.2.2, fun z => by omega⟩
        rw [if_pos a0, if_neg a1, if_neg t2]; split <;> rfl
  · refine Or.inl ⟨?_, fun z => a0 z.2.2.1, fun z => a0 z.2.2.1⟩
    rw [if_neg a0]
theorem own_scans {xs : List Int32} {fm to : Int32} (ht : to.toInt ≤ 6) : ∀ (k : Nat) (i : Int32) (j : Nat), i.toInt = j → fm.toInt ≤ (j : Int) → ((j : Int) + k = to.toInt ∨ (k = 0 ∧ to.toInt ≤ (j : Int))) →
    (own_scan xs to k i = -1 ∧ ∀ n, j ≤ n → ¬ own_q2 xs fm to n ∧ ¬ own_q3 xs fm to n) ∨ ∃ n, j ≤ n ∧ (∀ n', j ≤ n' → n' < n → ¬ own_q2 xs fm to n' ∧ ¬ own_q3 xs fm to n') ∧ (((own_scan xs to k i).toInt = (n : Int) + 2 ∧ own_q2 xs fm to n) ∨ ((own_scan xs to k i).toInt = (n : Int) + 3 ∧ own_q3 xs fm to n ∧ ¬ own_q2 xs fm to n)) := by
  intro k
  induction k with
  | zero =>
    intro i j hj hf hk
    exact Or.inl ⟨rfl, fun n hn => ⟨fun z => by have := z.2.1; omega, fun z => by have := z.2.1; omega⟩⟩
  | succ k ih =>
    intro i j hj hf hk
    have q1 := own_inc (j := i) 1 1 rfl (by omega) (by omega) (by omega)
    have e : own_scan xs to (k + 1) i = if own_hit xs to i = -1 then own_scan xs to k (i + (1 : Int32)) else own_hit xs to i := rfl
    rcases own_hits (xs := xs) (fm := fm) (to := to) hj (by omega) hf with ⟨h1, h2, h3⟩ | ⟨h1, h2⟩ | ⟨h1, h2, h3⟩
    · rw [e, if_pos h1]
      rcases ih (i + 1) (j + 1) (by rw [q1, hj]; omega) (by omega) (by omega) with ⟨r1, r2⟩ | ⟨n, r1, r2, r3⟩
      · refine Or.inl ⟨r1, fun n hn => ?_⟩
        rcases Nat.eq_or_lt_of_le hn with rfl | z
        · exact ⟨h2, h3⟩
        · exact r2 n z
      · refine Or.inr ⟨n, by omega, fun n' hn hn' => ?_, r3⟩
        rcases Nat.eq_or_lt_of_le hn with rfl | z
        · exact ⟨h2, h3⟩
        · exact r2 n' z hn'
    · have hne : ¬ own_hit xs to i = -1 := fun z => by rw [z] at h1; have : (-1 : Int32).toInt = -1 := rfl; omega
      rw [e, if_neg hne]
      exact Or.inr ⟨j, Nat.le_refl _, fun n' a b => by omega, Or.inl ⟨h1, h2⟩⟩
    · have hne : ¬ own_hit xs to i = -1 := fun z => by rw [z] at h1; have : (-1 : Int32).toInt = -1 := rfl; omega
      rw [e, if_neg hne]
      exact Or.inr ⟨j, Nat.le_refl _, fun n' a b => by omega, Or.inr ⟨h1, h2, h3⟩⟩
theorem own_ends {xs : List Int32} {fm to ee : Int32} {n : Nat} (he : ee.toInt = n) (h2 : 2 ≤ n) (h6 : n ≤ 6) (hf : 0 ≤ fm.toInt) : (¬ f2 xs ee fm to = 0) ↔ (own_q2 xs fm to (n - 2) ∨ (3 ≤ n ∧ own_q3 xs fm to (n - 3))) := by
  have d1 := own_dec (j := ee) 1 1 rfl (by omega) (by omega) (by omega)
  have d2 := own_dec (j := ee) 2 2 rfl (by omega) (by omega) (by omega)
  have d3 := own_dec (j := ee) 3 3 rfl (by omega) (by omega) (by omega)
  have g1 : own_g xs (ee - 1) = xs.getD (n - 2 + 1) 0 := own_gn (by rw [d1]; omega)
  have g2 : own_g xs (ee - 2) = xs.getD (n - 2) 0 := own_gn (by rw [d2]; omega)
  have n1 : 3 ≤ n → n - 3 + 1 = n - 2 := by omega
  have n2 : 3 ≤ n → n - 3 + 2 = n - 2 + 1 := by omega
  have z0 : ¬ (0 : Int32) = 1 := by decide
  unfold f2 own_q2 own_q3
  simp only [g1, g2, own_lt, d2, d3, he]
  by_cases t : to.toInt < (n : Int)
  · rw [if_pos t]
    constructor
    · intro z; exact absurd rfl z
    · rintro (z | ⟨z, z'⟩)
      · omega
      · omega
  · rw [if_neg t]
    by_cases a1 : xs.getD (n - 2 + 1) 0 = 10
    · rw [if_pos a1]
      by_cases t3 : (n : Int) - (3 : Nat) < fm.toInt
      · have k3 : ¬ (3 ≤ n ∧ fm.toInt ≤ ((n - 3 : Nat) : Int) ∧ ((n - 3 : Nat) : Int) + 3 ≤ to.toInt ∧ xs.getD (n - 3) 0 = 10 ∧ xs.getD (n - 3 + 1) 0 = 13 ∧ xs.getD (n - 3 + 2) 0 = 10) := fun z => by omega
        by_cases t2 : (n : Int) - (2 : Nat) < fm.toInt
        · rw [if_pos t2, if_pos t3]
          constructor
          · intro z; exact absurd rfl z
          · rintro (z | z)
            · omega
            · exact absurd z k3
        · rw [if_neg t2]
          by_cases a2 : xs.getD (n - 2) 0 = 10
          · rw [if_pos a2]
            exact ⟨fun _ => Or.inl ⟨by omega, by omega, a2, a1⟩, fun _ => by decide⟩
          · rw [if_neg a2, if_pos t3]
            constructor
            · intro z; exact absurd rfl z
            · rintro (z | z)
              · exact absurd z.2.2.1 a2
              · exact absurd z k3
      · have k3 : 3 ≤ n := by omega
        have g3 : own_g xs (ee - 3) = xs.getD (n - 3) 0 := own_gn (by rw [d3]; omega)
        have t2 : ¬ (n : Int) - (2 : Nat) < fm.toInt := by omega
        rw [if_neg t2, if_neg t3, g3, n1 k3, n2 k3]
        by_cases a2 : xs.getD (n - 2) 0 = 10
        · rw [if_pos a2]
          exact ⟨fun _ => Or.inl ⟨by omega, by omega, a2, a1⟩, fun _ => by decide⟩
        · rw [if_neg a2]
          by_cases a3 : xs.getD (n - 2) 0 = 13
          · rw [if_pos a3]
            by_cases a4 : xs.getD (n - 3) 0 = 10
            · rw [if_pos a4]
              exact ⟨fun _ => Or.inr ⟨k3, by omega, by omega, a4, a3, a1⟩, fun _ => by decide⟩
            · rw [if_neg a4]
              constructor
              · intro z; exact absurd rfl z
              · rintro (z | z)
                · exact absurd z.2.2.1 a2
                · exact absurd z.2.2.2.1 a4
          · rw [if_neg a3]
            constructor
            · intro z; exact absurd rfl z
            · rintro (z | z)
              · exact absurd z.2.2.1 a2
              · exact absurd z.2.2.2.2.1 a3
    · rw [if_neg a1]
      constructor
      · intro z; exact absurd rfl z
      · rintro (z | ⟨z, z'⟩)
        · exact absurd z.2.2.2 a1
        · rw [n2 z] at z'; exact absurd z'.2.2.2.2 a1
theorem own_exp {xs : List Int32} {fm to : Int32} (h6 : xs.length = 6) (hf : 0 ≤ fm.toInt ∧ fm.toInt < (7 : Nat)) (ht : 0 ≤ to.toInt ∧ to.toInt < (7 : Nat)) : own_scan xs to (to.toInt - fm.toInt).toNat fm = if f2 xs 2 fm to = 0 then (if f2 xs 3 fm to = 0 then (if f2 xs 4 fm to = 0 then (if f2 xs 5 fm to = 0 then (if f2 xs 6 fm to = 0 then -1 else 6) else 5) else 4) else 3) else 2 := by
  obtain ⟨j, hj⟩ : ∃ j : Nat, fm.toInt = j := ⟨fm.toInt.toNat, by omega⟩
  have S := own_scans (xs := xs) (fm := fm) (to := to) (by omega) (to.toInt - fm.toInt).toNat fm j hj (by omega) (by omega)
  have P2 := own_ends (xs := xs) (fm := fm) (to := to) (ee := 2) (n := 2) rfl (by omega) (by omega) hf.1
  have P3 := own_ends (xs := xs) (fm := fm) (to := to) (ee := 3) (n := 3) rfl (by omega) (by omega) hf.1
  have P4 := own_ends (xs := xs) (fm := fm) (to := to) (ee := 4) (n := 4) rfl (by omega) (by omega) hf.1
  have P5 := own_ends (xs := xs) (fm := fm) (to := to) (ee := 5) (n := 5) rfl (by omega) (by omega) hf.1
  have P6 := own_ends (xs := xs) (fm := fm) (to := to) (ee := 6) (n := 6) rfl (by omega) (by omega) hf.1
  simp only [Nat.reduceSub, Nat.reduceLeDiff, true_and, false_and, or_false] at P2 P3 P4 P5 P6
  have L2 : ∀ n, own_q2 xs fm to n → j ≤ n ∧ n ≤ 4 := fun n z => by have a := z.1; have b := z.2.1; omega
  have L3 : ∀ n, own_q3 xs fm to n → j ≤ n ∧ n ≤ 3 := fun n z => by have a := z.1; have b := z.2.1; omega
  rcases S with ⟨r1, r2⟩ | ⟨n, r1, r2, r3⟩
  · have no2 : ∀ n, ¬ own_q2 xs fm to n := fun n z => (r2 n (L2 n z).1).1 z
    have no3 : ∀ n, ¬ own_q3 xs fm to n := fun n z => (r2 n (L3 n z).1).2 z
    simp only [no2, no3, or_self, iff_false, Classical.not_not] at P2 P3 P4 P5 P6
    rw [r1, if_pos P2, if_pos P3, if_pos P4, if_pos P5, if_pos P6]
  · have no2 : ∀ n', n' < n → ¬ own_q2 xs fm to n' := fun n' h z => (r2 n' (L2 n' z).1 h).1 z
    have no3 : ∀ n', n' < n → ¬ own_q3 xs fm to n' := fun n' h z => (r2 n' (L3 n' z).1 h).2 z
    have e2 : (2 : Int32).toInt = 2 := rfl
    have e3 : (3 : Int32).toInt = 3 := rfl
    have e4 : (4 : Int32).toInt = 4 := rfl
    have e5 : (5 : Int32).toInt = 5 := rfl
    have e6 : (6 : Int32).toInt = 6 := rfl
    rcases r3 with ⟨s1, s2⟩ | ⟨s1, s2, s3⟩
    · have b := L2 n s2
      rcases (by omega : n = 0 ∨ n = 1 ∨ n = 2 ∨ n = 3 ∨ n = 4) with rfl | rfl | rfl | rfl | rfl
      all_goals (apply Int32.toInt_inj.mp; rw [s1])
      · rw [if_neg (P2.mpr s2)]; rfl
      · rw [if_pos (Classical.not_not.mp fun z => no2 0 (by omega) (P2.mp z)), if_neg (P3.mpr (Or.inl s2))]; rfl
      · rw [if_pos (Classical.not_not.mp fun z => no2 0 (by omega) (P2.mp z)), if_pos (Classical.not_not.mp fun z => (P3.mp z).elim (no2 1 (by omega)) (no3 0 (by omega))), if_neg (P4.mpr (Or.inl s2))]; rfl
      · rw [if_pos (Classical.not_not.mp fun z => no2 0 (by omega) (P2.mp z)), if_pos (Classical.not_not.mp fun z => (P3.mp z).elim (no2 1 (by omega)) (no3 0 (by omega))), if_pos (Classical.not_not.mp fun z => (P4.mp z).elim (no2 2 (by omega)) (no3 1 (by omega))), if_neg (P5.mpr (Or.inl s2))]; rfl
      · rw [if_pos (Classical.not_not.mp fun z => no2 0 (by omega) (P2.mp z)), if_pos (Classical.not_not.mp fun z => (P3.mp z).elim (no2 1 (by omega)) (no3 0 (by omega))), if_pos (Classical.not_not.mp fun z => (P4.mp z).elim (no2 2 (by omega)) (no3 1 (by omega))), if_pos (Classical.not_not.mp fun z => (P5.mp z).elim (no2 3 (by omega)) (no3 2 (by omega))), if_neg (P6.mpr (Or.inl s2))]; rfl
    · have b := L3 n s2
      rcases (by omega : n = 0 ∨ n = 1 ∨ n = 2 ∨ n = 3) with rfl | rfl | rfl | rfl
      all_goals (apply Int32.toInt_inj.mp; rw [s1])
      · rw [if_pos (Classical.not_not.mp fun z => s3 (P2.mp z)), if_neg (P3.mpr (Or.inr s2))]; rfl
      · rw [if_pos (Classical.not_not.mp fun z => no2 0 (by omega) (P2.mp z)), if_pos (Classical.not_not.mp fun z => (P3.mp z).elim s3 (no3 0 (by omega))), if_neg (P4.mpr (Or.inr s2))]; rfl
      · rw [if_pos (Classical.not_not.mp fun z => no2 0 (by omega) (P2.mp z)), if_pos (Classical.not_not.mp fun z => (P3.mp z).elim (no2 1 (by omega)) (no3 0 (by omega))), if_pos (Classical.not_not.mp fun z => (P4.mp z).elim s3 (no3 1 (by omega))), if_neg (P5.mpr (Or.inr s2))]; rfl
      · rw [if_pos (Classical.not_not.mp fun z => no2 0 (by omega) (P2.mp z)), if_pos (Classical.not_not.mp fun z => (P3.mp z).elim (no2 1 (by omega)) (no3 0 (by omega))), if_pos (Classical.not_not.mp fun z => (P4.mp z).elim (no2 2 (by omega)) (no3 1 (by omega))), if_pos (Classical.not_not.mp fun z => (P5.mp z).elim s3 (no3 2 (by omega))), if_neg (P6.mpr (Or.inr s2))]; rfl

theorem pd__IJI_B : parseMethodDescriptor "(IJI)B" = some ⟨[.int, .long, .int], some .byte⟩ := by decide +kernel
theorem pd___BIII_Z : parseMethodDescriptor "([BIII)Z" = some ⟨[(.array .byte), .int, .int, .int], some .boolean⟩ := by decide +kernel
theorem pd___BII_I : parseMethodDescriptor "([BII)I" = some ⟨[(.array .byte), .int, .int], some .int⟩ := by decide +kernel
theorem pf_g0 : plainFor x = true := by first | exact plainFor_of_name (by first | (simp [plainName, overriddenIn]; done) | decide +kernel) | decide +kernel
theorem ef_g0 (m : MethodId) (x1 : Int32) (x2 : Int64) (x3 : Int32) (x4 : Int32) : entryFrame m #[(.int x1), (.long x2), (.int x3), (.int x4)] maxLocals = (mkF m 0 #[.val (.int x1), .val (.long x2), .second, .val (.int x3), .val (.int x4), .unset, .unset, .unset, .unset, .unset] []) := by first | (simp [entryFrame, mkF, argsToLocals, Value.category, maxLocals]; done) | rfl
set_option maxRecDepth 65536 in
set_option maxHeartbeats 40000000 in
theorem g0 (l : Launch) (Z : State) (a0 : Array Value) (hw : ∀ d ∈ tables_1, d.before a0 Z = true) (n0 : Nat) (x1 : Int32) (x2 : Int64) (x3 : Int32) (x4 : Int32)  :
    own_met l Z n0 x code maxLocals ret room_1 #[(.int x1), (.long x2), (.int x3), (.int x4)] [] (fun v _ => v = some (.int 1) ∧ True) := by
  refine own_met.of pf_g0 ?_
  intro p e s m below meth c T0 hx hby hml hret hlk hZ hown hnm A0
  replace hown : s.vm.findClass "com/example/halfpast/halfpast/api/HttpHeadEndPinLaw" = some m.cls := hown
  replace hml : c.maxLocals = 10 := hml
  rw [ef_g0 m x1 x2 x3 x4]
  show own_go _ _ _ _ _ _ _ (T0.setTop (mkF m 0 #[.val (.int x1), .val (.long x2), .second, .val (.int x3), .val (.int x4), .unset, .unset, .unset, .unset, .unset] []))
  refine own_by (u' := T0.setTop (mkF m 2 #[.val (.int x1), .val (.long x2), .second, .val (.int x3), .val (.int x4), .unset, .unset, .unset, .unset, .unset] [(.int (6 : Int32))])) (fun _ k => XS.bipush A0.here hx rfl (own_db hby at_0) k) ?_
  refine own_newP (aty := .byte) A0 hx hZ (hw _ (List.mem_of_getElem? (i := 0) rfl)) (own_db hby at_2) (6) ⟨by decide, by decide⟩ (cap := 6) (by decide) (by decide) rfl (by decide) (by decide) ?_
  intro T1 A2
  replace A2 : own_at p l e _ s m _ below meth c n0 T1 1 6 [(own_ia Z .byte (List.replicate 6 (0 : Int32)))] := A2
  show own_go _ _ _ _ _ _ _ (T1.setTop (mkF m 4 #[.val (.int x1), .val (.long x2), .second, .val (.int x3), .val (.int x4), .unset, .unset, .unset, .unset, .unset] [(.ref (n0 + 0))]))
  refine own_by (u' := T1.setTop (mkF m 6 #[.val (.int x1), .val (.long x2), .second, .val (.int x3), .val (.int x4), .val (.ref (n0 + 0)), .unset, .unset, .unset, .unset] [])) (fun _ k => XS.astore A2.here hx rfl (own_db hby at_4) rfl rfl (l' := #[.val (.int x1), .val (.long x2), .second, .val (.int x3), .val (.int x4), .val (.ref (n0 + 0)), .unset, .unset, .unset, .unset]) rfl k) ?_
  refine own_by (u' := T1.setTop (mkF m 8 #[.val (.int x1), .val (.long x2), .second, .val (.int x3), .val (.int x4), .val (.ref (n0 + 0)), .unset, .unset, .unset, .unset] [(.ref (n0 + 0))])) (fun _ k => XS.aload A2.here hx rfl (own_db hby at_6) rfl rfl k) ?_
  refine own_by (u' := T1.setTop (mkF m 9 #[.val (.int x1), .val (.long x2), .second, .val (.int x3), .val (.int x4), .val (.ref (n0 + 0)), .unset, .unset, .unset, .unset] [(.int (0 : Int32)), (.ref (n0 + 0))])) (fun _ k => XS.iconst A2.here hx rfl (own_db hby at_8) k) ?_
  refine own_by (u' := T1.setTop (mkF m 10 #[.val (.int x1), .val (.long x2), .second, .val (.int x3), .val (.int x4), .val (.ref (n0 + 0)), .unset, .unset, .unset, .unset] [(.int x1), (.int (0 : Int32)), (.ref (n0 + 0))])) (fun _ k => XS.iloadN A2.here hx rfl (own_db hby at_9) rfl k) ?_
  refine own_by (u' := T1.setTop (mkF m 11 #[.val (.int x1), .val (.long x2), .second, .val (.int x3), .val (.int x4), .val (.ref (n0 + 0)), .unset, .unset, .unset, .unset] [(.long x2), (.int x1), (.int (0 : Int32)), (.ref (n0 + 0))])) (fun _ k => XS.lloadN A2.here hx rfl (own_db hby at_10) rfl k) ?_
  refine own_by (u' := T1.setTop (mkF m 12 #[.val (.int x1), .val (.long x2), .second, .val (.int x3), .val (.int x4), .val (.ref (n0 + 0)), .unset, .unset, .unset, .unset] [(.int (0 : Int32)), (.long x2), (.int x1), (.int (0 : Int32)), (.ref (n0 + 0))])) (fun _ k => XS.iconst A2.here hx rfl (own_db hby at_11) k) ?_
  refine own_callS (y := (⟨"com/example/halfpast/halfpast/api/HttpHeadEndPinLaw", "pick", "(IJI)B"⟩ : MethodName)) (rest := [(.int (0 : Int32)), (.ref (n0 + 0))]) A2 hx hZ hown (hw _ (List.mem_of_getElem? (i := 1) rfl)) (hw _ (List.mem_of_getElem? (i := 2) rfl)) (hw _ (List.mem_of_getElem? (i := 3) rfl)) (hw _ (List.mem_of_getElem? (i := 4) rfl)) (by decide) (g1 l Z a0 hw n0 [(own_ia Z .byte (List.replicate 6 (0 : Int32)))] x1 x2 (0 : Int32)) (by rw [hml]; rfl) [(.int x1), (.long x2), (.int (0 : Int32))] rfl rfl pd__IJI_B rfl (W := 2) (by show 2 * 0 + _ ≤ _; exact Nat.le_of_eq rfl) (own_db hby at_12) (by decide) (by decide) (by decide) (by decide) ?_
  intro v3 i4 T6 hq5 A7
  obtain ⟨rfl, he8⟩ := hq5
  rw [he8] at A7
  replace A7 : own_at p l e _ s m _ below meth c n0 T6 1 6 [(own_ia Z .byte (List.replicate 6 (0 : Int32)))] := A7
  show own_go _ _ _ _ _ _ _ (T6.setTop (mkF m 15 #[.val (.int x1), .val (.long x2), .second, .val (.int x3), .val (.int x4), .val (.ref (n0 + 0)), .unset, .unset, .unset, .unset] [(.int (f1 x1 x2 (0 : Int32))), (.int (0 : Int32)), (.ref (n0 + 0))]))
  refine own_bastore A7 hx hZ (i := 0) rfl (0) ⟨by decide, by decide, Nat.le_of_ble_eq_true rfl⟩ (own_db hby at_15) (its2 := [(own_ia Z .byte [(nar .byte (f1 x1 x2 (0 : Int32))), (0 : Int32), (0 : Int32), (0 : Int32), (0 : Int32), (0 : Int32)])]) rfl ?_
  intro T9 A10
  show own_go _ _ _ _ _ _ _ (T9.setTop (mkF m 16 #[.val (.int x1), .val (.long x2), .second, .val (.int x3), .val (.int x4), .val (.ref (n0 + 0)), .unset, .unset, .unset, .unset] []))
  refine own_by (u' := T9.setTop (mkF m 18 #[.val (.int x1), .val (.long x2), .second, .val (.int x3), .val (.int x4), .val (.ref (n0 + 0)), .unset, .unset, .unset, .unset] [(.ref (n0 + 0))])) (fun _ k => XS.aload A10.here hx rfl (own_db hby at_16) rfl rfl k) ?_
  refine own_by (u' := T9.setTop (mkF m 19 #[.val (.int x1), .val (.long x2), .second, .val (.int x3), .val (.int x4), .val (.ref (n0 + 0)), .unset, .unset, .unset, .unset] [(.int (1 : Int32)), (.ref (n0 + 0))])) (fun _ k => XS.iconst A10.here hx rfl (own_db hby at_18) k) ?_
  refine own_by (u' := T9.setTop (mkF m 20 #[.val (.int x1), .val (.long x2), .second, .val (.int x3), .val (.int x4), .val (.ref (n0 + 0)), .unset, .unset, .unset, .unset] [(.int x1), (.int (1 : Int32)), (.ref (n0 + 0))])) (fun _ k => XS.iloadN A10.here hx rfl (own_db hby at_19) rfl k) ?_
  refine own_by (u' := T9.setTop (mkF m 21 #[.val (.int x1), .val (.long x2), .second, .val (.int x3), .val (.int x4), .val (.ref (n0 + 0)), .unset, .unset, .unset, .unset] [(.long x2), (.int x1), (.int (1 : Int32)), (.ref (n0 + 0))])) (fun _ k => XS.lloadN A10.here hx rfl (own_db hby at_20) rfl k) ?_
  refine own_by (u' := T9.setTop (mkF m 22 #[.val (.int x1), .val (.long x2), .second, .val (.int x3), .val (.int x4), .val (.ref (n0 + 0)), .unset, .unset, .unset, .unset] [(.int (1 : Int32)), (.long x2), (.int x1), (.int (1 : Int32)), (.ref (n0 + 0))])) (fun _ k => XS.iconst A10.here hx rfl (own_db hby at_21) k) ?_
  refine own_callS (y := (⟨"com/example/halfpast/halfpast/api/HttpHeadEndPinLaw", "pick", "(IJI)B"⟩ : MethodName)) (rest := [(.int (1 : Int32)), (.ref (n0 + 0))]) A10 hx hZ hown (hw _ (List.mem_of_getElem? (i := 1) rfl)) (hw _ (List.mem_of_getElem? (i := 2) rfl)) (hw _ (List.mem_of_getElem? (i := 3) rfl)) (hw _ (List.mem_of_getElem? (i := 4) rfl)) (by decide) (g1 l Z a0 hw n0 [(own_ia Z .byte [(nar .byte (f1 x1 x2 (0 : Int32))), (0 : Int32), (0 : Int32), (0 : Int32), (0 : Int32), (0 : Int32)])] x1 x2 (1 : Int32)) (by rw [hml]; rfl) [(.int x1), (.long x2), (.int (1 : Int32))] rfl rfl pd__IJI_B rfl (W := 2) (by show 2 * 0 + _ ≤ _; exact Nat.le_of_eq rfl) (own_db hby at_22) (by decide) (by decide) (by decide) (by decide) ?_
  intro v11 i12 T14 hq13 A15
  obtain ⟨rfl, he16⟩ := hq13
  rw [he16] at A15
  replace A15 : own_at p l e _ s m _ below meth c n0 T14 1 6 [(own_ia Z .byte [(nar .byte (f1 x1 x2 (0 : Int32))), (0 : Int32), (0 : Int32), (0 : Int32), (0 : Int32), (0 : Int32)])] := A15
  show own_go _ _ _ _ _ _ _ (T14.setTop (mkF m 25 #[.val (.int x1), .val (.long x2), .second, .val (.int x3), .val (.int x4), .val (.ref (n0 + 0)), .unset, .unset, .unset, .unset] [(.int (f1 x1 x2 (1 : Int32))), (.int (1 : Int32)), (.ref (n0 + 0))]))
  refine own_bastore A15 hx hZ (i := 0) rfl (1) ⟨by decide, by decide, Nat.le_of_ble_eq_true rfl⟩ (own_db hby at_25) (its2 := [(own_ia Z .byte [(nar .byte (f1 x1 x2 (0 : Int32))), (nar .byte (f1 x1 x2 (1 : Int32))), (0 : Int32), (0 : Int32), (0 : Int32), (0 : Int32)])]) rfl ?_
  intro T17 A18
  show own_go _ _ _ _ _ _ _ (T17.setTop (mkF m 26 #[.val (.int x1), .val (.long x2), .second, .val (.int x3), .val (.int x4), .val (.ref (n0 + 0)), .unset, .unset, .unset, .unset] []))
  refine own_by (u' := T17.setTop (mkF m 28 #[.val (.int x1), .val (.long x2), .second, .val (.int x3), .val (.int x4), .val (.ref (n0 + 0)), .unset, .unset, .unset, .unset] [(.ref (n0 + 0))])) (fun _ k => XS.aload A18.here hx rfl (own_db hby at_26) rfl rfl k) ?_
  refine own_by (u' := T17.setTop (mkF m 29 #[.val (.int x1), .val (.long x2), .second, .val (.int x3), .val (.int x4), .val (.ref (n0 + 0)), .unset, .unset, .unset, .unset] [(.int (2 : Int32)), (.ref (n0 + 0))])) (fun _ k => XS.iconst A18.here hx rfl (own_db hby at_28) k) ?_
  refine own_by (u' := T17.setTop (mkF m 30 #[.val (.int x1), .val (.long x2), .second, .val (.int x3), .val (.int x4), .val (.ref (n0 + 0)), .unset, .unset, .unset, .unset] [(.int x1), (.int (2 : Int32)), (.ref (n0 + 0))])) (fun _ k => XS.iloadN A18.here hx rfl (own_db hby at_29) rfl k) ?_
  refine own_by (u' := T17.setTop (mkF m 31 #[.val (.int x1), .val (.long x2), .second, .val (.int x3), .val (.int x4), .val (.ref (n0 + 0)), .unset, .unset, .unset, .unset] [(.long x2), (.int x1), (.int (2 : Int32)), (.ref (n0 + 0))])) (fun _ k => XS.lloadN A18.here hx rfl (own_db hby at_30) rfl k) ?_
  refine own_by (u' := T17.setTop (mkF m 32 #[.val (.int x1), .val (.long x2), .second, .val (.int x3), .val (.int x4), .val (.ref (n0 + 0)), .unset, .unset, .unset, .unset] [(.int (2 : Int32)), (.long x2), (.int x1), (.int (2 : Int32)), (.ref (n0 + 0))])) (fun _ k => XS.iconst A18.here hx rfl (own_db hby at_31) k) ?_
  refine own_callS (y := (⟨"com/example/halfpast/halfpast/api/HttpHeadEndPinLaw", "pick", "(IJI)B"⟩ : MethodName)) (rest := [(.int (2 : Int32)), (.ref (n0 + 0))]) A18 hx hZ hown (hw _ (List.mem_of_getElem? (i := 1) rfl)) (hw _ (List.mem_of_getElem? (i := 2) rfl)) (hw _ (List.mem_of_getElem? (i := 3) rfl)) (hw _ (List.mem_of_getElem? (i := 4) rfl)) (by decide) (g1 l Z a0 hw n0 [(own_ia Z .byte [(nar .byte (f1 x1 x2 (0 : Int32))), (nar .byte (f1 x1 x2 (1 : Int32))), (0 : Int32), (0 : Int32), (0 : Int32), (0 : Int32)])] x1 x2 (2 : Int32)) (by rw [hml]; rfl) [(.int x1), (.long x2), (.int (2 : Int32))] rfl rfl pd__IJI_B rfl (W := 2) (by show 2 * 0 + _ ≤ _; exact Nat.le_of_eq rfl) (own_db hby at_32) (by decide) (by decide) (by decide) (by decide) ?_
  intro v19 i20 T22 hq21 A23
  obtain ⟨rfl, he24⟩ := hq21
  rw [he24] at A23
  replace A23 : own_at p l e _ s m _ below meth c n0 T22 1 6 [(own_ia Z .byte [(nar .byte (f1 x1 x2 (0 : Int32))), (nar .byte (f1 x1 x2 (1 : Int32))), (0 : Int32), (0 : Int32), (0 : Int32), (0 : Int32)])] := A23
  show own_go _ _ _ _ _ _ _ (T22.setTop (mkF m 35 #[.val (.int x1), .val (.long x2), .second, .val (.int x3), .val (.int x4), .val (.ref (n0 + 0)), .unset, .unset, .unset, .unset] [(.int (f1 x1 x2 (2 : Int32))), (.int (2 : Int32)), (.ref (n0 + 0))]))
  refine own_bastore A23 hx hZ (i := 0) rfl (2) ⟨by decide, by decide, Nat.le_of_ble_eq_true rfl⟩ (own_db hby at_35) (its2 := [(own_ia Z .byte [(nar .byte (f1 x1 x2 (0 : Int32))), (nar .byte (f1 x1 x2 (1 : Int32))), (nar .byte (f1 x1 x2 (2 : Int32))), (0 : Int32), (0 : Int32), (0 : Int32)])]) rfl ?_
  intro T25 A26
  show own_go _ _ _ _ _ _ _ (T25.setTop (mkF m 36 #[.val (.int x1), .val (.long x2), .second, .val (.int x3), .val (.int x4), .val (.ref (n0 + 0)), .unset, .unset, .unset, .unset] []))
  refine own_by (u' := T25.setTop (mkF m 38 #[.val (.int x1), .val (.long x2), .second, .val (.int x3), .val (.int x4), .val (.ref (n0 + 0)), .unset, .unset, .unset, .unset] [(.ref (n0 + 0))])) (fun _ k => XS.aload A26.here hx rfl (own_db hby at_36) rfl rfl k) ?_
  refine own_by (u' := T25.setTop (mkF m 39 #[.val (.int x1), .val (.long x2), .second, .val (.int x3), .val (.int x4), .val (.ref (n0 + 0)), .unset, .unset, .unset, .unset] [(.int (3 : Int32)), (.ref (n0 + 0))])) (fun _ k => XS.iconst A26.here hx rfl (own_db hby at_38) k) ?_
  refine own_by (u' := T25.setTop (mkF m 40 #[.val (.int x1), .val (.long x2), .second, .val (.int x3), .val (.int x4), .val (.ref (n0 + 0)), .unset, .unset, .unset, .unset] [(.int x1), (.int (3 : Int32)), (.ref (n0 + 0))])) (fun _ k => XS.iloadN A26.here hx rfl (own_db hby at_39) rfl k) ?_
  refine own_by (u' := T25.setTop (mkF m 41 #[.val (.int x1), .val (.long x2), .second, .val (.int x3), .val (.int x4), .val (.ref (n0 + 0)), .unset, .unset, .unset, .unset] [(.long x2), (.int x1), (.int (3 : Int32)), (.ref (n0 + 0))])) (fun _ k => XS.lloadN A26.here hx rfl (own_db hby at_40) rfl k) ?_
  refine own_by (u' := T25.setTop (mkF m 42 #[.val (.int x1), .val (.long x2), .second, .val (.int x3), .val (.int x4), .val (.ref (n0 + 0)), .unset, .unset, .unset, .unset] [(.int (3 : Int32)), (.long x2), (.int x1), (.int (3 : Int32)), (.ref (n0 + 0))])) (fun _ k => XS.iconst A26.here hx rfl (own_db hby at_41) k) ?_
  refine own_callS (y := (⟨"com/example/halfpast/halfpast/api/HttpHeadEndPinLaw", "pick", "(IJI)B"⟩ : MethodName)) (rest := [(.int (3 : Int32)), (.ref (n0 + 0))]) A26 hx hZ hown (hw _ (List.mem_of_getElem? (i := 1) rfl)) (hw _ (List.mem_of_getElem? (i := 2) rfl)) (hw _ (List.mem_of_getElem? (i := 3) rfl)) (hw _ (List.mem_of_getElem? (i := 4) rfl)) (by decide) (g1 l Z a0 hw n0 [(own_ia Z .byte [(nar .byte (f1 x1 x2 (0 : Int32))), (nar .byte (f1 x1 x2 (1 : Int32))), (nar .byte (f1 x1 x2 (2 : Int32))), (0 : Int32), (0 : Int32), (0 : Int32)])] x1 x2 (3 : Int32)) (by rw [hml]; rfl) [(.int x1), (.long x2), (.int (3 : Int32))] rfl rfl pd__IJI_B rfl (W := 2) (by show 2 * 0 + _ ≤ _; exact Nat.le_of_eq rfl) (own_db hby at_42) (by decide) (by decide) (by decide) (by decide) ?_
  intro v27 i28 T30 hq29 A31
  obtain ⟨rfl, he32⟩ := hq29
  rw [he32] at A31
  replace A31 : own_at p l e _ s m _ below meth c n0 T30 1 6 [(own_ia Z .byte [(nar .byte (f1 x1 x2 (0 : Int32))), (nar .byte (f1 x1 x2 (1 : Int32))), (nar .byte (f1 x1 x2 (2 : Int32))), (0 : Int32), (0 : Int32), (0 : Int32)])] := A31
  show own_go _ _ _ _ _ _ _ (T30.setTop (mkF m 45 #[.val (.int x1), .val (.long x2), .second, .val (.int x3), .val (.int x4), .val (.ref (n0 + 0)), .unset, .unset, .unset, .unset] [(.int (f1 x1 x2 (3 : Int32))), (.int (3 : Int32)), (.ref (n0 + 0))]))
  refine own_bastore A31 hx hZ (i := 0) rfl (3) ⟨by decide, by decide, Nat.le_of_ble_eq_true rfl⟩ (own_db hby at_45) (its2 := [(own_ia Z .byte [(nar .byte (f1 x1 x2 (0 : Int32))), (nar .byte (f1 x1 x2 (1 : Int32))), (nar .byte (f1 x1 x2 (2 : Int32))), (nar .byte (f1 x1 x2 (3 : Int32))), (0 : Int32), (0 : Int32)])]) rfl ?_
  intro T33 A34
  show own_go _ _ _ _ _ _ _ (T33.setTop (mkF m 46 #[.val (.int x1), .val (.long x2), .second, .val (.int x3), .val (.int x4), .val (.ref (n0 + 0)), .unset, .unset, .unset, .unset] []))
  refine own_by (u' := T33.setTop (mkF m 48 #[.val (.int x1), .val (.long x2), .second, .val (.int x3), .val (.int x4), .val (.ref (n0 + 0)), .unset, .unset, .unset, .unset] [(.ref (n0 + 0))])) (fun _ k => XS.aload A34.here hx rfl (own_db hby at_46) rfl rfl k) ?_
  refine own_by (u' := T33.setTop (mkF m 49 #[.val (.int x1), .val (.long x2), .second, .val (.int x3), .val (.int x4), .val (.ref (n0 + 0)), .unset, .unset, .unset, .unset] [(.int (4 : Int32)), (.ref (n0 + 0))])) (fun _ k => XS.iconst A34.here hx rfl (own_db hby at_48) k) ?_
  refine own_by (u' := T33.setTop (mkF m 50 #[.val (.int x1), .val (.long x2), .second, .val (.int x3), .val (.int x4), .val (.ref (n0 + 0)), .unset, .unset, .unset, .unset] [(.int x1), (.int (4 : Int32)), (.ref (n0 + 0))])) (fun _ k => XS.iloadN A34.here hx rfl (own_db hby at_49) rfl k) ?_
  refine own_by (u' := T33.setTop (mkF m 51 #[.val (.int x1), .val (.long x2), .second, .val (.int x3), .val (.int x4), .val (.ref (n0 + 0)), .unset, .unset, .unset, .unset] [(.long x2), (.int x1), (.int (4 : Int32)), (.ref (n0 + 0))])) (fun _ k => XS.lloadN A34.here hx rfl (own_db hby at_50) rfl k) ?_
  refine own_by (u' := T33.setTop (mkF m 52 #[.val (.int x1), .val (.long x2), .second, .val (.int x3), .val (.int x4), .val (.ref (n0 + 0)), .unset, .unset, .unset, .unset] [(.int (4 : Int32)), (.long x2), (.int x1), (.int (4 : Int32)), (.ref (n0 + 0))])) (fun _ k => XS.iconst A34.here hx rfl (own_db hby at_51) k) ?_
  refine own_callS (y := (⟨"com/example/halfpast/halfpast/api/HttpHeadEndPinLaw", "pick", "(IJI)B"⟩ : MethodName)) (rest := [(.int (4 : Int32)), (.ref (n0 + 0))]) A34 hx hZ hown (hw _ (List.mem_of_getElem? (i := 1) rfl)) (hw _ (List.mem_of_getElem? (i := 2) rfl)) (hw _ (List.mem_of_getElem? (i := 3) rfl)) (hw _ (List.mem_of_getElem? (i := 4) rfl)) (by decide) (g1 l Z a0 hw n0 [(own_ia Z .byte [(nar .byte (f1 x1 x2 (0 : Int32))), (nar .byte (f1 x1 x2 (1 : Int32))), (nar .byte (f1 x1 x2 (2 : Int32))), (nar .byte (f1 x1 x2 (3 : Int32))), (0 : Int32), (0 : Int32)])] x1 x2 (4 : Int32)) (by rw [hml]; rfl) [(.int x1), (.long x2), (.int (4 : Int32))] rfl rfl pd__IJI_B rfl (W := 2) (by show 2 * 0 + _ ≤ _; exact Nat.le_of_eq rfl) (own_db hby at_52) (by decide) (by decide) (by decide) (by decide) ?_
  intro v35 i36 T38 hq37 A39
  obtain ⟨rfl, he40⟩ := hq37
  rw [he40] at A39
  replace A39 : own_at p l e _ s m _ below meth c n0 T38 1 6 [(own_ia Z .byte [(nar .byte (f1 x1 x2 (0 : Int32))), (nar .byte (f1 x1 x2 (1 : Int32))), (nar .byte (f1 x1 x2 (2 : Int32))), (nar .byte (f1 x1 x2 (3 : Int32))), (0 : Int32), (0 : Int32)])] := A39
  show own_go _ _ _ _ _ _ _ (T38.setTop (mkF m 55 #[.val (.int x1), .val (.long x2), .second, .val (.int x3), .val (.int x4), .val (.ref (n0 + 0)), .unset, .unset, .unset, .unset] [(.int (f1 x1 x2 (4 : Int32))), (.int (4 : Int32)), (.ref (n0 + 0))]))
  refine own_bastore A39 hx hZ (i := 0) rfl (4) ⟨by decide, by decide, Nat.le_of_ble_eq_true rfl⟩ (own_db hby at_55) (its2 := [(own_ia Z .byte [(nar .byte (f1 x1 x2 (0 : Int32))), (nar .byte (f1 x1 x2 (1 : Int32))), (nar .byte (f1 x1 x2 (2 : Int32))), (nar .byte (f1 x1 x2 (3 : Int32))), (nar .byte (f1 x1 x2 (4 : Int32))), (0 : Int32)])]) rfl ?_
  intro T41 A42
  show own_go _ _ _ _ _ _ _ (T41.setTop (mkF m 56 #[.val (.int x1), .val (.long x2), .second, .val (.int x3), .val (.int x4), .val (.ref (n0 + 0)), .unset, .unset, .unset, .unset] []))
  refine own_by (u' := T41.setTop (mkF m 58 #[.val (.int x1), .val (.long x2), .second, .val (.int x3), .val (.int x4), .val (.ref (n0 + 0)), .unset, .unset, .unset, .unset] [(.ref (n0 + 0))])) (fun _ k => XS.aload A42.here hx rfl (own_db hby at_56) rfl rfl k) ?_
  refine own_by (u' := T41.setTop (mkF m 59 #[.val (.int x1), .val (.long x2), .second, .val (.int x3), .val (.int x4), .val (.ref (n0 + 0)), .unset, .unset, .unset, .unset] [(.int (5 : Int32)), (.ref (n0 + 0))])) (fun _ k => XS.iconst A42.here hx rfl (own_db hby at_58) k) ?_
  refine own_by (u' := T41.setTop (mkF m 60 #[.val (.int x1), .val (.long x2), .second, .val (.int x3), .val (.int x4), .val (.ref (n0 + 0)), .unset, .unset, .unset, .unset] [(.int x1), (.int (5 : Int32)), (.ref (n0 + 0))])) (fun _ k => XS.iloadN A42.here hx rfl (own_db hby at_59) rfl k) ?_
  refine own_by (u' := T41.setTop (mkF m 61 #[.val (.int x1), .val (.long x2), .second, .val (.int x3), .val (.int x4), .val (.ref (n0 + 0)), .unset, .unset, .unset, .unset] [(.long x2), (.int x1), (.int (5 : Int32)), (.ref (n0 + 0))])) (fun _ k => XS.lloadN A42.here hx rfl (own_db hby at_60) rfl k) ?_
  refine own_by (u' := T41.setTop (mkF m 62 #[.val (.int x1), .val (.long x2), .second, .val (.int x3), .val (.int x4), .val (.ref (n0 + 0)), .unset, .unset, .unset, .unset] [(.int (5 : Int32)), (.long x2), (.int x1), (.int (5 : Int32)), (.ref (n0 + 0))])) (fun _ k => XS.iconst A42.here hx rfl (own_db hby at_61) k) ?_
  refine own_callS (y := (⟨"com/example/halfpast/halfpast/api/HttpHeadEndPinLaw", "pick", "(IJI)B"⟩ : MethodName)) (rest := [(.int (5 : Int32)), (.ref (n0 + 0))]) A42 hx hZ hown (hw _ (List.mem_of_getElem? (i := 1) rfl)) (hw _ (List.mem_of_getElem? (i := 2) rfl)) (hw _ (List.mem_of_getElem? (i := 3) rfl)) (hw _ (List.mem_of_getElem? (i := 4) rfl)) (by decide) (g1 l Z a0 hw n0 [(own_ia Z .byte [(nar .byte (f1 x1 x2 (0 : Int32))), (nar .byte (f1 x1 x2 (1 : Int32))), (nar .byte (f1 x1 x2 (2 : Int32))), (nar .byte (f1 x1 x2 (3 : Int32))), (nar .byte (f1 x1 x2 (4 : Int32))), (0 : Int32)])] x1 x2 (5 : Int32)) (by rw [hml]; rfl) [(.int x1), (.long x2), (.int (5 : Int32))] rfl rfl pd__IJI_B rfl (W := 2) (by show 2 * 0 + _ ≤ _; exact Nat.le_of_eq rfl) (own_db hby at_62) (by decide) (by decide) (by decide) (by decide) ?_
  intro v43 i44 T46 hq45 A47
  obtain ⟨rfl, he48⟩ := hq45
  rw [he48] at A47
  replace A47 : own_at p l e _ s m _ below meth c n0 T46 1 6 [(own_ia Z .byte [(nar .byte (f1 x1 x2 (0 : Int32))), (nar .byte (f1 x1 x2 (1 : Int32))), (nar .byte (f1 x1 x2 (2 : Int32))), (nar .byte (f1 x1 x2 (3 : Int32))), (nar .byte (f1 x1 x2 (4 : Int32))), (0 : Int32)])] := A47
  show own_go _ _ _ _ _ _ _ (T46.setTop (mkF m 65 #[.val (.int x1), .val (.long x2), .second, .val (.int x3), .val (.int x4), .val (.ref (n0 + 0)), .unset, .unset, .unset, .unset] [(.int (f1 x1 x2 (5 : Int32))), (.int (5 : Int32)), (.ref (n0 + 0))]))
  refine own_bastore A47 hx hZ (i := 0) rfl (5) ⟨by decide, by decide, Nat.le_of_ble_eq_true rfl⟩ (own_db hby at_65) (its2 := [(own_ia Z .byte [(nar .byte (f1 x1 x2 (0 : Int32))), (nar .byte (f1 x1 x2 (1 : Int32))), (nar .byte (f1 x1 x2 (2 : Int32))), (nar .byte (f1 x1 x2 (3 : Int32))), (nar .byte (f1 x1 x2 (4 : Int32))), (nar .byte (f1 x1 x2 (5 : Int32)))])]) rfl ?_
  intro T49 A50
  show own_go _ _ _ _ _ _ _ (T49.setTop (mkF m 66 #[.val (.int x1), .val (.long x2), .second, .val (.int x3), .val (.int x4), .val (.ref (n0 + 0)), .unset, .unset, .unset, .unset] []))
  have J51 : ∀ (T52 : State)  (b0 : Int32) (b1 : Int32) (b2 : Int32) (b3 : Int32) (b4 : Int32) (b5 : Int32), own_at p l e room_1 s m #[(.int x1), (.long x2), (.int x3), (.int x4)] below meth c n0 T52 1 6 [(own_ia Z .byte [b0, b1, b2, b3, b4, b5])] → own_go p e room_1 s below n0 (fun v _ => v = some (.int 1) ∧ True) (T52.setTop (mkF m 66 #[.val (.int x1), .val (.long x2), .second, .val (.int x3), .val (.int x4), .val (.ref (n0 + 0)), .unset, .unset, .unset, .unset] [])) := by
    intro T52 b0 b1 b2 b3 b4 b5 A53 
    refine own_by (u' := T52.setTop (mkF m 67 #[.val (.int x1), .val (.long x2), .second, .val (.int x3), .val (.int x4), .val (.ref (n0 + 0)), .unset, .unset, .unset, .unset] [(.int x3)])) (fun _ k => XS.iloadN A53.here hx rfl (own_db hby at_66) rfl k) ?_
    refine own_ldcI A53 hx hZ hown (hw _ (List.mem_of_getElem? (i := 5) rfl)) (own_db hby at_67) ?_
    show own_go _ _ _ _ _ _ _ (T52.setTop (mkF m 69 #[.val (.int x1), .val (.long x2), .second, .val (.int x3), .val (.int x4), .val (.ref (n0 + 0)), .unset, .unset, .unset, .unset] [(.int (2147483647 : Int32)), (.int x3)]))
    refine own_by (u' := T52.setTop (mkF m 70 #[.val (.int x1), .val (.long x2), .second, .val (.int x3), .val (.int x4), .val (.ref (n0 + 0)), .unset, .unset, .unset, .unset] [(.int (x3 &&& (2147483647 : Int32)))])) (fun _ k => XS.iand A53.here hx rfl (own_db hby at_69) rfl k) ?_
    refine own_by (u' := T52.setTop (mkF m 72 #[.val (.int x1), .val (.long x2), .second, .val (.int x3), .val (.int x4), .val (.ref (n0 + 0)), .unset, .unset, .unset, .unset] [(.int (7 : Int32)), (.int (x3 &&& (2147483647 : Int32)))])) (fun _ k => XS.bipush A53.here hx rfl (own_db hby at_70) k) ?_
    refine own_irem A53 hx (by decide) (own_db hby at_72) ?_
    show own_go _ _ _ _ _ _ _ (T52.setTop (mkF m 73 #[.val (.int x1), .val (.long x2), .second, .val (.int x3), .val (.int x4), .val (.ref (n0 + 0)), .unset, .unset, .unset, .unset] [(.int ((x3 &&& (2147483647 : Int32)) % (7 : Int32)))]))
    refine own_by (u' := T52.setTop (mkF m 75 #[.val (.int x1), .val (.long x2), .second, .val (.int x3), .val (.int x4), .val (.ref (n0 + 0)), .val (.int ((x3 &&& (2147483647 : Int32)) % (7 : Int32))), .unset, .unset, .unset] [])) (fun _ k => XS.istore A53.here hx rfl (own_db hby at_73) rfl (l' := #[.val (.int x1), .val (.long x2), .second, .val (.int x3), .val (.int x4), .val (.ref (n0 + 0)), .val (.int ((x3 &&& (2147483647 : Int32)) % (7 : Int32))), .unset, .unset, .unset]) rfl k) ?_
    refine own_by (u' := T52.setTop (mkF m 77 #[.val (.int x1), .val (.long x2), .second, .val (.int x3), .val (.int x4), .val (.ref (n0 + 0)), .val (.int ((x3 &&& (2147483647 : Int32)) % (7 : Int32))), .unset, .unset, .unset] [(.int x4)])) (fun _ k => XS.iload A53.here hx rfl (own_db hby at_75) rfl k) ?_
    refine own_ldcI A53 hx hZ hown (hw _ (List.mem_of_getElem? (i := 5) rfl)) (own_db hby at_77) ?_
    show own_go _ _ _ _ _ _ _ (T52.setTop (mkF m 79 #[.val (.int x1), .val (.long x2), .second, .val (.int x3), .val (.int x4), .val (.ref (n0 + 0)), .val (.int ((x3 &&& (2147483647 : Int32)) % (7 : Int32))), .unset, .unset, .unset] [(.int (2147483647 : Int32)), (.int x4)]))
    refine own_by (u' := T52.setTop (mkF m 80 #[.val (.int x1), .val (.long x2), .second, .val (.int x3), .val (.int x4), .val (.ref (n0 + 0)), .val (.int ((x3 &&& (2147483647 : Int32)) % (7 : Int32))), .unset, .unset, .unset] [(.int (x4 &&& (2147483647 : Int32)))])) (fun _ k => XS.iand A53.here hx rfl (own_db hby at_79) rfl k) ?_
    refine own_by (u' := T52.setTop (mkF m 82 #[.val (.int x1), .val (.long x2), .second, .val (.int x3), .val (.int x4), .val (.ref (n0 + 0)), .val (.int ((x3 &&& (2147483647 : Int32)) % (7 : Int32))), .unset, .unset, .unset] [(.int (7 : Int32)), (.int (x4 &&& (2147483647 : Int32)))])) (fun _ k => XS.bipush A53.here hx rfl (own_db hby at_80) k) ?_
    refine own_irem A53 hx (by decide) (own_db hby at_82) ?_
    show own_go _ _ _ _ _ _ _ (T52.setTop (mkF m 83 #[.val (.int x1), .val (.long x2), .second, .val (.int x3), .val (.int x4), .val (.ref (n0 + 0)), .val (.int ((x3 &&& (2147483647 : Int32)) % (7 : Int32))), .unset, .unset, .unset] [(.int ((x4 &&& (2147483647 : Int32)) % (7 : Int32)))]))
    refine own_by (u' := T52.setTop (mkF m 85 #[.val (.int x1), .val (.long x2), .second, .val (.int x3), .val (.int x4), .val (.ref (n0 + 0)), .val (.int ((x3 &&& (2147483647 : Int32)) % (7 : Int32))), .val (.int ((x4 &&& (2147483647 : Int32)) % (7 : Int32))), .unset, .unset] [])) (fun _ k => XS.istore A53.here hx rfl (own_db hby at_83) rfl (l' := #[.val (.int x1), .val (.long x2), .second, .val (.int x3), .val (.int x4), .val (.ref (n0 + 0)), .val (.int ((x3 &&& (2147483647 : Int32)) % (7 : Int32))), .val (.int ((x4 &&& (2147483647 : Int32)) % (7 : Int32))), .unset, .unset]) rfl k) ?_
    have J54 : ∀ (T55 : State) (fm : Int32) (to : Int32), own_at p l e room_1 s m #[(.int x1), (.long x2), (.int x3), (.int x4)] below meth c n0 T55 1 6 [(own_ia Z .byte [b0, b1, b2, b3, b4, b5])] → (0 ≤ fm.toInt ∧ fm.toInt < (7 : Nat)) → (0 ≤ to.toInt ∧ to.toInt < (7 : Nat)) → own_go p e room_1 s below n0 (fun v _ => v = some (.int 1) ∧ True) (T55.setTop (mkF m 85 #[.val (.int x1), .val (.long x2), .second, .val (.int x3), .val (.int x4), .val (.ref (n0 + 0)), .val (.int fm), .val (.int to), .unset, .unset] [])) := by
      intro T55 fm to A56 hfm hto
      refine own_by (u' := T55.setTop (mkF m 86 #[.val (.int x1), .val (.long x2), .second, .val (.int x3), .val (.int x4), .val (.ref (n0 + 0)), .val (.int fm), .val (.int to), .unset, .unset] [(.int (-1 : Int32))])) (fun _ k => XS.iconst A56.here hx rfl (own_db hby at_85) k) ?_
      refine own_by (u' := T55.setTop (mkF m 88 #[.val (.int x1), .val (.long x2), .second, .val (.int x3), .val (.int x4), .val (.ref (n0 + 0)), .val (.int fm), .val (.int to), .val (.int (-1 : Int32)), .unset] [])) (fun _ k => XS.istore A56.here hx rfl (own_db hby at_86) rfl (l' := #[.val (.int x1), .val (.long x2), .second, .val (.int x3), .val (.int x4), .val (.ref (n0 + 0)), .val (.int fm), .val (.int to), .val (.int (-1 : Int32)), .unset]) rfl k) ?_
      refine own_by (u' := T55.setTop (mkF m 90 #[.val (.int x1), .val (.long x2), .second, .val (.int x3), .val (.int x4), .val (.ref (n0 + 0)), .val (.int fm), .val (.int to), .val (.int (-1 : Int32)), .unset] [(.ref (n0 + 0))])) (fun _ k => XS.aload A56.here hx rfl (own_db hby at_88) rfl rfl k) ?_
      refine own_by (u' := T55.setTop (mkF m 91 #[.val (.int x1), .val (.long x2), .second, .val (.int x3), .val (.int x4), .val (.ref (n0 + 0)), .val (.int fm), .val (.int to), .val (.int (-1 : Int32)), .unset] [(.int (2 : Int32)), (.ref (n0 + 0))])) (fun _ k => XS.iconst A56.here hx rfl (own_db hby at_90) k) ?_
      refine own_by (u' := T55.setTop (mkF m 93 #[.val (.int x1), .val (.long x2), .second, .val (.int x3), .val (.int x4), .val (.ref (n0 + 0)), .val (.int fm), .val (.int to), .val (.int (-1 : Int32)), .unset] [(.int fm), (.int (2 : Int32)), (.ref (n0 + 0))])) (fun _ k => XS.iload A56.here hx rfl (own_db hby at_91) rfl k) ?_
      refine own_by (u' := T55.setTop (mkF m 95 #[.val (.int x1), .val (.long x2), .second, .val (.int x3), .val (.int x4), .val (.ref (n0 + 0)), .val (.int fm), .val (.int to), .val (.int (-1 : Int32)), .unset] [(.int to), (.int fm), (.int (2 : Int32)), (.ref (n0 + 0))])) (fun _ k => XS.iload A56.here hx rfl (own_db hby at_93) rfl k) ?_
      refine own_callS (y := (⟨"com/example/halfpast/halfpast/api/HttpHeadEndPinLaw", "endsAt", "([BIII)Z"⟩ : MethodName)) (rest := []) A56 hx hZ hown (hw _ (List.mem_of_getElem? (i := 6) rfl)) (hw _ (List.mem_of_getElem? (i := 7) rfl)) (hw _ (List.mem_of_getElem? (i := 3) rfl)) (hw _ (List.mem_of_getElem? (i := 8) rfl)) (by decide) (g2 l Z a0 hw n0 [b0, b1, b2, b3, b4, b5] (2 : Int32) fm to rfl (by decide) hfm.1) (by rw [hml]; rfl) [(.ref (n0 + 0)), (.int (2 : Int32)), (.int fm), (.int to)] rfl rfl pd___BIII_Z rfl (W := 0) (by show 2 * 0 + _ ≤ _; exact Nat.le_of_eq rfl) (own_db hby at_95) (by decide) (by decide) (by decide) (by decide) ?_
      intro v57 i58 T60 hq59 A61
      obtain ⟨rfl, he62⟩ := hq59
      rw [he62] at A61
      replace A61 : own_at p l e _ s m _ below meth c n0 T60 1 6 [(own_ia Z .byte [b0, b1, b2, b3, b4, b5])] := A61
      show own_go _ _ _ _ _ _ _ (T60.setTop (mkF m 98 #[.val (.int x1), .val (.long x2), .second, .val (.int x3), .val (.int x4), .val (.ref (n0 + 0)), .val (.int fm), .val (.int to), .val (.int (-1 : Int32)), .unset] [(.int (f2 [b0, b1, b2, b3, b4, b5] (2 : Int32) fm to))]))
      by_cases hc63 : (f2 [b0, b1, b2, b3, b4, b5] (2 : Int32) fm to) = (0 : Int32)
      · refine own_by (u' := T60.setTop (mkF m 107 #[.val (.int x1), .val (.long x2), .second, .val (.int x3), .val (.int x4), .val (.ref (n0 + 0)), .val (.int fm), .val (.int to), .val (.int (-1 : Int32)), .unset] [])) (fun _ k => XS.ifYes A61.here hx rfl (pc0 := 98) (pc' := 107) rfl (own_db hby at_98) rfl ((if0 _ _).trans (teq hc63).1) (by decide) (by decide) k) ?_
        refine own_by (u' := T60.setTop (mkF m 109 #[.val (.int x1), .val (.long x2), .second, .val (.int x3), .val (.int x4), .val (.ref (n0 + 0)), .val (.int fm), .val (.int to), .val (.int (-1 : Int32)), .unset] [(.ref (n0 + 0))])) (fun _ k => XS.aload A61.here hx rfl (own_db hby at_107) rfl rfl k) ?_
        refine own_by (u' := T60.setTop (mkF m 110 #[.val (.int x1), .val (.long x2), .second, .val (.int x3), .val (.int x4), .val (.ref (n0 + 0)), .val (.int fm), .val (.int to), .val (.int (-1 : Int32)), .unset] [(.int (3 : Int32)), (.ref (n0 + 0))])) (fun _ k => XS.iconst A61.here hx rfl (own_db hby at_109) k) ?_
        refine own_by (u' := T60.setTop (mkF m 112 #[.val (.int x1), .val (.long x2), .second, .val (.int x3), .val (.int x4), .val (.ref (n0 + 0)), .val (.int fm), .val (.int to), .val (.int (-1 : Int32)), .unset] [(.int fm), (.int (3 : Int32)), (.ref (n0 + 0))])) (fun _ k => XS.iload A61.here hx rfl (own_db hby at_110) rfl k) ?_
        refine own_by (u' := T60.setTop (mkF m 114 #[.val (.int x1), .val (.long x2), .second, .val (.int x3), .val (.int x4), .val (.ref (n0 + 0)), .val (.int fm), .val (.int to), .val (.int (-1 : Int32)), .unset] [(.int to), (.int fm), (.int (3 : Int32)), (.ref (n0 + 0))])) (fun _ k => XS.iload A61.here hx rfl (own_db hby at_112) rfl k) ?_
        refine own_callS (y := (⟨"com/example/halfpast/halfpast/api/HttpHeadEndPinLaw", "endsAt", "([BIII)Z"⟩ : MethodName)) (rest := []) A61 hx hZ hown (hw _ (List.mem_of_getElem? (i := 6) rfl)) (hw _ (List.mem_of_getElem? (i := 7) rfl)) (hw _ (List.mem_of_getElem? (i := 3) rfl)) (hw _ (List.mem_of_getElem? (i := 8) rfl)) (by decide) (g2 l Z a0 hw n0 [b0, b1, b2, b3, b4, b5] (3 : Int32) fm to rfl (by decide) hfm.1) (by rw [hml]; rfl) [(.ref (n0 + 0)), (.int (3 : Int32)), (.int fm), (.int to)] rfl rfl pd___BIII_Z rfl (W := 0) (by show 2 * 0 + _ ≤ _; exact Nat.le_of_eq rfl) (own_db hby at_114) (by decide) (by decide) (by decide) (by decide) ?_
        intro v64 i65 T67 hq66 A68
        obtain ⟨rfl, he69⟩ := hq66
        rw [he69] at A68
        replace A68 : own_at p l e _ s m _ below meth c n0 T67 1 6 [(own_ia Z .byte [b0, b1, b2, b3, b4, b5])] := A68
        show own_go _ _ _ _ _ _ _ (T67.setTop (mkF m 117 #[.val (.int x1), .val (.long x2), .second, .val (.int x3), .val (.int x4), .val (.ref (n0 + 0)), .val (.int fm), .val (.int to), .val (.int (-1 : Int32)), .unset] [(.int (f2 [b0, b1, b2, b3, b4, b5] (3 : Int32) fm to))]))
        by_cases hc70 : (f2 [b0, b1, b2, b3, b4, b5] (3 : Int32) fm to) = (0 : Int32)
        · refine own_by (u' := T67.setTop (mkF m 126 #[.val (.int x1), .val (.long x2), .second, .val (.int x3), .val (.int x4), .val (.ref (n0 + 0)), .val (.int fm), .val (.int to), .val (.int (-1 : Int32)), .unset] [])) (fun _ k => XS.ifYes A68.here hx rfl (pc0 := 117) (pc' := 126) rfl (own_db hby at_117) rfl ((if0 _ _).trans (teq hc70).1) (by decide) (by decide) k) ?_
          refine own_by (u' := T67.setTop (mkF m 128 #[.val (.int x1), .val (.long x2), .second, .val (.int x3), .val (.int x4), .val (.ref (n0 + 0)), .val (.int fm), .val (.int to), .val (.int (-1 : Int32)), .unset] [(.ref (n0 + 0))])) (fun _ k => XS.aload A68.here hx rfl (own_db hby at_126) rfl rfl k) ?_
          refine own_by (u' := T67.setTop (mkF m 129 #[.val (.int x1), .val (.long x2), .second, .val (.int x3), .val (.int x4), .val (.ref (n0 + 0)), .val (.int fm), .val (.int to), .val (.int (-1 : Int32)), .unset] [(.int (4 : Int32)), (.ref (n0 + 0))])) (fun _ k => XS.iconst A68.here hx rfl (own_db hby at_128) k) ?_
          refine own_by (u' := T67.setTop (mkF m 131 #[.val (.int x1), .val (.long x2), .second, .val (.int x3), .val (.int x4), .val (.ref (n0 + 0)), .val (.int fm), .val (.int to), .val (.int (-1 : Int32)), .unset] [(.int fm), (.int (4 : Int32)), (.ref (n0 + 0))])) (fun _ k => XS.iload A68.here hx rfl (own_db hby at_129) rfl k) ?_
          refine own_by (u' := T67.setTop (mkF m 133 #[.val (.int x1), .val (.long x2), .second, .val (.int x3), .val (.int x4), .val (.ref (n0 + 0)), .val (.int fm), .val (.int to), .val (.int (-1 : Int32)), .unset] [(.int to), (.int fm), (.int (4 : Int32)), (.ref (n0 + 0))])) (fun _ k => XS.iload A68.here hx rfl (own_db hby at_131) rfl k) ?_
          refine own_callS (y := (⟨"com/example/halfpast/halfpast/api/HttpHeadEndPinLaw", "endsAt", "([BIII)Z"⟩ : MethodName)) (rest := []) A68 hx hZ hown (hw _ (List.mem_of_getElem? (i := 6) rfl)) (hw _ (List.mem_of_getElem? (i := 7) rfl)) (hw _ (List.mem_of_getElem? (i := 3) rfl)) (hw _ (List.mem_of_getElem? (i := 8) rfl)) (by decide) (g2 l Z a0 hw n0 [b0, b1, b2, b3, b4, b5] (4 : Int32) fm to rfl (by decide) hfm.1) (by rw [hml]; rfl) [(.ref (n0 + 0)), (.int (4 : Int32)), (.int fm), (.int to)] rfl rfl pd___BIII_Z rfl (W := 0) (by show 2 * 0 + _ ≤ _; exact Nat.le_of_eq rfl) (own_db hby at_133) (by decide) (by decide) (by decide) (by decide) ?_
          intro v71 i72 T74 hq73 A75
          obtain ⟨rfl, he76⟩ := hq73
          rw [he76] at A75
          replace A75 : own_at p l e _ s m _ below meth c n0 T74 1 6 [(own_ia Z .byte [b0, b1, b2, b3, b4, b5])] := A75
          show own_go _ _ _ _ _ _ _ (T74.setTop (mkF m 136 #[.val (.int x1), .val (.long x2), .second, .val (.int x3), .val (.int x4), .val (.ref (n0 + 0)), .val (.int fm), .val (.int to), .val (.int (-1 : Int32)), .unset] [(.int (f2 [b0, b1, b2, b3, b4, b5] (4 : Int32) fm to))]))
          by_cases hc77 : (f2 [b0, b1, b2, b3, b4, b5] (4 : Int32) fm to) = (0 : Int32)
          · refine own_by (u' := T74.setTop (mkF m 145 #[.val (.int x1), .val (.long x2), .second, .val (.int x3), .val (.int x4), .val (.ref (n0 + 0)), .val (.int fm), .val (.int to), .val (.int (-1 : Int32)), .unset] [])) (fun _ k => XS.ifYes A75.here hx rfl (pc0 := 136) (pc' := 145) rfl (own_db hby at_136) rfl ((if0 _ _).trans (teq hc77).1) (by decide) (by decide) k) ?_
            refine own_by (u' := T74.setTop (mkF m 147 #[.val (.int x1), .val (.long x2), .second, .val (.int x3), .val (.int x4), .val (.ref (n0 + 0)), .val (.int fm), .val (.int to), .val (.int (-1 : Int32)), .unset] [(.ref (n0 + 0))])) (fun _ k => XS.aload A75.here hx rfl (own_db hby at_145) rfl rfl k) ?_
            refine own_by (u' := T74.setTop (mkF m 148 #[.val (.int x1), .val (.long x2), .second, .val (.int x3), .val (.int x4), .val (.ref (n0 + 0)), .val (.int fm), .val (.int to), .val (.int (-1 : Int32)), .unset] [(.int (5 : Int32)), (.ref (n0 + 0))])) (fun _ k => XS.iconst A75.here hx rfl (own_db hby at_147) k) ?_
            refine own_by (u' := T74.setTop (mkF m 150 #[.val (.int x1), .val (.long x2), .second, .val (.int x3), .val (.int x4), .val (.ref (n0 + 0)), .val (.int fm), .val (.int to), .val (.int (-1 : Int32)), .unset] [(.int fm), (.int (5 : Int32)), (.ref (n0 + 0))])) (fun _ k => XS.iload A75.here hx rfl (own_db hby at_148) rfl k) ?_
            refine own_by (u' := T74.setTop (mkF m 152 #[.val (.int x1), .val (.long x2), .second, .val (.int x3), .val (.int x4), .val (.ref (n0 + 0)), .val (.int fm), .val (.int to), .val (.int (-1 : Int32)), .unset] [(.int to), (.int fm), (.int (5 : Int32)), (.ref (n0 + 0))])) (fun _ k => XS.iload A75.here hx rfl (own_db hby at_150) rfl k) ?_
            refine own_callS (y := (⟨"com/example/halfpast/halfpast/api/HttpHeadEndPinLaw", "endsAt", "([BIII)Z"⟩ : MethodName)) (rest := []) A75 hx hZ hown (hw _ (List.mem_of_getElem? (i := 6) rfl)) (hw _ (List.mem_of_getElem? (i := 7) rfl)) (hw _ (List.mem_of_getElem? (i := 3) rfl)) (hw _ (List.mem_of_getElem? (i := 8) rfl)) (by decide) (g2 l Z a0 hw n0 [b0, b1, b2, b3, b4, b5] (5 : Int32) fm to rfl (by decide) hfm.1) (by rw [hml]; rfl) [(.ref (n0 + 0)), (.int (5 : Int32)), (.int fm), (.int to)] rfl rfl pd___BIII_Z rfl (W := 0) (by show 2 * 0 + _ ≤ _; exact Nat.le_of_eq rfl) (own_db hby at_152) (by decide) (by decide) (by decide) (by decide) ?_
            intro v78 i79 T81 hq80 A82
            obtain ⟨rfl, he83⟩ := hq80
            rw [he83] at A82
            replace A82 : own_at p l e _ s m _ below meth c n0 T81 1 6 [(own_ia Z .byte [b0, b1, b2, b3, b4, b5])] := A82
            show own_go _ _ _ _ _ _ _ (T81.setTop (mkF m 155 #[.val (.int x1), .val (.long x2), .second, .val (.int x3), .val (.int x4), .val (.ref (n0 + 0)), .val (.int fm), .val (.int to), .val (.int (-1 : Int32)), .unset] [(.int (f2 [b0, b1, b2, b3, b4, b5] (5 : Int32) fm to))]))
            by_cases hc84 : (f2 [b0, b1, b2, b3, b4, b5] (5 : Int32) fm to) = (0 : Int32)
            · refine own_by (u' := T81.setTop (mkF m 164 #[.val (.int x1), .val (.long x2), .second, .val (.int x3), .val (.int x4), .val (.ref (n0 + 0)), .val (.int fm), .val (.int to), .val (.int (-1 : Int32)), .unset] [])) (fun _ k => XS.ifYes A82.here hx rfl (pc0 := 155) (pc' := 164) rfl (own_db hby at_155) rfl ((if0 _ _).trans (teq hc84).1) (by decide) (by decide) k) ?_
              refine own_by (u' := T81.setTop (mkF m 166 #[.val (.int x1), .val (.long x2), .second, .val (.int x3), .val (.int x4), .val (.ref (n0 + 0)), .val (.int fm), .val (.int to), .val (.int (-1 : Int32)), .unset] [(.ref (n0 + 0))])) (fun _ k => XS.aload A82.here hx rfl (own_db hby at_164) rfl rfl k) ?_
              refine own_by (u' := T81.setTop (mkF m 168 #[.val (.int x1), .val (.long x2), .second, .val (.int x3), .val (.int x4), .val (.ref (n0 + 0)), .val (.int fm), .val (.int to), .val (.int (-1 : Int32)), .unset] [(.int (6 : Int32)), (.ref (n0 + 0))])) (fun _ k => XS.bipush A82.here hx rfl (own_db hby at_166) k) ?_
              refine own_by (u' := T81.setTop (mkF m 170 #[.val (.int x1), .val (.long x2), .second, .val (.int x3), .val (.int x4), .val (.ref (n0 + 0)), .val (.int fm), .val (.int to), .val (.int (-1 : Int32)), .unset] [(.int fm), (.int (6 : Int32)), (.ref (n0 + 0))])) (fun _ k => XS.iload A82.here hx rfl (own_db hby at_168) rfl k) ?_
              refine own_by (u' := T81.setTop (mkF m 172 #[.val (.int x1), .val (.long x2), .second, .val (.int x3), .val (.int x4), .val (.ref (n0 + 0)), .val (.int fm), .val (.int to), .val (.int (-1 : Int32)), .unset] [(.int to), (.int fm), (.int (6 : Int32)), (.ref (n0 + 0))])) (fun _ k => XS.iload A82.here hx rfl (own_db hby at_170) rfl k) ?_
              refine own_callS (y := (⟨"com/example/halfpast/halfpast/api/HttpHeadEndPinLaw", "endsAt", "([BIII)Z"⟩ : MethodName)) (rest := []) A82 hx hZ hown (hw _ (List.mem_of_getElem? (i := 6) rfl)) (hw _ (List.mem_of_getElem? (i := 7) rfl)) (hw _ (List.mem_of_getElem? (i := 3) rfl)) (hw _ (List.mem_of_getElem? (i := 8) rfl)) (by decide) (g2 l Z a0 hw n0 [b0, b1, b2, b3, b4, b5] (6 : Int32) fm to rfl (by decide) hfm.1) (by rw [hml]; rfl) [(.ref (n0 + 0)), (.int (6 : Int32)), (.int fm), (.int to)] rfl rfl pd___BIII_Z rfl (W := 0) (by show 2 * 0 + _ ≤ _; exact Nat.le_of_eq rfl) (own_db hby at_172) (by decide) (by decide) (by decide) (by decide) ?_
              intro v85 i86 T88 hq87 A89
              obtain ⟨rfl, he90⟩ := hq87
              rw [he90] at A89
              replace A89 : own_at p l e _ s m _ below meth c n0 T88 1 6 [(own_ia Z .byte [b0, b1, b2, b3, b4, b5])] := A89
              show own_go _ _ _ _ _ _ _ (T88.setTop (mkF m 175 #[.val (.int x1), .val (.long x2), .second, .val (.int x3), .val (.int x4), .val (.ref (n0 + 0)), .val (.int fm), .val (.int to), .val (.int (-1 : Int32)), .unset] [(.int (f2 [b0, b1, b2, b3, b4, b5] (6 : Int32) fm to))]))
              by_cases hc91 : (f2 [b0, b1, b2, b3, b4, b5] (6 : Int32) fm to) = (0 : Int32)
              · refine own_by (u' := T88.setTop (mkF m 182 #[.val (.int x1), .val (.long x2), .second, .val (.int x3), .val (.int x4), .val (.ref (n0 + 0)), .val (.int fm), .val (.int to), .val (.int (-1 : Int32)), .unset] [])) (fun _ k => XS.ifYes A89.here hx rfl (pc0 := 175) (pc' := 182) rfl (own_db hby at_175) rfl ((if0 _ _).trans (teq hc91).1) (by decide) (by decide) k) ?_
                refine own_by (u' := T88.setTop (mkF m 184 #[.val (.int x1), .val (.long x2), .second, .val (.int x3), .val (.int x4), .val (.ref (n0 + 0)), .val (.int fm), .val (.int to), .val (.int (-1 : Int32)), .unset] [(.ref (n0 + 0))])) (fun _ k => XS.aload A89.here hx rfl (own_db hby at_182) rfl rfl k) ?_
                refine own_by (u' := T88.setTop (mkF m 186 #[.val (.int x1), .val (.long x2), .second, .val (.int x3), .val (.int x4), .val (.ref (n0 + 0)), .val (.int fm), .val (.int to), .val (.int (-1 : Int32)), .unset] [(.int fm), (.ref (n0 + 0))])) (fun _ k => XS.iload A89.here hx rfl (own_db hby at_184) rfl k) ?_
                refine own_by (u' := T88.setTop (mkF m 188 #[.val (.int x1), .val (.long x2), .second, .val (.int x3), .val (.int x4), .val (.ref (n0 + 0)), .val (.int fm), .val (.int to), .val (.int (-1 : Int32)), .unset] [(.int to), (.int fm), (.ref (n0 + 0))])) (fun _ k => XS.iload A89.here hx rfl (own_db hby at_186) rfl k) ?_
                refine own_callS (y := (⟨"com/example/halfpast/halfpast/api/HttpHead", "end", "([BII)I"⟩ : MethodName)) (rest := []) A89 hx hZ hown (hw _ (List.mem_of_getElem? (i := 9) rfl)) (hw _ (List.mem_of_getElem? (i := 10) rfl)) (hw _ (List.mem_of_getElem? (i := 11) rfl)) (hw _ (List.mem_of_getElem? (i := 12) rfl)) (by decide) (g3 l Z a0 hw n0 [b0, b1, b2, b3, b4, b5] fm to rfl hfm.1 (by omega)) (by rw [hml]; rfl) [(.ref (n0 + 0)), (.int fm), (.int to)] rfl rfl pd___BII_I rfl (W := 0) (by show 2 * 0 + _ ≤ _; exact Nat.le_of_eq rfl) (own_db hby at_188) (by decide) (by decide) (by decide) (by decide) ?_
                intro v92 i93 T95 hq94 A96
                obtain ⟨rfl, he97⟩ := hq94
                rw [he97] at A96
                replace A96 : own_at p l e _ s m _ below meth c n0 T95 1 6 [(own_ia Z .byte [b0, b1, b2, b3, b4, b5])] := A96
                show own_go _ _ _ _ _ _ _ (T95.setTop (mkF m 191 #[.val (.int x1), .val (.long x2), .second, .val (.int x3), .val (.int x4), .val (.ref (n0 + 0)), .val (.int fm), .val (.int to), .val (.int (-1 : Int32)), .unset] [(.int (own_scan [b0, b1, b2, b3, b4, b5] to (to.toInt - fm.toInt).toNat fm))]))
                refine own_by (u' := T95.setTop (mkF m 193 #[.val (.int x1), .val (.long x2), .second, .val (.int x3), .val (.int x4), .val (.ref (n0 + 0)), .val (.int fm), .val (.int to), .val (.int (-1 : Int32)), .val (.int (own_scan [b0, b1, b2, b3, b4, b5] to (to.toInt - fm.toInt).toNat fm))] [])) (fun _ k => XS.istore A96.here hx rfl (own_db hby at_191) rfl (l' := #[.val (.int x1), .val (.long x2), .second, .val (.int x3), .val (.int x4), .val (.ref (n0 + 0)), .val (.int fm), .val (.int to), .val (.int (-1 : Int32)), .val (.int (own_scan [b0, b1, b2, b3, b4, b5] to (to.toInt - fm.toInt).toNat fm))]) rfl k) ?_
                refine own_by (u' := T95.setTop (mkF m 195 #[.val (.int x1), .val (.long x2), .second, .val (.int x3), .val (.int x4), .val (.ref (n0 + 0)), .val (.int fm), .val (.int to), .val (.int (-1 : Int32)), .val (.int (own_scan [b0, b1, b2, b3, b4, b5] to (to.toInt - fm.toInt).toNat fm))] [(.int (own_scan [b0, b1, b2, b3, b4, b5] to (to.toInt - fm.toInt).toNat fm))])) (fun _ k => XS.iload A96.here hx rfl (own_db hby at_193) rfl k) ?_
                refine own_by (u' := T95.setTop (mkF m 197 #[.val (.int x1), .val (.long x2), .second, .val (.int x3), .val (.int x4), .val (.ref (n0 + 0)), .val (.int fm), .val (.int to), .val (.int (-1 : Int32)), .val (.int (own_scan [b0, b1, b2, b3, b4, b5] to (to.toInt - fm.toInt).toNat fm))] [(.int (-1 : Int32)), (.int (own_scan [b0, b1, b2, b3, b4, b5] to (to.toInt - fm.toInt).toNat fm))])) (fun _ k => XS.iload A96.here hx rfl (own_db hby at_195) rfl k) ?_
                refine own_by (u' := T95.setTop (mkF m 200 #[.val (.int x1), .val (.long x2), .second, .val (.int x3), .val (.int x4), .val (.ref (n0 + 0)), .val (.int fm), .val (.int to), .val (.int (-1 : Int32)), .val (.int (own_scan [b0, b1, b2, b3, b4, b5] to (to.toInt - fm.toInt).toNat fm))] [])) (fun _ k => XS.icmpNo A96.here hx rfl (own_db hby at_197) rfl (teq ((own_exp rfl hfm hto).trans (by simp [hc63, hc70, hc77, hc84, hc91]))).2 k) ?_
                refine own_by (u' := T95.setTop (mkF m 201 #[.val (.int x1), .val (.long x2), .second, .val (.int x3), .val (.int x4), .val (.ref (n0 + 0)), .val (.int fm), .val (.int to), .val (.int (-1 : Int32)), .val (.int (own_scan [b0, b1, b2, b3, b4, b5] to (to.toInt - fm.toInt).toNat fm))] [(.int (1 : Int32))])) (fun _ k => XS.iconst A96.here hx rfl (own_db hby at_200) k) ?_
                refine own_by (u' := T95.setTop (mkF m 205 #[.val (.int x1), .val (.long x2), .second, .val (.int x3), .val (.int x4), .val (.ref (n0 + 0)), .val (.int fm), .val (.int to), .val (.int (-1 : Int32)), .val (.int (own_scan [b0, b1, b2, b3, b4, b5] to (to.toInt - fm.toInt).toNat fm))] [(.int (1 : Int32))])) (fun _ k => XS.goto A96.here hx rfl (pc0 := 201) (pc' := 205) rfl (own_db hby at_201) (by decide) (by decide) k) ?_
                exact own_retN A96 hx hlk (t := .boolean) (by simp) hret (own_db hby at_205) (by decide) (by decide) ⟨rfl, trivial⟩
              · refine own_by (u' := T88.setTop (mkF m 178 #[.val (.int x1), .val (.long x2), .second, .val (.int x3), .val (.int x4), .val (.ref (n0 + 0)), .val (.int fm), .val (.int to), .val (.int (-1 : Int32)), .unset] [])) (fun _ k => XS.ifNo A89.here hx rfl (own_db hby at_175) rfl ((if0 _ _).trans (feq hc91).1) k) ?_
                refine own_by (u' := T88.setTop (mkF m 180 #[.val (.int x1), .val (.long x2), .second, .val (.int x3), .val (.int x4), .val (.ref (n0 + 0)), .val (.int fm), .val (.int to), .val (.int (-1 : Int32)), .unset] [(.int (6 : Int32))])) (fun _ k => XS.bipush A89.here hx rfl (own_db hby at_178) k) ?_
                refine own_by (u' := T88.setTop (mkF m 182 #[.val (.int x1), .val (.long x2), .second, .val (.int x3), .val (.int x4), .val (.ref (n0 + 0)), .val (.int fm), .val (.int to), .val (.int (6 : Int32)), .unset] [])) (fun _ k => XS.istore A89.here hx rfl (own_db hby at_180) rfl (l' := #[.val (.int x1), .val (.long x2), .second, .val (.int x3), .val (.int x4), .val (.ref (n0 + 0)), .val (.int fm), .val (.int to), .val (.int (6 : Int32)), .unset]) rfl k) ?_
                refine own_by (u' := T88.setTop (mkF m 184 #[.val (.int x1), .val (.long x2), .second, .val (.int x3), .val (.int x4), .val (.ref (n0 + 0)), .val (.int fm), .val (.int to), .val (.int (6 : Int32)), .unset] [(.ref (n0 + 0))])) (fun _ k => XS.aload A89.here hx rfl (own_db hby at_182) rfl rfl k) ?_
                refine own_by (u' := T88.setTop (mkF m 186 #[.val (.int x1), .val (.long x2), .second, .val (.int x3), .val (.int x4), .val (.ref (n0 + 0)), .val (.int fm), .val (.int to), .val (.int (6 : Int32)), .unset] [(.int fm), (.ref (n0 + 0))])) (fun _ k => XS.iload A89.here hx rfl (own_db hby at_184) rfl k) ?_
                refine own_by (u' := T88.setTop (mkF m 188 #[.val (.int x1), .val (.long x2), .second, .val (.int x3), .val (.int x4), .val (.ref (n0 + 0)), .val (.int fm), .val (.int to), .val (.int (6 : Int32)), .unset] [(.int to), (.int fm), (.ref (n0 + 0))])) (fun _ k => XS.iload A89.here hx rfl (own_db hby at_186) rfl k) ?_
                refine own_callS (y := (⟨"com/example/halfpast/halfpast/api/HttpHead", "end", "([BII)I"⟩ : MethodName)) (rest := []) A89 hx hZ hown (hw _ (List.mem_of_getElem? (i := 9) rfl)) (hw _ (List.mem_of_getElem? (i := 10) rfl)) (hw _ (List.mem_of_getElem? (i := 11) rfl)) (hw _ (List.mem_of_getElem? (i := 12) rfl)) (by decide) (g3 l Z a0 hw n0 [b0, b1, b2, b3, b4, b5] fm to rfl hfm.1 (by omega)) (by rw [hml]; rfl) [(.ref (n0 + 0)), (.int fm), (.int to)] rfl rfl pd___BII_I rfl (W := 0) (by show 2 * 0 + _ ≤ _; exact Nat.le_of_eq rfl) (own_db hby at_188) (by decide) (by decide) (by decide) (by decide) ?_
                intro v98 i99 T101 hq100 A102
                obtain ⟨rfl, he103⟩ := hq100
                rw [he103] at A102
                replace A102 : own_at p l e _ s m _ below meth c n0 T101 1 6 [(own_ia Z .byte [b0, b1, b2, b3, b4, b5])] := A102
                show own_go _ _ _ _ _ _ _ (T101.setTop (mkF m 191 #[.val (.int x1), .val (.long x2), .second, .val (.int x3), .val (.int x4), .val (.ref (n0 + 0)), .val (.int fm), .val (.int to), .val (.int (6 : Int32)), .unset] [(.int (own_scan [b0, b1, b2, b3, b4, b5] to (to.toInt - fm.toInt).toNat fm))]))
                refine own_by (u' := T101.setTop (mkF m 193 #[.val (.int x1), .val (.long x2), .second, .val (.int x3), .val (.int x4), .val (.ref (n0 + 0)), .val (.int fm), .val (.int to), .val (.int (6 : Int32)), .val (.int (own_scan [b0, b1, b2, b3, b4, b5] to (to.toInt - fm.toInt).toNat fm))] [])) (fun _ k => XS.istore A102.here hx rfl (own_db hby at_191) rfl (l' := #[.val (.int x1), .val (.long x2), .second, .val (.int x3), .val (.int x4), .val (.ref (n0 + 0)), .val (.int fm), .val (.int to), .val (.int (6 : Int32)), .val (.int (own_scan [b0, b1, b2, b3, b4, b5] to (to.toInt - fm.toInt).toNat fm))]) rfl k) ?_
                refine own_by (u' := T101.setTop (mkF m 195 #[.val (.int x1), .val (.long x2), .second, .val (.int x3), .val (.int x4), .val (.ref (n0 + 0)), .val (.int fm), .val (.int to), .val (.int (6 : Int32)), .val (.int (own_scan [b0, b1, b2, b3, b4, b5] to (to.toInt - fm.toInt).toNat fm))] [(.int (own_scan [b0, b1, b2, b3, b4, b5] to (to.toInt - fm.toInt).toNat fm))])) (fun _ k => XS.iload A102.here hx rfl (own_db hby at_193) rfl k) ?_
                refine own_by (u' := T101.setTop (mkF m 197 #[.val (.int x1), .val (.long x2), .second, .val (.int x3), .val (.int x4), .val (.ref (n0 + 0)), .val (.int fm), .val (.int to), .val (.int (6 : Int32)), .val (.int (own_scan [b0, b1, b2, b3, b4, b5] to (to.toInt - fm.toInt).toNat fm))] [(.int (6 : Int32)), (.int (own_scan [b0, b1, b2, b3, b4, b5] to (to.toInt - fm.toInt).toNat fm))])) (fun _ k => XS.iload A102.here hx rfl (own_db hby at_195) rfl k) ?_
                refine own_by (u' := T101.setTop (mkF m 200 #[.val (.int x1), .val (.long x2), .second, .val (.int x3), .val (.int x4), .val (.ref (n0 + 0)), .val (.int fm), .val (.int to), .val (.int (6 : Int32)), .val (.int (own_scan [b0, b1, b2, b3, b4, b5] to (to.toInt - fm.toInt).toNat fm))] [])) (fun _ k => XS.icmpNo A102.here hx rfl (own_db hby at_197) rfl (teq ((own_exp rfl hfm hto).trans (by simp [hc63, hc70, hc77, hc84, hc91]))).2 k) ?_
                refine own_by (u' := T101.setTop (mkF m 201 #[.val (.int x1), .val (.long x2), .second, .val (.int x3), .val (.int x4), .val (.ref (n0 + 0)), .val (.int fm), .val (.int to), .val (.int (6 : Int32)), .val (.int (own_scan [b0, b1, b2, b3, b4, b5] to (to.toInt - fm.toInt).toNat fm))] [(.int (1 : Int32))])) (fun _ k => XS.iconst A102.here hx rfl (own_db hby at_200) k) ?_
                refine own_by (u' := T101.setTop (mkF m 205 #[.val (.int x1), .val (.long x2), .second, .val (.int x3), .val (.int x4), .val (.ref (n0 + 0)), .val (.int fm), .val (.int to), .val (.int (6 : Int32)), .val (.int (own_scan [b0, b1, b2, b3, b4, b5] to (to.toInt - fm.toInt).toNat fm))] [(.int (1 : Int32))])) (fun _ k => XS.goto A102.here hx rfl (pc0 := 201) (pc' := 205) rfl (own_db hby at_201) (by decide) (by decide) k) ?_
                exact own_retN A102 hx hlk (t := .boolean) (by simp) hret (own_db hby at_205) (by decide) (by decide) ⟨rfl, trivial⟩
            · refine own_by (u' := T81.setTop (mkF m 158 #[.val (.int x1), .val (.long x2), .second, .val (.int x3), .val (.int x4), .val (.ref (n0 + 0)), .val (.int fm), .val (.int to), .val (.int (-1 : Int32)), .unset] [])) (fun _ k => XS.ifNo A82.here hx rfl (own_db hby at_155) rfl ((if0 _ _).trans (feq hc84).1) k) ?_
              refine own_by (u' := T81.setTop (mkF m 159 #[.val (.int x1), .val (.long x2), .second, .val (.int x3), .val (.int x4), .val (.ref (n0 + 0)), .val (.int fm), .val (.int to), .val (.int (-1 : Int32)), .unset] [(.int (5 : Int32))])) (fun _ k => XS.iconst A82.here hx rfl (own_db hby at_158) k) ?_
              refine own_by (u' := T81.setTop (mkF m 161 #[.val (.int x1), .val (.long x2), .second, .val (.int x3), .val (.int x4), .val (.ref (n0 + 0)), .val (.int fm), .val (.int to), .val (.int (5 : Int32)), .unset] [])) (fun _ k => XS.istore A82.here hx rfl (own_db hby at_159) rfl (l' := #[.val (.int x1), .val (.long x2), .second, .val (.int x3), .val (.int x4), .val (.ref (n0 + 0)), .val (.int fm), .val (.int to), .val (.int (5 : Int32)), .unset]) rfl k) ?_
              refine own_by (u' := T81.setTop (mkF m 182 #[.val (.int x1), .val (.long x2), .second, .val (.int x3), .val (.int x4), .val (.ref (n0 + 0)), .val (.int fm), .val (.int to), .val (.int (5 : Int32)), .unset] [])) (fun _ k => XS.goto A82.here hx rfl (pc0 := 161) (pc' := 182) rfl (own_db hby at_161) (by decide) (by decide) k) ?_
              refine own_by (u' := T81.setTop (mkF m 184 #[.val (.int x1), .val (.long x2), .second, .val (.int x3), .val (.int x4), .val (.ref (n0 + 0)), .val (.int fm), .val (.int to), .val (.int (5 : Int32)), .unset] [(.ref (n0 + 0))])) (fun _ k => XS.aload A82.here hx rfl (own_db hby at_182) rfl rfl k) ?_
              refine own_by (u' := T81.setTop (mkF m 186 #[.val (.int x1), .val (.long x2), .second, .val (.int x3), .val (.int x4), .val (.ref (n0 + 0)), .val (.int fm), .val (.int to), .val (.int (5 : Int32)), .unset] [(.int fm), (.ref (n0 + 0))])) (fun _ k => XS.iload A82.here hx rfl (own_db hby at_184) rfl k) ?_
              refine own_by (u' := T81.setTop (mkF m 188 #[.val (.int x1), .val (.long x2), .second, .val (.int x3), .val (.int x4), .val (.ref (n0 + 0)), .val (.int fm), .val (.int to), .val (.int (5 : Int32)), .unset] [(.int to), (.int fm), (.ref (n0 + 0))])) (fun _ k => XS.iload A82.here hx rfl (own_db hby at_186) rfl k) ?_
              refine own_callS (y := (⟨"com/example/halfpast/halfpast/api/HttpHead", "end", "([BII)I"⟩ : MethodName)) (rest := []) A82 hx hZ hown (hw _ (List.mem_of_getElem? (i := 9) rfl)) (hw _ (List.mem_of_getElem? (i := 10) rfl)) (hw _ (List.mem_of_getElem? (i := 11) rfl)) (hw _ (List.mem_of_getElem? (i := 12) rfl)) (by decide) (g3 l Z a0 hw n0 [b0, b1, b2, b3, b4, b5] fm to rfl hfm.1 (by omega)) (by rw [hml]; rfl) [(.ref (n0 + 0)), (.int fm), (.int to)] rfl rfl pd___BII_I rfl (W := 0) (by show 2 * 0 + _ ≤ _; exact Nat.le_of_eq rfl) (own_db hby at_188) (by decide) (by decide) (by decide) (by decide) ?_
              intro v104 i105 T107 hq106 A108
              obtain ⟨rfl, he109⟩ := hq106
              rw [he109] at A108
              replace A108 : own_at p l e _ s m _ below meth c n0 T107 1 6 [(own_ia Z .byte [b0, b1, b2, b3, b4, b5])] := A108
              show own_go _ _ _ _ _ _ _ (T107.setTop (mkF m 191 #[.val (.int x1), .val (.long x2), .second, .val (.int x3), .val (.int x4), .val (.ref (n0 + 0)), .val (.int fm), .val (.int to), .val (.int (5 : Int32)), .unset] [(.int (own_scan [b0, b1, b2, b3, b4, b5] to (to.toInt - fm.toInt).toNat fm))]))
              refine own_by (u' := T107.setTop (mkF m 193 #[.val (.int x1), .val (.long x2), .second, .val (.int x3), .val (.int x4), .val (.ref (n0 + 0)), .val (.int fm), .val (.int to), .val (.int (5 : Int32)), .val (.int (own_scan [b0, b1, b2, b3, b4, b5] to (to.toInt - fm.toInt).toNat fm))] [])) (fun _ k => XS.istore A108.here hx rfl (own_db hby at_191) rfl (l' := #[.val (.int x1), .val (.long x2), .second, .val (.int x3), .val (.int x4), .val (.ref (n0 + 0)), .val (.int fm), .val (.int to), .val (.int (5 : Int32)), .val (.int (own_scan [b0, b1, b2, b3, b4, b5] to (to.toInt - fm.toInt).toNat fm))]) rfl k) ?_
              refine own_by (u' := T107.setTop (mkF m 195 #[.val (.int x1), .val (.long x2), .second, .val (.int x3), .val (.int x4), .val (.ref (n0 + 0)), .val (.int fm), .val (.int to), .val (.int (5 : Int32)), .val (.int (own_scan [b0, b1, b2, b3, b4, b5] to (to.toInt - fm.toInt).toNat fm))] [(.int (own_scan [b0, b1, b2, b3, b4, b5] to (to.toInt - fm.toInt).toNat fm))])) (fun _ k => XS.iload A108.here hx rfl (own_db hby at_193) rfl k) ?_
              refine own_by (u' := T107.setTop (mkF m 197 #[.val (.int x1), .val (.long x2), .second, .val (.int x3), .val (.int x4), .val (.ref (n0 + 0)), .val (.int fm), .val (.int to), .val (.int (5 : Int32)), .val (.int (own_scan [b0, b1, b2, b3, b4, b5] to (to.toInt - fm.toInt).toNat fm))] [(.int (5 : Int32)), (.int (own_scan [b0, b1, b2, b3, b4, b5] to (to.toInt - fm.toInt).toNat fm))])) (fun _ k => XS.iload A108.here hx rfl (own_db hby at_195) rfl k) ?_
              refine own_by (u' := T107.setTop (mkF m 200 #[.val (.int x1), .val (.long x2), .second, .val (.int x3), .val (.int x4), .val (.ref (n0 + 0)), .val (.int fm), .val (.int to), .val (.int (5 : Int32)), .val (.int (own_scan [b0, b1, b2, b3, b4, b5] to (to.toInt - fm.toInt).toNat fm))] [])) (fun _ k => XS.icmpNo A108.here hx rfl (own_db hby at_197) rfl (teq ((own_exp rfl hfm hto).trans (by simp [hc63, hc70, hc77, hc84]))).2 k) ?_
              refine own_by (u' := T107.setTop (mkF m 201 #[.val (.int x1), .val (.long x2), .second, .val (.int x3), .val (.int x4), .val (.ref (n0 + 0)), .val (.int fm), .val (.int to), .val (.int (5 : Int32)), .val (.int (own_scan [b0, b1, b2, b3, b4, b5] to (to.toInt - fm.toInt).toNat fm))] [(.int (1 : Int32))])) (fun _ k => XS.iconst A108.here hx rfl (own_db hby at_200) k) ?_
              refine own_by (u' := T107.setTop (mkF m 205 #[.val (.int x1), .val (.long x2), .second, .val (.int x3), .val (.int x4), .val (.ref (n0 + 0)), .val (.int fm), .val (.int to), .val (.int (5 : Int32)), .val (.int (own_scan [b0, b1, b2, b3, b4, b5] to (to.toInt - fm.toInt).toNat fm))] [(.int (1 : Int32))])) (fun _ k => XS.goto A108.here hx rfl (pc0 := 201) (pc' := 205) rfl (own_db hby at_201) (by decide) (by decide) k) ?_
              exact own_retN A108 hx hlk (t := .boolean) (by simp) hret (own_db hby at_205) (by decide) (by decide) ⟨rfl, trivial⟩
          · refine own_by (u' := T74.setTop (mkF m 139 #[.val (.int x1), .val (.long x2), .second, .val (.int x3), .val (.int x4), .val (.ref (n0 + 0)), .val (.int fm), .val (.int to), .val (.int (-1 : Int32)), .unset] [])) (fun _ k => XS.ifNo A75.here hx rfl (own_db hby at_136) rfl ((if0 _ _).trans (feq hc77).1) k) ?_
            refine own_by (u' := T74.setTop (mkF m 140 #[.val (.int x1), .val (.long x2), .second, .val (.int x3), .val (.int x4), .val (.ref (n0 + 0)), .val (.int fm), .val (.int to), .val (.int (-1 : Int32)), .unset] [(.int (4 : Int32))])) (fun _ k => XS.iconst A75.here hx rfl (own_db hby at_139) k) ?_
            refine own_by (u' := T74.setTop (mkF m 142 #[.val (.int x1), .val (.long x2), .second, .val (.int x3), .val (.int x4), .val (.ref (n0 + 0)), .val (.int fm), .val (.int to), .val (.int (4 : Int32)), .unset] [])) (fun _ k => XS.istore A75.here hx rfl (own_db hby at_140) rfl (l' := #[.val (.int x1), .val (.long x2), .second, .val (.int x3), .val (.int x4), .val (.ref (n0 + 0)), .val (.int fm), .val (.int to), .val (.int (4 : Int32)), .unset]) rfl k) ?_
            refine own_by (u' := T74.setTop (mkF m 182 #[.val (.int x1), .val (.long x2), .second, .val (.int x3), .val (.int x4), .val (.ref (n0 + 0)), .val (.int fm), .val (.int to), .val (.int (4 : Int32)), .unset] [])) (fun _ k => XS.goto A75.here hx rfl (pc0 := 142) (pc' := 182) rfl (own_db hby at_142) (by decide) (by decide) k) ?_
            refine own_by (u' := T74.setTop (mkF m 184 #[.val (.int x1), .val (.long x2), .second, .val (.int x3), .val (.int x4), .val (.ref (n0 + 0)), .val (.int fm), .val (.int to), .val (.int (4 : Int32)), .unset] [(.ref (n0 + 0))])) (fun _ k => XS.aload A75.here hx rfl (own_db hby at_182) rfl rfl k) ?_
            refine own_by (u' := T74.setTop (mkF m 186 #[.val (.int x1), .val (.long x2), .second, .val (.int x3), .val (.int x4), .val (.ref (n0 + 0)), .val (.int fm), .val (.int to), .val (.int (4 : Int32)), .unset] [(.int fm), (.ref (n0 + 0))])) (fun _ k => XS.iload A75.here hx rfl (own_db hby at_184) rfl k) ?_
            refine own_by (u' := T74.setTop (mkF m 188 #[.val (.int x1), .val (.long x2), .second, .val (.int x3), .val (.int x4), .val (.ref (n0 + 0)), .val (.int fm), .val (.int to), .val (.int (4 : Int32)), .unset] [(.int to), (.int fm), (.ref (n0 + 0))])) (fun _ k => XS.iload A75.here hx rfl (own_db hby at_186) rfl k) ?_
            refine own_callS (y := (⟨"com/example/halfpast/halfpast/api/HttpHead", "end", "([BII)I"⟩ : MethodName)) (rest := []) A75 hx hZ hown (hw _ (List.mem_of_getElem? (i := 9) rfl)) (hw _ (List.mem_of_getElem? (i := 10) rfl)) (hw _ (List.mem_of_getElem? (i := 11) rfl)) (hw _ (List.mem_of_getElem? (i := 12) rfl)) (by decide) (g3 l Z a0 hw n0 [b0, b1, b2, b3, b4, b5] fm to rfl hfm.1 (by omega)) (by rw [hml]; rfl) [(.ref (n0 + 0)), (.int fm), (.int to)] rfl rfl pd___BII_I rfl (W := 0) (by show 2 * 0 + _ ≤ _; exact Nat.le_of_eq rfl) (own_db hby at_188) (by decide) (by decide) (by decide) (by decide) ?_
            intro v110 i111 T113 hq112 A114
            obtain ⟨rfl, he115⟩ := hq112
            rw [he115] at A114
            replace A114 : own_at p l e _ s m _ below meth c n0 T113 1 6 [(own_ia Z .byte [b0, b1, b2, b3, b4, b5])] := A114
            show own_go _ _ _ _ _ _ _ (T113.setTop (mkF m 191 #[.val (.int x1), .val (.long x2), .second, .val (.int x3), .val (.int x4), .val (.ref (n0 + 0)), .val (.int fm), .val (.int to), .val (.int (4 : Int32)), .unset] [(.int (own_scan [b0, b1, b2, b3, b4, b5] to (to.toInt - fm.toInt).toNat fm))]))
            refine own_by (u' := T113.setTop (mkF m 193 #[.val (.int x1), .val (.long x2), .second, .val (.int x3), .val (.int x4), .val (.ref (n0 + 0)), .val (.int fm), .val (.int to), .val (.int (4 : Int32)), .val (.int (own_scan [b0, b1, b2, b3, b4, b5] to (to.toInt - fm.toInt).toNat fm))] [])) (fun _ k => XS.istore A114.here hx rfl (own_db hby at_191) rfl (l' := #[.val (.int x1), .val (.long x2), .second, .val (.int x3), .val (.int x4), .val (.ref (n0 + 0)), .val (.int fm), .val (.int to), .val (.int (4 : Int32)), .val (.int (own_scan [b0, b1, b2, b3, b4, b5] to (to.toInt - fm.toInt).toNat fm))]) rfl k) ?_
            refine own_by (u' := T113.setTop (mkF m 195 #[.val (.int x1), .val (.long x2), .second, .val (.int x3), .val (.int x4), .val (.ref (n0 + 0)), .val (.int fm), .val (.int to), .val (.int (4 : Int32)), .val (.int (own_scan [b0, b1, b2, b3, b4, b5] to (to.toInt - fm.toInt).toNat fm))] [(.int (own_scan [b0, b1, b2, b3, b4, b5] to (to.toInt - fm.toInt).toNat fm))])) (fun _ k => XS.iload A114.here hx rfl (own_db hby at_193) rfl k) ?_
            refine own_by (u' := T113.setTop (mkF m 197 #[.val (.int x1), .val (.long x2), .second, .val (.int x3), .val (.int x4), .val (.ref (n0 + 0)), .val (.int fm), .val (.int to), .val (.int (4 : Int32)), .val (.int (own_scan [b0, b1, b2, b3, b4, b5] to (to.toInt - fm.toInt).toNat fm))] [(.int (4 : Int32)), (.int (own_scan [b0, b1, b2, b3, b4, b5] to (to.toInt - fm.toInt).toNat fm))])) (fun _ k => XS.iload A114.here hx rfl (own_db hby at_195) rfl k) ?_
            refine own_by (u' := T113.setTop (mkF m 200 #[.val (.int x1), .val (.long x2), .second, .val (.int x3), .val (.int x4), .val (.ref (n0 + 0)), .val (.int fm), .val (.int to), .val (.int (4 : Int32)), .val (.int (own_scan [b0, b1, b2, b3, b4, b5] to (to.toInt - fm.toInt).toNat fm))] [])) (fun _ k => XS.icmpNo A114.here hx rfl (own_db hby at_197) rfl (teq ((own_exp rfl hfm hto).trans (by simp [hc63, hc70, hc77]))).2 k) ?_
            refine own_by (u' := T113.setTop (mkF m 201 #[.val (.int x1), .val (.long x2), .second, .val (.int x3), .val (.int x4), .val (.ref (n0 + 0)), .val (.int fm), .val (.int to), .val (.int (4 : Int32)), .val (.int (own_scan [b0, b1, b2, b3, b4, b5] to (to.toInt - fm.toInt).toNat fm))] [(.int (1 : Int32))])) (fun _ k => XS.iconst A114.here hx rfl (own_db hby at_200) k) ?_
            refine own_by (u' := T113.setTop (mkF m 205 #[.val (.int x1), .val (.long x2), .second, .val (.int x3), .val (.int x4), .val (.ref (n0 + 0)), .val (.int fm), .val (.int to), .val (.int (4 : Int32)), .val (.int (own_scan [b0, b1, b2, b3, b4, b5] to (to.toInt - fm.toInt).toNat fm))] [(.int (1 : Int32))])) (fun _ k => XS.goto A114.here hx rfl (pc0 := 201) (pc' := 205) rfl (own_db hby at_201) (by decide) (by decide) k) ?_
            exact own_retN A114 hx hlk (t := .boolean) (by simp) hret (own_db hby at_205) (by decide) (by decide) ⟨rfl, trivial⟩
        · refine own_by (u' := T67.setTop (mkF m 120 #[.val (.int x1), .val (.long x2), .second, .val (.int x3), .val (.int x4), .val (.ref (n0 + 0)), .val (.int fm), .val (.int to), .val (.int (-1 : Int32)), .unset] [])) (fun _ k => XS.ifNo A68.here hx rfl (own_db hby at_117) rfl ((if0 _ _).trans (feq hc70).1) k) ?_
          refine own_by (u' := T67.setTop (mkF m 121 #[.val (.int x1), .val (.long x2), .second, .val (.int x3), .val (.int x4), .val (.ref (n0 + 0)), .val (.int fm), .val (.int to), .val (.int (-1 : Int32)), .unset] [(.int (3 : Int32))])) (fun _ k => XS.iconst A68.here hx rfl (own_db hby at_120) k) ?_
          refine own_by (u' := T67.setTop (mkF m 123 #[.val (.int x1), .val (.long x2), .second, .val (.int x3), .val (.int x4), .val (.ref (n0 + 0)), .val (.int fm), .val (.int to), .val (.int (3 : Int32)), .unset] [])) (fun _ k => XS.istore A68.here hx rfl (own_db hby at_121) rfl (l' := #[.val (.int x1), .val (.long x2), .second, .val (.int x3), .val (.int x4), .val (.ref (n0 + 0)), .val (.int fm), .val (.int to), .val (.int (3 : Int32)), .unset]) rfl k) ?_
          refine own_by (u' := T67.setTop (mkF m 182 #[.val (.int x1), .val (.long x2), .second, .val (.int x3), .val (.int x4), .val (.ref (n0 + 0)), .val (.int fm), .val (.int to), .val (.int (3 : Int32)), .unset] [])) (fun _ k => XS.goto A68.here hx rfl (pc0 := 123) (pc' := 182) rfl (own_db hby at_123) (by decide) (by decide) k) ?_
          refine own_by (u' := T67.setTop (mkF m 184 #[.val (.int x1), .val (.long x2), .second, .val (.int x3), .val (.int x4), .val (.ref (n0 + 0)), .val (.int fm), .val (.int to), .val (.int (3 : Int32)), .unset] [(.ref (n0 + 0))])) (fun _ k => XS.aload A68.here hx rfl (own_db hby at_182) rfl rfl k) ?_
          refine own_by (u' := T67.setTop (mkF m 186 #[.val (.int x1), .val (.long x2), .second, .val (.int x3), .val (.int x4), .val (.ref (n0 + 0)), .val (.int fm), .val (.int to), .val (.int (3 : Int32)), .unset] [(.int fm), (.ref (n0 + 0))])) (fun _ k => XS.iload A68.here hx rfl (own_db hby at_184) rfl k) ?_
          refine own_by (u' := T67.setTop (mkF m 188 #[.val (.int x1), .val (.long x2), .second, .val (.int x3), .val (.int x4), .val (.ref (n0 + 0)), .val (.int fm), .val (.int to), .val (.int (3 : Int32)), .unset] [(.int to), (.int fm), (.ref (n0 + 0))])) (fun _ k => XS.iload A68.here hx rfl (own_db hby at_186) rfl k) ?_
          refine own_callS (y := (⟨"com/example/halfpast/halfpast/api/HttpHead", "end", "([BII)I"⟩ : MethodName)) (rest := []) A68 hx hZ hown (hw _ (List.mem_of_getElem? (i := 9) rfl)) (hw _ (List.mem_of_getElem? (i := 10) rfl)) (hw _ (List.mem_of_getElem? (i := 11) rfl)) (hw _ (List.mem_of_getElem? (i := 12) rfl)) (by decide) (g3 l Z a0 hw n0 [b0, b1, b2, b3, b4, b5] fm to rfl hfm.1 (by omega)) (by rw [hml]; rfl) [(.ref (n0 + 0)), (.int fm), (.int to)] rfl rfl pd___BII_I rfl (W := 0) (by show 2 * 0 + _ ≤ _; exact Nat.le_of_eq rfl) (own_db hby at_188) (by decide) (by decide) (by decide) (by decide) ?_
          intro v116 i117 T119 hq118 A120
          obtain ⟨rfl, he121⟩ := hq118
          rw [he121] at A120
          replace A120 : own_at p l e _ s m _ below meth c n0 T119 1 6 [(own_ia Z .byte [b0, b1, b2, b3, b4, b5])] := A120
          show own_go _ _ _ _ _ _ _ (T119.setTop (mkF m 191 #[.val (.int x1), .val (.long x2), .second, .val (.int x3), .val (.int x4), .val (.ref (n0 + 0)), .val (.int fm), .val (.int to), .val (.int (3 : Int32)), .unset] [(.int (own_scan [b0, b1, b2, b3, b4, b5] to (to.toInt - fm.toInt).toNat fm))]))
          refine own_by (u' := T119.setTop (mkF m 193 #[.val (.int x1), .val (.long x2), .second, .val (.int x3), .val (.int x4), .val (.ref (n0 + 0)), .val (.int fm), .val (.int to), .val (.int (3 : Int32)), .val (.int (own_scan [b0, b1, b2, b3, b4, b5] to (to.toInt - fm.toInt).toNat fm))] [])) (fun _ k => XS.istore A120.here hx rfl (own_db hby at_191) rfl (l' := #[.val (.int x1), .val (.long x2), .second, .val (.int x3), .val (.int x4), .val (.ref (n0 + 0)), .val (.int fm), .val (.int to), .val (.int (3 : Int32)), .val (.int (own_scan [b0, b1, b2, b3, b4, b5] to (to.toInt - fm.toInt).toNat fm))]) rfl k) ?_
          refine own_by (u' := T119.setTop (mkF m 195 #[.val (.int x1), .val (.long x2), .second, .val (.int x3), .val (.int x4), .val (.ref (n0 + 0)), .val (.int fm), .val (.int to), .val (.int (3 : Int32)), .val (.int (own_scan [b0, b1, b2, b3, b4, b5] to (to.toInt - fm.toInt).toNat fm))] [(.int (own_scan [b0, b1, b2, b3, b4, b5] to (to.toInt - fm.toInt).toNat fm))])) (fun _ k => XS.iload A120.here hx rfl (own_db hby at_193) rfl k) ?_
          refine own_by (u' := T119.setTop (mkF m 197 #[.val (.int x1), .val (.long x2), .second, .val (.int x3), .val (.int x4), .val (.ref (n0 + 0)), .val (.int fm), .val (.int to), .val (.int (3 : Int32)), .val (.int (own_scan [b0, b1, b2, b3, b4, b5] to (to.toInt - fm.toInt).toNat fm))] [(.int (3 : Int32)), (.int (own_scan [b0, b1, b2, b3, b4, b5] to (to.toInt - fm.toInt).toNat fm))])) (fun _ k => XS.iload A120.here hx rfl (own_db hby at_195) rfl k) ?_
          refine own_by (u' := T119.setTop (mkF m 200 #[.val (.int x1), .val (.long x2), .second, .val (.int x3), .val (.int x4), .val (.ref (n0 + 0)), .val (.int fm), .val (.int to), .val (.int (3 : Int32)), .val (.int (own_scan [b0, b1, b2, b3, b4, b5] to (to.toInt - fm.toInt).toNat fm))] [])) (fun _ k => XS.icmpNo A120.here hx rfl (own_db hby at_197) rfl (teq ((own_exp rfl hfm hto).trans (by simp [hc63, hc70]))).2 k) ?_
          refine own_by (u' := T119.setTop (mkF m 201 #[.val (.int x1), .val (.long x2), .second, .val (.int x3), .val (.int x4), .val (.ref (n0 + 0)), .val (.int fm), .val (.int to), .val (.int (3 : Int32)), .val (.int (own_scan [b0, b1, b2, b3, b4, b5] to (to.toInt - fm.toInt).toNat fm))] [(.int (1 : Int32))])) (fun _ k => XS.iconst A120.here hx rfl (own_db hby at_200) k) ?_
          refine own_by (u' := T119.setTop (mkF m 205 #[.val (.int x1), .val (.long x2), .second, .val (.int x3), .val (.int x4), .val (.ref (n0 + 0)), .val (.int fm), .val (.int to), .val (.int (3 : Int32)), .val (.int (own_scan [b0, b1, b2, b3, b4, b5] to (to.toInt - fm.toInt).toNat fm))] [(.int (1 : Int32))])) (fun _ k => XS.goto A120.here hx rfl (pc0 := 201) (pc' := 205) rfl (own_db hby at_201) (by decide) (by decide) k) ?_
          exact own_retN A120 hx hlk (t := .boolean) (by simp) hret (own_db hby at_205) (by decide) (by decide) ⟨rfl, trivial⟩
      · refine own_by (u' := T60.setTop (mkF m 101 #[.val (.int x1), .val (.long x2), .second, .val (.int x3), .val (.int x4), .val (.ref (n0 + 0)), .val (.int fm), .val (.int to), .val (.int (-1 : Int32)), .unset] [])) (fun _ k => XS.ifNo A61.here hx rfl (own_db hby at_98) rfl ((if0 _ _).trans (feq hc63).1) k) ?_
        refine own_by (u' := T60.setTop (mkF m 102 #[.val (.int x1), .val (.long x2), .second, .val (.int x3), .val (.int x4), .val (.ref (n0 + 0)), .val (.int fm), .val (.int to), .val (.int (-1 : Int32)), .unset] [(.int (2 : Int32))])) (fun _ k => XS.iconst A61.here hx rfl (own_db hby at_101) k) ?_
        refine own_by (u' := T60.setTop (mkF m 104 #[.val (.int x1), .val (.long x2), .second, .val (.int x3), .val (.int x4), .val (.ref (n0 + 0)), .val (.int fm), .val (.int to), .val (.int (2 : Int32)), .unset] [])) (fun _ k => XS.istore A61.here hx rfl (own_db hby at_102) rfl (l' := #[.val (.int x1), .val (.long x2), .second, .val (.int x3), .val (.int x4), .val (.ref (n0 + 0)), .val (.int fm), .val (.int to), .val (.int (2 : Int32)), .unset]) rfl k) ?_
        refine own_by (u' := T60.setTop (mkF m 182 #[.val (.int x1), .val (.long x2), .second, .val (.int x3), .val (.int x4), .val (.ref (n0 + 0)), .val (.int fm), .val (.int to), .val (.int (2 : Int32)), .unset] [])) (fun _ k => XS.goto A61.here hx rfl (pc0 := 104) (pc' := 182) rfl (own_db hby at_104) (by decide) (by decide) k) ?_
        refine own_by (u' := T60.setTop (mkF m 184 #[.val (.int x1), .val (.long x2), .second, .val (.int x3), .val (.int x4), .val (.ref (n0 + 0)), .val (.int fm), .val (.int to), .val (.int (2 : Int32)), .unset] [(.ref (n0 + 0))])) (fun _ k => XS.aload A61.here hx rfl (own_db hby at_182) rfl rfl k) ?_
        refine own_by (u' := T60.setTop (mkF m 186 #[.val (.int x1), .val (.long x2), .second, .val (.int x3), .val (.int x4), .val (.ref (n0 + 0)), .val (.int fm), .val (.int to), .val (.int (2 : Int32)), .unset] [(.int fm), (.ref (n0 + 0))])) (fun _ k => XS.iload A61.here hx rfl (own_db hby at_184) rfl k) ?_
        refine own_by (u' := T60.setTop (mkF m 188 #[.val (.int x1), .val (.long x2), .second, .val (.int x3), .val (.int x4), .val (.ref (n0 + 0)), .val (.int fm), .val (.int to), .val (.int (2 : Int32)), .unset] [(.int to), (.int fm), (.ref (n0 + 0))])) (fun _ k => XS.iload A61.here hx rfl (own_db hby at_186) rfl k) ?_
        refine own_callS (y := (⟨"com/example/halfpast/halfpast/api/HttpHead", "end", "([BII)I"⟩ : MethodName)) (rest := []) A61 hx hZ hown (hw _ (List.mem_of_getElem? (i := 9) rfl)) (hw _ (List.mem_of_getElem? (i := 10) rfl)) (hw _ (List.mem_of_getElem? (i := 11) rfl)) (hw _ (List.mem_of_getElem? (i := 12) rfl)) (by decide) (g3 l Z a0 hw n0 [b0, b1, b2, b3, b4, b5] fm to rfl hfm.1 (by omega)) (by rw [hml]; rfl) [(.ref (n0 + 0)), (.int fm), (.int to)] rfl rfl pd___BII_I rfl (W := 0) (by show 2 * 0 + _ ≤ _; exact Nat.le_of_eq rfl) (own_db hby at_188) (by decide) (by decide) (by decide) (by decide) ?_
        intro v122 i123 T125 hq124 A126
        obtain ⟨rfl, he127⟩ := hq124
        rw [he127] at A126
        replace A126 : own_at p l e _ s m _ below meth c n0 T125 1 6 [(own_ia Z .byte [b0, b1, b2, b3, b4, b5])] := A126
        show own_go _ _ _ _ _ _ _ (T125.setTop (mkF m 191 #[.val (.int x1), .val (.long x2), .second, .val (.int x3), .val (.int x4), .val (.ref (n0 + 0)), .val (.int fm), .val (.int to), .val (.int (2 : Int32)), .unset] [(.int (own_scan [b0, b1, b2, b3, b4, b5] to (to.toInt - fm.toInt).toNat fm))]))
        refine own_by (u' := T125.setTop (mkF m 193 #[.val (.int x1), .val (.long x2), .second, .val (.int x3), .val (.int x4), .val (.ref (n0 + 0)), .val (.int fm), .val (.int to), .val (.int (2 : Int32)), .val (.int (own_scan [b0, b1, b2, b3, b4, b5] to (to.toInt - fm.toInt).toNat fm))] [])) (fun _ k => XS.istore A126.here hx rfl (own_db hby at_191) rfl (l' := #[.val (.int x1), .val (.long x2), .second, .val (.int x3), .val (.int x4), .val (.ref (n0 + 0)), .val (.int fm), .val (.int to), .val (.int (2 : Int32)), .val (.int (own_scan [b0, b1, b2, b3, b4, b5] to (to.toInt - fm.toInt).toNat fm))]) rfl k) ?_
        refine own_by (u' := T125.setTop (mkF m 195 #[.val (.int x1), .val (.long x2), .second, .val (.int x3), .val (.int x4), .val (.ref (n0 + 0)), .val (.int fm), .val (.int to), .val (.int (2 : Int32)), .val (.int (own_scan [b0, b1, b2, b3, b4, b5] to (to.toInt - fm.toInt).toNat fm))] [(.int (own_scan [b0, b1, b2, b3, b4, b5] to (to.toInt - fm.toInt).toNat fm))])) (fun _ k => XS.iload A126.here hx rfl (own_db hby at_193) rfl k) ?_
        refine own_by (u' := T125.setTop (mkF m 197 #[.val (.int x1), .val (.long x2), .second, .val (.int x3), .val (.int x4), .val (.ref (n0 + 0)), .val (.int fm), .val (.int to), .val (.int (2 : Int32)), .val (.int (own_scan [b0, b1, b2, b3, b4, b5] to (to.toInt - fm.toInt).toNat fm))] [(.int (2 : Int32)), (.int (own_scan [b0, b1, b2, b3, b4, b5] to (to.toInt - fm.toInt).toNat fm))])) (fun _ k => XS.iload A126.here hx rfl (own_db hby at_195) rfl k) ?_
        refine own_by (u' := T125.setTop (mkF m 200 #[.val (.int x1), .val (.long x2), .second, .val (.int x3), .val (.int x4), .val (.ref (n0 + 0)), .val (.int fm), .val (.int to), .val (.int (2 : Int32)), .val (.int (own_scan [b0, b1, b2, b3, b4, b5] to (to.toInt - fm.toInt).toNat fm))] [])) (fun _ k => XS.icmpNo A126.here hx rfl (own_db hby at_197) rfl (teq ((own_exp rfl hfm hto).trans (by simp [hc63]))).2 k) ?_
        refine own_by (u' := T125.setTop (mkF m 201 #[.val (.int x1), .val (.long x2), .second, .val (.int x3), .val (.int x4), .val (.ref (n0 + 0)), .val (.int fm), .val (.int to), .val (.int (2 : Int32)), .val (.int (own_scan [b0, b1, b2, b3, b4, b5] to (to.toInt - fm.toInt).toNat fm))] [(.int (1 : Int32))])) (fun _ k => XS.iconst A126.here hx rfl (own_db hby at_200) k) ?_
        refine own_by (u' := T125.setTop (mkF m 205 #[.val (.int x1), .val (.long x2), .second, .val (.int x3), .val (.int x4), .val (.ref (n0 + 0)), .val (.int fm), .val (.int to), .val (.int (2 : Int32)), .val (.int (own_scan [b0, b1, b2, b3, b4, b5] to (to.toInt - fm.toInt).toNat fm))] [(.int (1 : Int32))])) (fun _ k => XS.goto A126.here hx rfl (pc0 := 201) (pc' := 205) rfl (own_db hby at_201) (by decide) (by decide) k) ?_
        exact own_retN A126 hx hlk (t := .boolean) (by simp) hret (own_db hby at_205) (by decide) (by decide) ⟨rfl, trivial⟩
    exact J54 _ ((x3 &&& (2147483647 : Int32)) % (7 : Int32)) ((x4 &&& (2147483647 : Int32)) % (7 : Int32)) (A53) (own_rem _ 7 7 rfl (by omega)) (own_rem _ 7 7 rfl (by omega))
  exact J51 _ ((nar .byte (f1 x1 x2 (0 : Int32)))) ((nar .byte (f1 x1 x2 (1 : Int32)))) ((nar .byte (f1 x1 x2 (2 : Int32)))) ((nar .byte (f1 x1 x2 (3 : Int32)))) ((nar .byte (f1 x1 x2 (4 : Int32)))) ((nar .byte (f1 x1 x2 (5 : Int32)))) (A50)
set_option maxRecDepth 65536 in
set_option maxHeartbeats 40000000 in
theorem comes_1 {Post : Tables → Env → Array Value → State → Outcome → State → Prop} (hpost : ∀ tb e args s v u, (limb_1_1.after args s (.returned v) u = true ∧ limb_1_2.after args s (.returned v) u = true ∧ True) → FrameEnd s (.returned v) u (Jvm.fieldLocs frame_1_writes args s ++ Jvm.arrayLocs frame_1_arrays args s ++ Jvm.staticLocs frame_1_statics s) 16 128 → Post tb e args s (.returned v) u) :
    ArmFor flags0 classFile x code maxLocals ret World_1 tables_1 room_1 Calls_1 rest_1 Pre_1 Post := by
  intro l hfl _ _ p e ha hc hk s m args below hf hA hF happ hP
  obtain ⟨hcalls, hrest, hpre⟩ := hP
  obtain ⟨-, -, -, hnamed, -, -, -, hat⟩ := (Spec.applies_iff hf).mp happ
  obtain ⟨hg, hn⟩ := and_e (Cond.before_iff.mp (show (Jvm.Cond.and given_1 narrow_1).before args s = true from hpre))
  obtain ⟨h1, k0⟩ := and_e hg
  obtain ⟨j0, k1⟩ := and_e k0
  obtain ⟨j1, k2⟩ := and_e k1
  obtain ⟨j2, k3⟩ := and_e k2
  obtain ⟨w0, w1, w2, w3, rfl⟩ : ∃ w0 w1 w2 w3 : Value, args = #[w0, w1, w2, w3] := by
    have hs : args.size = 4 := by simpa [Cond.value, given_1] using h1
    obtain ⟨L⟩ := args
    match L, hs with
    | [w0, w1, w2, w3], _ => exact ⟨w0, w1, w2, w3, rfl⟩
  have hw := fun d (hd : d ∈ tables_1) => atoms_spec (ws := Jvm.Cond.code x code maxLocals ret :: tables_1) hat d (List.mem_cons_of_mem _ hd)
  obtain ⟨i0, ei0⟩ := is_v j0
  obtain rfl : w0 = (.int i0) := Option.some.inj ei0
  obtain ⟨i1, ei1⟩ := isL_v j1
  obtain rfl : w1 = (.long i1) := Option.some.inj ei1
  obtain ⟨i2, ei2⟩ := is_v j2
  obtain rfl : w2 = (.int i2) := Option.some.inj ei2
  obtain ⟨i3, ei3⟩ := is_v k3
  obtain rfl : w3 = (.int i3) := Option.some.inj ei3
  obtain ⟨n, o, h1, h2, h3, v, L, rfl, ⟨N, its', ⟨rfl, -⟩, -⟩, hq⟩ := g0 l s _ hw s.heap.size i0 i1 i2 i3 s.heap tables_1 ⟨rfl, fun i P q => nomatch q⟩ p e ha hc hk s m _ below hf ((Spec.applies_iff_loose hf).mp happ).1 ⟨rfl, State.Warmed39.refl s, rfl⟩ trivial
  refine ⟨n, _, h1, h2, h3, hpost _ _ _ _ _ _ ⟨Cond.after_iff.mpr rfl, Cond.after_iff.mpr (eq_i res_at (Term.int_eval (1)) rfl), trivial⟩ ⟨hq.1, hq.2.1, (hq.2.2.sift fun y hy => Or.inr (N y hy)).mono (by decide) (by decide)⟩⟩
theorem main_1_1 : Claimed_1_1 := comes_1 fun _ _ _ _ _ _ h hF => ⟨h.1, hF⟩
theorem main_1_2 : Claimed_1_2 := comes_1 fun _ _ _ _ _ _ h hF => ⟨h.2.1, hF⟩
end Jvm.Pilot.@@N@@
namespace Jvm.Pilot.@@N@@
open Jvm Jvm.ClassFile Sem Op Lib Jvm.Free Jvm.Stand Jvm.Pilot.@@N@@.Jvm.D
/-! MADE BY PROGRAM (witnessworld.py) out of the Statement's table words and the real class files: 9 classes; the members and pool entries that the words name. The judged class is class 1, her method 3. -/
namespace start1
open Jvm.ClassFile
def u (s : String) : CpInfo := .utf8 (stringToUtf16 s)
/-- a pool by its gaps: so many unusable entries, then the entry; so many at the end -/
def gap : Nat → List CpInfo → List CpInfo
  | 0, r => r
  | n + 1, r => .unusable :: gap n r
def poolList (es : List (Nat × CpInfo)) (last : Nat) : List CpInfo := es.foldr (fun e r => gap e.1 (e.2 :: r)) (gap last [])
def pool (es : List (Nat × CpInfo)) (last : Nat) : Array CpInfo := ⟨poolList es last⟩
def fileOf (pool : Array CpInfo) (this : Nat) (attrs : Array Attribute := #[]) (ms : Array MethodInfo := #[]) (fl : Nat := 33) (sup : Nat := 0) (ifs : Array Nat := #[]) (fds : Array FieldInfo := #[]) : ClassFile where
  minorVersion := 0
  majorVersion := 65
  constantPool := pool
  accessFlags := fl
  thisClass := this
  superClass := sup
  interfaces := ifs
  fields := fds
  methods := ms
  attributes := attrs
def plain (name : String) (sup : Option ClassId) : Class where
  name := name
  kind := .ordinary
  loader := none
  accessFlags := 33
  super := sup
  interfaces := #[]
  cf := none
  fields := #[]
  methods := #[]
  instanceTypes := #[]
  staticTypes := #[]
  resolved := #[]
  callSites := []
  init := .initialized
  statics := none
  mirror := none

def pool0 : Array CpInfo := pool [(5, u "<init>"), (0, u "()V"), (1, .class_ 10), (1, u "java/lang/Object")] 113

def k0m0 : Method := { name := "<init>", desc := "()V", sig := { parameters := [], returnType := none }, accessFlags := 1, code := none }
/-- java/lang/Object -/
def k0 : Class := { plain "java/lang/Object" none with
  accessFlags := 33
  interfaces := #[]
  cf := some (fileOf pool0 8 #[] #[{ accessFlags := 1, nameIndex := 5, descriptorIndex := 6, attributes := #[] }] 33 0 #[] #[])
  fields := #[]
  methods := #[k0m0]
  instanceTypes := #[]
  staticTypes := #[]
  resolved := Array.replicate 124 none
  statics := none }

def pool1 : Array CpInfo := pool [(2, .class_ 4), (1, u "java/lang/Object"), (0, u "<init>"), (0, u "()V"), (0, .methodref 8 9), (0, .class_ 10), (0, .nameAndType 11 12), (0, u "com/example/halfpast/halfpast/api/HttpHeadEndPinLaw"), (0, u "pick"), (0, u "(IJI)B"), (0, .integer 2147483647), (0, .methodref 8 15), (0, .nameAndType 16 17), (0, u "endsAt"), (0, u "([BIII)Z"), (0, .methodref 19 20), (0, .class_ 21), (0, .nameAndType 22 23), (0, u "com/example/halfpast/halfpast/api/HttpHead"), (0, u "end"), (0, u "([BII)I"), (3, u "law"), (0, u "(IJII)Z")] 4

def k1m0 : Method := { name := "<init>", desc := "()V", sig := { parameters := [], returnType := none }, accessFlags := 1, code := none }
def k1c1 : Code := { maxStack := 4, maxLocals := 5, code := method_2_code, exceptionTable := #[], attributes := #[] }
def k1m1 : Method := { name := "pick", desc := "(IJI)B", sig := { parameters := [.int, .long, .int], returnType := some .byte }, accessFlags := 10, code := some k1c1 }
def k1c2 : Code := { maxStack := 3, maxLocals := 4, code := method_3_code, exceptionTable := #[], attributes := #[] }
def k1m2 : Method := { name := "endsAt", desc := "([BIII)Z", sig := { parameters := [(.array .byte), .int, .int, .int], returnType := some .boolean }, accessFlags := 10, code := some k1c2 }
def k1c3 : Code := { maxStack := 6, maxLocals := 10, code := code, exceptionTable := #[], attributes := #[] }
def k1m3 : Method := { name := "law", desc := "(IJII)Z", sig := { parameters := [.int, .long, .int, .int], returnType := some .boolean }, accessFlags := 9, code := some k1c3 }
/-- com/example/halfpast/halfpast/api/HttpHeadEndPinLaw -/
def k1 : Class := { plain "com/example/halfpast/halfpast/api/HttpHeadEndPinLaw" (some 0) with
  accessFlags := 49
  interfaces := #[]
  cf := some (fileOf pool1 8 #[] #[{ accessFlags := 1, nameIndex := 5, descriptorIndex := 6, attributes := #[] }, { accessFlags := 10, nameIndex := 11, descriptorIndex := 12, attributes := #[] }, { accessFlags := 10, nameIndex := 16, descriptorIndex := 17, attributes := #[] }, { accessFlags := 9, nameIndex := 27, descriptorIndex := 28, attributes := #[] }] 49 2 #[] #[])
  fields := #[]
  methods := #[k1m0, k1m1, k1m2, k1m3]
  instanceTypes := #[]
  staticTypes := #[]
  resolved := Array.replicate 33 none
  statics := none }

def pool2 : Array CpInfo := pool [(2, .class_ 4), (1, u "java/lang/Object"), (3, .class_ 10), (1, u "com/example/halfpast/halfpast/api/HttpHead"), (0, u "startLine"), (0, u "Ljava/lang/String;"), (2, u "names"), (0, u "Ljava/util/List;"), (2, u "values"), (154, u "MAX_BYTES"), (0, u "I"), (7, u "end"), (0, u "([BII)I")] 47

def k2c0 : Code := { maxStack := 3, maxLocals := 5, code := prog_2_method_2_code, exceptionTable := #[], attributes := #[] }
def k2m0 : Method := { name := "end", desc := "([BII)I", sig := { parameters := [(.array .byte), .int, .int], returnType := some .int }, accessFlags := 9, code := some k2c0 }
/-- com/example/halfpast/halfpast/api/HttpHead -/
def k2 : Class := { plain "com/example/halfpast/halfpast/api/HttpHead" (some 0) with
  accessFlags := 33
  interfaces := #[]
  cf := some (fileOf pool2 8 #[] #[{ accessFlags := 9, nameIndex := 183, descriptorIndex := 184, attributes := #[] }] 33 2 #[] #[{ accessFlags := 25, nameIndex := 174, descriptorIndex := 175, attributes := #[] }, { accessFlags := 18, nameIndex := 11, descriptorIndex := 12, attributes := #[] }, { accessFlags := 18, nameIndex := 15, descriptorIndex := 16, attributes := #[] }, { accessFlags := 18, nameIndex := 19, descriptorIndex := 16, attributes := #[] }])
  fields := #[{ name := "MAX_BYTES", type := .int, accessFlags := 25, slot := 0, constantValue := 0 }, { name := "startLine", type := (.object "java/lang/String"), accessFlags := 18, slot := 0, constantValue := 0 }, { name := "names", type := (.object "java/util/List"), accessFlags := 18, slot := 1, constantValue := 0 }, { name := "values", type := (.object "java/util/List"), accessFlags := 18, slot := 2, constantValue := 0 }]
  methods := #[k2m0]
  instanceTypes := #[(.object "java/lang/String"), (.object "java/util/List"), (.object "java/util/List")]
  staticTypes := #[.int]
  resolved := Array.replicate 232 none
  statics := none }

def pool3 : Array CpInfo := pool [(1, u "java/lang/Cloneable"), (0, .class_ 1), (0, u "java/lang/Object"), (0, .class_ 3)] 3

/-- java/lang/Cloneable -/
def k3 : Class := { plain "java/lang/Cloneable" (some 0) with
  accessFlags := 1537
  interfaces := #[]
  cf := some (fileOf pool3 2 #[] #[] 1537 4 #[] #[])
  fields := #[]
  methods := #[]
  instanceTypes := #[]
  staticTypes := #[]
  resolved := Array.replicate 8 none
  statics := none }

def pool4 : Array CpInfo := pool [(1, u "java/io/Serializable"), (0, .class_ 1), (0, u "java/lang/Object"), (0, .class_ 3)] 3

/-- java/io/Serializable -/
def k4 : Class := { plain "java/io/Serializable" (some 0) with
  accessFlags := 1537
  interfaces := #[]
  cf := some (fileOf pool4 2 #[] #[] 1537 4 #[] #[])
  fields := #[]
  methods := #[]
  instanceTypes := #[]
  staticTypes := #[]
  resolved := Array.replicate 8 none
  statics := none }

/-- the primitive byte -/
def k5 : Class := { plain "byte" none with kind := .primitive 'B', accessFlags := 0x411 }
/-- [B -/
def k6 : Class := { plain "[B" (some 0) with kind := .array 5 .byte, interfaces := #[3, 4], accessFlags := 1041 }

/-- the primitive int -/
def k7 : Class := { plain "int" none with kind := .primitive 'I', accessFlags := 0x411 }
/-- [I -/
def k8 : Class := { plain "[I" (some 0) with kind := .array 7 .int, interfaces := #[3, 4], accessFlags := 1041 }

def heap : Heap := #[]
def classes : Array Class := #[k0, k1, k2, k3, k4, k5, k6, k7, k8]
def interned : List (Array UInt16 × Addr) := []
def slotsUsed : Nat := 0
def theMethod : MethodId := ⟨1, 3⟩
def args0 : Array Value := #[.int 5, .long 6, .int 7, .int 8]
def aboutOver (below : List Frame) : State where
  vm := { classes := classes, interned := interned.toArray }
  heap := heap
  slotsUsed := slotsUsed
  threads := #[{ frames := .invoking theMethod args0 :: below }]
def below0 : List Frame := [.native { method := ⟨0, 0⟩, args := #[] }]
def about1 : State := aboutOver below0
def p0 : Program := .bare "" "" ""
def e0 : Env := launch0.env 0 0 0
theorem w_frames : about1.frames = Frame.invoking theMethod args0 :: below0 := rfl
set_option maxRecDepth 65536 in
theorem w_args : argsFit about1.vm theMethod args0 = true := by decide +kernel
set_option maxRecDepth 65536 in
theorem w_heap : heapFits about1 = true := by decide +kernel
set_option maxRecDepth 65536 in
theorem w_runnable : about1.curStatus? = some .runnable := by decide +kernel
set_option maxRecDepth 65536 in
theorem w_alone : about1.alone = true := by decide +kernel
set_option maxRecDepth 65536 in
theorem w_named : about1.methodNamed? x = some theMethod := by decide +kernel
set_option maxRecDepth 65536 in
theorem w_hears : about1.hears theMethod below0 = true := by decide +kernel
set_option maxRecDepth 65536 in
theorem w_ripe : about1.ripe theMethod args0 below0 = true := by decide +kernel
theorem w_running : about1.status = .running := rfl
set_option maxRecDepth 65536 in
theorem w_room : about1.hasRoom e0.platform room_1 = true :=
  launch0.hasRoom_least _ room_1 (by decide +kernel) (by decide +kernel) (by decide +kernel) (by decide +kernel) (by decide +kernel) (by decide +kernel)
theorem allAtoms_all (ts : List Jvm.Cond) (a : Array Jvm.Value) (st : Jvm.State) : (allAtoms ts).before a st = ts.all (fun c => c.before a st) := by
  induction ts with
  | nil => rfl
  | cons c t ih =>
    show (Jvm.Cond.and c (allAtoms t)).before a st = _
    rw [Jvm.Cond.before_and, ih, List.all_cons]
def words1 : List Jvm.Cond := Jvm.Cond.code x code maxLocals ret :: tables_1
/-- a 'code' word, met by the world's own term for the bytes: nothing is compared byte by byte -/
theorem code_word {y : MethodName} {bytes : ByteArray} {mx : Nat} {rt : Option FieldType} {a : Array Value} {s : State} {m : MethodId} {meth : Method} {c : Code} (h1 : s.methodNamed? y = some m) (h2 : s.vm.method? m = some meth) (h3 : meth.code = some c) (h4 : c.code = bytes)
    (h5 : (c.maxLocals == mx && c.exceptionTable.isEmpty && decide (c.maxStack ≤ mostOperands) && decide (meth.sig.returnType = rt) && !meth.locks && decide (parseMethodDescriptor y.desc = some meth.sig)) = true) : (Jvm.Cond.code y bytes mx rt).before a s = true := by
  simp only [Bool.and_eq_true, beq_iff_eq, Bool.not_eq_true', decide_eq_true_eq] at h5
  obtain ⟨⟨⟨⟨⟨g1, g2⟩, g3⟩, g4⟩, g5⟩, g6⟩ := h5
  simp [Cond.before, Cond.holds, Cond.value, h1, h2, h3, h4, g1, g2, g3, g4, g5, g6]
def isCode : Jvm.Cond → Bool
  | .code _ _ _ _ => true
  | _ => false
theorem all_split {L : List Jvm.Cond} {P : Jvm.Cond → Bool} (h1 : L.all (fun c => isCode c || P c) = true) (h2 : ∀ c ∈ L.filter isCode, P c = true) : L.all P = true := by
  refine List.all_eq_true.mpr fun c hc => ?_
  have h := List.all_eq_true.mp h1 c hc
  rcases Bool.eq_false_or_eq_true (isCode c) with hi | hi
  · exact h2 c (List.mem_filter.mpr ⟨hc, hi⟩)
  · simpa [hi] using h
set_option maxRecDepth 65536 in
theorem w_c0 : (Jvm.Cond.code x code maxLocals ret).before args0 about1 = true := code_word (m := ⟨1, 3⟩) (meth := k1m3) (c := k1c3) (by decide +kernel) rfl rfl rfl (by decide +kernel)
set_option maxRecDepth 65536 in
theorem w_c1 : (Jvm.Cond.code ({ cls := "com/example/halfpast/halfpast/api/HttpHeadEndPinLaw", name := "pick", desc := "(IJI)B" } : Jvm.MethodName) method_2_code (5 : Nat) (Option.some Jvm.ClassFile.FieldType.byte)).before args0 about1 = true := code_word (m := ⟨1, 1⟩) (meth := k1m1) (c := k1c1) (by decide +kernel) rfl rfl rfl (by decide +kernel)
set_option maxRecDepth 65536 in
theorem w_c2 : (Jvm.Cond.code ({ cls := "com/example/halfpast/halfpast/api/HttpHeadEndPinLaw", name := "endsAt", desc := "([BIII)Z" } : Jvm.MethodName) method_3_code (4 : Nat) (Option.some Jvm.ClassFile.FieldType.boolean)).before args0 about1 = true := code_word (m := ⟨1, 2⟩) (meth := k1m2) (c := k1c2) (by decide +kernel) rfl rfl rfl (by decide +kernel)
set_option maxRecDepth 65536 in
theorem w_c3 : (Jvm.Cond.code ({ cls := "com/example/halfpast/halfpast/api/HttpHead", name := "end", desc := "([BII)I" } : Jvm.MethodName) prog_2_method_2_code (5 : Nat) (Option.some Jvm.ClassFile.FieldType.int)).before args0 about1 = true := code_word (m := ⟨2, 0⟩) (meth := k2m0) (c := k2c0) (by decide +kernel) rfl rfl rfl (by decide +kernel)
def codes1 : List Jvm.Cond := [Jvm.Cond.code x code maxLocals ret, Jvm.Cond.code ({ cls := "com/example/halfpast/halfpast/api/HttpHeadEndPinLaw", name := "pick", desc := "(IJI)B" } : Jvm.MethodName) method_2_code (5 : Nat) (Option.some Jvm.ClassFile.FieldType.byte), Jvm.Cond.code ({ cls := "com/example/halfpast/halfpast/api/HttpHeadEndPinLaw", name := "endsAt", desc := "([BIII)Z" } : Jvm.MethodName) method_3_code (4 : Nat) (Option.some Jvm.ClassFile.FieldType.boolean), Jvm.Cond.code ({ cls := "com/example/halfpast/halfpast/api/HttpHead", name := "end", desc := "([BII)I" } : Jvm.MethodName) prog_2_method_2_code (5 : Nat) (Option.some Jvm.ClassFile.FieldType.int)]
set_option maxRecDepth 65536 in
theorem codes_eq : words1.filter isCode = codes1 := rfl
theorem w_codes : ∀ c ∈ words1.filter isCode, c.before args0 about1 = true := by
  rw [codes_eq]
  intro c hc
  simp only [codes1, List.mem_cons, List.not_mem_nil, or_false] at hc
  rcases hc with rfl | rfl | rfl | rfl
  · exact w_c0
  · exact w_c1
  · exact w_c2
  · exact w_c3
set_option maxRecDepth 65536 in
theorem w_t1 : words1.all (fun c => isCode c || c.before args0 about1) = true := by decide +kernel
theorem w_tables : (allAtoms (Jvm.Cond.code x code maxLocals ret :: tables_1)).before args0 about1 = true := by
  rw [allAtoms_all]
  show words1.all (fun c => c.before args0 about1) = true
  refine all_split ?_ w_codes
  rw [w_t1]
set_option maxRecDepth 65536 in
theorem w_case : (Jvm.Cond.and given_1 narrow_1).before args0 about1 = true := by decide +kernel
theorem w_applies : (headSpec (Jvm.Cond.code x code maxLocals ret :: tables_1) room_1).applies x e0.platform about1 = true :=
  (Spec.applies_iff w_frames).mpr ⟨w_running, w_runnable, w_alone, w_named, w_hears, w_ripe, w_room, w_tables⟩
theorem atStart : AtStart classFile x code maxLocals ret World_1 tables_1 room_1 Calls_1 rest_1 Pre_1 launch0 p0 e0 about1 theMethod args0 below0 :=
  ⟨lists_1, trivial, launch0.admits_env _ _ _, launch0.least_env, fairChoices_fair.cas, fairChoices_fair.clock, w_frames, w_args, w_heap, w_applies, trivial, trivial, w_case⟩
end start1
theorem witness_1 : WitnessClaimed_1 := ⟨start1.p0, start1.e0, start1.about1, start1.theMethod, start1.args0, start1.below0, start1.atStart⟩
end Jvm.Pilot.@@N@@
