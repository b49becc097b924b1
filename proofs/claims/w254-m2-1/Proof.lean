import JvmDerived
import JvmDerived.Pilot.@@N@@Statement
import JvmDerived.Pilot.@@N@@Code
set_option linter.unusedVariables false
set_option linter.unusedSimpArgs false
namespace Jvm.Pilot.@@N@@
open Jvm Jvm.ClassFile Sem Op Lib Jvm.Free Jvm.Stand Jvm.LawKit Jvm.RoadKit Bundle Jvm.Pilot.@@N@@.Jvm.D
section Own
variable {p : Program} {l : Launch} {e : Env} {R : Room} {s : State} {m : MethodId} {args : Array Value} {below : List Frame} {meth : Method} {c : Code} {T : State} {locs : List Loc} {cells slots n0 : Nat} {Z : State} {a0 : Array Value} {h h' : Heap} {its : List (Cell → Prop)} {Q : Option Value → List (Cell → Prop) → Prop} {pc : Nat} {Ls : Array Slot} {stk rest : List Value} {own : String}
/-- the new part of the heap: the cells from n0 on, one word on each -/
def own_hp (n0 : Nat) (h : Heap) (its : List (Cell → Prop)) : Prop := h.size = n0 + its.length ∧ ∀ (i : Nat) (P : Cell → Prop), its[i]? = some P → ∃ cl : Cell, h[n0 + i]? = some cl ∧ P cl
/-- where the walk stands -/
def own_at (p : Program) (l : Launch) (e : Env) (R : Room) (s : State) (m : MethodId) (args : Array Value) (below : List Frame) (meth : Method) (c : Code) (n0 : Nat) (T : State) (cells slots : Nat) (its : List (Cell → Prop)) : Prop :=
  ∃ locs, Stand p l e R s m args below meth c T locs cells slots ∧ Fr n0 locs ∧ own_hp n0 T.heap its
/-- from u the method comes to its end, and Q holds there -/
def own_go (p : Program) (e : Env) (R : Room) (s : State) (below : List Frame) (n0 : Nat) (Q : Option Value → List (Cell → Prop) → Prop) (u : State) : Prop :=
  ∃ (t : State) (v : Option Value) (L : List Loc) (its : List (Cell → Prop)), Steps p.tables e below u t ∧ t.status = .running ∧ Ended t below (.returned v) ∧ Q v its ∧ Fr n0 L ∧ own_hp n0 t.heap its ∧ s.WarmedH t.vm ∧ s.sameButNew ({ t with vm := s.vm } : State) L R.cells R.slots
theorem own_at.here (A : own_at p l e R s m args below meth c n0 T cells slots its) : At T m c below := by
  obtain ⟨_, X, _⟩ := A; exact X.here
theorem own_at.more (A : own_at p l e R s m args below meth c n0 T cells slots its) {cells' slots' : Nat} (hc : cells ≤ cells') (hs : slots ≤ slots') : own_at p l e R s m args below meth c n0 T cells' slots' its := by
  obtain ⟨L, X, r⟩ := A; exact ⟨L, X.more hc hs, r⟩
theorem own_by {u u' : State} (q : ∀ target, Steps p.tables e below u' target → Steps p.tables e below u target) (k : own_go p e R s below n0 Q u') : own_go p e R s below n0 Q u := by
  obtain ⟨t, v, L, i, h1, r⟩ := k
  exact ⟨t, v, L, i, q t h1, r⟩
theorem own_nil {α : Type} {P : α → Prop} : ∀ x ∈ ([] : List α), P x := fun _ q => nomatch q
theorem own_cons {α : Type} {P : α → Prop} {y : α} {L : List α} (q : P y) (r : ∀ x ∈ L, P x) : ∀ x ∈ y :: L, P x := fun x z => (List.mem_cons.mp z).elim (fun u => u ▸ q) (r x)
theorem own_hp.push (H : own_hp n0 h its) {cl : Cell} {P : Cell → Prop} (hP : P cl) : own_hp n0 (h.push cl) (its ++ [P]) := by
  refine ⟨by rw [Array.size_push, H.1, List.length_append]; rfl, fun i P' hi => ?_⟩
  by_cases q : i < its.length
  · rw [List.getElem?_append_left q] at hi
    obtain ⟨c, h1, h2⟩ := H.2 i P' hi
    refine ⟨c, ?_, h2⟩
    rw [Array.getElem?_push_lt (Array.getElem?_eq_some_iff.mp h1).1]
    exact (Array.getElem?_eq_getElem _).symm.trans h1
  · have q2 : i = its.length := by
      have := (List.getElem?_eq_some_iff.mp hi).1
      simp only [List.length_append, List.length_cons, List.length_nil] at this
      omega
    subst q2
    simp only [List.getElem?_concat_length, Option.some.injEq] at hi
    subst hi
    refine ⟨cl, ?_, hP⟩
    rw [← H.1]; simp
theorem own_hp.wr (H : own_hp n0 h its) {i sl : Nat} {v : Value} {P P' : Cell → Prop} (hi : its[i]? = some P) (W : Wr h h' (n0 + i) sl v) (hP : ∀ cl, h[n0 + i]? = some cl → P cl → P' (cl.setSlot sl v)) : own_hp n0 h' (its.set i P') := by
  obtain ⟨cell, w1, w2, w3, rfl⟩ := W
  refine ⟨by rw [Array.size_setIfInBounds, List.length_set]; exact H.1, fun j P2 hj => ?_⟩
  by_cases q : i = j
  · subst q
    have hl := (List.getElem?_eq_some_iff.mp hi).1
    rw [List.getElem?_set_self hl] at hj
    cases hj
    obtain ⟨cl, g1, g2⟩ := H.2 i P hi
    cases w1.symm.trans g1
    exact ⟨cell.setSlot sl v, by simp [(Array.getElem?_eq_some_iff.mp w1).1], hP _ w1 g2⟩
  · rw [List.getElem?_set_ne q] at hj
    obtain ⟨cl, g1, g2⟩ := H.2 j P2 hj
    exact ⟨cl, by rw [Array.getElem?_setIfInBounds_ne (by omega)]; exact g1, g2⟩
theorem own_geti {i : Nat} {P P' : Cell → Prop} (hi : its[i]? = some P) : (its.set i P')[i]? = some P' := List.getElem?_set_self (List.getElem?_eq_some_iff.mp hi).1
/-- an object of just that class, its fields ns holding vs -/
def own_obj (Z : State) (C : String) (ns : List (String × String)) (vs : List Value) : Cell → Prop := fun cl => ∀ (h : Heap) (a : Addr), h[a]? = some cl → Exa Z h a C ∧ ∀ (i : Nat) (f : String × String) (v : Value), ns[i]? = some f → vs[i]? = some v → Fld Z h a C f.1 f.2 v
/-- an array of ints (shorts, chars, bytes) -/
def own_ia (Z : State) (ty : FieldType) (xs : List Int32) : Cell → Prop := fun cl => xs.length < 2 ^ 31 ∧ cl.slots = (xs.map Value.int).toArray ∧ Z.isArrayOf cl ty ∧ cl.vm ≠ .unknown ∧ (∀ x ∈ xs, fits ty (.int x) = true) ∧ Z.vm.findClass ("[" ++ ty.toString) = some cl.cls
/-- an array of longs -/
def own_la (Z : State) (xs : List Int64) : Cell → Prop := fun cl => xs.length < 2 ^ 31 ∧ cl.slots = (xs.map Value.long).toArray ∧ Z.isArrayOf cl .long ∧ cl.vm ≠ .unknown
/-- the fields' places are unlike -/
def own_apart (Z : State) (C : String) (ns : List (String × String)) : Prop := ∀ (i j : Nat) (f g : String × String), ns[i]? = some f → ns[j]? = some g → i ≠ j → Jvm.RoadKit.slotOf Z C f.1 f.2 ≠ Jvm.RoadKit.slotOf Z C g.1 g.2
theorem own_apart_of {C : String} {ns : List (String × String)} (hL : ∀ f ∈ ns, Laid Z a0 C C f.1 f.2 ∧ ∃ t, parseFieldDescriptor f.2 = some t) (hn : (ns.map (·.1)).Nodup) : own_apart Z C ns := by
  intro i j f g hi hj hij
  obtain ⟨l1, t1, d1⟩ := hL f (List.mem_of_getElem? hi)
  obtain ⟨l2, t2, d2⟩ := hL g (List.mem_of_getElem? hj)
  refine slot_ne l1 l2 (fun q => ?_) d1 d2
  have e1 : (ns.map (·.1))[i]? = some f.1 := by rw [List.getElem?_map, hi]; rfl
  have e2 : (ns.map (·.1))[j]? = some g.1 := by rw [List.getElem?_map, hj]; rfl
  obtain ⟨b1, c1⟩ := List.getElem?_eq_some_iff.mp e1
  obtain ⟨b2, c2⟩ := List.getElem?_eq_some_iff.mp e2
  have pw := List.pairwise_iff_getElem.mp hn
  rcases Nat.lt_or_gt_of_ne hij with z | z
  · exact pw i j b1 b2 z (by rw [c1, c2, q])
  · exact pw j i b2 b1 z (by rw [c1, c2, q])
theorem own_obj.set {C : String} {ns : List (String × String)} {vs : List Value} {j : Nat} {n d : String} {v old : Value} {cl : Cell} (O : own_obj Z C ns vs cl) (ap : own_apart Z C ns) (hj : ns[j]? = some (n, d)) (hv : vs[j]? = some old) (hlt : Jvm.RoadKit.slotOf Z C n d < cl.slots.size) (hst : cl.vm.isStatics = false) : own_obj Z C ns (vs.set j v) (cl.setSlot (Jvm.RoadKit.slotOf Z C n d) v) := by
  intro h2 a2 ha2
  have hb : (#[cl] : Heap)[0]? = some cl := rfl
  have W : Wr (#[cl] : Heap) (#[cl.setSlot (Jvm.RoadKit.slotOf Z C n d) v] : Heap) 0 (Jvm.RoadKit.slotOf Z C n d) v := ⟨cl, hb, hst, hlt, rfl⟩
  obtain ⟨E, F⟩ := O _ _ hb
  have E' : Exa Z (#[cl.setSlot (Jvm.RoadKit.slotOf Z C n d) v] : Heap) 0 C := E.wr W
  refine ⟨?_, fun i f w hi hw => ?_⟩
  · obtain ⟨c1, k, q1, r⟩ := E'
    cases (show (#[cl.setSlot (Jvm.RoadKit.slotOf Z C n d) v] : Heap)[0]? = some _ from rfl).symm.trans q1
    exact ⟨_, k, ha2, r⟩
  · have F' : Fld Z (#[cl.setSlot (Jvm.RoadKit.slotOf Z C n d) v] : Heap) 0 C f.1 f.2 w := by
      by_cases q : j = i
      · subst q
        cases hj.symm.trans hi
        rw [List.getElem?_set_self (List.getElem?_eq_some_iff.mp hv).1] at hw
        cases hw
        exact (F j (n, d) old hj hv).same W
      · rw [List.getElem?_set_ne q] at hw
        exact (F i f w hi hw).other W (Or.inr (ap i j f (n, d) hi hj (Ne.symm q)))
    obtain ⟨c1, cf, k, i1, f1, q1, r⟩ := F'
    cases (show (#[cl.setSlot (Jvm.RoadKit.slotOf Z C n d) v] : Heap)[0]? = some _ from rfl).symm.trans q1
    exact ⟨_, cf, k, i1, f1, ha2, r⟩
theorem own_db {bs : ByteArray} (h1 : c.code = bs) {r : Except DecodeError (Instr × Nat)} (h2 : decode bs pc = r) : decode c.code pc = r := h1 ▸ h2
/-! steps -/
theorem own_new (A : own_at p l e R s m args below meth c n0 T cells slots its) (hx : p.tables.exec = Jvm.exec) (hZ : Z.Warmed39 s.vm) {C : String} {index n : Nat} (hown : s.vm.findClass own = some m.cls) (w : (Cond.classLink own index C).before a0 Z = true) (wi : (Cond.instantiable C n).before a0 Z = true) (wz : (Cond.initialized C).before a0 Z = true)
    {ns : List (String × String)} {vs : List Value} (hns : ∀ f ∈ ns.zip vs, Laid Z a0 C C f.1.1 f.1.2 ∧ ∃ ty, parseFieldDescriptor f.1.2 = some ty ∧ f.2 = defaultValue ty)
    (hd : decode c.code pc = .ok (.new index, 3)) (hc : cells + 1 ≤ R.cells) (hl : slots + n ≤ R.slots)
    (k : ∀ T', own_at p l e R s m args below meth c n0 T' (cells + 1) (slots + n) (its ++ [own_obj Z C ns vs]) → own_go p e R s below n0 Q (T'.setTop (mkF m (pc + 3) Ls (.ref (n0 + its.length) :: stk)))) :
    own_go p e R s below n0 Q (T.setTop (mkF m pc Ls stk)) := by
  obtain ⟨L, X, N, H⟩ := A
  obtain ⟨vm', cC, kC, h1, h2, h3, h4, X', st⟩ := X.newCold hx hown (mv hZ w) (mv hZ wi) (mv hZ wz) (g := mkF m pc Ls stk) rfl hd hc hl
  rw [H.1] at st
  rw [hZ.alike.findClass] at h1
  obtain ⟨kZ, z1, -⟩ := Vm.findClass_spec h1
  obtain ⟨k', z2, z3⟩ := hZ.alike.2.2 _ _ z1
  cases h2.symm.trans z2
  have ei : kC.instanceTypes = kZ.instanceTypes := by rw [z3]
  refine own_by st (k _ ⟨L, X', N, H.push fun h2 a2 ha2 => ⟨⟨_, kZ, ha2, h1, z1, rfl, fun _ => by simp [ei]⟩, fun i f v hi hv => ?_⟩⟩)
  have hz : (ns.zip vs)[i]? = some (f, v) := List.getElem?_zip_eq_some.mpr ⟨hi, hv⟩
  obtain ⟨La, ty, ht, hdv⟩ := hns _ (List.mem_of_getElem? hz)
  obtain ⟨c1, k1, cf, kf, i1, f1, a1, a2', a3, a4, a5, a6, -⟩ := La.spec
  cases h1.symm.trans a1
  cases z1.symm.trans a2'
  dsimp only at hdv ht a3
  subst hdv
  exact ⟨_, cf, kf, i1, f1, ha2, a3, a4, by simp, rfl, a5, by simp [ei, a6, (State.fieldFound?_type a3 ht).2]⟩
theorem own_fit0 {ty : FieldType} (h0 : defaultValue ty = .int 0) : fits ty (.int 0) = true := by
  cases ty <;> first | rfl | (simp [defaultValue] at h0)
theorem own_newP (A : own_at p l e R s m args below meth c n0 T cells slots its) (hx : p.tables.exec = Jvm.exec) (hZ : Z.Warmed39 s.vm) {aty : ArrayType} (w : (Cond.arrayClass (newarray.typeOf aty)).before a0 Z = true)
    (hd : decode c.code pc = .ok (.newarray aty, 2)) {n : Int32} (q : Nat) (hn : ¬ n < 0 ∧ n.toNatClampNeg = q) {cap : Nat} (hcap : q ≤ cap) (hb : cap * 8 ≤ 536870912) (h0 : defaultValue (newarray.typeOf aty) = .int 0) (hc : cells + 1 ≤ R.cells) (hl : slots + cap ≤ R.slots)
    (k : ∀ T', own_at p l e R s m args below meth c n0 T' (cells + 1) (slots + cap) (its ++ [own_ia Z (newarray.typeOf aty) (List.replicate q 0)]) → own_go p e R s below n0 Q (T'.setTop (mkF m (pc + 2) Ls (.ref (n0 + its.length) :: stk)))) :
    own_go p e R s below n0 Q (T.setTop (mkF m pc Ls (.int n :: stk))) := by
  obtain ⟨L, X, N, H⟩ := A
  obtain ⟨hn, rfl⟩ := hn
  have hcb : componentBytes (newarray.typeOf aty) ≤ 8 := by cases aty <;> decide
  obtain ⟨cA, kA, comp, h1, h2, h3, X', st⟩ := X.newarrayPrim hx (mvA hZ w) (g := mkF m pc Ls (.int n :: stk)) rfl hd rfl hn (Nat.le_trans (Nat.mul_le_mul hcap hcb) hb) hc (by omega)
  rw [H.1] at st
  rw [hZ.alike.findClass] at h1
  obtain ⟨kZ, z1, -⟩ := Vm.findClass_spec h1
  obtain ⟨k', z2, z3⟩ := hZ.alike.2.2 _ _ z1
  cases h2.symm.trans z2
  refine own_by st (k _ ⟨L, X'.more (Nat.le_refl _) (by omega), N, H.push ⟨by rw [List.length_replicate]; exact n.toNatClampNeg_lt, by rw [h0]; simp [List.map_replicate], ⟨by simp, kZ, z1, comp, by rw [← h3, z3]⟩, by simp, fun x hx => ?_, h1⟩⟩)
  rw [List.eq_of_mem_replicate hx]
  exact own_fit0 h0
theorem own_newL (A : own_at p l e R s m args below meth c n0 T cells slots its) (hx : p.tables.exec = Jvm.exec) (hZ : Z.Warmed39 s.vm) (w : (Cond.arrayClass .long).before a0 Z = true)
    (hd : decode c.code pc = .ok (.newarray .long, 2)) {n : Int32} (q : Nat) (hn : ¬ n < 0 ∧ n.toNatClampNeg = q) {cap : Nat} (hcap : q ≤ cap) (hb : cap * 8 ≤ 536870912) (hc : cells + 1 ≤ R.cells) (hl : slots + cap ≤ R.slots)
    (k : ∀ T', own_at p l e R s m args below meth c n0 T' (cells + 1) (slots + cap) (its ++ [own_la Z (List.replicate q 0)]) → own_go p e R s below n0 Q (T'.setTop (mkF m (pc + 2) Ls (.ref (n0 + its.length) :: stk)))) :
    own_go p e R s below n0 Q (T.setTop (mkF m pc Ls (.int n :: stk))) := by
  obtain ⟨L, X, N, H⟩ := A
  obtain ⟨hn, rfl⟩ := hn
  obtain ⟨cA, kA, comp, h1, h2, h3, X', st⟩ := X.newarrayPrim hx (atype := .long) (mvA hZ w) (g := mkF m pc Ls (.int n :: stk)) rfl hd rfl hn (Nat.le_trans (Nat.mul_le_mul hcap (by decide)) hb) hc (by omega)
  rw [H.1] at st
  rw [hZ.alike.findClass] at h1
  obtain ⟨kZ, z1, -⟩ := Vm.findClass_spec h1
  obtain ⟨k', z2, z3⟩ := hZ.alike.2.2 _ _ z1
  cases h2.symm.trans z2
  exact own_by st (k _ ⟨L, X'.more (Nat.le_refl _) (by omega), N, H.push ⟨by rw [List.length_replicate]; exact n.toNatClampNeg_lt, by simp [List.map_replicate, newarray.typeOf, defaultValue], ⟨by simp, kZ, z1, comp, by rw [z3] at h3; exact h3⟩, by simp⟩⟩)
theorem own_getF (A : own_at p l e R s m args below meth c n0 T cells slots its) (hx : p.tables.exec = Jvm.exec) (hZ : Z.Warmed39 s.vm) {C n d : String} {index i : Nat} (hown : s.vm.findClass own = some m.cls) (w : (Cond.fieldLink own index C n d).before a0 Z = true)
    {ns : List (String × String)} {vs : List Value} (hi : its[i]? = some (own_obj Z C ns vs)) (j : Nat) (hj : ns[j]? = some (n, d)) {v : Value} (hv : vs[j]? = some v) (hd : decode c.code pc = .ok (.getfield index, 3))
    (k : ∀ T', own_at p l e R s m args below meth c n0 T' cells slots its → own_go p e R s below n0 Q (T'.setTop (mkF m (pc + 3) Ls (v :: stk)))) :
    own_go p e R s below n0 Q (T.setTop (mkF m pc Ls (.ref (n0 + i) :: stk))) := by
  obtain ⟨L, X, N, H⟩ := A
  obtain ⟨cl, g1, g2⟩ := H.2 i _ hi
  obtain ⟨T', X', e', st⟩ := getF X hx hZ hown (host := "") (Or.inl w) Via.refl rfl ((g2 _ _ g1).2 j _ v hj hv) (g := mkF m pc Ls (.ref (n0 + i) :: stk)) rfl rfl hd
  exact own_by st (k T' ⟨L, X', N, by rw [e']; exact H⟩)
theorem own_putF (A : own_at p l e R s m args below meth c n0 T cells slots its) (hx : p.tables.exec = Jvm.exec) (hZ : Z.Warmed39 s.vm) {C n d : String} {index i kk : Nat} {ty : FieldType} (hown : s.vm.findClass own = some m.cls) (w : (Cond.fieldLink own index C n d).before a0 Z = true)
    {ns : List (String × String)} {vs : List Value} (hi : its[i]? = some (own_obj Z C ns vs)) (j : Nat) (hj : ns[j]? = some (n, d)) {v v' old : Value} (hv : vs[j]? = some old) (ap : own_apart Z C ns)
    (La : (Cond.lays C C n d).before a0 Z = true ∨ ((Cond.laysFinal C C n d).before a0 Z = true ∧ own = C ∧ meth.name = "<init>")) (wi : (Cond.instantiable C kk).before a0 Z = true) (hty : parseFieldDescriptor d = some ty) (hn : narrow ty v = v') (hf : fits ty v' = true)
    (hd : decode c.code pc = .ok (.putfield index, 3)) {its2 : List (Cell → Prop)} (h2 : its.set i (own_obj Z C ns (vs.set j v')) = its2)
    (k : ∀ T', own_at p l e R s m args below meth c n0 T' cells slots its2 → own_go p e R s below n0 Q (T'.setTop (mkF m (pc + 3) Ls stk))) :
    own_go p e R s below n0 Q (T.setTop (mkF m pc Ls (v :: .ref (n0 + i) :: stk))) := by
  obtain ⟨L, X, N, H⟩ := A
  obtain ⟨cl, g1, g2⟩ := H.2 i _ hi
  obtain ⟨T', h', X', e', W, st⟩ := putFN X hx hZ hown w Via.refl rfl ((g2 _ _ g1).2 j _ old hj hv) (g2 _ _ g1).1 La wi hty hn hf (g := mkF m pc Ls (v :: .ref (n0 + i) :: stk)) rfl rfl hd
  have N' := Fr.snoc X' N (Nat.le_add_right n0 i)
  have W2 := W
  obtain ⟨cl2, w1, w2, w3, -⟩ := W2
  refine own_by st (k T' ⟨_, X', N', ?_⟩)
  rw [e', ← h2]
  exact H.wr hi W fun cl3 q1 q2 => by
    cases w1.symm.trans q1
    exact q2.set ap hj hv w3 w2
theorem own_ia.arr {ty : FieldType} {xs : List Int32} {cl : Cell} (O : own_ia Z ty xs cl) {a : Addr} (hc : h[a]? = some cl) : Arr Z h a cl ty := ⟨hc, O.2.2.1, O.2.2.2.1⟩
theorem own_ia.inb {ty : FieldType} {xs : List Int32} {cl : Cell} (O : own_ia Z ty xs cl) {j : Int32} {x : Int32} (hj : ¬ j < 0 ∧ xs[j.toNatClampNeg]? = some x) : ¬ (j < 0 ∨ cl.slots.size ≤ j.toNatClampNeg) ∧ cl.slots[j.toNatClampNeg]? = some (.int x) := by
  have hl := (List.getElem?_eq_some_iff.mp hj.2).1
  refine ⟨fun q => q.elim hj.1 fun q2 => ?_, ?_⟩
  · rw [O.2.1] at q2; simp at q2; omega
  · rw [O.2.1]; simp [hj.2]
theorem own_la.inb {xs : List Int64} {cl : Cell} (O : own_la Z xs cl) {j : Int32} {x : Int64} (hj : ¬ j < 0 ∧ xs[j.toNatClampNeg]? = some x) : ¬ (j < 0 ∨ cl.slots.size ≤ j.toNatClampNeg) ∧ cl.slots[j.toNatClampNeg]? = some (.long x) := by
  have hl := (List.getElem?_eq_some_iff.mp hj.2).1
  refine ⟨fun q => q.elim hj.1 fun q2 => ?_, ?_⟩
  · rw [O.2.1] at q2; simp at q2; omega
  · rw [O.2.1]; simp [hj.2]
theorem own_ia.set {ty : FieldType} {xs : List Int32} {cl : Cell} (O : own_ia Z ty xs cl) (q : Nat) {x : Int32} (hf : fits ty (.int x) = true) : own_ia Z ty (xs.set q x) (cl.setSlot q (.int x)) := by
  refine ⟨by rw [List.length_set]; exact O.1, ?_, O.2.2.1, O.2.2.2.1, fun y hy => ?_, O.2.2.2.2.2⟩
  · rw [Cell.setSlot]; show cl.slots.setIfInBounds q _ = _
    rw [O.2.1, List.setIfInBounds_toArray, List.map_set]
  · rcases List.mem_or_eq_of_mem_set hy with q | rfl
    · exact O.2.2.2.2.1 y q
    · exact hf
theorem own_la.set {xs : List Int64} {cl : Cell} (O : own_la Z xs cl) (q : Nat) {x : Int64} : own_la Z (xs.set q x) (cl.setSlot q (.long x)) := by
  refine ⟨by rw [List.length_set]; exact O.1, ?_, O.2.2.1, O.2.2.2⟩
  rw [Cell.setSlot]; show cl.slots.setIfInBounds q _ = _
  rw [O.2.1, List.setIfInBounds_toArray, List.map_set]
theorem own_iaload (A : own_at p l e R s m args below meth c n0 T cells slots its) (hx : p.tables.exec = Jvm.exec) (hZ : Z.Warmed39 s.vm) {i : Nat} {xs : List Int32} (hi : its[i]? = some (own_ia Z .int xs)) {j x : Int32} (hj : ¬ j < 0 ∧ xs[j.toNatClampNeg]? = some x) (hd : decode c.code pc = .ok (.iaload, 1))
    (k : own_go p e R s below n0 Q (T.setTop (mkF m (pc + 1) Ls (.int x :: stk)))) : own_go p e R s below n0 Q (T.setTop (mkF m pc Ls (.int j :: .ref (n0 + i) :: stk))) := by
  obtain ⟨L, X, N, H⟩ := A
  obtain ⟨cl, g1, g2⟩ := H.2 i _ hi
  exact own_by (fun t k => X.iaload hx g1 (State.isArrayOf_alike hZ.alike g2.2.2.1) g2.2.2.2.1 (g2.inb hj).1 (g2.inb hj).2 (g := mkF m pc Ls (.int j :: .ref (n0 + i) :: stk)) rfl rfl hd t k) k
theorem own_caload (A : own_at p l e R s m args below meth c n0 T cells slots its) (hx : p.tables.exec = Jvm.exec) (hZ : Z.Warmed39 s.vm) {i : Nat} {xs : List Int32} (hi : its[i]? = some (own_ia Z .char xs)) {j x : Int32} (hj : ¬ j < 0 ∧ xs[j.toNatClampNeg]? = some x) (hd : decode c.code pc = .ok (.caload, 1))
    (k : own_go p e R s below n0 Q (T.setTop (mkF m (pc + 1) Ls (.int x :: stk)))) : own_go p e R s below n0 Q (T.setTop (mkF m pc Ls (.int j :: .ref (n0 + i) :: stk))) := by
  obtain ⟨L, X, N, H⟩ := A
  obtain ⟨cl, g1, g2⟩ := H.2 i _ hi
  exact own_by (fun t k => X.caload hx g1 (State.isArrayOf_alike hZ.alike g2.2.2.1) g2.2.2.2.1 (g2.inb hj).1 (g2.inb hj).2 (g := mkF m pc Ls (.int j :: .ref (n0 + i) :: stk)) rfl rfl hd t k) k
theorem own_baload (A : own_at p l e R s m args below meth c n0 T cells slots its) (hx : p.tables.exec = Jvm.exec) (hZ : Z.Warmed39 s.vm) {i : Nat} {xs : List Int32} (hi : its[i]? = some (own_ia Z .byte xs)) {j x : Int32} (hj : ¬ j < 0 ∧ xs[j.toNatClampNeg]? = some x) (hd : decode c.code pc = .ok (.baload, 1))
    (k : own_go p e R s below n0 Q (T.setTop (mkF m (pc + 1) Ls (.int x :: stk)))) : own_go p e R s below n0 Q (T.setTop (mkF m pc Ls (.int j :: .ref (n0 + i) :: stk))) := by
  obtain ⟨L, X, N, H⟩ := A
  obtain ⟨cl, g1, g2⟩ := H.2 i _ hi
  exact own_by (fun t k => X.baloadBytes hx g1 (State.isArrayOf_alike hZ.alike g2.2.2.1) g2.2.2.2.1 (g2.inb hj).1 (g2.inb hj).2 (g := mkF m pc Ls (.int j :: .ref (n0 + i) :: stk)) rfl rfl hd t k) k
theorem own_laload (A : own_at p l e R s m args below meth c n0 T cells slots its) (hx : p.tables.exec = Jvm.exec) (hZ : Z.Warmed39 s.vm) {i : Nat} {xs : List Int64} (hi : its[i]? = some (own_la Z xs)) {j : Int32} {x : Int64} (hj : ¬ j < 0 ∧ xs[j.toNatClampNeg]? = some x) (hd : decode c.code pc = .ok (.laload, 1))
    (k : own_go p e R s below n0 Q (T.setTop (mkF m (pc + 1) Ls (.long x :: stk)))) : own_go p e R s below n0 Q (T.setTop (mkF m pc Ls (.int j :: .ref (n0 + i) :: stk))) := by
  obtain ⟨L, X, N, H⟩ := A
  obtain ⟨cl, g1, g2⟩ := H.2 i _ hi
  exact own_by (fun t k => X.laload hx g1 (State.isArrayOf_alike hZ.alike g2.2.2.1) g2.2.2.2 (g2.inb hj).1 (g2.inb hj).2 (g := mkF m pc Ls (.int j :: .ref (n0 + i) :: stk)) rfl rfl hd t k) k
theorem own_at.wrote (N : Fr n0 locs) (H : own_hp n0 h its) {T' : State} {i sl : Nat} {v : Value} {P P' : Cell → Prop} (X' : Stand p l e R s m args below meth c T' (locs ++ [⟨n0 + i, sl⟩]) cells slots) (e' : T'.heap = h') (hi : its[i]? = some P) (W : Wr h h' (n0 + i) sl v) (hP : ∀ cl, h[n0 + i]? = some cl → P cl → P' (cl.setSlot sl v)) : own_at p l e R s m args below meth c n0 T' cells slots (its.set i P') :=
  ⟨_, X', Fr.snoc X' N (Nat.le_add_right n0 i), by rw [e']; exact H.wr hi W hP⟩
theorem own_ib {xs : List Int32} {ty : FieldType} {cl : Cell} (O : own_ia Z ty xs cl) {j : Int32} {q : Nat} (hj : ¬ j < 0 ∧ j.toNatClampNeg = q ∧ q < xs.length) : ¬ (j < 0 ∨ cl.slots.size ≤ j.toNatClampNeg) := by
  obtain ⟨h1, rfl, h3⟩ := hj
  refine fun z => z.elim h1 fun z => ?_
  rw [O.2.1] at z; simp at z; omega
theorem own_iastore (A : own_at p l e R s m args below meth c n0 T cells slots its) (hx : p.tables.exec = Jvm.exec) (hZ : Z.Warmed39 s.vm) {i : Nat} {xs : List Int32} (hi : its[i]? = some (own_ia Z .int xs)) {j x : Int32} (q : Nat) (hj : ¬ j < 0 ∧ j.toNatClampNeg = q ∧ q < xs.length) (hd : decode c.code pc = .ok (.iastore, 1)) {its2 : List (Cell → Prop)} (h2 : its.set i (own_ia Z .int (xs.set q x)) = its2)
    (k : ∀ T', own_at p l e R s m args below meth c n0 T' cells slots its2 → own_go p e R s below n0 Q (T'.setTop (mkF m (pc + 1) Ls stk))) : own_go p e R s below n0 Q (T.setTop (mkF m pc Ls (.int x :: .int j :: .ref (n0 + i) :: stk))) := by
  obtain ⟨L, X, N, H⟩ := A
  obtain ⟨cl, g1, g2⟩ := H.2 i _ hi
  obtain ⟨T', h', X', e', W, st⟩ := stI X hx hZ rfl (g2.arr g1) (own_ib g2 hj) (g := mkF m pc Ls (.int x :: .int j :: .ref (n0 + i) :: stk)) rfl rfl hd
  obtain ⟨j1, rfl, j3⟩ := hj
  exact own_by st (k T' (h2 ▸ own_at.wrote N H X' e' hi W fun cl _ O => O.set _ rfl))
theorem own_castore (A : own_at p l e R s m args below meth c n0 T cells slots its) (hx : p.tables.exec = Jvm.exec) (hZ : Z.Warmed39 s.vm) {i : Nat} {xs : List Int32} (hi : its[i]? = some (own_ia Z .char xs)) {j x : Int32} (q : Nat) (hj : ¬ j < 0 ∧ j.toNatClampNeg = q ∧ q < xs.length) (hd : decode c.code pc = .ok (.castore, 1)) {its2 : List (Cell → Prop)} (h2 : its.set i (own_ia Z .char (xs.set q (nar .char x))) = its2)
    (k : ∀ T', own_at p l e R s m args below meth c n0 T' cells slots its2 → own_go p e R s below n0 Q (T'.setTop (mkF m (pc + 1) Ls stk))) : own_go p e R s below n0 Q (T.setTop (mkF m pc Ls (.int x :: .int j :: .ref (n0 + i) :: stk))) := by
  obtain ⟨L, X, N, H⟩ := A
  obtain ⟨cl, g1, g2⟩ := H.2 i _ hi
  obtain ⟨T', h', X', e', W, st⟩ := stC X hx hZ rfl (g2.arr g1) (own_ib g2 hj) (g := mkF m pc Ls (.int x :: .int j :: .ref (n0 + i) :: stk)) rfl rfl hd
  obtain ⟨j1, rfl, j3⟩ := hj
  exact own_by st (k T' (h2 ▸ own_at.wrote N H X' e' hi W fun cl _ O => O.set _ (fits_nar_char x)))
theorem own_bastore (A : own_at p l e R s m args below meth c n0 T cells slots its) (hx : p.tables.exec = Jvm.exec) (hZ : Z.Warmed39 s.vm) {i : Nat} {xs : List Int32} (hi : its[i]? = some (own_ia Z .byte xs)) {j x : Int32} (q : Nat) (hj : ¬ j < 0 ∧ j.toNatClampNeg = q ∧ q < xs.length) (hd : decode c.code pc = .ok (.bastore, 1)) {its2 : List (Cell → Prop)} (h2 : its.set i (own_ia Z .byte (xs.set q (nar .byte x))) = its2)
    (k : ∀ T', own_at p l e R s m args below meth c n0 T' cells slots its2 → own_go p e R s below n0 Q (T'.setTop (mkF m (pc + 1) Ls stk))) : own_go p e R s below n0 Q (T.setTop (mkF m pc Ls (.int x :: .int j :: .ref (n0 + i) :: stk))) := by
  obtain ⟨L, X, N, H⟩ := A
  obtain ⟨cl, g1, g2⟩ := H.2 i _ hi
  obtain ⟨T', h', X', e', W, st⟩ := stB X hx hZ rfl (g2.arr g1) (own_ib g2 hj) (g := mkF m pc Ls (.int x :: .int j :: .ref (n0 + i) :: stk)) rfl rfl hd
  obtain ⟨j1, rfl, j3⟩ := hj
  exact own_by st (k T' (h2 ▸ own_at.wrote N H X' e' hi W fun cl _ O => O.set _ (fits_nar_byte x)))
theorem own_lastore (A : own_at p l e R s m args below meth c n0 T cells slots its) (hx : p.tables.exec = Jvm.exec) (hZ : Z.Warmed39 s.vm) {i : Nat} {xs : List Int64} (hi : its[i]? = some (own_la Z xs)) {j : Int32} {x : Int64} (q : Nat) (hj : ¬ j < 0 ∧ j.toNatClampNeg = q ∧ q < xs.length) (hd : decode c.code pc = .ok (.lastore, 1)) {its2 : List (Cell → Prop)} (h2 : its.set i (own_la Z (xs.set q x)) = its2)
    (k : ∀ T', own_at p l e R s m args below meth c n0 T' cells slots its2 → own_go p e R s below n0 Q (T'.setTop (mkF m (pc + 1) Ls stk))) : own_go p e R s below n0 Q (T.setTop (mkF m pc Ls (.long x :: .int j :: .ref (n0 + i) :: stk))) := by
  obtain ⟨L, X, N, H⟩ := A
  obtain ⟨cl, g1, g2⟩ := H.2 i _ hi
  obtain ⟨j1, rfl, j3⟩ := hj
  have hb : ¬ (j < 0 ∨ cl.slots.size ≤ j.toNatClampNeg) := fun z => z.elim j1 fun z => by rw [g2.2.1] at z; simp at z; omega
  obtain ⟨T', h', X', e', W, st⟩ := stJ X hx hZ rfl (⟨g1, g2.2.2.1, g2.2.2.2⟩ : Arr Z T.heap (n0 + i) cl .long) hb (g := mkF m pc Ls (.long x :: .int j :: .ref (n0 + i) :: stk)) rfl rfl hd
  exact own_by st (k T' (h2 ▸ own_at.wrote N H X' e' hi W fun cl _ O => O.set _))
theorem own_len (A : own_at p l e R s m args below meth c n0 T cells slots its) (hx : p.tables.exec = Jvm.exec) (hZ : Z.Warmed39 s.vm) {i : Nat} {ty : FieldType} {xs : List Int32} (hi : its[i]? = some (own_ia Z ty xs)) {z : Int32} (hz : xs.length.toInt32 = z) (hd : decode c.code pc = .ok (.arraylength, 1))
    (k : own_go p e R s below n0 Q (T.setTop (mkF m (pc + 1) Ls (.int z :: stk)))) : own_go p e R s below n0 Q (T.setTop (mkF m pc Ls (.ref (n0 + i) :: stk))) := by
  obtain ⟨L, X, N, H⟩ := A
  obtain ⟨cl, g1, g2⟩ := H.2 i _ hi
  have q : cl.slots.size.toInt32 = z := by rw [g2.2.1]; simpa using hz
  subst q
  exact own_by (fun t k => X.arraylength hx g1 (State.isArrayOf_alike hZ.alike g2.2.2.1) (g := mkF m pc Ls (.ref (n0 + i) :: stk)) rfl rfl hd t k) k
theorem own_lenL (A : own_at p l e R s m args below meth c n0 T cells slots its) (hx : p.tables.exec = Jvm.exec) (hZ : Z.Warmed39 s.vm) {i : Nat} {xs : List Int64} (hi : its[i]? = some (own_la Z xs)) {z : Int32} (hz : xs.length.toInt32 = z) (hd : decode c.code pc = .ok (.arraylength, 1))
    (k : own_go p e R s below n0 Q (T.setTop (mkF m (pc + 1) Ls (.int z :: stk)))) : own_go p e R s below n0 Q (T.setTop (mkF m pc Ls (.ref (n0 + i) :: stk))) := by
  obtain ⟨L, X, N, H⟩ := A
  obtain ⟨cl, g1, g2⟩ := H.2 i _ hi
  have q : cl.slots.size.toInt32 = z := by rw [g2.2.1]; simpa using hz
  subst q
  exact own_by (fun t k => X.arraylength hx g1 (State.isArrayOf_alike hZ.alike g2.2.2.1) (g := mkF m pc Ls (.ref (n0 + i) :: stk)) rfl rfl hd t k) k
theorem own_ldcI (A : own_at p l e R s m args below meth c n0 T cells slots its) (hx : p.tables.exec = Jvm.exec) (hZ : Z.Warmed39 s.vm) (hown : s.vm.findClass own = some m.cls) {index : Nat} {v : Int32} (w : (Cond.constant own index v).before a0 Z = true) (hd : decode c.code pc = .ok (.ldc index, 2))
    (k : own_go p e R s below n0 Q (T.setTop (mkF m (pc + 2) Ls (.int v :: stk)))) : own_go p e R s below n0 Q (T.setTop (mkF m pc Ls stk)) := by
  obtain ⟨L, X, N, H⟩ := A
  exact own_by (X.ldcInt hx hown (mvT hZ w) (g := mkF m pc Ls stk) rfl hd) k
theorem own_ldcJ (A : own_at p l e R s m args below meth c n0 T cells slots its) (hx : p.tables.exec = Jvm.exec) (hZ : Z.Warmed39 s.vm) (hown : s.vm.findClass own = some m.cls) {index : Nat} {v : Int64} (w : (Cond.constantLong own index v).before a0 Z = true) (hd : decode c.code pc = .ok (.ldc2_w index, 3))
    (k : own_go p e R s below n0 Q (T.setTop (mkF m (pc + 3) Ls (.long v :: stk)))) : own_go p e R s below n0 Q (T.setTop (mkF m pc Ls stk)) := by
  obtain ⟨L, X, N, H⟩ := A
  exact own_by (X.ldc2Long hx hown (mvT hZ w) (g := mkF m pc Ls stk) rfl hd) k
theorem own_irem (A : own_at p l e R s m args below meth c n0 T cells slots its) (hx : p.tables.exec = Jvm.exec) {x y : Int32} (hy : y ≠ 0) (hd : decode c.code pc = .ok (.irem, 1))
    (k : own_go p e R s below n0 Q (T.setTop (mkF m (pc + 1) Ls (.int (x % y) :: stk)))) : own_go p e R s below n0 Q (T.setTop (mkF m pc Ls (.int y :: .int x :: stk))) := by
  obtain ⟨L, X, N, H⟩ := A
  exact own_by (fun t k => iremM X hx (g := mkF m pc Ls (.int y :: .int x :: stk)) rfl hd rfl hy k) k
theorem own_lrem (A : own_at p l e R s m args below meth c n0 T cells slots its) (hx : p.tables.exec = Jvm.exec) {x y : Int64} (hy : y ≠ 0) (hd : decode c.code pc = .ok (.lrem, 1))
    (k : own_go p e R s below n0 Q (T.setTop (mkF m (pc + 1) Ls (.long (x % y) :: stk)))) : own_go p e R s below n0 Q (T.setTop (mkF m pc Ls (.long y :: .long x :: stk))) := by
  rw [← lrem_mod] at k
  exact own_by (fun t k => XS.lrem A.here hx (g := mkF m pc Ls (.long y :: .long x :: stk)) rfl hd rfl hy k) k
/-! the end -/
theorem own_ret (A : own_at p l e R s m args below meth c n0 T cells slots its) (hx : p.tables.exec = Jvm.exec) (hlk : meth.locks = false) {w : Value} {t : FieldType} {i : Instr} (hret : meth.sig.returnType = some t) (hn : narrow t w = w)
    (hi : (i = .ireturn ∧ (t = .int ∨ t = .boolean ∨ t = .byte ∨ t = .char ∨ t = .short) ∧ ∃ z, w = .int z) ∨ (i = .lreturn ∧ t = .long ∧ ∃ z, w = .long z) ∨ (i = .dreturn ∧ t = .double ∧ ∃ z, w = .double z) ∨ (i = .freturn ∧ t = .float ∧ ∃ z, w = .float z) ∨ (i = .areturn ∧ t.isReference = true ∧ w.isRef = true))
    (hd : decode c.code pc = .ok (i, 1)) (hc : cells ≤ R.cells) (hs : slots ≤ R.slots) (hQ : Q (some w) its) : own_go p e R s below n0 Q (T.setTop (mkF m pc Ls (w :: stk))) := by
  obtain ⟨L, X, N, H⟩ := A
  obtain ⟨fs, hr, hrun, hended, hW, hsame⟩ := X.leave (v := some w) (fun h => by rw [hret] at h; cases h) hlk
  exact ⟨_, _, _, _, retOut X hx hret hn hi hd hr, hrun, hended, hQ, N, H, hW, hsame.mono hc hs⟩
theorem own_retI (A : own_at p l e R s m args below meth c n0 T cells slots its) (hx : p.tables.exec = Jvm.exec) (hlk : meth.locks = false) {w : Int32} (hret : meth.sig.returnType = some .int) (hd : decode c.code pc = .ok (.ireturn, 1)) (hc : cells ≤ R.cells) (hs : slots ≤ R.slots) (hQ : Q (some (.int w)) its) : own_go p e R s below n0 Q (T.setTop (mkF m pc Ls (.int w :: stk))) :=
  own_ret A hx hlk hret rfl (Or.inl ⟨rfl, Or.inl rfl, w, rfl⟩) hd hc hs hQ
theorem own_retJ (A : own_at p l e R s m args below meth c n0 T cells slots its) (hx : p.tables.exec = Jvm.exec) (hlk : meth.locks = false) {w : Int64} (hret : meth.sig.returnType = some .long) (hd : decode c.code pc = .ok (.lreturn, 1)) (hc : cells ≤ R.cells) (hs : slots ≤ R.slots) (hQ : Q (some (.long w)) its) : own_go p e R s below n0 Q (T.setTop (mkF m pc Ls (.long w :: stk))) :=
  own_ret A hx hlk hret rfl (Or.inr (Or.inl ⟨rfl, rfl, w, rfl⟩)) hd hc hs hQ
theorem own_retA (A : own_at p l e R s m args below meth c n0 T cells slots its) (hx : p.tables.exec = Jvm.exec) (hlk : meth.locks = false) {a : Addr} {t : FieldType} (hret : meth.sig.returnType = some t) (hn : narrow t (.ref a) = .ref a) (ht : t.isReference = true) (hd : decode c.code pc = .ok (.areturn, 1)) (hc : cells ≤ R.cells) (hs : slots ≤ R.slots) (hQ : Q (some (.ref a)) its) : own_go p e R s below n0 Q (T.setTop (mkF m pc Ls (.ref a :: stk))) :=
  own_ret A hx hlk hret hn (Or.inr (Or.inr (Or.inr (Or.inr ⟨rfl, ht, rfl⟩)))) hd hc hs hQ
theorem own_retN (A : own_at p l e R s m args below meth c n0 T cells slots its) (hx : p.tables.exec = Jvm.exec) (hlk : meth.locks = false) {w : Int32} {t : FieldType} (ht : t = .boolean ∨ t = .byte ∨ t = .char ∨ t = .short) (hret : meth.sig.returnType = some t) (hd : decode c.code pc = .ok (.ireturn, 1)) (hc : cells ≤ R.cells) (hs : slots ≤ R.slots) (hQ : Q (some (.int (nar t w))) its) : own_go p e R s below n0 Q (T.setTop (mkF m pc Ls (.int w :: stk))) := by
  obtain ⟨L, X, N, H⟩ := A
  obtain ⟨fs, hr, hrun, hended, hW, hsame⟩ := X.leave (v := some (.int (nar t w))) (fun h => by rw [hret] at h; cases h) hlk
  exact ⟨_, _, _, _, retN X hx hret ht hd hr, hrun, hended, hQ, N, H, hW, hsame.mono hc hs⟩
theorem own_retV (A : own_at p l e R s m args below meth c n0 T cells slots its) (hx : p.tables.exec = Jvm.exec) (hlk : meth.locks = false) (hret : meth.sig.returnType = none) (hd : decode c.code pc = .ok (.return_, 1)) (hc : cells ≤ R.cells) (hs : slots ≤ R.slots) (hQ : Q none its) : own_go p e R s below n0 Q (T.setTop (mkF m pc Ls [])) := by
  obtain ⟨L, X, N, H⟩ := A
  obtain ⟨fs, hr, hrun, hended, hW, hsame⟩ := X.leave (v := none) (fun _ => rfl) hlk
  exact ⟨_, _, _, _, X.returnOut hx hret hd hr, hrun, hended, hQ, N, H, hW, hsame.mono hc hs⟩
/-! contracts -/
/-- a method's contract: with these arguments, over a heap whose new part is its, it returns as Q says -/
def own_met (l : Launch) (Z : State) (n0 : Nat) (y : MethodName) (bytes : ByteArray) (maxL : Nat) (ret : Option FieldType) (rm : Room) (as : Array Value) (its : List (Cell → Prop)) (Q : Option Value → List (Cell → Prop) → Prop) : Prop :=
  ∀ (h0 : Heap) (ws : List Jvm.Cond), own_hp n0 h0 its → MetFree l y (head1 (Jvm.Cond.code y bytes maxL ret :: ws) rm) (fun a U => a = as ∧ Z.Warmed39 U.vm ∧ U.heap = h0) (fun _ _ _ _ _ => True) (fun _ U o U' => ∃ v L, o = .returned v ∧ (Fr n0 L ∧ ∃ its', Q v its' ∧ own_hp n0 U'.heap its') ∧ FrameEnd U o U' L rm.cells rm.slots)
variable {y z : MethodName} {bytes : ByteArray} {maxL : Nat} {ret : Option FieldType} {rm : Room} {as : Array Value} {Q' : Option Value → List (Cell → Prop) → Prop}
theorem own_met.of (hpn : plainFor y = true)
    (body : ∀ (p : Program) (e : Env) (s : State) (m : MethodId) (below : List Frame) (meth : Method) (c : Code) (T : State), p.tables.exec = Jvm.exec → c.code = bytes → c.maxLocals = maxL → meth.sig.returnType = ret → meth.locks = false → Z.Warmed39 s.vm → s.vm.findClass y.cls = some m.cls → meth.name = y.name → own_at p l e rm s m as below meth c n0 T 0 0 its → own_go p e rm s below n0 Q (T.setTop (entryFrame m as maxL))) :
    own_met l Z n0 y bytes maxL ret rm as its Q := by
  intro h0 ws H
  refine MetFree.of_bodySF hpn hisR ?_
  intro p e s m args below meth c s₁ Bd hml0 hP hK
  obtain ⟨rfl, hZ, hh⟩ := hP
  have X0 : Stand p l e rm s m args below meth c s₁ [] 0 0 := Stand.of_body Bd
  have e0 : s₁.heap = h0 := by rw [← hh, Bd.state]; rfl
  obtain ⟨t, v, L, its', h1, h2, h3, h4, h5, h6, h7, h8⟩ := body p e s m below meth c s₁ Bd.exec Bd.bytes hml0 Bd.returns (BodyLoose.notSynchronized Bd) hZ (findClass_of_methodNamed Bd.named) (name_of_methodNamed Bd.named Bd.method).1 ⟨[], X0, Fr.nil n0, by rw [e0]; exact H⟩
  exact ⟨t, _, h1, h2, h3, v, L, rfl, ⟨h5, its', h4, h6⟩, ⟨_, rfl⟩, h7, h8⟩
theorem own_post {A B : Pt} {rm : Room} {v : Option Value} (hP : ∃ L, (Fr n0 L ∧ ∃ its', Q' v its' ∧ own_hp n0 B.U.heap its') ∧ B.locs = A.locs ++ L ∧ B.cells = A.cells + rm.cells ∧ B.slots = A.slots + rm.slots) (X : Stand p l e R s m args below meth c B.U B.locs B.cells B.slots) (N : Fr n0 A.locs) :
    ∃ its', Q' v its' ∧ own_at p l e R s m args below meth c n0 B.U (A.cells + rm.cells) (A.slots + rm.slots) its' := by
  obtain ⟨L, ⟨h1, its', h2, h3⟩, h4, h5, h6⟩ := hP
  rw [h4, h5, h6] at X
  exact ⟨its', h2, _, X, N.app h1, h3⟩
theorem own_callS (A : own_at p l e R s m args below meth c n0 T cells slots its) (hx : p.tables.exec = Jvm.exec) (hZ : Z.Warmed39 s.vm) (hown : s.vm.findClass own = some m.cls) {index : Nat} (w1 : (Cond.methodLink own index y).before a0 Z = true) (w2 : (Cond.static y).before a0 Z = true) (w3 : (Cond.initialized y.cls).before a0 Z = true) (w4 : (Cond.code y bytes maxL ret).before a0 Z = true)
    (hy : y.cls ≠ "java/lang/invoke/MethodHandle" ∧ y.cls ≠ "java/lang/invoke/VarHandle") (M : own_met l Z n0 y bytes maxL ret rm as its Q') (hml : Ls.size = c.maxLocals) (argsL : List Value) (has : argsL.toArray = as) (hstk : stk = argsL.reverse ++ rest) {ps : List FieldType} {r : Option FieldType} (pd : parseMethodDescriptor y.desc = some ⟨ps, r⟩) (hlen : argsL.length = ps.length)
    {W : Nat} (hW : 2 * 0 + (rest.map fun v => v.category).sum ≤ W) (hd : decode c.code pc = .ok (.invokestatic index, 3)) (hf : rm.frames + 1 ≤ R.frames) (hl : W + (maxL + 11) + rm.locals ≤ R.locals) (hc : cells + rm.cells ≤ R.cells) (hs : slots + rm.slots ≤ R.slots)
    (k : ∀ (v : Option Value) (its' : List (Cell → Prop)) (T' : State), Q' v its' → own_at p l e R s m args below meth c n0 T' (cells + rm.cells) (slots + rm.slots) its' → own_go p e R s below n0 Q (T'.setTop (mkF m (pc + 3) Ls (v.toList ++ rest)))) :
    own_go p e R s below n0 Q (T.setTop (mkF m pc Ls stk)) := by
  obtain ⟨L, X, N, H⟩ := A
  subst hstk has
  obtain ⟨v, vm1, B, -, XB, hP, st⟩ := Jvm.LawKit.callS X hx (y := y) hown (mvT hZ w1) (mvT hZ w2) (mvT hZ w3) (mvT hZ w4) hy (backOf (W := W) (Q := fun v h L => Fr n0 L ∧ ∃ its', Q' v its' ∧ own_hp n0 h its') (M T.heap [] H) hZ w4 w3 hf hl) (g := mkF m pc Ls (argsL.reverse ++ rest)) rfl hml (argsL := argsL) (rest := rest) (lenOf pd hlen) rfl hW hd (fun _ _ => ⟨rfl, rfl, hc, hs⟩)
  obtain ⟨its', q1, q2⟩ := own_post hP XB N
  exact own_by st (k v its' B.U q1 q2)
theorem own_tr {u u' : State} (st : Steps p.tables e below u u') (k : own_go p e R s below n0 Q u') : own_go p e R s below n0 Q u := own_by (fun _ q => st.trans q) k
theorem own_callC (A : own_at p l e R s m args below meth c n0 T cells slots its) (hx : p.tables.exec = Jvm.exec) (hZ : Z.Warmed39 s.vm) (hown : s.vm.findClass own = some m.cls) {index : Nat} (hy1 : y.name = "<init>") (w1 : (Cond.methodLink own index y).before a0 Z = true) (w2 : (Cond.instanceMethod y).before a0 Z = true) (w3 : (Cond.initialized y.cls).before a0 Z = true) (w4 : (Cond.code y bytes maxL none).before a0 Z = true)
    (hy : y.cls ≠ "java/lang/invoke/MethodHandle" ∧ y.cls ≠ "java/lang/invoke/VarHandle") (M : own_met l Z n0 y bytes maxL none rm as its Q') (hml : Ls.size = c.maxLocals) (a : Addr) (argsL : List Value) (has : (Value.ref a :: argsL).toArray = as) (hstk : stk = argsL.reverse ++ .ref a :: rest) {ps : List FieldType} {r : Option FieldType} (pd : parseMethodDescriptor y.desc = some ⟨ps, r⟩) (hlen : argsL.length = ps.length)
    {W : Nat} (hW : 2 * 0 + (rest.map fun v => v.category).sum ≤ W) (hd : decode c.code pc = .ok (.invokespecial index, 3)) (hf : rm.frames + 1 ≤ R.frames) (hl : W + (maxL + 11) + rm.locals ≤ R.locals) (hc : cells + rm.cells ≤ R.cells) (hs : slots + rm.slots ≤ R.slots)
    (k : ∀ (v : Option Value) (its' : List (Cell → Prop)) (T' : State), Q' v its' → own_at p l e R s m args below meth c n0 T' (cells + rm.cells) (slots + rm.slots) its' → own_go p e R s below n0 Q (T'.setTop (mkF m (pc + 3) Ls (v.toList ++ rest)))) :
    own_go p e R s below n0 Q (T.setTop (mkF m pc Ls stk)) := by
  obtain ⟨L, X, N, H⟩ := A
  subst hstk has
  obtain ⟨v, vm1, B, -, XB, hP, st⟩ := X.specialBack hx (y := y) hy1 hown (mvT hZ w1) (mvT hZ w2) (mvT hZ w4) hy (backOf (W := W) (Q := fun v h L => Fr n0 L ∧ ∃ its', Q' v its' ∧ own_hp n0 h its') (M T.heap [] H) hZ w4 w3 hf hl) (g := mkF m pc Ls (argsL.reverse ++ .ref a :: rest)) rfl hml (Steps.refl _) (a := a) (argsL := argsL) (rest := rest) (lenOf pd hlen) rfl hW hd (fun _ _ => ⟨rfl, rfl, hc, hs⟩)
  obtain ⟨its', q1, q2⟩ := own_post hP XB N
  exact own_tr st (k v its' B.U q1 q2)
theorem own_callV (A : own_at p l e R s m args below meth c n0 T cells slots its) (hx : p.tables.exec = Jvm.exec) (hZ : Z.Warmed39 s.vm) (hown : s.vm.findClass own = some m.cls) {index i : Nat} (w1 : (Cond.methodLink own index y).before a0 Z = true) (w2 : (Cond.declares y).before a0 Z = true) (w3 : (Cond.selects y.cls y y).before a0 Z = true) (w4 : (Cond.instanceMethod y).before a0 Z = true) (w5 : (Cond.initialized y.cls).before a0 Z = true) (w6 : (Cond.code y bytes maxL ret).before a0 Z = true)
    (hy : y.cls ≠ "java/lang/invoke/MethodHandle" ∧ y.cls ≠ "java/lang/invoke/VarHandle") {ns : List (String × String)} {vs : List Value} (hi : its[i]? = some (own_obj Z y.cls ns vs)) (M : own_met l Z n0 y bytes maxL ret rm as its Q') (hml : Ls.size = c.maxLocals) (argsL : List Value) (has : (Value.ref (n0 + i) :: argsL).toArray = as) (hstk : stk = argsL.reverse ++ .ref (n0 + i) :: rest) {ps : List FieldType} {r : Option FieldType} (pd : parseMethodDescriptor y.desc = some ⟨ps, r⟩) (hlen : argsL.length = ps.length)
    {W : Nat} (hW : 2 * 0 + (rest.map fun v => v.category).sum ≤ W) (hd : decode c.code pc = .ok (.invokevirtual index, 3)) (hf : rm.frames + 1 ≤ R.frames) (hl : W + (maxL + 11) + rm.locals ≤ R.locals) (hc : cells + rm.cells ≤ R.cells) (hs : slots + rm.slots ≤ R.slots)
    (k : ∀ (v : Option Value) (its' : List (Cell → Prop)) (T' : State), Q' v its' → own_at p l e R s m args below meth c n0 T' (cells + rm.cells) (slots + rm.slots) its' → own_go p e R s below n0 Q (T'.setTop (mkF m (pc + 3) Ls (v.toList ++ rest)))) :
    own_go p e R s below n0 Q (T.setTop (mkF m pc Ls stk)) := by
  obtain ⟨L, X, N, H⟩ := A
  subst hstk has
  obtain ⟨cl, g1, g2⟩ := H.2 i _ hi
  obtain ⟨cq, kq, q3a, q3b, q3c⟩ := isOf (T := T) hZ rfl (g2 _ _ g1).1
  obtain ⟨v, vm1, B, -, XB, hP, st⟩ := X.virtualBack hx (y := y) (z := y) hown (mvT hZ w1) (mvT hZ w2) (notFace_of_selects (args := #[]) (mvT hZ w3)) (mvT hZ w3) (mvT hZ w4) hy (backOf (W := W) (Q := fun v h L => Fr n0 L ∧ ∃ its', Q' v its' ∧ own_hp n0 h its') (M T.heap [] H) hZ w6 w5 hf hl) q3a q3c (g := mkF m pc Ls (argsL.reverse ++ .ref (n0 + i) :: rest)) rfl hml (Steps.refl _) (argsL := argsL) (rest := rest) (lenOf pd hlen) rfl hW hd (fun _ _ => ⟨rfl, rfl, hc, hs⟩)
  obtain ⟨its', q1, q2⟩ := own_post hP XB N
  exact own_tr st (k v its' B.U q1 q2)
theorem own_callP (A : own_at p l e R s m args below meth c n0 T cells slots its) (hx : p.tables.exec = Jvm.exec) (hZ : Z.Warmed39 s.vm) (hown : s.vm.findClass own = some m.cls) {index i : Nat} (w1 : (Cond.methodLink own index y).before a0 Z = true) (w2 : (Cond.privateMethod y).before a0 Z = true) {kk : Nat} (w3 : (Cond.instantiable y.cls kk).before a0 Z = true) (w4 : (Cond.instanceMethod y).before a0 Z = true) (w5 : (Cond.initialized y.cls).before a0 Z = true) (w6 : (Cond.code y bytes maxL ret).before a0 Z = true)
    (hy : y.cls ≠ "java/lang/invoke/MethodHandle" ∧ y.cls ≠ "java/lang/invoke/VarHandle") {ns : List (String × String)} {vs : List Value} (hi : its[i]? = some (own_obj Z y.cls ns vs)) (M : own_met l Z n0 y bytes maxL ret rm as its Q') (hml : Ls.size = c.maxLocals) (argsL : List Value) (has : (Value.ref (n0 + i) :: argsL).toArray = as) (hstk : stk = argsL.reverse ++ .ref (n0 + i) :: rest) {ps : List FieldType} {r : Option FieldType} (pd : parseMethodDescriptor y.desc = some ⟨ps, r⟩) (hlen : argsL.length = ps.length)
    {W : Nat} (hW : 2 * 0 + (rest.map fun v => v.category).sum ≤ W) (hd : decode c.code pc = .ok (.invokevirtual index, 3)) (hf : rm.frames + 1 ≤ R.frames) (hl : W + (maxL + 11) + rm.locals ≤ R.locals) (hc : cells + rm.cells ≤ R.cells) (hs : slots + rm.slots ≤ R.slots)
    (k : ∀ (v : Option Value) (its' : List (Cell → Prop)) (T' : State), Q' v its' → own_at p l e R s m args below meth c n0 T' (cells + rm.cells) (slots + rm.slots) its' → own_go p e R s below n0 Q (T'.setTop (mkF m (pc + 3) Ls (v.toList ++ rest)))) :
    own_go p e R s below n0 Q (T.setTop (mkF m pc Ls stk)) := by
  obtain ⟨L, X, N, H⟩ := A
  subst hstk has
  obtain ⟨cl, g1, g2⟩ := H.2 i _ hi
  obtain ⟨cq, q3a, q3b⟩ := (g2 _ _ g1).1.cell
  obtain ⟨c1, k1, i1, i2, -, i4, -⟩ := Cond.instantiable_spec (mvT (s := s) (args := args) hZ w3)
  have hpr : s.PrivateAt y := Cond.privateMethod_at (mvP hZ w2 (args := #[]))
  have hsel : (Cond.selects y.cls y y).before args s = true := selects_self_of_private i1 i2 (Bool.or_eq_false_iff.mp i4).1 hpr (mvT hZ w4) hy
  obtain ⟨v, vm1, B, -, XB, hP, st⟩ := X.privateBack hx (y := y) hown (mvT hZ w1) (mvT hZ w4) hsel hpr (mvT hZ w6) hy (backOf (W := W) (Q := fun v h L => Fr n0 L ∧ ∃ its', Q' v its' ∧ own_hp n0 h its') (M T.heap [] H) hZ w6 w5 hf hl) (g := mkF m pc Ls (argsL.reverse ++ .ref (n0 + i) :: rest)) rfl hml (Steps.refl _) (a := n0 + i) q3a q3b (argsL := argsL) (rest := rest) (lenOf pd hlen) rfl hW hd (fun _ _ => ⟨rfl, rfl, hc, hs⟩)
  obtain ⟨its', q1, q2⟩ := own_post hP XB N
  exact own_tr st (k v its' B.U q1 q2)
/-! comparisons of longs -/
theorem own_lc_lt {x y : Int64} (h : x < y) : lcmpW x y < 0 := by rw [lcW]; exact (lc_lt x y).mpr h
theorem own_lc_nlt {x y : Int64} (h : ¬ x < y) : ¬ lcmpW x y < 0 := by rw [lcW]; exact fun q => h ((lc_lt x y).mp q)
theorem own_lc_gt {x y : Int64} (h : y < x) : 0 < lcmpW x y := by rw [lcW]; exact (lc_gt x y).mpr h
theorem own_lc_ngt {x y : Int64} (h : ¬ y < x) : ¬ 0 < lcmpW x y := by rw [lcW]; exact fun q => h ((lc_gt x y).mp q)
theorem own_lc_eq {x y : Int64} (h : x = y) : lcmpW x y = 0 := by subst h; unfold lcmpW; simp
theorem own_lc_ne {x y : Int64} (h : ¬ x = y) : ¬ lcmpW x y = 0 := by
  unfold lcmpW
  (repeat' split) <;> first | decide | (exfalso; exact h (by assumption))
end Own
theorem own_bit5 {n : Nat} (x : BitVec 32) (h : x.getLsbD 5 = true) : x ||| 32#32 = x := by
  apply BitVec.eq_of_getLsbD_eq
  intro i hi
  rw [BitVec.getLsbD_or]
  by_cases q : i = 5
  · subst q; rw [h]; rfl
  · have q2 : (32#32).getLsbD i = false := by
      have := (by decide : ∀ j : Fin 32, j.1 ≠ 5 → (32#32).getLsbD j.1 = false) ⟨i, hi⟩ q
      exact this
    rw [q2, Bool.or_false]
theorem own_bit5n (x : BitVec 32) (h : x.getLsbD 5 = false) : x ||| 32#32 = x + 32#32 := by
  symm
  apply BitVec.add_eq_or_of_and_eq_zero
  apply BitVec.eq_of_getLsbD_eq
  intro i hi
  rw [BitVec.getLsbD_and]
  by_cases q : i = 5
  · subst q; rw [h]; rfl
  · have q2 : (32#32).getLsbD i = false := by
      have := (by decide : ∀ j : Fin 32, j.1 ≠ 5 → (32#32).getLsbD j.1 = false) ⟨i, hi⟩ q
      exact this
    rw [q2, Bool.and_false]; simp
theorem own_or32 (c : Int32) : (c.toInt / 32 % 2 = 1 → c ||| 32 = c) ∧ (c.toInt / 32 % 2 = 0 → c ||| 32 = c + 32) := by
  have e : c.toBitVec.getLsbD 5 = decide (c.toBitVec.toNat / 32 % 2 = 1) := by
    rw [BitVec.getLsbD, Nat.testBit_eq_decide_div_mod_eq]
  have t : c.toInt = c.toBitVec.toInt := rfl
  have t2 := BitVec.toInt_eq_toNat_cond c.toBitVec
  have t3 := c.toBitVec.isLt
  constructor
  · intro h
    apply Int32.toBitVec_inj.mp
    rw [Int32.toBitVec_or]
    refine own_bit5 (n := 0) _ ?_
    rw [e, decide_eq_true_eq]
    rw [t, t2] at h
    split at h <;> omega
  · intro h
    apply Int32.toBitVec_inj.mp
    rw [Int32.toBitVec_or, Int32.toBitVec_add]
    refine own_bit5n _ ?_
    rw [e, decide_eq_false_iff_not]
    rw [t, t2] at h
    split at h <;> omega

theorem d_prog_73_method_6_0 : decode prog_73_method_6_code 0 = .ok (.iconst (-1), 1) := by decide +kernel
theorem d_prog_73_method_6_1 : decode prog_73_method_6_code 1 = .ok (.istore_n 2, 1) := by decide +kernel
theorem d_prog_73_method_6_2 : decode prog_73_method_6_code 2 = .ok (.iload_n 0, 1) := by decide +kernel
theorem d_prog_73_method_6_3 : decode prog_73_method_6_code 3 = .ok (.bipush 48, 2) := by decide +kernel
theorem d_prog_73_method_6_5 : decode prog_73_method_6_code 5 = .ok (.if_icmp .lt 17, 3) := by decide +kernel
theorem d_prog_73_method_6_22 : decode prog_73_method_6_code 22 = .ok (.iload_n 1, 1) := by decide +kernel
theorem d_prog_73_method_6_23 : decode prog_73_method_6_code 23 = .ok (.bipush 16, 2) := by decide +kernel
theorem d_prog_73_method_6_25 : decode prog_73_method_6_code 25 = .ok (.if_icmp .ne 26, 3) := by decide +kernel
theorem d_prog_73_method_6_28 : decode prog_73_method_6_code 28 = .ok (.iload_n 0, 1) := by decide +kernel
theorem d_prog_73_method_6_29 : decode prog_73_method_6_code 29 = .ok (.bipush 97, 2) := by decide +kernel
theorem d_prog_73_method_6_31 : decode prog_73_method_6_code 31 = .ok (.if_icmp .lt 20, 3) := by decide +kernel
theorem d_prog_73_method_6_51 : decode prog_73_method_6_code 51 = .ok (.iload_n 1, 1) := by decide +kernel
theorem d_prog_73_method_6_52 : decode prog_73_method_6_code 52 = .ok (.bipush 16, 2) := by decide +kernel
theorem d_prog_73_method_6_54 : decode prog_73_method_6_code 54 = .ok (.if_icmp .ne 23, 3) := by decide +kernel
theorem d_prog_73_method_6_57 : decode prog_73_method_6_code 57 = .ok (.iload_n 0, 1) := by decide +kernel
theorem d_prog_73_method_6_58 : decode prog_73_method_6_code 58 = .ok (.bipush 65, 2) := by decide +kernel
theorem d_prog_73_method_6_60 : decode prog_73_method_6_code 60 = .ok (.if_icmp .lt 17, 3) := by decide +kernel
theorem d_prog_73_method_6_77 : decode prog_73_method_6_code 77 = .ok (.iload_n 2, 1) := by decide +kernel
theorem d_prog_73_method_6_78 : decode prog_73_method_6_code 78 = .ok (.ireturn, 1) := by decide +kernel
theorem d_prog_73_method_6_63 : decode prog_73_method_6_code 63 = .ok (.iload_n 0, 1) := by decide +kernel
theorem d_prog_73_method_6_64 : decode prog_73_method_6_code 64 = .ok (.bipush 70, 2) := by decide +kernel
theorem d_prog_73_method_6_66 : decode prog_73_method_6_code 66 = .ok (.if_icmp .gt 11, 3) := by decide +kernel
theorem d_prog_73_method_6_69 : decode prog_73_method_6_code 69 = .ok (.iload_n 0, 1) := by decide +kernel
theorem d_prog_73_method_6_70 : decode prog_73_method_6_code 70 = .ok (.bipush 65, 2) := by decide +kernel
theorem d_prog_73_method_6_72 : decode prog_73_method_6_code 72 = .ok (.isub, 1) := by decide +kernel
theorem d_prog_73_method_6_73 : decode prog_73_method_6_code 73 = .ok (.bipush 10, 2) := by decide +kernel
theorem d_prog_73_method_6_75 : decode prog_73_method_6_code 75 = .ok (.iadd, 1) := by decide +kernel
theorem d_prog_73_method_6_76 : decode prog_73_method_6_code 76 = .ok (.istore_n 2, 1) := by decide +kernel
theorem d_prog_73_method_6_34 : decode prog_73_method_6_code 34 = .ok (.iload_n 0, 1) := by decide +kernel
theorem d_prog_73_method_6_35 : decode prog_73_method_6_code 35 = .ok (.bipush 102, 2) := by decide +kernel
theorem d_prog_73_method_6_37 : decode prog_73_method_6_code 37 = .ok (.if_icmp .gt 14, 3) := by decide +kernel
theorem d_prog_73_method_6_40 : decode prog_73_method_6_code 40 = .ok (.iload_n 0, 1) := by decide +kernel
theorem d_prog_73_method_6_41 : decode prog_73_method_6_code 41 = .ok (.bipush 97, 2) := by decide +kernel
theorem d_prog_73_method_6_43 : decode prog_73_method_6_code 43 = .ok (.isub, 1) := by decide +kernel
theorem d_prog_73_method_6_44 : decode prog_73_method_6_code 44 = .ok (.bipush 10, 2) := by decide +kernel
theorem d_prog_73_method_6_46 : decode prog_73_method_6_code 46 = .ok (.iadd, 1) := by decide +kernel
theorem d_prog_73_method_6_47 : decode prog_73_method_6_code 47 = .ok (.istore_n 2, 1) := by decide +kernel
theorem d_prog_73_method_6_48 : decode prog_73_method_6_code 48 = .ok (.goto 29, 3) := by decide +kernel
theorem d_prog_73_method_6_8 : decode prog_73_method_6_code 8 = .ok (.iload_n 0, 1) := by decide +kernel
theorem d_prog_73_method_6_9 : decode prog_73_method_6_code 9 = .ok (.bipush 57, 2) := by decide +kernel
theorem d_prog_73_method_6_11 : decode prog_73_method_6_code 11 = .ok (.if_icmp .gt 11, 3) := by decide +kernel
theorem d_prog_73_method_6_14 : decode prog_73_method_6_code 14 = .ok (.iload_n 0, 1) := by decide +kernel
theorem d_prog_73_method_6_15 : decode prog_73_method_6_code 15 = .ok (.bipush 48, 2) := by decide +kernel
theorem d_prog_73_method_6_17 : decode prog_73_method_6_code 17 = .ok (.isub, 1) := by decide +kernel
theorem d_prog_73_method_6_18 : decode prog_73_method_6_code 18 = .ok (.istore_n 2, 1) := by decide +kernel
theorem d_prog_73_method_6_19 : decode prog_73_method_6_code 19 = .ok (.goto 58, 3) := by decide +kernel
def f1 (x1 : Int32) (x2 : Int32) : Int32 := if x1 < (48 : Int32) then (if x2 = (16 : Int32) then (if x1 < (97 : Int32) then (if x1 < (65 : Int32) then (-1 : Int32)
        else if (70 : Int32) < x1 then (-1 : Int32)
        else ((x1 - (65 : Int32)) + (10 : Int32)))
      else if (102 : Int32) < x1 then (if x1 < (65 : Int32) then (-1 : Int32)
        else if (70 : Int32) < x1 then (-1 : Int32)
        else ((x1 - (65 : Int32)) + (10 : Int32)))
      else ((x1 - (97 : Int32)) + (10 : Int32)))
    else (-1 : Int32))
  else if (57 : Int32) < x1 then (if x2 = (16 : Int32) then (if x1 < (97 : Int32) then (if x1 < (65 : Int32) then (-1 : Int32)
        else if (70 : Int32) < x1 then (-1 : Int32)
        else ((x1 - (65 : Int32)) + (10 : Int32)))
      else if (102 : Int32) < x1 then (if x1 < (65 : Int32) then (-1 : Int32)
        else if (70 : Int32) < x1 then (-1 : Int32)
        else ((x1 - (65 : Int32)) + (10 : Int32)))
      else ((x1 - (97 : Int32)) + (10 : Int32)))
    else (-1 : Int32))
  else (x1 - (48 : Int32))
theorem pf_g1 : plainFor (⟨"com/example/oropendola/oropendola/format/Names", "digit", "(II)I"⟩ : MethodName) = true := by first | exact plainFor_of_name (by first | (simp [plainName, overriddenIn]; done) | decide +kernel) | decide +kernel
theorem ef_g1 (m : MethodId) (x1 : Int32) (x2 : Int32) : entryFrame m #[(.int x1), (.int x2)] 3 = (mkF m 0 #[.val (.int x1), .val (.int x2), .unset] []) := by first | (simp [entryFrame, mkF, argsToLocals, Value.category]; done) | rfl
set_option maxRecDepth 65536 in
set_option maxHeartbeats 40000000 in
theorem g1 (l : Launch) (Z : State) (a0 : Array Value) (hw : ∀ d ∈ tables_1, d.before a0 Z = true) (n0 : Nat) (its : List (Cell → Prop)) (x1 : Int32) (x2 : Int32)  :
    own_met l Z n0 (⟨"com/example/oropendola/oropendola/format/Names", "digit", "(II)I"⟩ : MethodName) prog_73_method_6_code 3 (some .int) ({ frames := 0, cells := 0, slots := 0, locals := 0 } : Room) #[(.int x1), (.int x2)] its (fun v its' => v = some (.int (f1 x1 x2)) ∧ its' = its) := by
  refine own_met.of pf_g1 ?_
  intro p e s m below meth c T0 hx hby hml hret hlk hZ hown hnm A0
  replace hown : s.vm.findClass "com/example/oropendola/oropendola/format/Names" = some m.cls := hown
  replace hml : c.maxLocals = 3 := hml
  rw [ef_g1 m x1 x2]
  show own_go _ _ _ _ _ _ _ (T0.setTop (mkF m 0 #[.val (.int x1), .val (.int x2), .unset] []))
  refine own_by (u' := T0.setTop (mkF m 1 #[.val (.int x1), .val (.int x2), .unset] [(.int (-1 : Int32))])) (fun _ k => XS.iconst A0.here hx rfl (own_db hby d_prog_73_method_6_0) k) ?_
  refine own_by (u' := T0.setTop (mkF m 2 #[.val (.int x1), .val (.int x2), .val (.int (-1 : Int32))] [])) (fun _ k => XS.istoreN A0.here hx rfl (own_db hby d_prog_73_method_6_1) rfl (l' := #[.val (.int x1), .val (.int x2), .val (.int (-1 : Int32))]) rfl k) ?_
  refine own_by (u' := T0.setTop (mkF m 3 #[.val (.int x1), .val (.int x2), .val (.int (-1 : Int32))] [(.int x1)])) (fun _ k => XS.iloadN A0.here hx rfl (own_db hby d_prog_73_method_6_2) rfl k) ?_
  refine own_by (u' := T0.setTop (mkF m 5 #[.val (.int x1), .val (.int x2), .val (.int (-1 : Int32))] [(.int (48 : Int32)), (.int x1)])) (fun _ k => XS.bipush A0.here hx rfl (own_db hby d_prog_73_method_6_3) k) ?_
  by_cases hc1 : x1 < (48 : Int32)
  · refine own_by (u' := T0.setTop (mkF m 22 #[.val (.int x1), .val (.int x2), .val (.int (-1 : Int32))] [])) (fun _ k => XS.icmpYes A0.here hx rfl (pc0 := 5) (pc' := 22) rfl (own_db hby d_prog_73_method_6_5) rfl (tlt hc1).1 (by decide) (by decide) k) ?_
    refine own_by (u' := T0.setTop (mkF m 23 #[.val (.int x1), .val (.int x2), .val (.int (-1 : Int32))] [(.int x2)])) (fun _ k => XS.iloadN A0.here hx rfl (own_db hby d_prog_73_method_6_22) rfl k) ?_
    refine own_by (u' := T0.setTop (mkF m 25 #[.val (.int x1), .val (.int x2), .val (.int (-1 : Int32))] [(.int (16 : Int32)), (.int x2)])) (fun _ k => XS.bipush A0.here hx rfl (own_db hby d_prog_73_method_6_23) k) ?_
    by_cases hc2 : x2 = (16 : Int32)
    · refine own_by (u' := T0.setTop (mkF m 28 #[.val (.int x1), .val (.int x2), .val (.int (-1 : Int32))] [])) (fun _ k => XS.icmpNo A0.here hx rfl (own_db hby d_prog_73_method_6_25) rfl (teq hc2).2 k) ?_
      refine own_by (u' := T0.setTop (mkF m 29 #[.val (.int x1), .val (.int x2), .val (.int (-1 : Int32))] [(.int x1)])) (fun _ k => XS.iloadN A0.here hx rfl (own_db hby d_prog_73_method_6_28) rfl k) ?_
      refine own_by (u' := T0.setTop (mkF m 31 #[.val (.int x1), .val (.int x2), .val (.int (-1 : Int32))] [(.int (97 : Int32)), (.int x1)])) (fun _ k => XS.bipush A0.here hx rfl (own_db hby d_prog_73_method_6_29) k) ?_
      by_cases hc3 : x1 < (97 : Int32)
      · refine own_by (u' := T0.setTop (mkF m 51 #[.val (.int x1), .val (.int x2), .val (.int (-1 : Int32))] [])) (fun _ k => XS.icmpYes A0.here hx rfl (pc0 := 31) (pc' := 51) rfl (own_db hby d_prog_73_method_6_31) rfl (tlt hc3).1 (by decide) (by decide) k) ?_
        refine own_by (u' := T0.setTop (mkF m 52 #[.val (.int x1), .val (.int x2), .val (.int (-1 : Int32))] [(.int x2)])) (fun _ k => XS.iloadN A0.here hx rfl (own_db hby d_prog_73_method_6_51) rfl k) ?_
        refine own_by (u' := T0.setTop (mkF m 54 #[.val (.int x1), .val (.int x2), .val (.int (-1 : Int32))] [(.int (16 : Int32)), (.int x2)])) (fun _ k => XS.bipush A0.here hx rfl (own_db hby d_prog_73_method_6_52) k) ?_
        refine own_by (u' := T0.setTop (mkF m 57 #[.val (.int x1), .val (.int x2), .val (.int (-1 : Int32))] [])) (fun _ k => XS.icmpNo A0.here hx rfl (own_db hby d_prog_73_method_6_54) rfl (teq hc2).2 k) ?_
        refine own_by (u' := T0.setTop (mkF m 58 #[.val (.int x1), .val (.int x2), .val (.int (-1 : Int32))] [(.int x1)])) (fun _ k => XS.iloadN A0.here hx rfl (own_db hby d_prog_73_method_6_57) rfl k) ?_
        refine own_by (u' := T0.setTop (mkF m 60 #[.val (.int x1), .val (.int x2), .val (.int (-1 : Int32))] [(.int (65 : Int32)), (.int x1)])) (fun _ k => XS.bipush A0.here hx rfl (own_db hby d_prog_73_method_6_58) k) ?_
        by_cases hc4 : x1 < (65 : Int32)
        · refine own_by (u' := T0.setTop (mkF m 77 #[.val (.int x1), .val (.int x2), .val (.int (-1 : Int32))] [])) (fun _ k => XS.icmpYes A0.here hx rfl (pc0 := 60) (pc' := 77) rfl (own_db hby d_prog_73_method_6_60) rfl (tlt hc4).1 (by decide) (by decide) k) ?_
          refine own_by (u' := T0.setTop (mkF m 78 #[.val (.int x1), .val (.int x2), .val (.int (-1 : Int32))] [(.int (-1 : Int32))])) (fun _ k => XS.iloadN A0.here hx rfl (own_db hby d_prog_73_method_6_77) rfl k) ?_
          exact own_retI A0 hx hlk hret (own_db hby d_prog_73_method_6_78) (by decide) (by decide) ⟨by rw [show f1 x1 x2 = (-1 : Int32) from by unfold f1; simp only [if_pos hc1, if_pos hc2, if_pos hc3, if_pos hc4]] <;> rfl, rfl⟩
        · refine own_by (u' := T0.setTop (mkF m 63 #[.val (.int x1), .val (.int x2), .val (.int (-1 : Int32))] [])) (fun _ k => XS.icmpNo A0.here hx rfl (own_db hby d_prog_73_method_6_60) rfl (flt hc4).1 k) ?_
          refine own_by (u' := T0.setTop (mkF m 64 #[.val (.int x1), .val (.int x2), .val (.int (-1 : Int32))] [(.int x1)])) (fun _ k => XS.iloadN A0.here hx rfl (own_db hby d_prog_73_method_6_63) rfl k) ?_
          refine own_by (u' := T0.setTop (mkF m 66 #[.val (.int x1), .val (.int x2), .val (.int (-1 : Int32))] [(.int (70 : Int32)), (.int x1)])) (fun _ k => XS.bipush A0.here hx rfl (own_db hby d_prog_73_method_6_64) k) ?_
          by_cases hc5 : (70 : Int32) < x1
          · refine own_by (u' := T0.setTop (mkF m 77 #[.val (.int x1), .val (.int x2), .val (.int (-1 : Int32))] [])) (fun _ k => XS.icmpYes A0.here hx rfl (pc0 := 66) (pc' := 77) rfl (own_db hby d_prog_73_method_6_66) rfl (tlt hc5).2.2.1 (by decide) (by decide) k) ?_
            refine own_by (u' := T0.setTop (mkF m 78 #[.val (.int x1), .val (.int x2), .val (.int (-1 : Int32))] [(.int (-1 : Int32))])) (fun _ k => XS.iloadN A0.here hx rfl (own_db hby d_prog_73_method_6_77) rfl k) ?_
            exact own_retI A0 hx hlk hret (own_db hby d_prog_73_method_6_78) (by decide) (by decide) ⟨by rw [show f1 x1 x2 = (-1 : Int32) from by unfold f1; simp only [if_pos hc1, if_pos hc2, if_pos hc3, if_neg hc4, if_pos hc5]] <;> rfl, rfl⟩
          · refine own_by (u' := T0.setTop (mkF m 69 #[.val (.int x1), .val (.int x2), .val (.int (-1 : Int32))] [])) (fun _ k => XS.icmpNo A0.here hx rfl (own_db hby d_prog_73_method_6_66) rfl (flt hc5).2.2.1 k) ?_
            refine own_by (u' := T0.setTop (mkF m 70 #[.val (.int x1), .val (.int x2), .val (.int (-1 : Int32))] [(.int x1)])) (fun _ k => XS.iloadN A0.here hx rfl (own_db hby d_prog_73_method_6_69) rfl k) ?_
            refine own_by (u' := T0.setTop (mkF m 72 #[.val (.int x1), .val (.int x2), .val (.int (-1 : Int32))] [(.int (65 : Int32)), (.int x1)])) (fun _ k => XS.bipush A0.here hx rfl (own_db hby d_prog_73_method_6_70) k) ?_
            refine own_by (u' := T0.setTop (mkF m 73 #[.val (.int x1), .val (.int x2), .val (.int (-1 : Int32))] [(.int (x1 - (65 : Int32)))])) (fun _ k => XS.isub A0.here hx rfl (own_db hby d_prog_73_method_6_72) rfl k) ?_
            refine own_by (u' := T0.setTop (mkF m 75 #[.val (.int x1), .val (.int x2), .val (.int (-1 : Int32))] [(.int (10 : Int32)), (.int (x1 - (65 : Int32)))])) (fun _ k => XS.bipush A0.here hx rfl (own_db hby d_prog_73_method_6_73) k) ?_
            refine own_by (u' := T0.setTop (mkF m 76 #[.val (.int x1), .val (.int x2), .val (.int (-1 : Int32))] [(.int ((x1 - (65 : Int32)) + (10 : Int32)))])) (fun _ k => XS.iadd A0.here hx rfl (own_db hby d_prog_73_method_6_75) rfl k) ?_
            refine own_by (u' := T0.setTop (mkF m 77 #[.val (.int x1), .val (.int x2), .val (.int ((x1 - (65 : Int32)) + (10 : Int32)))] [])) (fun _ k => XS.istoreN A0.here hx rfl (own_db hby d_prog_73_method_6_76) rfl (l' := #[.val (.int x1), .val (.int x2), .val (.int ((x1 - (65 : Int32)) + (10 : Int32)))]) rfl k) ?_
            refine own_by (u' := T0.setTop (mkF m 78 #[.val (.int x1), .val (.int x2), .val (.int ((x1 - (65 : Int32)) + (10 : Int32)))] [(.int ((x1 - (65 : Int32)) + (10 : Int32)))])) (fun _ k => XS.iloadN A0.here hx rfl (own_db hby d_prog_73_method_6_77) rfl k) ?_
            exact own_retI A0 hx hlk hret (own_db hby d_prog_73_method_6_78) (by decide) (by decide) ⟨by rw [show f1 x1 x2 = ((x1 - (65 : Int32)) + (10 : Int32)) from by unfold f1; simp only [if_pos hc1, if_pos hc2, if_pos hc3, if_neg hc4, if_neg hc5]] <;> rfl, rfl⟩
      · refine own_by (u' := T0.setTop (mkF m 34 #[.val (.int x1), .val (.int x2), .val (.int (-1 : Int32))] [])) (fun _ k => XS.icmpNo A0.here hx rfl (own_db hby d_prog_73_method_6_31) rfl (flt hc3).1 k) ?_
        refine own_by (u' := T0.setTop (mkF m 35 #[.val (.int x1), .val (.int x2), .val (.int (-1 : Int32))] [(.int x1)])) (fun _ k => XS.iloadN A0.here hx rfl (own_db hby d_prog_73_method_6_34) rfl k) ?_
        refine own_by (u' := T0.setTop (mkF m 37 #[.val (.int x1), .val (.int x2), .val (.int (-1 : Int32))] [(.int (102 : Int32)), (.int x1)])) (fun _ k => XS.bipush A0.here hx rfl (own_db hby d_prog_73_method_6_35) k) ?_
        by_cases hc6 : (102 : Int32) < x1
        · refine own_by (u' := T0.setTop (mkF m 51 #[.val (.int x1), .val (.int x2), .val (.int (-1 : Int32))] [])) (fun _ k => XS.icmpYes A0.here hx rfl (pc0 := 37) (pc' := 51) rfl (own_db hby d_prog_73_method_6_37) rfl (tlt hc6).2.2.1 (by decide) (by decide) k) ?_
          refine own_by (u' := T0.setTop (mkF m 52 #[.val (.int x1), .val (.int x2), .val (.int (-1 : Int32))] [(.int x2)])) (fun _ k => XS.iloadN A0.here hx rfl (own_db hby d_prog_73_method_6_51) rfl k) ?_
          refine own_by (u' := T0.setTop (mkF m 54 #[.val (.int x1), .val (.int x2), .val (.int (-1 : Int32))] [(.int (16 : Int32)), (.int x2)])) (fun _ k => XS.bipush A0.here hx rfl (own_db hby d_prog_73_method_6_52) k) ?_
          refine own_by (u' := T0.setTop (mkF m 57 #[.val (.int x1), .val (.int x2), .val (.int (-1 : Int32))] [])) (fun _ k => XS.icmpNo A0.here hx rfl (own_db hby d_prog_73_method_6_54) rfl (teq hc2).2 k) ?_
          refine own_by (u' := T0.setTop (mkF m 58 #[.val (.int x1), .val (.int x2), .val (.int (-1 : Int32))] [(.int x1)])) (fun _ k => XS.iloadN A0.here hx rfl (own_db hby d_prog_73_method_6_57) rfl k) ?_
          refine own_by (u' := T0.setTop (mkF m 60 #[.val (.int x1), .val (.int x2), .val (.int (-1 : Int32))] [(.int (65 : Int32)), (.int x1)])) (fun _ k => XS.bipush A0.here hx rfl (own_db hby d_prog_73_method_6_58) k) ?_
          by_cases hc7 : x1 < (65 : Int32)
          · refine own_by (u' := T0.setTop (mkF m 77 #[.val (.int x1), .val (.int x2), .val (.int (-1 : Int32))] [])) (fun _ k => XS.icmpYes A0.here hx rfl (pc0 := 60) (pc' := 77) rfl (own_db hby d_prog_73_method_6_60) rfl (tlt hc7).1 (by decide) (by decide) k) ?_
            refine own_by (u' := T0.setTop (mkF m 78 #[.val (.int x1), .val (.int x2), .val (.int (-1 : Int32))] [(.int (-1 : Int32))])) (fun _ k => XS.iloadN A0.here hx rfl (own_db hby d_prog_73_method_6_77) rfl k) ?_
            exact own_retI A0 hx hlk hret (own_db hby d_prog_73_method_6_78) (by decide) (by decide) ⟨by rw [show f1 x1 x2 = (-1 : Int32) from by unfold f1; simp only [if_pos hc1, if_pos hc2, if_neg hc3, if_pos hc6, if_pos hc7]] <;> rfl, rfl⟩
          · refine own_by (u' := T0.setTop (mkF m 63 #[.val (.int x1), .val (.int x2), .val (.int (-1 : Int32))] [])) (fun _ k => XS.icmpNo A0.here hx rfl (own_db hby d_prog_73_method_6_60) rfl (flt hc7).1 k) ?_
            refine own_by (u' := T0.setTop (mkF m 64 #[.val (.int x1), .val (.int x2), .val (.int (-1 : Int32))] [(.int x1)])) (fun _ k => XS.iloadN A0.here hx rfl (own_db hby d_prog_73_method_6_63) rfl k) ?_
            refine own_by (u' := T0.setTop (mkF m 66 #[.val (.int x1), .val (.int x2), .val (.int (-1 : Int32))] [(.int (70 : Int32)), (.int x1)])) (fun _ k => XS.bipush A0.here hx rfl (own_db hby d_prog_73_method_6_64) k) ?_
            by_cases hc8 : (70 : Int32) < x1
            · refine own_by (u' := T0.setTop (mkF m 77 #[.val (.int x1), .val (.int x2), .val (.int (-1 : Int32))] [])) (fun _ k => XS.icmpYes A0.here hx rfl (pc0 := 66) (pc' := 77) rfl (own_db hby d_prog_73_method_6_66) rfl (tlt hc8).2.2.1 (by decide) (by decide) k) ?_
              refine own_by (u' := T0.setTop (mkF m 78 #[.val (.int x1), .val (.int x2), .val (.int (-1 : Int32))] [(.int (-1 : Int32))])) (fun _ k => XS.iloadN A0.here hx rfl (own_db hby d_prog_73_method_6_77) rfl k) ?_
              exact own_retI A0 hx hlk hret (own_db hby d_prog_73_method_6_78) (by decide) (by decide) ⟨by rw [show f1 x1 x2 = (-1 : Int32) from by unfold f1; simp only [if_pos hc1, if_pos hc2, if_neg hc3, if_pos hc6, if_neg hc7, if_pos hc8]] <;> rfl, rfl⟩
            · refine own_by (u' := T0.setTop (mkF m 69 #[.val (.int x1), .val (.int x2), .val (.int (-1 : Int32))] [])) (fun _ k => XS.icmpNo A0.here hx rfl (own_db hby d_prog_73_method_6_66) rfl (flt hc8).2.2.1 k) ?_
              refine own_by (u' := T0.setTop (mkF m 70 #[.val (.int x1), .val (.int x2), .val (.int (-1 : Int32))] [(.int x1)])) (fun _ k => XS.iloadN A0.here hx rfl (own_db hby d_prog_73_method_6_69) rfl k) ?_
              refine own_by (u' := T0.setTop (mkF m 72 #[.val (.int x1), .val (.int x2), .val (.int (-1 : Int32))] [(.int (65 : Int32)), (.int x1)])) (fun _ k => XS.bipush A0.here hx rfl (own_db hby d_prog_73_method_6_70) k) ?_
              refine own_by (u' := T0.setTop (mkF m 73 #[.val (.int x1), .val (.int x2), .val (.int (-1 : Int32))] [(.int (x1 - (65 : Int32)))])) (fun _ k => XS.isub A0.here hx rfl (own_db hby d_prog_73_method_6_72) rfl k) ?_
              refine own_by (u' := T0.setTop (mkF m 75 #[.val (.int x1), .val (.int x2), .val (.int (-1 : Int32))] [(.int (10 : Int32)), (.int (x1 - (65 : Int32)))])) (fun _ k => XS.bipush A0.here hx rfl (own_db hby d_prog_73_method_6_73) k) ?_
              refine own_by (u' := T0.setTop (mkF m 76 #[.val (.int x1), .val (.int x2), .val (.int (-1 : Int32))] [(.int ((x1 - (65 : Int32)) + (10 : Int32)))])) (fun _ k => XS.iadd A0.here hx rfl (own_db hby d_prog_73_method_6_75) rfl k) ?_
              refine own_by (u' := T0.setTop (mkF m 77 #[.val (.int x1), .val (.int x2), .val (.int ((x1 - (65 : Int32)) + (10 : Int32)))] [])) (fun _ k => XS.istoreN A0.here hx rfl (own_db hby d_prog_73_method_6_76) rfl (l' := #[.val (.int x1), .val (.int x2), .val (.int ((x1 - (65 : Int32)) + (10 : Int32)))]) rfl k) ?_
              refine own_by (u' := T0.setTop (mkF m 78 #[.val (.int x1), .val (.int x2), .val (.int ((x1 - (65 : Int32)) + (10 : Int32)))] [(.int ((x1 - (65 : Int32)) + (10 : Int32)))])) (fun _ k => XS.iloadN A0.here hx rfl (own_db hby d_prog_73_method_6_77) rfl k) ?_
              exact own_retI A0 hx hlk hret (own_db hby d_prog_73_method_6_78) (by decide) (by decide) ⟨by rw [show f1 x1 x2 = ((x1 - (65 : Int32)) + (10 : Int32)) from by unfold f1; simp only [if_pos hc1, if_pos hc2, if_neg hc3, if_pos hc6, if_neg hc7, if_neg hc8]] <;> rfl, rfl⟩
        · refine own_by (u' := T0.setTop (mkF m 40 #[.val (.int x1), .val (.int x2), .val (.int (-1 : Int32))] [])) (fun _ k => XS.icmpNo A0.here hx rfl (own_db hby d_prog_73_method_6_37) rfl (flt hc6).2.2.1 k) ?_
          refine own_by (u' := T0.setTop (mkF m 41 #[.val (.int x1), .val (.int x2), .val (.int (-1 : Int32))] [(.int x1)])) (fun _ k => XS.iloadN A0.here hx rfl (own_db hby d_prog_73_method_6_40) rfl k) ?_
          refine own_by (u' := T0.setTop (mkF m 43 #[.val (.int x1), .val (.int x2), .val (.int (-1 : Int32))] [(.int (97 : Int32)), (.int x1)])) (fun _ k => XS.bipush A0.here hx rfl (own_db hby d_prog_73_method_6_41) k) ?_
          refine own_by (u' := T0.setTop (mkF m 44 #[.val (.int x1), .val (.int x2), .val (.int (-1 : Int32))] [(.int (x1 - (97 : Int32)))])) (fun _ k => XS.isub A0.here hx rfl (own_db hby d_prog_73_method_6_43) rfl k) ?_
          refine own_by (u' := T0.setTop (mkF m 46 #[.val (.int x1), .val (.int x2), .val (.int (-1 : Int32))] [(.int (10 : Int32)), (.int (x1 - (97 : Int32)))])) (fun _ k => XS.bipush A0.here hx rfl (own_db hby d_prog_73_method_6_44) k) ?_
          refine own_by (u' := T0.setTop (mkF m 47 #[.val (.int x1), .val (.int x2), .val (.int (-1 : Int32))] [(.int ((x1 - (97 : Int32)) + (10 : Int32)))])) (fun _ k => XS.iadd A0.here hx rfl (own_db hby d_prog_73_method_6_46) rfl k) ?_
          refine own_by (u' := T0.setTop (mkF m 48 #[.val (.int x1), .val (.int x2), .val (.int ((x1 - (97 : Int32)) + (10 : Int32)))] [])) (fun _ k => XS.istoreN A0.here hx rfl (own_db hby d_prog_73_method_6_47) rfl (l' := #[.val (.int x1), .val (.int x2), .val (.int ((x1 - (97 : Int32)) + (10 : Int32)))]) rfl k) ?_
          refine own_by (u' := T0.setTop (mkF m 77 #[.val (.int x1), .val (.int x2), .val (.int ((x1 - (97 : Int32)) + (10 : Int32)))] [])) (fun _ k => XS.goto A0.here hx rfl (pc0 := 48) (pc' := 77) rfl (own_db hby d_prog_73_method_6_48) (by decide) (by decide) k) ?_
          refine own_by (u' := T0.setTop (mkF m 78 #[.val (.int x1), .val (.int x2), .val (.int ((x1 - (97 : Int32)) + (10 : Int32)))] [(.int ((x1 - (97 : Int32)) + (10 : Int32)))])) (fun _ k => XS.iloadN A0.here hx rfl (own_db hby d_prog_73_method_6_77) rfl k) ?_
          exact own_retI A0 hx hlk hret (own_db hby d_prog_73_method_6_78) (by decide) (by decide) ⟨by rw [show f1 x1 x2 = ((x1 - (97 : Int32)) + (10 : Int32)) from by unfold f1; simp only [if_pos hc1, if_pos hc2, if_neg hc3, if_neg hc6]] <;> rfl, rfl⟩
    · refine own_by (u' := T0.setTop (mkF m 51 #[.val (.int x1), .val (.int x2), .val (.int (-1 : Int32))] [])) (fun _ k => XS.icmpYes A0.here hx rfl (pc0 := 25) (pc' := 51) rfl (own_db hby d_prog_73_method_6_25) rfl (feq hc2).2 (by decide) (by decide) k) ?_
      refine own_by (u' := T0.setTop (mkF m 52 #[.val (.int x1), .val (.int x2), .val (.int (-1 : Int32))] [(.int x2)])) (fun _ k => XS.iloadN A0.here hx rfl (own_db hby d_prog_73_method_6_51) rfl k) ?_
      refine own_by (u' := T0.setTop (mkF m 54 #[.val (.int x1), .val (.int x2), .val (.int (-1 : Int32))] [(.int (16 : Int32)), (.int x2)])) (fun _ k => XS.bipush A0.here hx rfl (own_db hby d_prog_73_method_6_52) k) ?_
      refine own_by (u' := T0.setTop (mkF m 77 #[.val (.int x1), .val (.int x2), .val (.int (-1 : Int32))] [])) (fun _ k => XS.icmpYes A0.here hx rfl (pc0 := 54) (pc' := 77) rfl (own_db hby d_prog_73_method_6_54) rfl (feq hc2).2 (by decide) (by decide) k) ?_
      refine own_by (u' := T0.setTop (mkF m 78 #[.val (.int x1), .val (.int x2), .val (.int (-1 : Int32))] [(.int (-1 : Int32))])) (fun _ k => XS.iloadN A0.here hx rfl (own_db hby d_prog_73_method_6_77) rfl k) ?_
      exact own_retI A0 hx hlk hret (own_db hby d_prog_73_method_6_78) (by decide) (by decide) ⟨by rw [show f1 x1 x2 = (-1 : Int32) from by unfold f1; simp only [if_pos hc1, if_neg hc2]] <;> rfl, rfl⟩
  · refine own_by (u' := T0.setTop (mkF m 8 #[.val (.int x1), .val (.int x2), .val (.int (-1 : Int32))] [])) (fun _ k => XS.icmpNo A0.here hx rfl (own_db hby d_prog_73_method_6_5) rfl (flt hc1).1 k) ?_
    refine own_by (u' := T0.setTop (mkF m 9 #[.val (.int x1), .val (.int x2), .val (.int (-1 : Int32))] [(.int x1)])) (fun _ k => XS.iloadN A0.here hx rfl (own_db hby d_prog_73_method_6_8) rfl k) ?_
    refine own_by (u' := T0.setTop (mkF m 11 #[.val (.int x1), .val (.int x2), .val (.int (-1 : Int32))] [(.int (57 : Int32)), (.int x1)])) (fun _ k => XS.bipush A0.here hx rfl (own_db hby d_prog_73_method_6_9) k) ?_
    by_cases hc9 : (57 : Int32) < x1
    · refine own_by (u' := T0.setTop (mkF m 22 #[.val (.int x1), .val (.int x2), .val (.int (-1 : Int32))] [])) (fun _ k => XS.icmpYes A0.here hx rfl (pc0 := 11) (pc' := 22) rfl (own_db hby d_prog_73_method_6_11) rfl (tlt hc9).2.2.1 (by decide) (by decide) k) ?_
      refine own_by (u' := T0.setTop (mkF m 23 #[.val (.int x1), .val (.int x2), .val (.int (-1 : Int32))] [(.int x2)])) (fun _ k => XS.iloadN A0.here hx rfl (own_db hby d_prog_73_method_6_22) rfl k) ?_
      refine own_by (u' := T0.setTop (mkF m 25 #[.val (.int x1), .val (.int x2), .val (.int (-1 : Int32))] [(.int (16 : Int32)), (.int x2)])) (fun _ k => XS.bipush A0.here hx rfl (own_db hby d_prog_73_method_6_23) k) ?_
      by_cases hc10 : x2 = (16 : Int32)
      · refine own_by (u' := T0.setTop (mkF m 28 #[.val (.int x1), .val (.int x2), .val (.int (-1 : Int32))] [])) (fun _ k => XS.icmpNo A0.here hx rfl (own_db hby d_prog_73_method_6_25) rfl (teq hc10).2 k) ?_
        refine own_by (u' := T0.setTop (mkF m 29 #[.val (.int x1), .val (.int x2), .val (.int (-1 : Int32))] [(.int x1)])) (fun _ k => XS.iloadN A0.here hx rfl (own_db hby d_prog_73_method_6_28) rfl k) ?_
        refine own_by (u' := T0.setTop (mkF m 31 #[.val (.int x1), .val (.int x2), .val (.int (-1 : Int32))] [(.int (97 : Int32)), (.int x1)])) (fun _ k => XS.bipush A0.here hx rfl (own_db hby d_prog_73_method_6_29) k) ?_
        by_cases hc11 : x1 < (97 : Int32)
        · refine own_by (u' := T0.setTop (mkF m 51 #[.val (.int x1), .val (.int x2), .val (.int (-1 : Int32))] [])) (fun _ k => XS.icmpYes A0.here hx rfl (pc0 := 31) (pc' := 51) rfl (own_db hby d_prog_73_method_6_31) rfl (tlt hc11).1 (by decide) (by decide) k) ?_
          refine own_by (u' := T0.setTop (mkF m 52 #[.val (.int x1), .val (.int x2), .val (.int (-1 : Int32))] [(.int x2)])) (fun _ k => XS.iloadN A0.here hx rfl (own_db hby d_prog_73_method_6_51) rfl k) ?_
          refine own_by (u' := T0.setTop (mkF m 54 #[.val (.int x1), .val (.int x2), .val (.int (-1 : Int32))] [(.int (16 : Int32)), (.int x2)])) (fun _ k => XS.bipush A0.here hx rfl (own_db hby d_prog_73_method_6_52) k) ?_
          refine own_by (u' := T0.setTop (mkF m 57 #[.val (.int x1), .val (.int x2), .val (.int (-1 : Int32))] [])) (fun _ k => XS.icmpNo A0.here hx rfl (own_db hby d_prog_73_method_6_54) rfl (teq hc10).2 k) ?_
          refine own_by (u' := T0.setTop (mkF m 58 #[.val (.int x1), .val (.int x2), .val (.int (-1 : Int32))] [(.int x1)])) (fun _ k => XS.iloadN A0.here hx rfl (own_db hby d_prog_73_method_6_57) rfl k) ?_
          refine own_by (u' := T0.setTop (mkF m 60 #[.val (.int x1), .val (.int x2), .val (.int (-1 : Int32))] [(.int (65 : Int32)), (.int x1)])) (fun _ k => XS.bipush A0.here hx rfl (own_db hby d_prog_73_method_6_58) k) ?_
          by_cases hc12 : x1 < (65 : Int32)
          · refine own_by (u' := T0.setTop (mkF m 77 #[.val (.int x1), .val (.int x2), .val (.int (-1 : Int32))] [])) (fun _ k => XS.icmpYes A0.here hx rfl (pc0 := 60) (pc' := 77) rfl (own_db hby d_prog_73_method_6_60) rfl (tlt hc12).1 (by decide) (by decide) k) ?_
            refine own_by (u' := T0.setTop (mkF m 78 #[.val (.int x1), .val (.int x2), .val (.int (-1 : Int32))] [(.int (-1 : Int32))])) (fun _ k => XS.iloadN A0.here hx rfl (own_db hby d_prog_73_method_6_77) rfl k) ?_
            exact own_retI A0 hx hlk hret (own_db hby d_prog_73_method_6_78) (by decide) (by decide) ⟨by rw [show f1 x1 x2 = (-1 : Int32) from by unfold f1; simp only [if_neg hc1, if_pos hc9, if_pos hc10, if_pos hc11, if_pos hc12]] <;> rfl, rfl⟩
          · refine own_by (u' := T0.setTop (mkF m 63 #[.val (.int x1), .val (.int x2), .val (.int (-1 : Int32))] [])) (fun _ k => XS.icmpNo A0.here hx rfl (own_db hby d_prog_73_method_6_60) rfl (flt hc12).1 k) ?_
            refine own_by (u' := T0.setTop (mkF m 64 #[.val (.int x1), .val (.int x2), .val (.int (-1 : Int32))] [(.int x1)])) (fun _ k => XS.iloadN A0.here hx rfl (own_db hby d_prog_73_method_6_63) rfl k) ?_
            refine own_by (u' := T0.setTop (mkF m 66 #[.val (.int x1), .val (.int x2), .val (.int (-1 : Int32))] [(.int (70 : Int32)), (.int x1)])) (fun _ k => XS.bipush A0.here hx rfl (own_db hby d_prog_73_method_6_64) k) ?_
            by_cases hc13 : (70 : Int32) < x1
            · refine own_by (u' := T0.setTop (mkF m 77 #[.val (.int x1), .val (.int x2), .val (.int (-1 : Int32))] [])) (fun _ k => XS.icmpYes A0.here hx rfl (pc0 := 66) (pc' := 77) rfl (own_db hby d_prog_73_method_6_66) rfl (tlt hc13).2.2.1 (by decide) (by decide) k) ?_
              refine own_by (u' := T0.setTop (mkF m 78 #[.val (.int x1), .val (.int x2), .val (.int (-1 : Int32))] [(.int (-1 : Int32))])) (fun _ k => XS.iloadN A0.here hx rfl (own_db hby d_prog_73_method_6_77) rfl k) ?_
              exact own_retI A0 hx hlk hret (own_db hby d_prog_73_method_6_78) (by decide) (by decide) ⟨by rw [show f1 x1 x2 = (-1 : Int32) from by unfold f1; simp only [if_neg hc1, if_pos hc9, if_pos hc10, if_pos hc11, if_neg hc12, if_pos hc13]] <;> rfl, rfl⟩
            · refine own_by (u' := T0.setTop (mkF m 69 #[.val (.int x1), .val (.int x2), .val (.int (-1 : Int32))] [])) (fun _ k => XS.icmpNo A0.here hx rfl (own_db hby d_prog_73_method_6_66) rfl (flt hc13).2.2.1 k) ?_
              refine own_by (u' := T0.setTop (mkF m 70 #[.val (.int x1), .val (.int x2), .val (.int (-1 : Int32))] [(.int x1)])) (fun _ k => XS.iloadN A0.here hx rfl (own_db hby d_prog_73_method_6_69) rfl k) ?_
              refine own_by (u' := T0.setTop (mkF m 72 #[.val (.int x1), .val (.int x2), .val (.int (-1 : Int32))] [(.int (65 : Int32)), (.int x1)])) (fun _ k => XS.bipush A0.here hx rfl (own_db hby d_prog_73_method_6_70) k) ?_
              refine own_by (u' := T0.setTop (mkF m 73 #[.val (.int x1), .val (.int x2), .val (.int (-1 : Int32))] [(.int (x1 - (65 : Int32)))])) (fun _ k => XS.isub A0.here hx rfl (own_db hby d_prog_73_method_6_72) rfl k) ?_
              refine own_by (u' := T0.setTop (mkF m 75 #[.val (.int x1), .val (.int x2), .val (.int (-1 : Int32))] [(.int (10 : Int32)), (.int (x1 - (65 : Int32)))])) (fun _ k => XS.bipush A0.here hx rfl (own_db hby d_prog_73_method_6_73) k) ?_
              refine own_by (u' := T0.setTop (mkF m 76 #[.val (.int x1), .val (.int x2), .val (.int (-1 : Int32))] [(.int ((x1 - (65 : Int32)) + (10 : Int32)))])) (fun _ k => XS.iadd A0.here hx rfl (own_db hby d_prog_73_method_6_75) rfl k) ?_
              refine own_by (u' := T0.setTop (mkF m 77 #[.val (.int x1), .val (.int x2), .val (.int ((x1 - (65 : Int32)) + (10 : Int32)))] [])) (fun _ k => XS.istoreN A0.here hx rfl (own_db hby d_prog_73_method_6_76) rfl (l' := #[.val (.int x1), .val (.int x2), .val (.int ((x1 - (65 : Int32)) + (10 : Int32)))]) rfl k) ?_
              refine own_by (u' := T0.setTop (mkF m 78 #[.val (.int x1), .val (.int x2), .val (.int ((x1 - (65 : Int32)) + (10 : Int32)))] [(.int ((x1 - (65 : Int32)) + (10 : Int32)))])) (fun _ k => XS.iloadN A0.here hx rfl (own_db hby d_prog_73_method_6_77) rfl k) ?_
              exact own_retI A0 hx hlk hret (own_db hby d_prog_73_method_6_78) (by decide) (by decide) ⟨by rw [show f1 x1 x2 = ((x1 - (65 : Int32)) + (10 : Int32)) from by unfold f1; simp only [if_neg hc1, if_pos hc9, if_pos hc10, if_pos hc11, if_neg hc12, if_neg hc13]] <;> rfl, rfl⟩
        · refine own_by (u' := T0.setTop (mkF m 34 #[.val (.int x1), .val (.int x2), .val (.int (-1 : Int32))] [])) (fun _ k => XS.icmpNo A0.here hx rfl (own_db hby d_prog_73_method_6_31) rfl (flt hc11).1 k) ?_
          refine own_by (u' := T0.setTop (mkF m 35 #[.val (.int x1), .val (.int x2), .val (.int (-1 : Int32))] [(.int x1)])) (fun _ k => XS.iloadN A0.here hx rfl (own_db hby d_prog_73_method_6_34) rfl k) ?_
          refine own_by (u' := T0.setTop (mkF m 37 #[.val (.int x1), .val (.int x2), .val (.int (-1 : Int32))] [(.int (102 : Int32)), (.int x1)])) (fun _ k => XS.bipush A0.here hx rfl (own_db hby d_prog_73_method_6_35) k) ?_
          by_cases hc14 : (102 : Int32) < x1
          · refine own_by (u' := T0.setTop (mkF m 51 #[.val (.int x1), .val (.int x2), .val (.int (-1 : Int32))] [])) (fun _ k => XS.icmpYes A0.here hx rfl (pc0 := 37) (pc' := 51) rfl (own_db hby d_prog_73_method_6_37) rfl (tlt hc14).2.2.1 (by decide) (by decide) k) ?_
            refine own_by (u' := T0.setTop (mkF m 52 #[.val (.int x1), .val (.int x2), .val (.int (-1 : Int32))] [(.int x2)])) (fun _ k => XS.iloadN A0.here hx rfl (own_db hby d_prog_73_method_6_51) rfl k) ?_
            refine own_by (u' := T0.setTop (mkF m 54 #[.val (.int x1), .val (.int x2), .val (.int (-1 : Int32))] [(.int (16 : Int32)), (.int x2)])) (fun _ k => XS.bipush A0.here hx rfl (own_db hby d_prog_73_method_6_52) k) ?_
            refine own_by (u' := T0.setTop (mkF m 57 #[.val (.int x1), .val (.int x2), .val (.int (-1 : Int32))] [])) (fun _ k => XS.icmpNo A0.here hx rfl (own_db hby d_prog_73_method_6_54) rfl (teq hc10).2 k) ?_
            refine own_by (u' := T0.setTop (mkF m 58 #[.val (.int x1), .val (.int x2), .val (.int (-1 : Int32))] [(.int x1)])) (fun _ k => XS.iloadN A0.here hx rfl (own_db hby d_prog_73_method_6_57) rfl k) ?_
            refine own_by (u' := T0.setTop (mkF m 60 #[.val (.int x1), .val (.int x2), .val (.int (-1 : Int32))] [(.int (65 : Int32)), (.int x1)])) (fun _ k => XS.bipush A0.here hx rfl (own_db hby d_prog_73_method_6_58) k) ?_
            by_cases hc15 : x1 < (65 : Int32)
            · refine own_by (u' := T0.setTop (mkF m 77 #[.val (.int x1), .val (.int x2), .val (.int (-1 : Int32))] [])) (fun _ k => XS.icmpYes A0.here hx rfl (pc0 := 60) (pc' := 77) rfl (own_db hby d_prog_73_method_6_60) rfl (tlt hc15).1 (by decide) (by decide) k) ?_
              refine own_by (u' := T0.setTop (mkF m 78 #[.val (.int x1), .val (.int x2), .val (.int (-1 : Int32))] [(.int (-1 : Int32))])) (fun _ k => XS.iloadN A0.here hx rfl (own_db hby d_prog_73_method_6_77) rfl k) ?_
              exact own_retI A0 hx hlk hret (own_db hby d_prog_73_method_6_78) (by decide) (by decide) ⟨by rw [show f1 x1 x2 = (-1 : Int32) from by unfold f1; simp only [if_neg hc1, if_pos hc9, if_pos hc10, if_neg hc11, if_pos hc14, if_pos hc15]] <;> rfl, rfl⟩
            · refine own_by (u' := T0.setTop (mkF m 63 #[.val (.int x1), .val (.int x2), .val (.int (-1 : Int32))] [])) (fun _ k => XS.icmpNo A0.here hx rfl (own_db hby d_prog_73_method_6_60) rfl (flt hc15).1 k) ?_
              refine own_by (u' := T0.setTop (mkF m 64 #[.val (.int x1), .val (.int x2), .val (.int (-1 : Int32))] [(.int x1)])) (fun _ k => XS.iloadN A0.here hx rfl (own_db hby d_prog_73_method_6_63) rfl k) ?_
              refine own_by (u' := T0.setTop (mkF m 66 #[.val (.int x1), .val (.int x2), .val (.int (-1 : Int32))] [(.int (70 : Int32)), (.int x1)])) (fun _ k => XS.bipush A0.here hx rfl (own_db hby d_prog_73_method_6_64) k) ?_
              by_cases hc16 : (70 : Int32) < x1
              · refine own_by (u' := T0.setTop (mkF m 77 #[.val (.int x1), .val (.int x2), .val (.int (-1 : Int32))] [])) (fun _ k => XS.icmpYes A0.here hx rfl (pc0 := 66) (pc' := 77) rfl (own_db hby d_prog_73_method_6_66) rfl (tlt hc16).2.2.1 (by decide) (by decide) k) ?_
                refine own_by (u' := T0.setTop (mkF m 78 #[.val (.int x1), .val (.int x2), .val (.int (-1 : Int32))] [(.int (-1 : Int32))])) (fun _ k => XS.iloadN A0.here hx rfl (own_db hby d_prog_73_method_6_77) rfl k) ?_
                exact own_retI A0 hx hlk hret (own_db hby d_prog_73_method_6_78) (by decide) (by decide) ⟨by rw [show f1 x1 x2 = (-1 : Int32) from by unfold f1; simp only [if_neg hc1, if_pos hc9, if_pos hc10, if_neg hc11, if_pos hc14, if_neg hc15, if_pos hc16]] <;> rfl, rfl⟩
              · refine own_by (u' := T0.setTop (mkF m 69 #[.val (.int x1), .val (.int x2), .val (.int (-1 : Int32))] [])) (fun _ k => XS.icmpNo A0.here hx rfl (own_db hby d_prog_73_method_6_66) rfl (flt hc16).2.2.1 k) ?_
                refine own_by (u' := T0.setTop (mkF m 70 #[.val (.int x1), .val (.int x2), .val (.int (-1 : Int32))] [(.int x1)])) (fun _ k => XS.iloadN A0.here hx rfl (own_db hby d_prog_73_method_6_69) rfl k) ?_
                refine own_by (u' := T0.setTop (mkF m 72 #[.val (.int x1), .val (.int x2), .val (.int (-1 : Int32))] [(.int (65 : Int32)), (.int x1)])) (fun _ k => XS.bipush A0.here hx rfl (own_db hby d_prog_73_method_6_70) k) ?_
                refine own_by (u' := T0.setTop (mkF m 73 #[.val (.int x1), .val (.int x2), .val (.int (-1 : Int32))] [(.int (x1 - (65 : Int32)))])) (fun _ k => XS.isub A0.here hx rfl (own_db hby d_prog_73_method_6_72) rfl k) ?_
                refine own_by (u' := T0.setTop (mkF m 75 #[.val (.int x1), .val (.int x2), .val (.int (-1 : Int32))] [(.int (10 : Int32)), (.int (x1 - (65 : Int32)))])) (fun _ k => XS.bipush A0.here hx rfl (own_db hby d_prog_73_method_6_73) k) ?_
                refine own_by (u' := T0.setTop (mkF m 76 #[.val (.int x1), .val (.int x2), .val (.int (-1 : Int32))] [(.int ((x1 - (65 : Int32)) + (10 : Int32)))])) (fun _ k => XS.iadd A0.here hx rfl (own_db hby d_prog_73_method_6_75) rfl k) ?_
                refine own_by (u' := T0.setTop (mkF m 77 #[.val (.int x1), .val (.int x2), .val (.int ((x1 - (65 : Int32)) + (10 : Int32)))] [])) (fun _ k => XS.istoreN A0.here hx rfl (own_db hby d_prog_73_method_6_76) rfl (l' := #[.val (.int x1), .val (.int x2), .val (.int ((x1 - (65 : Int32)) + (10 : Int32)))]) rfl k) ?_
                refine own_by (u' := T0.setTop (mkF m 78 #[.val (.int x1), .val (.int x2), .val (.int ((x1 - (65 : Int32)) + (10 : Int32)))] [(.int ((x1 - (65 : Int32)) + (10 : Int32)))])) (fun _ k => XS.iloadN A0.here hx rfl (own_db hby d_prog_73_method_6_77) rfl k) ?_
                exact own_retI A0 hx hlk hret (own_db hby d_prog_73_method_6_78) (by decide) (by decide) ⟨by rw [show f1 x1 x2 = ((x1 - (65 : Int32)) + (10 : Int32)) from by unfold f1; simp only [if_neg hc1, if_pos hc9, if_pos hc10, if_neg hc11, if_pos hc14, if_neg hc15, if_neg hc16]] <;> rfl, rfl⟩
          · refine own_by (u' := T0.setTop (mkF m 40 #[.val (.int x1), .val (.int x2), .val (.int (-1 : Int32))] [])) (fun _ k => XS.icmpNo A0.here hx rfl (own_db hby d_prog_73_method_6_37) rfl (flt hc14).2.2.1 k) ?_
            refine own_by (u' := T0.setTop (mkF m 41 #[.val (.int x1), .val (.int x2), .val (.int (-1 : Int32))] [(.int x1)])) (fun _ k => XS.iloadN A0.here hx rfl (own_db hby d_prog_73_method_6_40) rfl k) ?_
            refine own_by (u' := T0.setTop (mkF m 43 #[.val (.int x1), .val (.int x2), .val (.int (-1 : Int32))] [(.int (97 : Int32)), (.int x1)])) (fun _ k => XS.bipush A0.here hx rfl (own_db hby d_prog_73_method_6_41) k) ?_
            refine own_by (u' := T0.setTop (mkF m 44 #[.val (.int x1), .val (.int x2), .val (.int (-1 : Int32))] [(.int (x1 - (97 : Int32)))])) (fun _ k => XS.isub A0.here hx rfl (own_db hby d_prog_73_method_6_43) rfl k) ?_
            refine own_by (u' := T0.setTop (mkF m 46 #[.val (.int x1), .val (.int x2), .val (.int (-1 : Int32))] [(.int (10 : Int32)), (.int (x1 - (97 : Int32)))])) (fun _ k => XS.bipush A0.here hx rfl (own_db hby d_prog_73_method_6_44) k) ?_
            refine own_by (u' := T0.setTop (mkF m 47 #[.val (.int x1), .val (.int x2), .val (.int (-1 : Int32))] [(.int ((x1 - (97 : Int32)) + (10 : Int32)))])) (fun _ k => XS.iadd A0.here hx rfl (own_db hby d_prog_73_method_6_46) rfl k) ?_
            refine own_by (u' := T0.setTop (mkF m 48 #[.val (.int x1), .val (.int x2), .val (.int ((x1 - (97 : Int32)) + (10 : Int32)))] [])) (fun _ k => XS.istoreN A0.here hx rfl (own_db hby d_prog_73_method_6_47) rfl (l' := #[.val (.int x1), .val (.int x2), .val (.int ((x1 - (97 : Int32)) + (10 : Int32)))]) rfl k) ?_
            refine own_by (u' := T0.setTop (mkF m 77 #[.val (.int x1), .val (.int x2), .val (.int ((x1 - (97 : Int32)) + (10 : Int32)))] [])) (fun _ k => XS.goto A0.here hx rfl (pc0 := 48) (pc' := 77) rfl (own_db hby d_prog_73_method_6_48) (by decide) (by decide) k) ?_
            refine own_by (u' := T0.setTop (mkF m 78 #[.val (.int x1), .val (.int x2), .val (.int ((x1 - (97 : Int32)) + (10 : Int32)))] [(.int ((x1 - (97 : Int32)) + (10 : Int32)))])) (fun _ k => XS.iloadN A0.here hx rfl (own_db hby d_prog_73_method_6_77) rfl k) ?_
            exact own_retI A0 hx hlk hret (own_db hby d_prog_73_method_6_78) (by decide) (by decide) ⟨by rw [show f1 x1 x2 = ((x1 - (97 : Int32)) + (10 : Int32)) from by unfold f1; simp only [if_neg hc1, if_pos hc9, if_pos hc10, if_neg hc11, if_neg hc14]] <;> rfl, rfl⟩
      · refine own_by (u' := T0.setTop (mkF m 51 #[.val (.int x1), .val (.int x2), .val (.int (-1 : Int32))] [])) (fun _ k => XS.icmpYes A0.here hx rfl (pc0 := 25) (pc' := 51) rfl (own_db hby d_prog_73_method_6_25) rfl (feq hc10).2 (by decide) (by decide) k) ?_
        refine own_by (u' := T0.setTop (mkF m 52 #[.val (.int x1), .val (.int x2), .val (.int (-1 : Int32))] [(.int x2)])) (fun _ k => XS.iloadN A0.here hx rfl (own_db hby d_prog_73_method_6_51) rfl k) ?_
        refine own_by (u' := T0.setTop (mkF m 54 #[.val (.int x1), .val (.int x2), .val (.int (-1 : Int32))] [(.int (16 : Int32)), (.int x2)])) (fun _ k => XS.bipush A0.here hx rfl (own_db hby d_prog_73_method_6_52) k) ?_
        refine own_by (u' := T0.setTop (mkF m 77 #[.val (.int x1), .val (.int x2), .val (.int (-1 : Int32))] [])) (fun _ k => XS.icmpYes A0.here hx rfl (pc0 := 54) (pc' := 77) rfl (own_db hby d_prog_73_method_6_54) rfl (feq hc10).2 (by decide) (by decide) k) ?_
        refine own_by (u' := T0.setTop (mkF m 78 #[.val (.int x1), .val (.int x2), .val (.int (-1 : Int32))] [(.int (-1 : Int32))])) (fun _ k => XS.iloadN A0.here hx rfl (own_db hby d_prog_73_method_6_77) rfl k) ?_
        exact own_retI A0 hx hlk hret (own_db hby d_prog_73_method_6_78) (by decide) (by decide) ⟨by rw [show f1 x1 x2 = (-1 : Int32) from by unfold f1; simp only [if_neg hc1, if_pos hc9, if_neg hc10]] <;> rfl, rfl⟩
    · refine own_by (u' := T0.setTop (mkF m 14 #[.val (.int x1), .val (.int x2), .val (.int (-1 : Int32))] [])) (fun _ k => XS.icmpNo A0.here hx rfl (own_db hby d_prog_73_method_6_11) rfl (flt hc9).2.2.1 k) ?_
      refine own_by (u' := T0.setTop (mkF m 15 #[.val (.int x1), .val (.int x2), .val (.int (-1 : Int32))] [(.int x1)])) (fun _ k => XS.iloadN A0.here hx rfl (own_db hby d_prog_73_method_6_14) rfl k) ?_
      refine own_by (u' := T0.setTop (mkF m 17 #[.val (.int x1), .val (.int x2), .val (.int (-1 : Int32))] [(.int (48 : Int32)), (.int x1)])) (fun _ k => XS.bipush A0.here hx rfl (own_db hby d_prog_73_method_6_15) k) ?_
      refine own_by (u' := T0.setTop (mkF m 18 #[.val (.int x1), .val (.int x2), .val (.int (-1 : Int32))] [(.int (x1 - (48 : Int32)))])) (fun _ k => XS.isub A0.here hx rfl (own_db hby d_prog_73_method_6_17) rfl k) ?_
      refine own_by (u' := T0.setTop (mkF m 19 #[.val (.int x1), .val (.int x2), .val (.int (x1 - (48 : Int32)))] [])) (fun _ k => XS.istoreN A0.here hx rfl (own_db hby d_prog_73_method_6_18) rfl (l' := #[.val (.int x1), .val (.int x2), .val (.int (x1 - (48 : Int32)))]) rfl k) ?_
      refine own_by (u' := T0.setTop (mkF m 77 #[.val (.int x1), .val (.int x2), .val (.int (x1 - (48 : Int32)))] [])) (fun _ k => XS.goto A0.here hx rfl (pc0 := 19) (pc' := 77) rfl (own_db hby d_prog_73_method_6_19) (by decide) (by decide) k) ?_
      refine own_by (u' := T0.setTop (mkF m 78 #[.val (.int x1), .val (.int x2), .val (.int (x1 - (48 : Int32)))] [(.int (x1 - (48 : Int32)))])) (fun _ k => XS.iloadN A0.here hx rfl (own_db hby d_prog_73_method_6_77) rfl k) ?_
      exact own_retI A0 hx hlk hret (own_db hby d_prog_73_method_6_78) (by decide) (by decide) ⟨by rw [show f1 x1 x2 = (x1 - (48 : Int32)) from by unfold f1; simp only [if_neg hc1, if_neg hc9]] <;> rfl, rfl⟩
def f2 (x1 x2 : Int32) : Int32 :=
  if (x1.toInt64 - (48 : Int64)) < (0 : Int64) then
    (if x2 = (16 : Int32) then (if ((x1.toInt64 ||| (32 : Int64)) - (97 : Int64)) < (0 : Int64) then -1 else if (5 : Int64) < ((x1.toInt64 ||| (32 : Int64)) - (97 : Int64)) then -1 else ((x1.toInt64 ||| (32 : Int64)) - (97 : Int64)).toInt32 + 10) else -1)
  else if (9 : Int64) < (x1.toInt64 - (48 : Int64)) then
    (if x2 = (16 : Int32) then (if ((x1.toInt64 ||| (32 : Int64)) - (97 : Int64)) < (0 : Int64) then -1 else if (5 : Int64) < ((x1.toInt64 ||| (32 : Int64)) - (97 : Int64)) then -1 else ((x1.toInt64 ||| (32 : Int64)) - (97 : Int64)).toInt32 + 10) else -1)
  else (x1.toInt64 - (48 : Int64)).toInt32
theorem own_wor (c : Int32) : c.toInt64 ||| (32 : Int64) = (c ||| (32 : Int32)).toInt64 := by
  rw [Int32.toInt64_or]; rfl
set_option maxHeartbeats 40000000 in
theorem own_same (c r : Int32) : f1 c r = f2 c r := by
  have b := rng32 c
  have o := own_or32 c
  have a := c_iadd c 32
  have e32 : (32 : Int32).toInt = 32 := rfl
  have bo := rng32 (c ||| 32)
  have s1 := c_lsub (c ||| 32).toInt64 97
  have s2 := c_lsub c.toInt64 48
  have b1 := rng64 ((c ||| 32).toInt64 - 97)
  have b2 := rng64 (c.toInt64 - 48)
  have t1 := c_l2i ((c ||| 32).toInt64 - 97)
  have t2 := c_l2i (c.toInt64 - 48)
  have t3 := c_iadd ((c ||| 32).toInt64 - 97).toInt32 10
  have u1 := rng32 ((c ||| 32).toInt64 - 97).toInt32
  have u2 := rng32 (c.toInt64 - 48).toInt32
  have u3 := rng32 (((c ||| 32).toInt64 - 97).toInt32 + 10)
  have v1 := c_isub c 48
  have v2 := c_isub c 97
  have v3 := c_isub c 65
  have v4 := c_iadd (c - 97) 10
  have v5 := c_iadd (c - 65) 10
  have z1 := rng32 (c - 48)
  have z2 := rng32 (c - 97)
  have z3 := rng32 (c - 65)
  have z4 := rng32 (c - 97 + 10)
  have z5 := rng32 (c - 65 + 10)
  have l97 : (97 : Int64).toInt = 97 := rfl
  have l48 : (48 : Int64).toInt = 48 := rfl
  have l5 : (5 : Int64).toInt = 5 := rfl
  have l9 : (9 : Int64).toInt = 9 := rfl
  have l0 : (0 : Int64).toInt = 0 := rfl
  have k1 : (65 : Int32).toInt = 65 := rfl
  have k2 : (70 : Int32).toInt = 70 := rfl
  have k3 : (97 : Int32).toInt = 97 := rfl
  have k4 : (102 : Int32).toInt = 102 := rfl
  have k5 : (48 : Int32).toInt = 48 := rfl
  have k6 : (57 : Int32).toInt = 57 := rfl
  have k7 : (10 : Int32).toInt = 10 := rfl
  have k8 : (-1 : Int32).toInt = -1 := rfl
  rw [c_i2l] at s1 s2
  have oo2 : c.toInt / 32 % 2 = 0 → ((c ||| 32).toInt - (c.toInt + 32)) % 4294967296 = 0 := fun q => by rw [o.2 q]; rw [e32] at a; exact a
  have oo3 : c.toInt / 32 % 2 = 1 → (c ||| 32).toInt = c.toInt := fun q => by rw [o.1 q]
  unfold f1 f2
  simp only [own_wor]
  simp only [Int32.lt_iff_toInt_lt, Int64.lt_iff_toInt_lt, l97, l48, l5, l9, l0, k1, k2, k3, k4, k5, k6, k7] at *
  clear o a
  by_cases hr : r = 16
  all_goals simp only [hr, if_true, if_false]
  all_goals repeat' split
  all_goals first | rfl | (exfalso; omega) | (apply Int32.toInt_inj.mp; omega)
theorem pd__II_I : parseMethodDescriptor "(II)I" = some ⟨[.int, .int], some .int⟩ := by decide +kernel
theorem pf_g0 : plainFor x = true := by first | exact plainFor_of_name (by first | (simp [plainName, overriddenIn]; done) | decide +kernel) | decide +kernel
theorem ef_g0 (m : MethodId) (x1 : Int32) (x2 : Int32) : entryFrame m #[(.int x1), (.int x2)] maxLocals = (mkF m 0 #[.val (.int x1), .val (.int x2), .unset, .unset, .unset, .unset, .unset, .unset, .unset] []) := by first | (simp [entryFrame, mkF, argsToLocals, Value.category, maxLocals]; done) | rfl
set_option maxRecDepth 65536 in
set_option maxHeartbeats 40000000 in
theorem g0 (l : Launch) (Z : State) (a0 : Array Value) (hw : ∀ d ∈ tables_1, d.before a0 Z = true) (n0 : Nat) (x1 : Int32) (x2 : Int32)  :
    own_met l Z n0 x code maxLocals ret room_1 #[(.int x1), (.int x2)] [] (fun v _ => v = some (.int 1) ∧ True) := by
  refine own_met.of pf_g0 ?_
  intro p e s m below meth c T0 hx hby hml hret hlk hZ hown hnm A0
  replace hown : s.vm.findClass "com/example/oropendola/oropendola/format/NamesDigitPinLaw" = some m.cls := hown
  replace hml : c.maxLocals = 9 := hml
  rw [ef_g0 m x1 x2]
  show own_go _ _ _ _ _ _ _ (T0.setTop (mkF m 0 #[.val (.int x1), .val (.int x2), .unset, .unset, .unset, .unset, .unset, .unset, .unset] []))
  refine own_by (u' := T0.setTop (mkF m 1 #[.val (.int x1), .val (.int x2), .unset, .unset, .unset, .unset, .unset, .unset, .unset] [(.int x2)])) (fun _ k => XS.iloadN A0.here hx rfl (own_db hby at_0) rfl k) ?_
  refine own_by (u' := T0.setTop (mkF m 2 #[.val (.int x1), .val (.int x2), .unset, .unset, .unset, .unset, .unset, .unset, .unset] [(.int (2 : Int32)), (.int x2)])) (fun _ k => XS.iconst A0.here hx rfl (own_db hby at_1) k) ?_
  refine own_by (u' := T0.setTop (mkF m 3 #[.val (.int x1), .val (.int x2), .unset, .unset, .unset, .unset, .unset, .unset, .unset] [(.int (x2 &&& (2 : Int32)))])) (fun _ k => XS.iand A0.here hx rfl (own_db hby at_2) rfl k) ?_
  have J1 : ∀ (T2 : State) (nx : Int32), own_at p l e room_1 s m #[(.int x1), (.int x2)] below meth c n0 T2 0 0 [] → own_go p e room_1 s below n0 (fun v _ => v = some (.int 1) ∧ True) (T2.setTop (mkF m 14 #[.val (.int x1), .val (.int x2), .unset, .unset, .unset, .unset, .unset, .unset, .unset] [(.int nx)])) := by
    intro T2 nx A3 
    refine own_by (u' := T2.setTop (mkF m 15 #[.val (.int x1), .val (.int x2), .val (.int nx), .unset, .unset, .unset, .unset, .unset, .unset] [])) (fun _ k => XS.istoreN A3.here hx rfl (own_db hby at_14) rfl (l' := #[.val (.int x1), .val (.int x2), .val (.int nx), .unset, .unset, .unset, .unset, .unset, .unset]) rfl k) ?_
    refine own_by (u' := T2.setTop (mkF m 16 #[.val (.int x1), .val (.int x2), .val (.int nx), .unset, .unset, .unset, .unset, .unset, .unset] [(.int x2)])) (fun _ k => XS.iloadN A3.here hx rfl (own_db hby at_15) rfl k) ?_
    refine own_by (u' := T2.setTop (mkF m 17 #[.val (.int x1), .val (.int x2), .val (.int nx), .unset, .unset, .unset, .unset, .unset, .unset] [(.int (1 : Int32)), (.int x2)])) (fun _ k => XS.iconst A3.here hx rfl (own_db hby at_16) k) ?_
    refine own_by (u' := T2.setTop (mkF m 18 #[.val (.int x1), .val (.int x2), .val (.int nx), .unset, .unset, .unset, .unset, .unset, .unset] [(.int (x2 &&& (1 : Int32)))])) (fun _ k => XS.iand A3.here hx rfl (own_db hby at_17) rfl k) ?_
    have J4 : ∀ (T5 : State) (rx : Int32), own_at p l e room_1 s m #[(.int x1), (.int x2)] below meth c n0 T5 0 0 [] → own_go p e room_1 s below n0 (fun v _ => v = some (.int 1) ∧ True) (T5.setTop (mkF m 28 #[.val (.int x1), .val (.int x2), .val (.int nx), .unset, .unset, .unset, .unset, .unset, .unset] [(.int rx)])) := by
      intro T5 rx A6 
      refine own_by (u' := T5.setTop (mkF m 29 #[.val (.int x1), .val (.int x2), .val (.int nx), .val (.int rx), .unset, .unset, .unset, .unset, .unset] [])) (fun _ k => XS.istoreN A6.here hx rfl (own_db hby at_28) rfl (l' := #[.val (.int x1), .val (.int x2), .val (.int nx), .val (.int rx), .unset, .unset, .unset, .unset, .unset]) rfl k) ?_
      refine own_by (u' := T5.setTop (mkF m 30 #[.val (.int x1), .val (.int x2), .val (.int nx), .val (.int rx), .unset, .unset, .unset, .unset, .unset] [(.int (-1 : Int32))])) (fun _ k => XS.iconst A6.here hx rfl (own_db hby at_29) k) ?_
      refine own_by (u' := T5.setTop (mkF m 32 #[.val (.int x1), .val (.int x2), .val (.int nx), .val (.int rx), .val (.int (-1 : Int32)), .unset, .unset, .unset, .unset] [])) (fun _ k => XS.istore A6.here hx rfl (own_db hby at_30) rfl (l' := #[.val (.int x1), .val (.int x2), .val (.int nx), .val (.int rx), .val (.int (-1 : Int32)), .unset, .unset, .unset, .unset]) rfl k) ?_
      refine own_by (u' := T5.setTop (mkF m 33 #[.val (.int x1), .val (.int x2), .val (.int nx), .val (.int rx), .val (.int (-1 : Int32)), .unset, .unset, .unset, .unset] [(.int nx)])) (fun _ k => XS.iloadN A6.here hx rfl (own_db hby at_32) rfl k) ?_
      refine own_by (u' := T5.setTop (mkF m 34 #[.val (.int x1), .val (.int x2), .val (.int nx), .val (.int rx), .val (.int (-1 : Int32)), .unset, .unset, .unset, .unset] [(.long (nx.toInt64))])) (fun _ k => XS.i2l A6.here hx rfl (own_db hby at_33) rfl k) ?_
      refine own_ldcJ A6 hx hZ hown (hw _ (List.mem_of_getElem? (i := 0) rfl)) (own_db hby at_34) ?_
      show own_go _ _ _ _ _ _ _ (T5.setTop (mkF m 37 #[.val (.int x1), .val (.int x2), .val (.int nx), .val (.int rx), .val (.int (-1 : Int32)), .unset, .unset, .unset, .unset] [(.long (48 : Int64)), (.long (nx.toInt64))]))
      refine own_by (u' := T5.setTop (mkF m 38 #[.val (.int x1), .val (.int x2), .val (.int nx), .val (.int rx), .val (.int (-1 : Int32)), .unset, .unset, .unset, .unset] [(.long ((nx.toInt64) - (48 : Int64)))])) (fun _ k => XS.lsub A6.here hx rfl (own_db hby at_37) rfl k) ?_
      refine own_by (u' := T5.setTop (mkF m 40 #[.val (.int x1), .val (.int x2), .val (.int nx), .val (.int rx), .val (.int (-1 : Int32)), .val (.long ((nx.toInt64) - (48 : Int64))), .second, .unset, .unset] [])) (fun _ k => XS.lstore A6.here hx rfl (own_db hby at_38) rfl (l' := #[.val (.int x1), .val (.int x2), .val (.int nx), .val (.int rx), .val (.int (-1 : Int32)), .val (.long ((nx.toInt64) - (48 : Int64))), .second, .unset, .unset]) rfl k) ?_
      refine own_by (u' := T5.setTop (mkF m 41 #[.val (.int x1), .val (.int x2), .val (.int nx), .val (.int rx), .val (.int (-1 : Int32)), .val (.long ((nx.toInt64) - (48 : Int64))), .second, .unset, .unset] [(.int nx)])) (fun _ k => XS.iloadN A6.here hx rfl (own_db hby at_40) rfl k) ?_
      refine own_by (u' := T5.setTop (mkF m 42 #[.val (.int x1), .val (.int x2), .val (.int nx), .val (.int rx), .val (.int (-1 : Int32)), .val (.long ((nx.toInt64) - (48 : Int64))), .second, .unset, .unset] [(.long (nx.toInt64))])) (fun _ k => XS.i2l A6.here hx rfl (own_db hby at_41) rfl k) ?_
      refine own_ldcJ A6 hx hZ hown (hw _ (List.mem_of_getElem? (i := 1) rfl)) (own_db hby at_42) ?_
      show own_go _ _ _ _ _ _ _ (T5.setTop (mkF m 45 #[.val (.int x1), .val (.int x2), .val (.int nx), .val (.int rx), .val (.int (-1 : Int32)), .val (.long ((nx.toInt64) - (48 : Int64))), .second, .unset, .unset] [(.long (32 : Int64)), (.long (nx.toInt64))]))
      refine own_by (u' := T5.setTop (mkF m 46 #[.val (.int x1), .val (.int x2), .val (.int nx), .val (.int rx), .val (.int (-1 : Int32)), .val (.long ((nx.toInt64) - (48 : Int64))), .second, .unset, .unset] [(.long ((nx.toInt64) ||| (32 : Int64)))])) (fun _ k => XS.lor A6.here hx rfl (own_db hby at_45) rfl k) ?_
      refine own_ldcJ A6 hx hZ hown (hw _ (List.mem_of_getElem? (i := 2) rfl)) (own_db hby at_46) ?_
      show own_go _ _ _ _ _ _ _ (T5.setTop (mkF m 49 #[.val (.int x1), .val (.int x2), .val (.int nx), .val (.int rx), .val (.int (-1 : Int32)), .val (.long ((nx.toInt64) - (48 : Int64))), .second, .unset, .unset] [(.long (97 : Int64)), (.long ((nx.toInt64) ||| (32 : Int64)))]))
      refine own_by (u' := T5.setTop (mkF m 50 #[.val (.int x1), .val (.int x2), .val (.int nx), .val (.int rx), .val (.int (-1 : Int32)), .val (.long ((nx.toInt64) - (48 : Int64))), .second, .unset, .unset] [(.long (((nx.toInt64) ||| (32 : Int64)) - (97 : Int64)))])) (fun _ k => XS.lsub A6.here hx rfl (own_db hby at_49) rfl k) ?_
      refine own_by (u' := T5.setTop (mkF m 52 #[.val (.int x1), .val (.int x2), .val (.int nx), .val (.int rx), .val (.int (-1 : Int32)), .val (.long ((nx.toInt64) - (48 : Int64))), .second, .val (.long (((nx.toInt64) ||| (32 : Int64)) - (97 : Int64))), .second] [])) (fun _ k => XS.lstore A6.here hx rfl (own_db hby at_50) rfl (l' := #[.val (.int x1), .val (.int x2), .val (.int nx), .val (.int rx), .val (.int (-1 : Int32)), .val (.long ((nx.toInt64) - (48 : Int64))), .second, .val (.long (((nx.toInt64) ||| (32 : Int64)) - (97 : Int64))), .second]) rfl k) ?_
      refine own_by (u' := T5.setTop (mkF m 54 #[.val (.int x1), .val (.int x2), .val (.int nx), .val (.int rx), .val (.int (-1 : Int32)), .val (.long ((nx.toInt64) - (48 : Int64))), .second, .val (.long (((nx.toInt64) ||| (32 : Int64)) - (97 : Int64))), .second] [(.long ((nx.toInt64) - (48 : Int64)))])) (fun _ k => XS.lload A6.here hx rfl (own_db hby at_52) rfl k) ?_
      refine own_by (u' := T5.setTop (mkF m 55 #[.val (.int x1), .val (.int x2), .val (.int nx), .val (.int rx), .val (.int (-1 : Int32)), .val (.long ((nx.toInt64) - (48 : Int64))), .second, .val (.long (((nx.toInt64) ||| (32 : Int64)) - (97 : Int64))), .second] [(.long (0 : Int64)), (.long ((nx.toInt64) - (48 : Int64)))])) (fun _ k => XS.lconst A6.here hx rfl (own_db hby at_54) k) ?_
      refine own_by (u' := T5.setTop (mkF m 56 #[.val (.int x1), .val (.int x2), .val (.int nx), .val (.int rx), .val (.int (-1 : Int32)), .val (.long ((nx.toInt64) - (48 : Int64))), .second, .val (.long (((nx.toInt64) ||| (32 : Int64)) - (97 : Int64))), .second] [(.int (lcmpW ((nx.toInt64) - (48 : Int64)) (0 : Int64)))])) (fun _ k => XS.lcmp A6.here hx rfl (own_db hby at_55) rfl k) ?_
      by_cases hc7 : ((nx.toInt64) - (48 : Int64)) < (0 : Int64)
      · refine own_by (u' := T5.setTop (mkF m 76 #[.val (.int x1), .val (.int x2), .val (.int nx), .val (.int rx), .val (.int (-1 : Int32)), .val (.long ((nx.toInt64) - (48 : Int64))), .second, .val (.long (((nx.toInt64) ||| (32 : Int64)) - (97 : Int64))), .second] [])) (fun _ k => XS.ifYes A6.here hx rfl (pc0 := 56) (pc' := 76) rfl (own_db hby at_56) rfl ((if0 _ _).trans (tlt (own_lc_lt hc7)).1) (by decide) (by decide) k) ?_
        refine own_by (u' := T5.setTop (mkF m 77 #[.val (.int x1), .val (.int x2), .val (.int nx), .val (.int rx), .val (.int (-1 : Int32)), .val (.long ((nx.toInt64) - (48 : Int64))), .second, .val (.long (((nx.toInt64) ||| (32 : Int64)) - (97 : Int64))), .second] [(.int rx)])) (fun _ k => XS.iloadN A6.here hx rfl (own_db hby at_76) rfl k) ?_
        refine own_by (u' := T5.setTop (mkF m 79 #[.val (.int x1), .val (.int x2), .val (.int nx), .val (.int rx), .val (.int (-1 : Int32)), .val (.long ((nx.toInt64) - (48 : Int64))), .second, .val (.long (((nx.toInt64) ||| (32 : Int64)) - (97 : Int64))), .second] [(.int (16 : Int32)), (.int rx)])) (fun _ k => XS.bipush A6.here hx rfl (own_db hby at_77) k) ?_
        by_cases hc8 : rx = (16 : Int32)
        · refine own_by (u' := T5.setTop (mkF m 82 #[.val (.int x1), .val (.int x2), .val (.int nx), .val (.int rx), .val (.int (-1 : Int32)), .val (.long ((nx.toInt64) - (48 : Int64))), .second, .val (.long (((nx.toInt64) ||| (32 : Int64)) - (97 : Int64))), .second] [])) (fun _ k => XS.icmpNo A6.here hx rfl (own_db hby at_79) rfl (teq hc8).2 k) ?_
          refine own_by (u' := T5.setTop (mkF m 84 #[.val (.int x1), .val (.int x2), .val (.int nx), .val (.int rx), .val (.int (-1 : Int32)), .val (.long ((nx.toInt64) - (48 : Int64))), .second, .val (.long (((nx.toInt64) ||| (32 : Int64)) - (97 : Int64))), .second] [(.long (((nx.toInt64) ||| (32 : Int64)) - (97 : Int64)))])) (fun _ k => XS.lload A6.here hx rfl (own_db hby at_82) rfl k) ?_
          refine own_by (u' := T5.setTop (mkF m 85 #[.val (.int x1), .val (.int x2), .val (.int nx), .val (.int rx), .val (.int (-1 : Int32)), .val (.long ((nx.toInt64) - (48 : Int64))), .second, .val (.long (((nx.toInt64) ||| (32 : Int64)) - (97 : Int64))), .second] [(.long (0 : Int64)), (.long (((nx.toInt64) ||| (32 : Int64)) - (97 : Int64)))])) (fun _ k => XS.lconst A6.here hx rfl (own_db hby at_84) k) ?_
          refine own_by (u' := T5.setTop (mkF m 86 #[.val (.int x1), .val (.int x2), .val (.int nx), .val (.int rx), .val (.int (-1 : Int32)), .val (.long ((nx.toInt64) - (48 : Int64))), .second, .val (.long (((nx.toInt64) ||| (32 : Int64)) - (97 : Int64))), .second] [(.int (lcmpW (((nx.toInt64) ||| (32 : Int64)) - (97 : Int64)) (0 : Int64)))])) (fun _ k => XS.lcmp A6.here hx rfl (own_db hby at_85) rfl k) ?_
          by_cases hc9 : (((nx.toInt64) ||| (32 : Int64)) - (97 : Int64)) < (0 : Int64)
          · refine own_by (u' := T5.setTop (mkF m 106 #[.val (.int x1), .val (.int x2), .val (.int nx), .val (.int rx), .val (.int (-1 : Int32)), .val (.long ((nx.toInt64) - (48 : Int64))), .second, .val (.long (((nx.toInt64) ||| (32 : Int64)) - (97 : Int64))), .second] [])) (fun _ k => XS.ifYes A6.here hx rfl (pc0 := 86) (pc' := 106) rfl (own_db hby at_86) rfl ((if0 _ _).trans (tlt (own_lc_lt hc9)).1) (by decide) (by decide) k) ?_
            refine own_by (u' := T5.setTop (mkF m 107 #[.val (.int x1), .val (.int x2), .val (.int nx), .val (.int rx), .val (.int (-1 : Int32)), .val (.long ((nx.toInt64) - (48 : Int64))), .second, .val (.long (((nx.toInt64) ||| (32 : Int64)) - (97 : Int64))), .second] [(.int nx)])) (fun _ k => XS.iloadN A6.here hx rfl (own_db hby at_106) rfl k) ?_
            refine own_by (u' := T5.setTop (mkF m 108 #[.val (.int x1), .val (.int x2), .val (.int nx), .val (.int rx), .val (.int (-1 : Int32)), .val (.long ((nx.toInt64) - (48 : Int64))), .second, .val (.long (((nx.toInt64) ||| (32 : Int64)) - (97 : Int64))), .second] [(.int rx), (.int nx)])) (fun _ k => XS.iloadN A6.here hx rfl (own_db hby at_107) rfl k) ?_
            refine own_callS (y := (⟨"com/example/oropendola/oropendola/format/Names", "digit", "(II)I"⟩ : MethodName)) (rest := []) A6 hx hZ hown (hw _ (List.mem_of_getElem? (i := 3) rfl)) (hw _ (List.mem_of_getElem? (i := 4) rfl)) (hw _ (List.mem_of_getElem? (i := 5) rfl)) (hw _ (List.mem_of_getElem? (i := 6) rfl)) (by decide) (g1 l Z a0 hw n0 [] nx rx) (by rw [hml]; rfl) [(.int nx), (.int rx)] rfl rfl pd__II_I rfl (W := 0) (by show 2 * 0 + _ ≤ _; exact Nat.le_of_eq rfl) (own_db hby at_108) (by decide) (by decide) (by decide) (by decide) ?_
            intro v10 i11 T13 hq12 A14
            obtain ⟨rfl, he15⟩ := hq12
            rw [he15] at A14
            replace A14 : own_at p l e _ s m _ below meth c n0 T13 0 0 [] := A14
            show own_go _ _ _ _ _ _ _ (T13.setTop (mkF m 111 #[.val (.int x1), .val (.int x2), .val (.int nx), .val (.int rx), .val (.int (-1 : Int32)), .val (.long ((nx.toInt64) - (48 : Int64))), .second, .val (.long (((nx.toInt64) ||| (32 : Int64)) - (97 : Int64))), .second] [(.int (f1 nx rx))]))
            refine own_by (u' := T13.setTop (mkF m 113 #[.val (.int x1), .val (.int x2), .val (.int nx), .val (.int rx), .val (.int (-1 : Int32)), .val (.long ((nx.toInt64) - (48 : Int64))), .second, .val (.long (((nx.toInt64) ||| (32 : Int64)) - (97 : Int64))), .second] [(.int (-1 : Int32)), (.int (f1 nx rx))])) (fun _ k => XS.iload A14.here hx rfl (own_db hby at_111) rfl k) ?_
            refine own_by (u' := T13.setTop (mkF m 116 #[.val (.int x1), .val (.int x2), .val (.int nx), .val (.int rx), .val (.int (-1 : Int32)), .val (.long ((nx.toInt64) - (48 : Int64))), .second, .val (.long (((nx.toInt64) ||| (32 : Int64)) - (97 : Int64))), .second] [])) (fun _ k => XS.icmpNo A14.here hx rfl (own_db hby at_113) rfl (teq ((own_same nx rx).trans (show f2 nx rx = (-1 : Int32) from by unfold f2; simp only [if_pos hc7, if_pos hc8, if_pos hc9]; try rfl))).2 k) ?_
            refine own_by (u' := T13.setTop (mkF m 117 #[.val (.int x1), .val (.int x2), .val (.int nx), .val (.int rx), .val (.int (-1 : Int32)), .val (.long ((nx.toInt64) - (48 : Int64))), .second, .val (.long (((nx.toInt64) ||| (32 : Int64)) - (97 : Int64))), .second] [(.int (1 : Int32))])) (fun _ k => XS.iconst A14.here hx rfl (own_db hby at_116) k) ?_
            refine own_by (u' := T13.setTop (mkF m 121 #[.val (.int x1), .val (.int x2), .val (.int nx), .val (.int rx), .val (.int (-1 : Int32)), .val (.long ((nx.toInt64) - (48 : Int64))), .second, .val (.long (((nx.toInt64) ||| (32 : Int64)) - (97 : Int64))), .second] [(.int (1 : Int32))])) (fun _ k => XS.goto A14.here hx rfl (pc0 := 117) (pc' := 121) rfl (own_db hby at_117) (by decide) (by decide) k) ?_
            exact own_retN A14 hx hlk (t := .boolean) (by simp) hret (own_db hby at_121) (by decide) (by decide) ⟨rfl, trivial⟩
          · refine own_by (u' := T5.setTop (mkF m 89 #[.val (.int x1), .val (.int x2), .val (.int nx), .val (.int rx), .val (.int (-1 : Int32)), .val (.long ((nx.toInt64) - (48 : Int64))), .second, .val (.long (((nx.toInt64) ||| (32 : Int64)) - (97 : Int64))), .second] [])) (fun _ k => XS.ifNo A6.here hx rfl (own_db hby at_86) rfl ((if0 _ _).trans (flt (own_lc_nlt hc9)).1) k) ?_
            refine own_by (u' := T5.setTop (mkF m 91 #[.val (.int x1), .val (.int x2), .val (.int nx), .val (.int rx), .val (.int (-1 : Int32)), .val (.long ((nx.toInt64) - (48 : Int64))), .second, .val (.long (((nx.toInt64) ||| (32 : Int64)) - (97 : Int64))), .second] [(.long (((nx.toInt64) ||| (32 : Int64)) - (97 : Int64)))])) (fun _ k => XS.lload A6.here hx rfl (own_db hby at_89) rfl k) ?_
            refine own_ldcJ A6 hx hZ hown (hw _ (List.mem_of_getElem? (i := 8) rfl)) (own_db hby at_91) ?_
            show own_go _ _ _ _ _ _ _ (T5.setTop (mkF m 94 #[.val (.int x1), .val (.int x2), .val (.int nx), .val (.int rx), .val (.int (-1 : Int32)), .val (.long ((nx.toInt64) - (48 : Int64))), .second, .val (.long (((nx.toInt64) ||| (32 : Int64)) - (97 : Int64))), .second] [(.long (5 : Int64)), (.long (((nx.toInt64) ||| (32 : Int64)) - (97 : Int64)))]))
            refine own_by (u' := T5.setTop (mkF m 95 #[.val (.int x1), .val (.int x2), .val (.int nx), .val (.int rx), .val (.int (-1 : Int32)), .val (.long ((nx.toInt64) - (48 : Int64))), .second, .val (.long (((nx.toInt64) ||| (32 : Int64)) - (97 : Int64))), .second] [(.int (lcmpW (((nx.toInt64) ||| (32 : Int64)) - (97 : Int64)) (5 : Int64)))])) (fun _ k => XS.lcmp A6.here hx rfl (own_db hby at_94) rfl k) ?_
            by_cases hc16 : (5 : Int64) < (((nx.toInt64) ||| (32 : Int64)) - (97 : Int64))
            · refine own_by (u' := T5.setTop (mkF m 106 #[.val (.int x1), .val (.int x2), .val (.int nx), .val (.int rx), .val (.int (-1 : Int32)), .val (.long ((nx.toInt64) - (48 : Int64))), .second, .val (.long (((nx.toInt64) ||| (32 : Int64)) - (97 : Int64))), .second] [])) (fun _ k => XS.ifYes A6.here hx rfl (pc0 := 95) (pc' := 106) rfl (own_db hby at_95) rfl ((if0 _ _).trans (tlt (own_lc_gt hc16)).2.2.1) (by decide) (by decide) k) ?_
              refine own_by (u' := T5.setTop (mkF m 107 #[.val (.int x1), .val (.int x2), .val (.int nx), .val (.int rx), .val (.int (-1 : Int32)), .val (.long ((nx.toInt64) - (48 : Int64))), .second, .val (.long (((nx.toInt64) ||| (32 : Int64)) - (97 : Int64))), .second] [(.int nx)])) (fun _ k => XS.iloadN A6.here hx rfl (own_db hby at_106) rfl k) ?_
              refine own_by (u' := T5.setTop (mkF m 108 #[.val (.int x1), .val (.int x2), .val (.int nx), .val (.int rx), .val (.int (-1 : Int32)), .val (.long ((nx.toInt64) - (48 : Int64))), .second, .val (.long (((nx.toInt64) ||| (32 : Int64)) - (97 : Int64))), .second] [(.int rx), (.int nx)])) (fun _ k => XS.iloadN A6.here hx rfl (own_db hby at_107) rfl k) ?_
              refine own_callS (y := (⟨"com/example/oropendola/oropendola/format/Names", "digit", "(II)I"⟩ : MethodName)) (rest := []) A6 hx hZ hown (hw _ (List.mem_of_getElem? (i := 3) rfl)) (hw _ (List.mem_of_getElem? (i := 4) rfl)) (hw _ (List.mem_of_getElem? (i := 5) rfl)) (hw _ (List.mem_of_getElem? (i := 6) rfl)) (by decide) (g1 l Z a0 hw n0 [] nx rx) (by rw [hml]; rfl) [(.int nx), (.int rx)] rfl rfl pd__II_I rfl (W := 0) (by show 2 * 0 + _ ≤ _; exact Nat.le_of_eq rfl) (own_db hby at_108) (by decide) (by decide) (by decide) (by decide) ?_
              intro v17 i18 T20 hq19 A21
              obtain ⟨rfl, he22⟩ := hq19
              rw [he22] at A21
              replace A21 : own_at p l e _ s m _ below meth c n0 T20 0 0 [] := A21
              show own_go _ _ _ _ _ _ _ (T20.setTop (mkF m 111 #[.val (.int x1), .val (.int x2), .val (.int nx), .val (.int rx), .val (.int (-1 : Int32)), .val (.long ((nx.toInt64) - (48 : Int64))), .second, .val (.long (((nx.toInt64) ||| (32 : Int64)) - (97 : Int64))), .second] [(.int (f1 nx rx))]))
              refine own_by (u' := T20.setTop (mkF m 113 #[.val (.int x1), .val (.int x2), .val (.int nx), .val (.int rx), .val (.int (-1 : Int32)), .val (.long ((nx.toInt64) - (48 : Int64))), .second, .val (.long (((nx.toInt64) ||| (32 : Int64)) - (97 : Int64))), .second] [(.int (-1 : Int32)), (.int (f1 nx rx))])) (fun _ k => XS.iload A21.here hx rfl (own_db hby at_111) rfl k) ?_
              refine own_by (u' := T20.setTop (mkF m 116 #[.val (.int x1), .val (.int x2), .val (.int nx), .val (.int rx), .val (.int (-1 : Int32)), .val (.long ((nx.toInt64) - (48 : Int64))), .second, .val (.long (((nx.toInt64) ||| (32 : Int64)) - (97 : Int64))), .second] [])) (fun _ k => XS.icmpNo A21.here hx rfl (own_db hby at_113) rfl (teq ((own_same nx rx).trans (show f2 nx rx = (-1 : Int32) from by unfold f2; simp only [if_pos hc7, if_pos hc8, if_neg hc9, if_pos hc16]; try rfl))).2 k) ?_
              refine own_by (u' := T20.setTop (mkF m 117 #[.val (.int x1), .val (.int x2), .val (.int nx), .val (.int rx), .val (.int (-1 : Int32)), .val (.long ((nx.toInt64) - (48 : Int64))), .second, .val (.long (((nx.toInt64) ||| (32 : Int64)) - (97 : Int64))), .second] [(.int (1 : Int32))])) (fun _ k => XS.iconst A21.here hx rfl (own_db hby at_116) k) ?_
              refine own_by (u' := T20.setTop (mkF m 121 #[.val (.int x1), .val (.int x2), .val (.int nx), .val (.int rx), .val (.int (-1 : Int32)), .val (.long ((nx.toInt64) - (48 : Int64))), .second, .val (.long (((nx.toInt64) ||| (32 : Int64)) - (97 : Int64))), .second] [(.int (1 : Int32))])) (fun _ k => XS.goto A21.here hx rfl (pc0 := 117) (pc' := 121) rfl (own_db hby at_117) (by decide) (by decide) k) ?_
              exact own_retN A21 hx hlk (t := .boolean) (by simp) hret (own_db hby at_121) (by decide) (by decide) ⟨rfl, trivial⟩
            · refine own_by (u' := T5.setTop (mkF m 98 #[.val (.int x1), .val (.int x2), .val (.int nx), .val (.int rx), .val (.int (-1 : Int32)), .val (.long ((nx.toInt64) - (48 : Int64))), .second, .val (.long (((nx.toInt64) ||| (32 : Int64)) - (97 : Int64))), .second] [])) (fun _ k => XS.ifNo A6.here hx rfl (own_db hby at_95) rfl ((if0 _ _).trans (flt (own_lc_ngt hc16)).2.2.1) k) ?_
              refine own_by (u' := T5.setTop (mkF m 100 #[.val (.int x1), .val (.int x2), .val (.int nx), .val (.int rx), .val (.int (-1 : Int32)), .val (.long ((nx.toInt64) - (48 : Int64))), .second, .val (.long (((nx.toInt64) ||| (32 : Int64)) - (97 : Int64))), .second] [(.long (((nx.toInt64) ||| (32 : Int64)) - (97 : Int64)))])) (fun _ k => XS.lload A6.here hx rfl (own_db hby at_98) rfl k) ?_
              refine own_by (u' := T5.setTop (mkF m 101 #[.val (.int x1), .val (.int x2), .val (.int nx), .val (.int rx), .val (.int (-1 : Int32)), .val (.long ((nx.toInt64) - (48 : Int64))), .second, .val (.long (((nx.toInt64) ||| (32 : Int64)) - (97 : Int64))), .second] [(.int ((((nx.toInt64) ||| (32 : Int64)) - (97 : Int64)).toInt32))])) (fun _ k => XS.l2i A6.here hx rfl (own_db hby at_100) rfl k) ?_
              refine own_by (u' := T5.setTop (mkF m 103 #[.val (.int x1), .val (.int x2), .val (.int nx), .val (.int rx), .val (.int (-1 : Int32)), .val (.long ((nx.toInt64) - (48 : Int64))), .second, .val (.long (((nx.toInt64) ||| (32 : Int64)) - (97 : Int64))), .second] [(.int (10 : Int32)), (.int ((((nx.toInt64) ||| (32 : Int64)) - (97 : Int64)).toInt32))])) (fun _ k => XS.bipush A6.here hx rfl (own_db hby at_101) k) ?_
              refine own_by (u' := T5.setTop (mkF m 104 #[.val (.int x1), .val (.int x2), .val (.int nx), .val (.int rx), .val (.int (-1 : Int32)), .val (.long ((nx.toInt64) - (48 : Int64))), .second, .val (.long (((nx.toInt64) ||| (32 : Int64)) - (97 : Int64))), .second] [(.int (((((nx.toInt64) ||| (32 : Int64)) - (97 : Int64)).toInt32) + (10 : Int32)))])) (fun _ k => XS.iadd A6.here hx rfl (own_db hby at_103) rfl k) ?_
              refine own_by (u' := T5.setTop (mkF m 106 #[.val (.int x1), .val (.int x2), .val (.int nx), .val (.int rx), .val (.int (((((nx.toInt64) ||| (32 : Int64)) - (97 : Int64)).toInt32) + (10 : Int32))), .val (.long ((nx.toInt64) - (48 : Int64))), .second, .val (.long (((nx.toInt64) ||| (32 : Int64)) - (97 : Int64))), .second] [])) (fun _ k => XS.istore A6.here hx rfl (own_db hby at_104) rfl (l' := #[.val (.int x1), .val (.int x2), .val (.int nx), .val (.int rx), .val (.int (((((nx.toInt64) ||| (32 : Int64)) - (97 : Int64)).toInt32) + (10 : Int32))), .val (.long ((nx.toInt64) - (48 : Int64))), .second, .val (.long (((nx.toInt64) ||| (32 : Int64)) - (97 : Int64))), .second]) rfl k) ?_
              refine own_by (u' := T5.setTop (mkF m 107 #[.val (.int x1), .val (.int x2), .val (.int nx), .val (.int rx), .val (.int (((((nx.toInt64) ||| (32 : Int64)) - (97 : Int64)).toInt32) + (10 : Int32))), .val (.long ((nx.toInt64) - (48 : Int64))), .second, .val (.long (((nx.toInt64) ||| (32 : Int64)) - (97 : Int64))), .second] [(.int nx)])) (fun _ k => XS.iloadN A6.here hx rfl (own_db hby at_106) rfl k) ?_
              refine own_by (u' := T5.setTop (mkF m 108 #[.val (.int x1), .val (.int x2), .val (.int nx), .val (.int rx), .val (.int (((((nx.toInt64) ||| (32 : Int64)) - (97 : Int64)).toInt32) + (10 : Int32))), .val (.long ((nx.toInt64) - (48 : Int64))), .second, .val (.long (((nx.toInt64) ||| (32 : Int64)) - (97 : Int64))), .second] [(.int rx), (.int nx)])) (fun _ k => XS.iloadN A6.here hx rfl (own_db hby at_107) rfl k) ?_
              refine own_callS (y := (⟨"com/example/oropendola/oropendola/format/Names", "digit", "(II)I"⟩ : MethodName)) (rest := []) A6 hx hZ hown (hw _ (List.mem_of_getElem? (i := 3) rfl)) (hw _ (List.mem_of_getElem? (i := 4) rfl)) (hw _ (List.mem_of_getElem? (i := 5) rfl)) (hw _ (List.mem_of_getElem? (i := 6) rfl)) (by decide) (g1 l Z a0 hw n0 [] nx rx) (by rw [hml]; rfl) [(.int nx), (.int rx)] rfl rfl pd__II_I rfl (W := 0) (by show 2 * 0 + _ ≤ _; exact Nat.le_of_eq rfl) (own_db hby at_108) (by decide) (by decide) (by decide) (by decide) ?_
              intro v23 i24 T26 hq25 A27
              obtain ⟨rfl, he28⟩ := hq25
              rw [he28] at A27
              replace A27 : own_at p l e _ s m _ below meth c n0 T26 0 0 [] := A27
              show own_go _ _ _ _ _ _ _ (T26.setTop (mkF m 111 #[.val (.int x1), .val (.int x2), .val (.int nx), .val (.int rx), .val (.int (((((nx.toInt64) ||| (32 : Int64)) - (97 : Int64)).toInt32) + (10 : Int32))), .val (.long ((nx.toInt64) - (48 : Int64))), .second, .val (.long (((nx.toInt64) ||| (32 : Int64)) - (97 : Int64))), .second] [(.int (f1 nx rx))]))
              refine own_by (u' := T26.setTop (mkF m 113 #[.val (.int x1), .val (.int x2), .val (.int nx), .val (.int rx), .val (.int (((((nx.toInt64) ||| (32 : Int64)) - (97 : Int64)).toInt32) + (10 : Int32))), .val (.long ((nx.toInt64) - (48 : Int64))), .second, .val (.long (((nx.toInt64) ||| (32 : Int64)) - (97 : Int64))), .second] [(.int (((((nx.toInt64) ||| (32 : Int64)) - (97 : Int64)).toInt32) + (10 : Int32))), (.int (f1 nx rx))])) (fun _ k => XS.iload A27.here hx rfl (own_db hby at_111) rfl k) ?_
              refine own_by (u' := T26.setTop (mkF m 116 #[.val (.int x1), .val (.int x2), .val (.int nx), .val (.int rx), .val (.int (((((nx.toInt64) ||| (32 : Int64)) - (97 : Int64)).toInt32) + (10 : Int32))), .val (.long ((nx.toInt64) - (48 : Int64))), .second, .val (.long (((nx.toInt64) ||| (32 : Int64)) - (97 : Int64))), .second] [])) (fun _ k => XS.icmpNo A27.here hx rfl (own_db hby at_113) rfl (teq ((own_same nx rx).trans (show f2 nx rx = (((((nx.toInt64) ||| (32 : Int64)) - (97 : Int64)).toInt32) + (10 : Int32)) from by unfold f2; simp only [if_pos hc7, if_pos hc8, if_neg hc9, if_neg hc16]; try rfl))).2 k) ?_
              refine own_by (u' := T26.setTop (mkF m 117 #[.val (.int x1), .val (.int x2), .val (.int nx), .val (.int rx), .val (.int (((((nx.toInt64) ||| (32 : Int64)) - (97 : Int64)).toInt32) + (10 : Int32))), .val (.long ((nx.toInt64) - (48 : Int64))), .second, .val (.long (((nx.toInt64) ||| (32 : Int64)) - (97 : Int64))), .second] [(.int (1 : Int32))])) (fun _ k => XS.iconst A27.here hx rfl (own_db hby at_116) k) ?_
              refine own_by (u' := T26.setTop (mkF m 121 #[.val (.int x1), .val (.int x2), .val (.int nx), .val (.int rx), .val (.int (((((nx.toInt64) ||| (32 : Int64)) - (97 : Int64)).toInt32) + (10 : Int32))), .val (.long ((nx.toInt64) - (48 : Int64))), .second, .val (.long (((nx.toInt64) ||| (32 : Int64)) - (97 : Int64))), .second] [(.int (1 : Int32))])) (fun _ k => XS.goto A27.here hx rfl (pc0 := 117) (pc' := 121) rfl (own_db hby at_117) (by decide) (by decide) k) ?_
              exact own_retN A27 hx hlk (t := .boolean) (by simp) hret (own_db hby at_121) (by decide) (by decide) ⟨rfl, trivial⟩
        · refine own_by (u' := T5.setTop (mkF m 106 #[.val (.int x1), .val (.int x2), .val (.int nx), .val (.int rx), .val (.int (-1 : Int32)), .val (.long ((nx.toInt64) - (48 : Int64))), .second, .val (.long (((nx.toInt64) ||| (32 : Int64)) - (97 : Int64))), .second] [])) (fun _ k => XS.icmpYes A6.here hx rfl (pc0 := 79) (pc' := 106) rfl (own_db hby at_79) rfl (feq hc8).2 (by decide) (by decide) k) ?_
          refine own_by (u' := T5.setTop (mkF m 107 #[.val (.int x1), .val (.int x2), .val (.int nx), .val (.int rx), .val (.int (-1 : Int32)), .val (.long ((nx.toInt64) - (48 : Int64))), .second, .val (.long (((nx.toInt64) ||| (32 : Int64)) - (97 : Int64))), .second] [(.int nx)])) (fun _ k => XS.iloadN A6.here hx rfl (own_db hby at_106) rfl k) ?_
          refine own_by (u' := T5.setTop (mkF m 108 #[.val (.int x1), .val (.int x2), .val (.int nx), .val (.int rx), .val (.int (-1 : Int32)), .val (.long ((nx.toInt64) - (48 : Int64))), .second, .val (.long (((nx.toInt64) ||| (32 : Int64)) - (97 : Int64))), .second] [(.int rx), (.int nx)])) (fun _ k => XS.iloadN A6.here hx rfl (own_db hby at_107) rfl k) ?_
          refine own_callS (y := (⟨"com/example/oropendola/oropendola/format/Names", "digit", "(II)I"⟩ : MethodName)) (rest := []) A6 hx hZ hown (hw _ (List.mem_of_getElem? (i := 3) rfl)) (hw _ (List.mem_of_getElem? (i := 4) rfl)) (hw _ (List.mem_of_getElem? (i := 5) rfl)) (hw _ (List.mem_of_getElem? (i := 6) rfl)) (by decide) (g1 l Z a0 hw n0 [] nx rx) (by rw [hml]; rfl) [(.int nx), (.int rx)] rfl rfl pd__II_I rfl (W := 0) (by show 2 * 0 + _ ≤ _; exact Nat.le_of_eq rfl) (own_db hby at_108) (by decide) (by decide) (by decide) (by decide) ?_
          intro v29 i30 T32 hq31 A33
          obtain ⟨rfl, he34⟩ := hq31
          rw [he34] at A33
          replace A33 : own_at p l e _ s m _ below meth c n0 T32 0 0 [] := A33
          show own_go _ _ _ _ _ _ _ (T32.setTop (mkF m 111 #[.val (.int x1), .val (.int x2), .val (.int nx), .val (.int rx), .val (.int (-1 : Int32)), .val (.long ((nx.toInt64) - (48 : Int64))), .second, .val (.long (((nx.toInt64) ||| (32 : Int64)) - (97 : Int64))), .second] [(.int (f1 nx rx))]))
          refine own_by (u' := T32.setTop (mkF m 113 #[.val (.int x1), .val (.int x2), .val (.int nx), .val (.int rx), .val (.int (-1 : Int32)), .val (.long ((nx.toInt64) - (48 : Int64))), .second, .val (.long (((nx.toInt64) ||| (32 : Int64)) - (97 : Int64))), .second] [(.int (-1 : Int32)), (.int (f1 nx rx))])) (fun _ k => XS.iload A33.here hx rfl (own_db hby at_111) rfl k) ?_
          refine own_by (u' := T32.setTop (mkF m 116 #[.val (.int x1), .val (.int x2), .val (.int nx), .val (.int rx), .val (.int (-1 : Int32)), .val (.long ((nx.toInt64) - (48 : Int64))), .second, .val (.long (((nx.toInt64) ||| (32 : Int64)) - (97 : Int64))), .second] [])) (fun _ k => XS.icmpNo A33.here hx rfl (own_db hby at_113) rfl (teq ((own_same nx rx).trans (show f2 nx rx = (-1 : Int32) from by unfold f2; simp only [if_pos hc7, if_neg hc8]; try rfl))).2 k) ?_
          refine own_by (u' := T32.setTop (mkF m 117 #[.val (.int x1), .val (.int x2), .val (.int nx), .val (.int rx), .val (.int (-1 : Int32)), .val (.long ((nx.toInt64) - (48 : Int64))), .second, .val (.long (((nx.toInt64) ||| (32 : Int64)) - (97 : Int64))), .second] [(.int (1 : Int32))])) (fun _ k => XS.iconst A33.here hx rfl (own_db hby at_116) k) ?_
          refine own_by (u' := T32.setTop (mkF m 121 #[.val (.int x1), .val (.int x2), .val (.int nx), .val (.int rx), .val (.int (-1 : Int32)), .val (.long ((nx.toInt64) - (48 : Int64))), .second, .val (.long (((nx.toInt64) ||| (32 : Int64)) - (97 : Int64))), .second] [(.int (1 : Int32))])) (fun _ k => XS.goto A33.here hx rfl (pc0 := 117) (pc' := 121) rfl (own_db hby at_117) (by decide) (by decide) k) ?_
          exact own_retN A33 hx hlk (t := .boolean) (by simp) hret (own_db hby at_121) (by decide) (by decide) ⟨rfl, trivial⟩
      · refine own_by (u' := T5.setTop (mkF m 59 #[.val (.int x1), .val (.int x2), .val (.int nx), .val (.int rx), .val (.int (-1 : Int32)), .val (.long ((nx.toInt64) - (48 : Int64))), .second, .val (.long (((nx.toInt64) ||| (32 : Int64)) - (97 : Int64))), .second] [])) (fun _ k => XS.ifNo A6.here hx rfl (own_db hby at_56) rfl ((if0 _ _).trans (flt (own_lc_nlt hc7)).1) k) ?_
        refine own_by (u' := T5.setTop (mkF m 61 #[.val (.int x1), .val (.int x2), .val (.int nx), .val (.int rx), .val (.int (-1 : Int32)), .val (.long ((nx.toInt64) - (48 : Int64))), .second, .val (.long (((nx.toInt64) ||| (32 : Int64)) - (97 : Int64))), .second] [(.long ((nx.toInt64) - (48 : Int64)))])) (fun _ k => XS.lload A6.here hx rfl (own_db hby at_59) rfl k) ?_
        refine own_ldcJ A6 hx hZ hown (hw _ (List.mem_of_getElem? (i := 7) rfl)) (own_db hby at_61) ?_
        show own_go _ _ _ _ _ _ _ (T5.setTop (mkF m 64 #[.val (.int x1), .val (.int x2), .val (.int nx), .val (.int rx), .val (.int (-1 : Int32)), .val (.long ((nx.toInt64) - (48 : Int64))), .second, .val (.long (((nx.toInt64) ||| (32 : Int64)) - (97 : Int64))), .second] [(.long (9 : Int64)), (.long ((nx.toInt64) - (48 : Int64)))]))
        refine own_by (u' := T5.setTop (mkF m 65 #[.val (.int x1), .val (.int x2), .val (.int nx), .val (.int rx), .val (.int (-1 : Int32)), .val (.long ((nx.toInt64) - (48 : Int64))), .second, .val (.long (((nx.toInt64) ||| (32 : Int64)) - (97 : Int64))), .second] [(.int (lcmpW ((nx.toInt64) - (48 : Int64)) (9 : Int64)))])) (fun _ k => XS.lcmp A6.here hx rfl (own_db hby at_64) rfl k) ?_
        by_cases hc35 : (9 : Int64) < ((nx.toInt64) - (48 : Int64))
        · refine own_by (u' := T5.setTop (mkF m 76 #[.val (.int x1), .val (.int x2), .val (.int nx), .val (.int rx), .val (.int (-1 : Int32)), .val (.long ((nx.toInt64) - (48 : Int64))), .second, .val (.long (((nx.toInt64) ||| (32 : Int64)) - (97 : Int64))), .second] [])) (fun _ k => XS.ifYes A6.here hx rfl (pc0 := 65) (pc' := 76) rfl (own_db hby at_65) rfl ((if0 _ _).trans (tlt (own_lc_gt hc35)).2.2.1) (by decide) (by decide) k) ?_
          refine own_by (u' := T5.setTop (mkF m 77 #[.val (.int x1), .val (.int x2), .val (.int nx), .val (.int rx), .val (.int (-1 : Int32)), .val (.long ((nx.toInt64) - (48 : Int64))), .second, .val (.long (((nx.toInt64) ||| (32 : Int64)) - (97 : Int64))), .second] [(.int rx)])) (fun _ k => XS.iloadN A6.here hx rfl (own_db hby at_76) rfl k) ?_
          refine own_by (u' := T5.setTop (mkF m 79 #[.val (.int x1), .val (.int x2), .val (.int nx), .val (.int rx), .val (.int (-1 : Int32)), .val (.long ((nx.toInt64) - (48 : Int64))), .second, .val (.long (((nx.toInt64) ||| (32 : Int64)) - (97 : Int64))), .second] [(.int (16 : Int32)), (.int rx)])) (fun _ k => XS.bipush A6.here hx rfl (own_db hby at_77) k) ?_
          by_cases hc36 : rx = (16 : Int32)
          · refine own_by (u' := T5.setTop (mkF m 82 #[.val (.int x1), .val (.int x2), .val (.int nx), .val (.int rx), .val (.int (-1 : Int32)), .val (.long ((nx.toInt64) - (48 : Int64))), .second, .val (.long (((nx.toInt64) ||| (32 : Int64)) - (97 : Int64))), .second] [])) (fun _ k => XS.icmpNo A6.here hx rfl (own_db hby at_79) rfl (teq hc36).2 k) ?_
            refine own_by (u' := T5.setTop (mkF m 84 #[.val (.int x1), .val (.int x2), .val (.int nx), .val (.int rx), .val (.int (-1 : Int32)), .val (.long ((nx.toInt64) - (48 : Int64))), .second, .val (.long (((nx.toInt64) ||| (32 : Int64)) - (97 : Int64))), .second] [(.long (((nx.toInt64) ||| (32 : Int64)) - (97 : Int64)))])) (fun _ k => XS.lload A6.here hx rfl (own_db hby at_82) rfl k) ?_
            refine own_by (u' := T5.setTop (mkF m 85 #[.val (.int x1), .val (.int x2), .val (.int nx), .val (.int rx), .val (.int (-1 : Int32)), .val (.long ((nx.toInt64) - (48 : Int64))), .second, .val (.long (((nx.toInt64) ||| (32 : Int64)) - (97 : Int64))), .second] [(.long (0 : Int64)), (.long (((nx.toInt64) ||| (32 : Int64)) - (97 : Int64)))])) (fun _ k => XS.lconst A6.here hx rfl (own_db hby at_84) k) ?_
            refine own_by (u' := T5.setTop (mkF m 86 #[.val (.int x1), .val (.int x2), .val (.int nx), .val (.int rx), .val (.int (-1 : Int32)), .val (.long ((nx.toInt64) - (48 : Int64))), .second, .val (.long (((nx.toInt64) ||| (32 : Int64)) - (97 : Int64))), .second] [(.int (lcmpW (((nx.toInt64) ||| (32 : Int64)) - (97 : Int64)) (0 : Int64)))])) (fun _ k => XS.lcmp A6.here hx rfl (own_db hby at_85) rfl k) ?_
            by_cases hc37 : (((nx.toInt64) ||| (32 : Int64)) - (97 : Int64)) < (0 : Int64)
            · refine own_by (u' := T5.setTop (mkF m 106 #[.val (.int x1), .val (.int x2), .val (.int nx), .val (.int rx), .val (.int (-1 : Int32)), .val (.long ((nx.toInt64) - (48 : Int64))), .second, .val (.long (((nx.toInt64) ||| (32 : Int64)) - (97 : Int64))), .second] [])) (fun _ k => XS.ifYes A6.here hx rfl (pc0 := 86) (pc' := 106) rfl (own_db hby at_86) rfl ((if0 _ _).trans (tlt (own_lc_lt hc37)).1) (by decide) (by decide) k) ?_
              refine own_by (u' := T5.setTop (mkF m 107 #[.val (.int x1), .val (.int x2), .val (.int nx), .val (.int rx), .val (.int (-1 : Int32)), .val (.long ((nx.toInt64) - (48 : Int64))), .second, .val (.long (((nx.toInt64) ||| (32 : Int64)) - (97 : Int64))), .second] [(.int nx)])) (fun _ k => XS.iloadN A6.here hx rfl (own_db hby at_106) rfl k) ?_
              refine own_by (u' := T5.setTop (mkF m 108 #[.val (.int x1), .val (.int x2), .val (.int nx), .val (.int rx), .val (.int (-1 : Int32)), .val (.long ((nx.toInt64) - (48 : Int64))), .second, .val (.long (((nx.toInt64) ||| (32 : Int64)) - (97 : Int64))), .second] [(.int rx), (.int nx)])) (fun _ k => XS.iloadN A6.here hx rfl (own_db hby at_107) rfl k) ?_
              refine own_callS (y := (⟨"com/example/oropendola/oropendola/format/Names", "digit", "(II)I"⟩ : MethodName)) (rest := []) A6 hx hZ hown (hw _ (List.mem_of_getElem? (i := 3) rfl)) (hw _ (List.mem_of_getElem? (i := 4) rfl)) (hw _ (List.mem_of_getElem? (i := 5) rfl)) (hw _ (List.mem_of_getElem? (i := 6) rfl)) (by decide) (g1 l Z a0 hw n0 [] nx rx) (by rw [hml]; rfl) [(.int nx), (.int rx)] rfl rfl pd__II_I rfl (W := 0) (by show 2 * 0 + _ ≤ _; exact Nat.le_of_eq rfl) (own_db hby at_108) (by decide) (by decide) (by decide) (by decide) ?_
              intro v38 i39 T41 hq40 A42
              obtain ⟨rfl, he43⟩ := hq40
              rw [he43] at A42
              replace A42 : own_at p l e _ s m _ below meth c n0 T41 0 0 [] := A42
              show own_go _ _ _ _ _ _ _ (T41.setTop (mkF m 111 #[.val (.int x1), .val (.int x2), .val (.int nx), .val (.int rx), .val (.int (-1 : Int32)), .val (.long ((nx.toInt64) - (48 : Int64))), .second, .val (.long (((nx.toInt64) ||| (32 : Int64)) - (97 : Int64))), .second] [(.int (f1 nx rx))]))
              refine own_by (u' := T41.setTop (mkF m 113 #[.val (.int x1), .val (.int x2), .val (.int nx), .val (.int rx), .val (.int (-1 : Int32)), .val (.long ((nx.toInt64) - (48 : Int64))), .second, .val (.long (((nx.toInt64) ||| (32 : Int64)) - (97 : Int64))), .second] [(.int (-1 : Int32)), (.int (f1 nx rx))])) (fun _ k => XS.iload A42.here hx rfl (own_db hby at_111) rfl k) ?_
              refine own_by (u' := T41.setTop (mkF m 116 #[.val (.int x1), .val (.int x2), .val (.int nx), .val (.int rx), .val (.int (-1 : Int32)), .val (.long ((nx.toInt64) - (48 : Int64))), .second, .val (.long (((nx.toInt64) ||| (32 : Int64)) - (97 : Int64))), .second] [])) (fun _ k => XS.icmpNo A42.here hx rfl (own_db hby at_113) rfl (teq ((own_same nx rx).trans (show f2 nx rx = (-1 : Int32) from by unfold f2; simp only [if_neg hc7, if_pos hc35, if_pos hc36, if_pos hc37]; try rfl))).2 k) ?_
              refine own_by (u' := T41.setTop (mkF m 117 #[.val (.int x1), .val (.int x2), .val (.int nx), .val (.int rx), .val (.int (-1 : Int32)), .val (.long ((nx.toInt64) - (48 : Int64))), .second, .val (.long (((nx.toInt64) ||| (32 : Int64)) - (97 : Int64))), .second] [(.int (1 : Int32))])) (fun _ k => XS.iconst A42.here hx rfl (own_db hby at_116) k) ?_
              refine own_by (u' := T41.setTop (mkF m 121 #[.val (.int x1), .val (.int x2), .val (.int nx), .val (.int rx), .val (.int (-1 : Int32)), .val (.long ((nx.toInt64) - (48 : Int64))), .second, .val (.long (((nx.toInt64) ||| (32 : Int64)) - (97 : Int64))), .second] [(.int (1 : Int32))])) (fun _ k => XS.goto A42.here hx rfl (pc0 := 117) (pc' := 121) rfl (own_db hby at_117) (by decide) (by decide) k) ?_
              exact own_retN A42 hx hlk (t := .boolean) (by simp) hret (own_db hby at_121) (by decide) (by decide) ⟨rfl, trivial⟩
            · refine own_by (u' := T5.setTop (mkF m 89 #[.val (.int x1), .val (.int x2), .val (.int nx), .val (.int rx), .val (.int (-1 : Int32)), .val (.long ((nx.toInt64) - (48 : Int64))), .second, .val (.long (((nx.toInt64) ||| (32 : Int64)) - (97 : Int64))), .second] [])) (fun _ k => XS.ifNo A6.here hx rfl (own_db hby at_86) rfl ((if0 _ _).trans (flt (own_lc_nlt hc37)).1) k) ?_
              refine own_by (u' := T5.setTop (mkF m 91 #[.val (.int x1), .val (.int x2), .val (.int nx), .val (.int rx), .val (.int (-1 : Int32)), .val (.long ((nx.toInt64) - (48 : Int64))), .second, .val (.long (((nx.toInt64) ||| (32 : Int64)) - (97 : Int64))), .second] [(.long (((nx.toInt64) ||| (32 : Int64)) - (97 : Int64)))])) (fun _ k => XS.lload A6.here hx rfl (own_db hby at_89) rfl k) ?_
              refine own_ldcJ A6 hx hZ hown (hw _ (List.mem_of_getElem? (i := 8) rfl)) (own_db hby at_91) ?_
              show own_go _ _ _ _ _ _ _ (T5.setTop (mkF m 94 #[.val (.int x1), .val (.int x2), .val (.int nx), .val (.int rx), .val (.int (-1 : Int32)), .val (.long ((nx.toInt64) - (48 : Int64))), .second, .val (.long (((nx.toInt64) ||| (32 : Int64)) - (97 : Int64))), .second] [(.long (5 : Int64)), (.long (((nx.toInt64) ||| (32 : Int64)) - (97 : Int64)))]))
              refine own_by (u' := T5.setTop (mkF m 95 #[.val (.int x1), .val (.int x2), .val (.int nx), .val (.int rx), .val (.int (-1 : Int32)), .val (.long ((nx.toInt64) - (48 : Int64))), .second, .val (.long (((nx.toInt64) ||| (32 : Int64)) - (97 : Int64))), .second] [(.int (lcmpW (((nx.toInt64) ||| (32 : Int64)) - (97 : Int64)) (5 : Int64)))])) (fun _ k => XS.lcmp A6.here hx rfl (own_db hby at_94) rfl k) ?_
              by_cases hc44 : (5 : Int64) < (((nx.toInt64) ||| (32 : Int64)) - (97 : Int64))
              · refine own_by (u' := T5.setTop (mkF m 106 #[.val (.int x1), .val (.int x2), .val (.int nx), .val (.int rx), .val (.int (-1 : Int32)), .val (.long ((nx.toInt64) - (48 : Int64))), .second, .val (.long (((nx.toInt64) ||| (32 : Int64)) - (97 : Int64))), .second] [])) (fun _ k => XS.ifYes A6.here hx rfl (pc0 := 95) (pc' := 106) rfl (own_db hby at_95) rfl ((if0 _ _).trans (tlt (own_lc_gt hc44)).2.2.1) (by decide) (by decide) k) ?_
                refine own_by (u' := T5.setTop (mkF m 107 #[.val (.int x1), .val (.int x2), .val (.int nx), .val (.int rx), .val (.int (-1 : Int32)), .val (.long ((nx.toInt64) - (48 : Int64))), .second, .val (.long (((nx.toInt64) ||| (32 : Int64)) - (97 : Int64))), .second] [(.int nx)])) (fun _ k => XS.iloadN A6.here hx rfl (own_db hby at_106) rfl k) ?_
                refine own_by (u' := T5.setTop (mkF m 108 #[.val (.int x1), .val (.int x2), .val (.int nx), .val (.int rx), .val (.int (-1 : Int32)), .val (.long ((nx.toInt64) - (48 : Int64))), .second, .val (.long (((nx.toInt64) ||| (32 : Int64)) - (97 : Int64))), .second] [(.int rx), (.int nx)])) (fun _ k => XS.iloadN A6.here hx rfl (own_db hby at_107) rfl k) ?_
                refine own_callS (y := (⟨"com/example/oropendola/oropendola/format/Names", "digit", "(II)I"⟩ : MethodName)) (rest := []) A6 hx hZ hown (hw _ (List.mem_of_getElem? (i := 3) rfl)) (hw _ (List.mem_of_getElem? (i := 4) rfl)) (hw _ (List.mem_of_getElem? (i := 5) rfl)) (hw _ (List.mem_of_getElem? (i := 6) rfl)) (by decide) (g1 l Z a0 hw n0 [] nx rx) (by rw [hml]; rfl) [(.int nx), (.int rx)] rfl rfl pd__II_I rfl (W := 0) (by show 2 * 0 + _ ≤ _; exact Nat.le_of_eq rfl) (own_db hby at_108) (by decide) (by decide) (by decide) (by decide) ?_
                intro v45 i46 T48 hq47 A49
                obtain ⟨rfl, he50⟩ := hq47
                rw [he50] at A49
                replace A49 : own_at p l e _ s m _ below meth c n0 T48 0 0 [] := A49
                show own_go _ _ _ _ _ _ _ (T48.setTop (mkF m 111 #[.val (.int x1), .val (.int x2), .val (.int nx), .val (.int rx), .val (.int (-1 : Int32)), .val (.long ((nx.toInt64) - (48 : Int64))), .second, .val (.long (((nx.toInt64) ||| (32 : Int64)) - (97 : Int64))), .second] [(.int (f1 nx rx))]))
                refine own_by (u' := T48.setTop (mkF m 113 #[.val (.int x1), .val (.int x2), .val (.int nx), .val (.int rx), .val (.int (-1 : Int32)), .val (.long ((nx.toInt64) - (48 : Int64))), .second, .val (.long (((nx.toInt64) ||| (32 : Int64)) - (97 : Int64))), .second] [(.int (-1 : Int32)), (.int (f1 nx rx))])) (fun _ k => XS.iload A49.here hx rfl (own_db hby at_111) rfl k) ?_
                refine own_by (u' := T48.setTop (mkF m 116 #[.val (.int x1), .val (.int x2), .val (.int nx), .val (.int rx), .val (.int (-1 : Int32)), .val (.long ((nx.toInt64) - (48 : Int64))), .second, .val (.long (((nx.toInt64) ||| (32 : Int64)) - (97 : Int64))), .second] [])) (fun _ k => XS.icmpNo A49.here hx rfl (own_db hby at_113) rfl (teq ((own_same nx rx).trans (show f2 nx rx = (-1 : Int32) from by unfold f2; simp only [if_neg hc7, if_pos hc35, if_pos hc36, if_neg hc37, if_pos hc44]; try rfl))).2 k) ?_
                refine own_by (u' := T48.setTop (mkF m 117 #[.val (.int x1), .val (.int x2), .val (.int nx), .val (.int rx), .val (.int (-1 : Int32)), .val (.long ((nx.toInt64) - (48 : Int64))), .second, .val (.long (((nx.toInt64) ||| (32 : Int64)) - (97 : Int64))), .second] [(.int (1 : Int32))])) (fun _ k => XS.iconst A49.here hx rfl (own_db hby at_116) k) ?_
                refine own_by (u' := T48.setTop (mkF m 121 #[.val (.int x1), .val (.int x2), .val (.int nx), .val (.int rx), .val (.int (-1 : Int32)), .val (.long ((nx.toInt64) - (48 : Int64))), .second, .val (.long (((nx.toInt64) ||| (32 : Int64)) - (97 : Int64))), .second] [(.int (1 : Int32))])) (fun _ k => XS.goto A49.here hx rfl (pc0 := 117) (pc' := 121) rfl (own_db hby at_117) (by decide) (by decide) k) ?_
                exact own_retN A49 hx hlk (t := .boolean) (by simp) hret (own_db hby at_121) (by decide) (by decide) ⟨rfl, trivial⟩
              · refine own_by (u' := T5.setTop (mkF m 98 #[.val (.int x1), .val (.int x2), .val (.int nx), .val (.int rx), .val (.int (-1 : Int32)), .val (.long ((nx.toInt64) - (48 : Int64))), .second, .val (.long (((nx.toInt64) ||| (32 : Int64)) - (97 : Int64))), .second] [])) (fun _ k => XS.ifNo A6.here hx rfl (own_db hby at_95) rfl ((if0 _ _).trans (flt (own_lc_ngt hc44)).2.2.1) k) ?_
                refine own_by (u' := T5.setTop (mkF m 100 #[.val (.int x1), .val (.int x2), .val (.int nx), .val (.int rx), .val (.int (-1 : Int32)), .val (.long ((nx.toInt64) - (48 : Int64))), .second, .val (.long (((nx.toInt64) ||| (32 : Int64)) - (97 : Int64))), .second] [(.long (((nx.toInt64) ||| (32 : Int64)) - (97 : Int64)))])) (fun _ k => XS.lload A6.here hx rfl (own_db hby at_98) rfl k) ?_
                refine own_by (u' := T5.setTop (mkF m 101 #[.val (.int x1), .val (.int x2), .val (.int nx), .val (.int rx), .val (.int (-1 : Int32)), .val (.long ((nx.toInt64) - (48 : Int64))), .second, .val (.long (((nx.toInt64) ||| (32 : Int64)) - (97 : Int64))), .second] [(.int ((((nx.toInt64) ||| (32 : Int64)) - (97 : Int64)).toInt32))])) (fun _ k => XS.l2i A6.here hx rfl (own_db hby at_100) rfl k) ?_
                refine own_by (u' := T5.setTop (mkF m 103 #[.val (.int x1), .val (.int x2), .val (.int nx), .val (.int rx), .val (.int (-1 : Int32)), .val (.long ((nx.toInt64) - (48 : Int64))), .second, .val (.long (((nx.toInt64) ||| (32 : Int64)) - (97 : Int64))), .second] [(.int (10 : Int32)), (.int ((((nx.toInt64) ||| (32 : Int64)) - (97 : Int64)).toInt32))])) (fun _ k => XS.bipush A6.here hx rfl (own_db hby at_101) k) ?_
                refine own_by (u' := T5.setTop (mkF m 104 #[.val (.int x1), .val (.int x2), .val (.int nx), .val (.int rx), .val (.int (-1 : Int32)), .val (.long ((nx.toInt64) - (48 : Int64))), .second, .val (.long (((nx.toInt64) ||| (32 : Int64)) - (97 : Int64))), .second] [(.int (((((nx.toInt64) ||| (32 : Int64)) - (97 : Int64)).toInt32) + (10 : Int32)))])) (fun _ k => XS.iadd A6.here hx rfl (own_db hby at_103) rfl k) ?_
                refine own_by (u' := T5.setTop (mkF m 106 #[.val (.int x1), .val (.int x2), .val (.int nx), .val (.int rx), .val (.int (((((nx.toInt64) ||| (32 : Int64)) - (97 : Int64)).toInt32) + (10 : Int32))), .val (.long ((nx.toInt64) - (48 : Int64))), .second, .val (.long (((nx.toInt64) ||| (32 : Int64)) - (97 : Int64))), .second] [])) (fun _ k => XS.istore A6.here hx rfl (own_db hby at_104) rfl (l' := #[.val (.int x1), .val (.int x2), .val (.int nx), .val (.int rx), .val (.int (((((nx.toInt64) ||| (32 : Int64)) - (97 : Int64)).toInt32) + (10 : Int32))), .val (.long ((nx.toInt64) - (48 : Int64))), .second, .val (.long (((nx.toInt64) ||| (32 : Int64)) - (97 : Int64))), .second]) rfl k) ?_
                refine own_by (u' := T5.setTop (mkF m 107 #[.val (.int x1), .val (.int x2), .val (.int nx), .val (.int rx), .val (.int (((((nx.toInt64) ||| (32 : Int64)) - (97 : Int64)).toInt32) + (10 : Int32))), .val (.long ((nx.toInt64) - (48 : Int64))), .second, .val (.long (((nx.toInt64) ||| (32 : Int64)) - (97 : Int64))), .second] [(.int nx)])) (fun _ k => XS.iloadN A6.here hx rfl (own_db hby at_106) rfl k) ?_
                refine own_by (u' := T5.setTop (mkF m 108 #[.val (.int x1), .val (.int x2), .val (.int nx), .val (.int rx), .val (.int (((((nx.toInt64) ||| (32 : Int64)) - (97 : Int64)).toInt32) + (10 : Int32))), .val (.long ((nx.toInt64) - (48 : Int64))), .second, .val (.long (((nx.toInt64) ||| (32 : Int64)) - (97 : Int64))), .second] [(.int rx), (.int nx)])) (fun _ k => XS.iloadN A6.here hx rfl (own_db hby at_107) rfl k) ?_
                refine own_callS (y := (⟨"com/example/oropendola/oropendola/format/Names", "digit", "(II)I"⟩ : MethodName)) (rest := []) A6 hx hZ hown (hw _ (List.mem_of_getElem? (i := 3) rfl)) (hw _ (List.mem_of_getElem? (i := 4) rfl)) (hw _ (List.mem_of_getElem? (i := 5) rfl)) (hw _ (List.mem_of_getElem? (i := 6) rfl)) (by decide) (g1 l Z a0 hw n0 [] nx rx) (by rw [hml]; rfl) [(.int nx), (.int rx)] rfl rfl pd__II_I rfl (W := 0) (by show 2 * 0 + _ ≤ _; exact Nat.le_of_eq rfl) (own_db hby at_108) (by decide) (by decide) (by decide) (by decide) ?_
                intro v51 i52 T54 hq53 A55
                obtain ⟨rfl, he56⟩ := hq53
                rw [he56] at A55
                replace A55 : own_at p l e _ s m _ below meth c n0 T54 0 0 [] := A55
                show own_go _ _ _ _ _ _ _ (T54.setTop (mkF m 111 #[.val (.int x1), .val (.int x2), .val (.int nx), .val (.int rx), .val (.int (((((nx.toInt64) ||| (32 : Int64)) - (97 : Int64)).toInt32) + (10 : Int32))), .val (.long ((nx.toInt64) - (48 : Int64))), .second, .val (.long (((nx.toInt64) ||| (32 : Int64)) - (97 : Int64))), .second] [(.int (f1 nx rx))]))
                refine own_by (u' := T54.setTop (mkF m 113 #[.val (.int x1), .val (.int x2), .val (.int nx), .val (.int rx), .val (.int (((((nx.toInt64) ||| (32 : Int64)) - (97 : Int64)).toInt32) + (10 : Int32))), .val (.long ((nx.toInt64) - (48 : Int64))), .second, .val (.long (((nx.toInt64) ||| (32 : Int64)) - (97 : Int64))), .second] [(.int (((((nx.toInt64) ||| (32 : Int64)) - (97 : Int64)).toInt32) + (10 : Int32))), (.int (f1 nx rx))])) (fun _ k => XS.iload A55.here hx rfl (own_db hby at_111) rfl k) ?_
                refine own_by (u' := T54.setTop (mkF m 116 #[.val (.int x1), .val (.int x2), .val (.int nx), .val (.int rx), .val (.int (((((nx.toInt64) ||| (32 : Int64)) - (97 : Int64)).toInt32) + (10 : Int32))), .val (.long ((nx.toInt64) - (48 : Int64))), .second, .val (.long (((nx.toInt64) ||| (32 : Int64)) - (97 : Int64))), .second] [])) (fun _ k => XS.icmpNo A55.here hx rfl (own_db hby at_113) rfl (teq ((own_same nx rx).trans (show f2 nx rx = (((((nx.toInt64) ||| (32 : Int64)) - (97 : Int64)).toInt32) + (10 : Int32)) from by unfold f2; simp only [if_neg hc7, if_pos hc35, if_pos hc36, if_neg hc37, if_neg hc44]; try rfl))).2 k) ?_
                refine own_by (u' := T54.setTop (mkF m 117 #[.val (.int x1), .val (.int x2), .val (.int nx), .val (.int rx), .val (.int (((((nx.toInt64) ||| (32 : Int64)) - (97 : Int64)).toInt32) + (10 : Int32))), .val (.long ((nx.toInt64) - (48 : Int64))), .second, .val (.long (((nx.toInt64) ||| (32 : Int64)) - (97 : Int64))), .second] [(.int (1 : Int32))])) (fun _ k => XS.iconst A55.here hx rfl (own_db hby at_116) k) ?_
                refine own_by (u' := T54.setTop (mkF m 121 #[.val (.int x1), .val (.int x2), .val (.int nx), .val (.int rx), .val (.int (((((nx.toInt64) ||| (32 : Int64)) - (97 : Int64)).toInt32) + (10 : Int32))), .val (.long ((nx.toInt64) - (48 : Int64))), .second, .val (.long (((nx.toInt64) ||| (32 : Int64)) - (97 : Int64))), .second] [(.int (1 : Int32))])) (fun _ k => XS.goto A55.here hx rfl (pc0 := 117) (pc' := 121) rfl (own_db hby at_117) (by decide) (by decide) k) ?_
                exact own_retN A55 hx hlk (t := .boolean) (by simp) hret (own_db hby at_121) (by decide) (by decide) ⟨rfl, trivial⟩
          · refine own_by (u' := T5.setTop (mkF m 106 #[.val (.int x1), .val (.int x2), .val (.int nx), .val (.int rx), .val (.int (-1 : Int32)), .val (.long ((nx.toInt64) - (48 : Int64))), .second, .val (.long (((nx.toInt64) ||| (32 : Int64)) - (97 : Int64))), .second] [])) (fun _ k => XS.icmpYes A6.here hx rfl (pc0 := 79) (pc' := 106) rfl (own_db hby at_79) rfl (feq hc36).2 (by decide) (by decide) k) ?_
            refine own_by (u' := T5.setTop (mkF m 107 #[.val (.int x1), .val (.int x2), .val (.int nx), .val (.int rx), .val (.int (-1 : Int32)), .val (.long ((nx.toInt64) - (48 : Int64))), .second, .val (.long (((nx.toInt64) ||| (32 : Int64)) - (97 : Int64))), .second] [(.int nx)])) (fun _ k => XS.iloadN A6.here hx rfl (own_db hby at_106) rfl k) ?_
            refine own_by (u' := T5.setTop (mkF m 108 #[.val (.int x1), .val (.int x2), .val (.int nx), .val (.int rx), .val (.int (-1 : Int32)), .val (.long ((nx.toInt64) - (48 : Int64))), .second, .val (.long (((nx.toInt64) ||| (32 : Int64)) - (97 : Int64))), .second] [(.int rx), (.int nx)])) (fun _ k => XS.iloadN A6.here hx rfl (own_db hby at_107) rfl k) ?_
            refine own_callS (y := (⟨"com/example/oropendola/oropendola/format/Names", "digit", "(II)I"⟩ : MethodName)) (rest := []) A6 hx hZ hown (hw _ (List.mem_of_getElem? (i := 3) rfl)) (hw _ (List.mem_of_getElem? (i := 4) rfl)) (hw _ (List.mem_of_getElem? (i := 5) rfl)) (hw _ (List.mem_of_getElem? (i := 6) rfl)) (by decide) (g1 l Z a0 hw n0 [] nx rx) (by rw [hml]; rfl) [(.int nx), (.int rx)] rfl rfl pd__II_I rfl (W := 0) (by show 2 * 0 + _ ≤ _; exact Nat.le_of_eq rfl) (own_db hby at_108) (by decide) (by decide) (by decide) (by decide) ?_
            intro v57 i58 T60 hq59 A61
            obtain ⟨rfl, he62⟩ := hq59
            rw [he62] at A61
            replace A61 : own_at p l e _ s m _ below meth c n0 T60 0 0 [] := A61
            show own_go _ _ _ _ _ _ _ (T60.setTop (mkF m 111 #[.val (.int x1), .val (.int x2), .val (.int nx), .val (.int rx), .val (.int (-1 : Int32)), .val (.long ((nx.toInt64) - (48 : Int64))), .second, .val (.long (((nx.toInt64) ||| (32 : Int64)) - (97 : Int64))), .second] [(.int (f1 nx rx))]))
            refine own_by (u' := T60.setTop (mkF m 113 #[.val (.int x1), .val (.int x2), .val (.int nx), .val (.int rx), .val (.int (-1 : Int32)), .val (.long ((nx.toInt64) - (48 : Int64))), .second, .val (.long (((nx.toInt64) ||| (32 : Int64)) - (97 : Int64))), .second] [(.int (-1 : Int32)), (.int (f1 nx rx))])) (fun _ k => XS.iload A61.here hx rfl (own_db hby at_111) rfl k) ?_
            refine own_by (u' := T60.setTop (mkF m 116 #[.val (.int x1), .val (.int x2), .val (.int nx), .val (.int rx), .val (.int (-1 : Int32)), .val (.long ((nx.toInt64) - (48 : Int64))), .second, .val (.long (((nx.toInt64) ||| (32 : Int64)) - (97 : Int64))), .second] [])) (fun _ k => XS.icmpNo A61.here hx rfl (own_db hby at_113) rfl (teq ((own_same nx rx).trans (show f2 nx rx = (-1 : Int32) from by unfold f2; simp only [if_neg hc7, if_pos hc35, if_neg hc36]; try rfl))).2 k) ?_
            refine own_by (u' := T60.setTop (mkF m 117 #[.val (.int x1), .val (.int x2), .val (.int nx), .val (.int rx), .val (.int (-1 : Int32)), .val (.long ((nx.toInt64) - (48 : Int64))), .second, .val (.long (((nx.toInt64) ||| (32 : Int64)) - (97 : Int64))), .second] [(.int (1 : Int32))])) (fun _ k => XS.iconst A61.here hx rfl (own_db hby at_116) k) ?_
            refine own_by (u' := T60.setTop (mkF m 121 #[.val (.int x1), .val (.int x2), .val (.int nx), .val (.int rx), .val (.int (-1 : Int32)), .val (.long ((nx.toInt64) - (48 : Int64))), .second, .val (.long (((nx.toInt64) ||| (32 : Int64)) - (97 : Int64))), .second] [(.int (1 : Int32))])) (fun _ k => XS.goto A61.here hx rfl (pc0 := 117) (pc' := 121) rfl (own_db hby at_117) (by decide) (by decide) k) ?_
            exact own_retN A61 hx hlk (t := .boolean) (by simp) hret (own_db hby at_121) (by decide) (by decide) ⟨rfl, trivial⟩
        · refine own_by (u' := T5.setTop (mkF m 68 #[.val (.int x1), .val (.int x2), .val (.int nx), .val (.int rx), .val (.int (-1 : Int32)), .val (.long ((nx.toInt64) - (48 : Int64))), .second, .val (.long (((nx.toInt64) ||| (32 : Int64)) - (97 : Int64))), .second] [])) (fun _ k => XS.ifNo A6.here hx rfl (own_db hby at_65) rfl ((if0 _ _).trans (flt (own_lc_ngt hc35)).2.2.1) k) ?_
          refine own_by (u' := T5.setTop (mkF m 70 #[.val (.int x1), .val (.int x2), .val (.int nx), .val (.int rx), .val (.int (-1 : Int32)), .val (.long ((nx.toInt64) - (48 : Int64))), .second, .val (.long (((nx.toInt64) ||| (32 : Int64)) - (97 : Int64))), .second] [(.long ((nx.toInt64) - (48 : Int64)))])) (fun _ k => XS.lload A6.here hx rfl (own_db hby at_68) rfl k) ?_
          refine own_by (u' := T5.setTop (mkF m 71 #[.val (.int x1), .val (.int x2), .val (.int nx), .val (.int rx), .val (.int (-1 : Int32)), .val (.long ((nx.toInt64) - (48 : Int64))), .second, .val (.long (((nx.toInt64) ||| (32 : Int64)) - (97 : Int64))), .second] [(.int (((nx.toInt64) - (48 : Int64)).toInt32))])) (fun _ k => XS.l2i A6.here hx rfl (own_db hby at_70) rfl k) ?_
          refine own_by (u' := T5.setTop (mkF m 73 #[.val (.int x1), .val (.int x2), .val (.int nx), .val (.int rx), .val (.int (((nx.toInt64) - (48 : Int64)).toInt32)), .val (.long ((nx.toInt64) - (48 : Int64))), .second, .val (.long (((nx.toInt64) ||| (32 : Int64)) - (97 : Int64))), .second] [])) (fun _ k => XS.istore A6.here hx rfl (own_db hby at_71) rfl (l' := #[.val (.int x1), .val (.int x2), .val (.int nx), .val (.int rx), .val (.int (((nx.toInt64) - (48 : Int64)).toInt32)), .val (.long ((nx.toInt64) - (48 : Int64))), .second, .val (.long (((nx.toInt64) ||| (32 : Int64)) - (97 : Int64))), .second]) rfl k) ?_
          refine own_by (u' := T5.setTop (mkF m 106 #[.val (.int x1), .val (.int x2), .val (.int nx), .val (.int rx), .val (.int (((nx.toInt64) - (48 : Int64)).toInt32)), .val (.long ((nx.toInt64) - (48 : Int64))), .second, .val (.long (((nx.toInt64) ||| (32 : Int64)) - (97 : Int64))), .second] [])) (fun _ k => XS.goto A6.here hx rfl (pc0 := 73) (pc' := 106) rfl (own_db hby at_73) (by decide) (by decide) k) ?_
          refine own_by (u' := T5.setTop (mkF m 107 #[.val (.int x1), .val (.int x2), .val (.int nx), .val (.int rx), .val (.int (((nx.toInt64) - (48 : Int64)).toInt32)), .val (.long ((nx.toInt64) - (48 : Int64))), .second, .val (.long (((nx.toInt64) ||| (32 : Int64)) - (97 : Int64))), .second] [(.int nx)])) (fun _ k => XS.iloadN A6.here hx rfl (own_db hby at_106) rfl k) ?_
          refine own_by (u' := T5.setTop (mkF m 108 #[.val (.int x1), .val (.int x2), .val (.int nx), .val (.int rx), .val (.int (((nx.toInt64) - (48 : Int64)).toInt32)), .val (.long ((nx.toInt64) - (48 : Int64))), .second, .val (.long (((nx.toInt64) ||| (32 : Int64)) - (97 : Int64))), .second] [(.int rx), (.int nx)])) (fun _ k => XS.iloadN A6.here hx rfl (own_db hby at_107) rfl k) ?_
          refine own_callS (y := (⟨"com/example/oropendola/oropendola/format/Names", "digit", "(II)I"⟩ : MethodName)) (rest := []) A6 hx hZ hown (hw _ (List.mem_of_getElem? (i := 3) rfl)) (hw _ (List.mem_of_getElem? (i := 4) rfl)) (hw _ (List.mem_of_getElem? (i := 5) rfl)) (hw _ (List.mem_of_getElem? (i := 6) rfl)) (by decide) (g1 l Z a0 hw n0 [] nx rx) (by rw [hml]; rfl) [(.int nx), (.int rx)] rfl rfl pd__II_I rfl (W := 0) (by show 2 * 0 + _ ≤ _; exact Nat.le_of_eq rfl) (own_db hby at_108) (by decide) (by decide) (by decide) (by decide) ?_
          intro v63 i64 T66 hq65 A67
          obtain ⟨rfl, he68⟩ := hq65
          rw [he68] at A67
          replace A67 : own_at p l e _ s m _ below meth c n0 T66 0 0 [] := A67
          show own_go _ _ _ _ _ _ _ (T66.setTop (mkF m 111 #[.val (.int x1), .val (.int x2), .val (.int nx), .val (.int rx), .val (.int (((nx.toInt64) - (48 : Int64)).toInt32)), .val (.long ((nx.toInt64) - (48 : Int64))), .second, .val (.long (((nx.toInt64) ||| (32 : Int64)) - (97 : Int64))), .second] [(.int (f1 nx rx))]))
          refine own_by (u' := T66.setTop (mkF m 113 #[.val (.int x1), .val (.int x2), .val (.int nx), .val (.int rx), .val (.int (((nx.toInt64) - (48 : Int64)).toInt32)), .val (.long ((nx.toInt64) - (48 : Int64))), .second, .val (.long (((nx.toInt64) ||| (32 : Int64)) - (97 : Int64))), .second] [(.int (((nx.toInt64) - (48 : Int64)).toInt32)), (.int (f1 nx rx))])) (fun _ k => XS.iload A67.here hx rfl (own_db hby at_111) rfl k) ?_
          refine own_by (u' := T66.setTop (mkF m 116 #[.val (.int x1), .val (.int x2), .val (.int nx), .val (.int rx), .val (.int (((nx.toInt64) - (48 : Int64)).toInt32)), .val (.long ((nx.toInt64) - (48 : Int64))), .second, .val (.long (((nx.toInt64) ||| (32 : Int64)) - (97 : Int64))), .second] [])) (fun _ k => XS.icmpNo A67.here hx rfl (own_db hby at_113) rfl (teq ((own_same nx rx).trans (show f2 nx rx = (((nx.toInt64) - (48 : Int64)).toInt32) from by unfold f2; simp only [if_neg hc7, if_neg hc35]; try rfl))).2 k) ?_
          refine own_by (u' := T66.setTop (mkF m 117 #[.val (.int x1), .val (.int x2), .val (.int nx), .val (.int rx), .val (.int (((nx.toInt64) - (48 : Int64)).toInt32)), .val (.long ((nx.toInt64) - (48 : Int64))), .second, .val (.long (((nx.toInt64) ||| (32 : Int64)) - (97 : Int64))), .second] [(.int (1 : Int32))])) (fun _ k => XS.iconst A67.here hx rfl (own_db hby at_116) k) ?_
          refine own_by (u' := T66.setTop (mkF m 121 #[.val (.int x1), .val (.int x2), .val (.int nx), .val (.int rx), .val (.int (((nx.toInt64) - (48 : Int64)).toInt32)), .val (.long ((nx.toInt64) - (48 : Int64))), .second, .val (.long (((nx.toInt64) ||| (32 : Int64)) - (97 : Int64))), .second] [(.int (1 : Int32))])) (fun _ k => XS.goto A67.here hx rfl (pc0 := 117) (pc' := 121) rfl (own_db hby at_117) (by decide) (by decide) k) ?_
          exact own_retN A67 hx hlk (t := .boolean) (by simp) hret (own_db hby at_121) (by decide) (by decide) ⟨rfl, trivial⟩
    by_cases hc69 : (x2 &&& (1 : Int32)) = (0 : Int32)
    · refine own_by (u' := T2.setTop (mkF m 26 #[.val (.int x1), .val (.int x2), .val (.int nx), .unset, .unset, .unset, .unset, .unset, .unset] [])) (fun _ k => XS.ifYes A3.here hx rfl (pc0 := 18) (pc' := 26) rfl (own_db hby at_18) rfl ((if0 _ _).trans (teq hc69).1) (by decide) (by decide) k) ?_
      refine own_by (u' := T2.setTop (mkF m 28 #[.val (.int x1), .val (.int x2), .val (.int nx), .unset, .unset, .unset, .unset, .unset, .unset] [(.int (10 : Int32))])) (fun _ k => XS.bipush A3.here hx rfl (own_db hby at_26) k) ?_
      exact J4 _ (10 : Int32) (A3)
    · refine own_by (u' := T2.setTop (mkF m 21 #[.val (.int x1), .val (.int x2), .val (.int nx), .unset, .unset, .unset, .unset, .unset, .unset] [])) (fun _ k => XS.ifNo A3.here hx rfl (own_db hby at_18) rfl ((if0 _ _).trans (feq hc69).1) k) ?_
      refine own_by (u' := T2.setTop (mkF m 23 #[.val (.int x1), .val (.int x2), .val (.int nx), .unset, .unset, .unset, .unset, .unset, .unset] [(.int (16 : Int32))])) (fun _ k => XS.bipush A3.here hx rfl (own_db hby at_21) k) ?_
      refine own_by (u' := T2.setTop (mkF m 28 #[.val (.int x1), .val (.int x2), .val (.int nx), .unset, .unset, .unset, .unset, .unset, .unset] [(.int (16 : Int32))])) (fun _ k => XS.goto A3.here hx rfl (pc0 := 23) (pc' := 28) rfl (own_db hby at_23) (by decide) (by decide) k) ?_
      exact J4 _ (16 : Int32) (A3)
  by_cases hc70 : (x2 &&& (2 : Int32)) = (0 : Int32)
  · refine own_by (u' := T0.setTop (mkF m 10 #[.val (.int x1), .val (.int x2), .unset, .unset, .unset, .unset, .unset, .unset, .unset] [])) (fun _ k => XS.ifYes A0.here hx rfl (pc0 := 3) (pc' := 10) rfl (own_db hby at_3) rfl ((if0 _ _).trans (teq hc70).1) (by decide) (by decide) k) ?_
    refine own_by (u' := T0.setTop (mkF m 11 #[.val (.int x1), .val (.int x2), .unset, .unset, .unset, .unset, .unset, .unset, .unset] [(.int x1)])) (fun _ k => XS.iloadN A0.here hx rfl (own_db hby at_10) rfl k) ?_
    refine own_by (u' := T0.setTop (mkF m 13 #[.val (.int x1), .val (.int x2), .unset, .unset, .unset, .unset, .unset, .unset, .unset] [(.int (127 : Int32)), (.int x1)])) (fun _ k => XS.bipush A0.here hx rfl (own_db hby at_11) k) ?_
    refine own_by (u' := T0.setTop (mkF m 14 #[.val (.int x1), .val (.int x2), .unset, .unset, .unset, .unset, .unset, .unset, .unset] [(.int (x1 &&& (127 : Int32)))])) (fun _ k => XS.iand A0.here hx rfl (own_db hby at_13) rfl k) ?_
    exact J1 _ (x1 &&& (127 : Int32)) (A0)
  · refine own_by (u' := T0.setTop (mkF m 6 #[.val (.int x1), .val (.int x2), .unset, .unset, .unset, .unset, .unset, .unset, .unset] [])) (fun _ k => XS.ifNo A0.here hx rfl (own_db hby at_3) rfl ((if0 _ _).trans (feq hc70).1) k) ?_
    refine own_by (u' := T0.setTop (mkF m 7 #[.val (.int x1), .val (.int x2), .unset, .unset, .unset, .unset, .unset, .unset, .unset] [(.int x1)])) (fun _ k => XS.iloadN A0.here hx rfl (own_db hby at_6) rfl k) ?_
    refine own_by (u' := T0.setTop (mkF m 14 #[.val (.int x1), .val (.int x2), .unset, .unset, .unset, .unset, .unset, .unset, .unset] [(.int x1)])) (fun _ k => XS.goto A0.here hx rfl (pc0 := 7) (pc' := 14) rfl (own_db hby at_7) (by decide) (by decide) k) ?_
    exact J1 _ x1 (A0)
set_option maxRecDepth 65536 in
set_option maxHeartbeats 40000000 in
theorem comes_1 {Post : Tables → Env → Array Value → State → Outcome → State → Prop} (hpost : ∀ tb e args s v u, (limb_1_1.after args s (.returned v) u = true ∧ limb_1_2.after args s (.returned v) u = true ∧ True) → FrameEnd s (.returned v) u (Jvm.fieldLocs frame_1_writes args s ++ Jvm.arrayLocs frame_1_arrays args s ++ Jvm.staticLocs frame_1_statics s) 0 0 → Post tb e args s (.returned v) u) :
    ArmFor flags0 classFile x code maxLocals ret World_1 tables_1 room_1 Calls_1 rest_1 Pre_1 Post := by
  intro l hfl _ _ p e ha hc hk s m args below hf hA hF happ hP
  obtain ⟨hcalls, hrest, hpre⟩ := hP
  obtain ⟨-, -, -, hnamed, -, -, -, hat⟩ := (Spec.applies_iff hf).mp happ
  obtain ⟨hg, hn⟩ := and_e (Cond.before_iff.mp (show (Jvm.Cond.and given_1 narrow_1).before args s = true from hpre))
  obtain ⟨h1, k0⟩ := and_e hg
  obtain ⟨j0, k1⟩ := and_e k0
  obtain ⟨w0, w1, rfl⟩ : ∃ w0 w1 : Value, args = #[w0, w1] := by
    have hs : args.size = 2 := by simpa [Cond.value, given_1] using h1
    obtain ⟨L⟩ := args
    match L, hs with
    | [w0, w1], _ => exact ⟨w0, w1, rfl⟩
  have hw := fun d (hd : d ∈ tables_1) => atoms_spec (ws := Jvm.Cond.code x code maxLocals ret :: tables_1) hat d (List.mem_cons_of_mem _ hd)
  obtain ⟨i0, ei0⟩ := is_v j0
  obtain rfl : w0 = (.int i0) := Option.some.inj ei0
  obtain ⟨i1, ei1⟩ := is_v k1
  obtain rfl : w1 = (.int i1) := Option.some.inj ei1
  obtain ⟨n, o, h1, h2, h3, v, L, rfl, ⟨N, its', ⟨rfl, -⟩, -⟩, hq⟩ := g0 l s _ hw s.heap.size i0 i1 s.heap tables_1 ⟨rfl, fun i P q => nomatch q⟩ p e ha hc hk s m _ below hf ((Spec.applies_iff_loose hf).mp happ).1 ⟨rfl, State.Warmed39.refl s, rfl⟩ trivial
  refine ⟨n, _, h1, h2, h3, hpost _ _ _ _ _ _ ⟨Cond.after_iff.mpr rfl, Cond.after_iff.mpr (eq_i res_at (Term.int_eval (1)) rfl), trivial⟩ ⟨hq.1, hq.2.1, (hq.2.2.sift fun y hy => Or.inr (N y hy)).mono (by decide) (by decide)⟩⟩
theorem main_1_1 : Claimed_1_1 := comes_1 fun _ _ _ _ _ _ h hF => ⟨h.1, hF⟩
theorem main_1_2 : Claimed_1_2 := comes_1 fun _ _ _ _ _ _ h hF => ⟨h.2.1, hF⟩
end Jvm.Pilot.@@N@@
namespace Jvm.Pilot.@@N@@
open Jvm Jvm.ClassFile Sem Op Lib Jvm.Free Jvm.Stand Jvm.Pilot.@@N@@.Jvm.D
/-! MADE BY PROGRAM (witnessworld.py) out of the Statement's table words and the real class files: 9 classes; the members and pool entries that the words name. The judged class is class 1, her method 1. -/
namespace start1
open Jvm.ClassFile
def u (s : String) : CpInfo := .utf8 (stringToUtf16 s)
/-- a pool by its gaps: so many unusable entries, then the entry; so many at the end -/
def gap : Nat → List CpInfo → List CpInfo
  | 0, r => r
  | n + 1, r => .unusable :: gap n r
def poolList (es : List (Nat × CpInfo)) (last : Nat) : List CpInfo := es.foldr (fun e r => gap e.1 (e.2 :: r)) (gap last [])
def pool (es : List (Nat × CpInfo)) (last : Nat) : Array CpInfo := ⟨poolList es last⟩
def fileOf (pool : Array CpInfo) (this : Nat) (attrs : Array Attribute := #[]) (ms : Array MethodInfo := #[]) (fl : Nat := 33) (sup : Nat := 0) (ifs : Array Nat := #[]) (fds : Array FieldInfo := #[]) : ClassFile where
  minorVersion := 0
  majorVersion := 65
  constantPool := pool
  accessFlags := fl
  thisClass := this
  superClass := sup
  interfaces := ifs
  fields := fds
  methods := ms
  attributes := attrs
def plain (name : String) (sup : Option ClassId) : Class where
  name := name
  kind := .ordinary
  loader := none
  accessFlags := 33
  super := sup
  interfaces := #[]
  cf := none
  fields := #[]
  methods := #[]
  instanceTypes := #[]
  staticTypes := #[]
  resolved := #[]
  callSites := []
  init := .initialized
  statics := none
  mirror := none

def pool0 : Array CpInfo := pool [(5, u "<init>"), (0, u "()V"), (1, .class_ 10), (1, u "java/lang/Object")] 113

def k0m0 : Method := { name := "<init>", desc := "()V", sig := { parameters := [], returnType := none }, accessFlags := 1, code := none }
/-- java/lang/Object -/
def k0 : Class := { plain "java/lang/Object" none with
  accessFlags := 33
  interfaces := #[]
  cf := some (fileOf pool0 8 #[] #[{ accessFlags := 1, nameIndex := 5, descriptorIndex := 6, attributes := #[] }] 33 0 #[] #[])
  fields := #[]
  methods := #[k0m0]
  instanceTypes := #[]
  staticTypes := #[]
  resolved := Array.replicate 124 none
  statics := none }

def pool1 : Array CpInfo := pool [(2, .class_ 4), (1, u "java/lang/Object"), (0, u "<init>"), (0, u "()V"), (0, .long 48), (1, .long 32), (1, .long 97), (1, .long 9), (1, .long 5), (1, .methodref 18 19), (0, .class_ 20), (0, .nameAndType 21 22), (0, u "com/example/oropendola/oropendola/format/Names"), (0, u "digit"), (0, u "(II)I"), (0, .class_ 24), (0, u "com/example/oropendola/oropendola/format/NamesDigitPinLaw"), (2, u "law"), (0, u "(II)Z")] 3

def k1m0 : Method := { name := "<init>", desc := "()V", sig := { parameters := [], returnType := none }, accessFlags := 2, code := none }
def k1c1 : Code := { maxStack := 4, maxLocals := 9, code := code, exceptionTable := #[], attributes := #[] }
def k1m1 : Method := { name := "law", desc := "(II)Z", sig := { parameters := [.int, .int], returnType := some .boolean }, accessFlags := 9, code := some k1c1 }
/-- com/example/oropendola/oropendola/format/NamesDigitPinLaw -/
def k1 : Class := { plain "com/example/oropendola/oropendola/format/NamesDigitPinLaw" (some 0) with
  accessFlags := 49
  interfaces := #[]
  cf := some (fileOf pool1 23 #[] #[{ accessFlags := 2, nameIndex := 5, descriptorIndex := 6, attributes := #[] }, { accessFlags := 9, nameIndex := 27, descriptorIndex := 28, attributes := #[] }] 49 2 #[] #[])
  fields := #[]
  methods := #[k1m0, k1m1]
  instanceTypes := #[]
  staticTypes := #[]
  resolved := Array.replicate 32 none
  statics := none }

def pool2 : Array CpInfo := pool [(2, .class_ 4), (1, u "java/lang/Object"), (0, u "<init>"), (0, u "()V"), (21, .class_ 30), (1, u "com/example/oropendola/oropendola/format/Names"), (30, u "NAME_START_RANGES"), (0, u "[I"), (6, u "NAME_RANGES"), (6, u "EMPTY_STACK"), (0, u "Ljava/lang/String;"), (3, u "OUTPUT_MARK"), (2, u "COMMENT"), (0, u "C"), (1, u "BEGIN"), (2, u "END"), (2, u "NAME_CHARACTERS"), (11, u "digit"), (0, u "(II)I")] 19

def k2m0 : Method := { name := "<init>", desc := "()V", sig := { parameters := [], returnType := none }, accessFlags := 2, code := none }
def k2c1 : Code := { maxStack := 2, maxLocals := 3, code := prog_73_method_6_code, exceptionTable := #[], attributes := #[] }
def k2m1 : Method := { name := "digit", desc := "(II)I", sig := { parameters := [.int, .int], returnType := some .int }, accessFlags := 9, code := some k2c1 }
/-- com/example/oropendola/oropendola/format/Names -/
def k2 : Class := { plain "com/example/oropendola/oropendola/format/Names" (some 0) with
  accessFlags := 49
  interfaces := #[]
  cf := some (fileOf pool2 28 #[] #[{ accessFlags := 2, nameIndex := 5, descriptorIndex := 6, attributes := #[] }, { accessFlags := 9, nameIndex := 105, descriptorIndex := 106, attributes := #[] }] 49 2 #[] #[{ accessFlags := 26, nameIndex := 61, descriptorIndex := 62, attributes := #[] }, { accessFlags := 26, nameIndex := 69, descriptorIndex := 62, attributes := #[] }, { accessFlags := 24, nameIndex := 76, descriptorIndex := 77, attributes := #[] }, { accessFlags := 24, nameIndex := 81, descriptorIndex := 77, attributes := #[] }, { accessFlags := 24, nameIndex := 84, descriptorIndex := 85, attributes := #[] }, { accessFlags := 24, nameIndex := 87, descriptorIndex := 77, attributes := #[] }, { accessFlags := 24, nameIndex := 90, descriptorIndex := 77, attributes := #[] }, { accessFlags := 24, nameIndex := 93, descriptorIndex := 77, attributes := #[] }])
  fields := #[{ name := "NAME_START_RANGES", type := (.array .int), accessFlags := 26, slot := 0, constantValue := 0 }, { name := "NAME_RANGES", type := (.array .int), accessFlags := 26, slot := 1, constantValue := 0 }, { name := "EMPTY_STACK", type := (.object "java/lang/String"), accessFlags := 24, slot := 2, constantValue := 0 }, { name := "OUTPUT_MARK", type := (.object "java/lang/String"), accessFlags := 24, slot := 3, constantValue := 0 }, { name := "COMMENT", type := .char, accessFlags := 24, slot := 4, constantValue := 0 }, { name := "BEGIN", type := (.object "java/lang/String"), accessFlags := 24, slot := 5, constantValue := 0 }, { name := "END", type := (.object "java/lang/String"), accessFlags := 24, slot := 6, constantValue := 0 }, { name := "NAME_CHARACTERS", type := (.object "java/lang/String"), accessFlags := 24, slot := 7, constantValue := 0 }]
  methods := #[k2m0, k2m1]
  instanceTypes := #[]
  staticTypes := #[(.array .int), (.array .int), (.object "java/lang/String"), (.object "java/lang/String"), .char, (.object "java/lang/String"), (.object "java/lang/String"), (.object "java/lang/String")]
  resolved := Array.replicate 126 none
  statics := none }

def pool3 : Array CpInfo := pool [(1, u "java/lang/Cloneable"), (0, .class_ 1), (0, u "java/lang/Object"), (0, .class_ 3)] 3

/-- java/lang/Cloneable -/
def k3 : Class := { plain "java/lang/Cloneable" (some 0) with
  accessFlags := 1537
  interfaces := #[]
  cf := some (fileOf pool3 2 #[] #[] 1537 4 #[] #[])
  fields := #[]
  methods := #[]
  instanceTypes := #[]
  staticTypes := #[]
  resolved := Array.replicate 8 none
  statics := none }

def pool4 : Array CpInfo := pool [(1, u "java/io/Serializable"), (0, .class_ 1), (0, u "java/lang/Object"), (0, .class_ 3)] 3

/-- java/io/Serializable -/
def k4 : Class := { plain "java/io/Serializable" (some 0) with
  accessFlags := 1537
  interfaces := #[]
  cf := some (fileOf pool4 2 #[] #[] 1537 4 #[] #[])
  fields := #[]
  methods := #[]
  instanceTypes := #[]
  staticTypes := #[]
  resolved := Array.replicate 8 none
  statics := none }

/-- the primitive byte -/
def k5 : Class := { plain "byte" none with kind := .primitive 'B', accessFlags := 0x411 }
/-- [B -/
def k6 : Class := { plain "[B" (some 0) with kind := .array 5 .byte, interfaces := #[3, 4], accessFlags := 1041 }

/-- the primitive int -/
def k7 : Class := { plain "int" none with kind := .primitive 'I', accessFlags := 0x411 }
/-- [I -/
def k8 : Class := { plain "[I" (some 0) with kind := .array 7 .int, interfaces := #[3, 4], accessFlags := 1041 }

def heap : Heap := #[]
def classes : Array Class := #[k0, k1, k2, k3, k4, k5, k6, k7, k8]
def interned : List (Array UInt16 × Addr) := []
def slotsUsed : Nat := 0
def theMethod : MethodId := ⟨1, 1⟩
def args0 : Array Value := #[.int 5, .int 65]
def aboutOver (below : List Frame) : State where
  vm := { classes := classes, interned := interned.toArray }
  heap := heap
  slotsUsed := slotsUsed
  threads := #[{ frames := .invoking theMethod args0 :: below }]
def below0 : List Frame := [.native { method := ⟨0, 0⟩, args := #[] }]
def about1 : State := aboutOver below0
def p0 : Program := .bare "" "" ""
def e0 : Env := launch0.env 0 0 0
theorem w_frames : about1.frames = Frame.invoking theMethod args0 :: below0 := rfl
set_option maxRecDepth 65536 in
theorem w_args : argsFit about1.vm theMethod args0 = true := by decide +kernel
set_option maxRecDepth 65536 in
theorem w_heap : heapFits about1 = true := by decide +kernel
set_option maxRecDepth 65536 in
theorem w_runnable : about1.curStatus? = some .runnable := by decide +kernel
set_option maxRecDepth 65536 in
theorem w_alone : about1.alone = true := by decide +kernel
set_option maxRecDepth 65536 in
theorem w_named : about1.methodNamed? x = some theMethod := by decide +kernel
set_option maxRecDepth 65536 in
theorem w_hears : about1.hears theMethod below0 = true := by decide +kernel
set_option maxRecDepth 65536 in
theorem w_ripe : about1.ripe theMethod args0 below0 = true := by decide +kernel
theorem w_running : about1.status = .running := rfl
set_option maxRecDepth 65536 in
theorem w_room : about1.hasRoom e0.platform room_1 = true :=
  launch0.hasRoom_least _ room_1 (by decide +kernel) (by decide +kernel) (by decide +kernel) (by decide +kernel) (by decide +kernel) (by decide +kernel)
theorem allAtoms_all (ts : List Jvm.Cond) (a : Array Jvm.Value) (st : Jvm.State) : (allAtoms ts).before a st = ts.all (fun c => c.before a st) := by
  induction ts with
  | nil => rfl
  | cons c t ih =>
    show (Jvm.Cond.and c (allAtoms t)).before a st = _
    rw [Jvm.Cond.before_and, ih, List.all_cons]
def words1 : List Jvm.Cond := Jvm.Cond.code x code maxLocals ret :: tables_1
/-- a 'code' word, met by the world's own term for the bytes: nothing is compared byte by byte -/
theorem code_word {y : MethodName} {bytes : ByteArray} {mx : Nat} {rt : Option FieldType} {a : Array Value} {s : State} {m : MethodId} {meth : Method} {c : Code} (h1 : s.methodNamed? y = some m) (h2 : s.vm.method? m = some meth) (h3 : meth.code = some c) (h4 : c.code = bytes)
    (h5 : (c.maxLocals == mx && c.exceptionTable.isEmpty && decide (c.maxStack ≤ mostOperands) && decide (meth.sig.returnType = rt) && !meth.locks && decide (parseMethodDescriptor y.desc = some meth.sig)) = true) : (Jvm.Cond.code y bytes mx rt).before a s = true := by
  simp only [Bool.and_eq_true, beq_iff_eq, Bool.not_eq_true', decide_eq_true_eq] at h5
  obtain ⟨⟨⟨⟨⟨g1, g2⟩, g3⟩, g4⟩, g5⟩, g6⟩ := h5
  simp [Cond.before, Cond.holds, Cond.value, h1, h2, h3, h4, g1, g2, g3, g4, g5, g6]
def isCode : Jvm.Cond → Bool
  | .code _ _ _ _ => true
  | _ => false
theorem all_split {L : List Jvm.Cond} {P : Jvm.Cond → Bool} (h1 : L.all (fun c => isCode c || P c) = true) (h2 : ∀ c ∈ L.filter isCode, P c = true) : L.all P = true := by
  refine List.all_eq_true.mpr fun c hc => ?_
  have h := List.all_eq_true.mp h1 c hc
  rcases Bool.eq_false_or_eq_true (isCode c) with hi | hi
  · exact h2 c (List.mem_filter.mpr ⟨hc, hi⟩)
  · simpa [hi] using h
set_option maxRecDepth 65536 in
theorem w_c0 : (Jvm.Cond.code x code maxLocals ret).before args0 about1 = true := code_word (m := ⟨1, 1⟩) (meth := k1m1) (c := k1c1) (by decide +kernel) rfl rfl rfl (by decide +kernel)
set_option maxRecDepth 65536 in
theorem w_c1 : (Jvm.Cond.code ({ cls := "com/example/oropendola/oropendola/format/Names", name := "digit", desc := "(II)I" } : Jvm.MethodName) prog_73_method_6_code (3 : Nat) (Option.some Jvm.ClassFile.FieldType.int)).before args0 about1 = true := code_word (m := ⟨2, 1⟩) (meth := k2m1) (c := k2c1) (by decide +kernel) rfl rfl rfl (by decide +kernel)
def codes1 : List Jvm.Cond := [Jvm.Cond.code x code maxLocals ret, Jvm.Cond.code ({ cls := "com/example/oropendola/oropendola/format/Names", name := "digit", desc := "(II)I" } : Jvm.MethodName) prog_73_method_6_code (3 : Nat) (Option.some Jvm.ClassFile.FieldType.int)]
set_option maxRecDepth 65536 in
theorem codes_eq : words1.filter isCode = codes1 := rfl
theorem w_codes : ∀ c ∈ words1.filter isCode, c.before args0 about1 = true := by
  rw [codes_eq]
  intro c hc
  simp only [codes1, List.mem_cons, List.not_mem_nil, or_false] at hc
  rcases hc with rfl | rfl
  · exact w_c0
  · exact w_c1
set_option maxRecDepth 65536 in
theorem w_t1 : words1.all (fun c => isCode c || c.before args0 about1) = true := by decide +kernel
theorem w_tables : (allAtoms (Jvm.Cond.code x code maxLocals ret :: tables_1)).before args0 about1 = true := by
  rw [allAtoms_all]
  show words1.all (fun c => c.before args0 about1) = true
  refine all_split ?_ w_codes
  rw [w_t1]
set_option maxRecDepth 65536 in
theorem w_case : (Jvm.Cond.and given_1 narrow_1).before args0 about1 = true := by decide +kernel
theorem w_applies : (headSpec (Jvm.Cond.code x code maxLocals ret :: tables_1) room_1).applies x e0.platform about1 = true :=
  (Spec.applies_iff w_frames).mpr ⟨w_running, w_runnable, w_alone, w_named, w_hears, w_ripe, w_room, w_tables⟩
theorem atStart : AtStart classFile x code maxLocals ret World_1 tables_1 room_1 Calls_1 rest_1 Pre_1 launch0 p0 e0 about1 theMethod args0 below0 :=
  ⟨lists_1, trivial, launch0.admits_env _ _ _, launch0.least_env, fairChoices_fair.cas, fairChoices_fair.clock, w_frames, w_args, w_heap, w_applies, trivial, trivial, w_case⟩
end start1
theorem witness_1 : WitnessClaimed_1 := ⟨start1.p0, start1.e0, start1.about1, start1.theMethod, start1.args0, start1.below0, start1.atStart⟩
end Jvm.Pilot.@@N@@
