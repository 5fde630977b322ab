import JvmDerived
import JvmDerived.Pilot.@@N@@Statement
import JvmDerived.Pilot.@@N@@Code
set_option linter.unusedVariables false
set_option linter.unusedSimpArgs false
namespace Jvm.RoadKit
open Sem ClassFile Op Lib Jvm.Stand Jvm.Free Jvm.LawKit
section OwnKit
/-- what stands at a point of the walk: the law's Stand, its written places all new, the heap named; w: may have interned -/
abbrev own_W := (Vm → Prop) × (Vm → Prop)
def own_X (J : Vm → Prop) (p : Program) (l : Launch) (e : Env) (R : Room) (s : State) (m : MethodId) (args : Array Value) (below : List Frame) (meth : Method) (c : Code) (Z : State) (T : State) (h : Heap) (k n : Nat) : Prop :=
  ∃ (L : List Loc) (vm : Vm), Stand p l e R (s.setVm vm) m args below meth c T L k n ∧ Fr Z.heap.size L ∧ T.heap = h ∧ J vm ∧ s.Since vm h.size
def own_Cx (p : Program) (s : State) (m : MethodId) (meth : Method) (c : Code) (Z : State) (own nm : String) (bytes : ByteArray) (maxL : Nat) (ret : Option FieldType) : Prop :=
  p.tables.exec = Jvm.exec ∧ c.code = bytes ∧ c.maxLocals = maxL ∧ meth.sig.returnType = ret ∧ meth.locks = false ∧ Z.Warmed39 s.vm ∧ s.vm.findClass own = some m.cls ∧ meth.name = nm
def own_Go (J : Vm → Prop) (p : Program) (l : Launch) (e : Env) (R : Room) (s : State) (m : MethodId) (args : Array Value) (below : List Frame) (meth : Method) (c : Code) (Z : State) (Q : Option Value → Heap → Prop) (T : State) (g : JFrame) : Prop :=
  ∃ (T' : State) (v : Option Value) (h' : Heap) (k' n' : Nat), own_X J p l e R s m args below meth c Z T' h' k' n' ∧ k' ≤ R.cells ∧ n' ≤ R.slots ∧ (meth.sig.returnType = none → v = none) ∧ Q v h' ∧
    ∀ fs, (∀ (f : JFrame) (acts : List Action), f.method = m → f.locked = none → f.entered = [] → (doReturn e (T'.setTop f) acts v).1 = T'.setFrames fs) → Steps p.tables e below (T.setTop g) (T'.setFrames fs)
/-- from the frame g, over the heap h, with k cells and n slots made, the walk comes to a return of which Q holds -/
def own_G (w : own_W) (p : Program) (l : Launch) (e : Env) (R : Room) (s : State) (m : MethodId) (args : Array Value) (below : List Frame) (meth : Method) (c : Code) (Z : State) (Q : Option Value → Heap → Prop) (h : Heap) (k n : Nat) (g : JFrame) : Prop :=
  ∀ T, own_X w.1 p l e R s m args below meth c Z T h k n → own_Go w.2 p l e R s m args below meth c Z Q T g
def own_D (bytes : ByteArray) (pc : Nat) (i : Instr) (len pc' : Nat) : Prop := decode bytes pc = .ok (i, len) ∧ pc' = pc + len
def own_B (bytes : ByteArray) (pc : Nat) (i : Instr) (off : Int) (pcF pcT : Nat) : Prop := decode bytes pc = .ok (i, 3) ∧ pcF = pc + 3 ∧ 0 ≤ (pc : Int) + off ∧ ((pc : Int) + off).toNat = pcT
def own_Met (t : Option (List String × List String)) (l : Launch) (Z : State) (y : MethodName) (bytes : ByteArray) (maxL : Nat) (ret : Option FieldType) (ws : List Cond) (rm : Room) (as' : Array Value) (h : Heap) (Q : Option Value → Heap → Prop) : Prop :=
  match t with
  | none => MetFree l y (head1 (Cond.code y bytes maxL ret :: ws) rm) (fun a U => a = as' ∧ Z.Warmed39 U.vm ∧ U.heap = h) (fun _ _ _ _ _ => True)
    (fun _ U o U' => ∃ v L, o = .returned v ∧ (Q v U'.heap ∧ Fr Z.heap.size L ∧ h.size ≤ U'.heap.size) ∧ FrameEnd U o U' L rm.cells rm.slots)
  | some t => MetFree l y (head1 (Cond.code y bytes maxL ret :: ws) rm) (fun a U => a = as' ∧ Z.Warmed39 U.vm ∧ U.heap = h ∧ IB Z U.vm t.1) (fun _ _ _ _ _ => True)
    (fun _ U o U' => ∃ v L, o = .returned v ∧ (Q v U'.heap ∧ Fr Z.heap.size L ∧ h.size ≤ U'.heap.size ∧ IB Z U'.vm t.2) ∧ ReturnedEndW U o U' L rm.cells rm.slots)
/-! ## heap -/
abbrev own_O := Addr × String × List (String × String × String × Value)
abbrev own_A := Addr × FieldType × String × List Value
def own_OK (Z : State) (h : Heap) (o : own_O) : Prop := Exa Z h o.1 o.2.1 ∧ (∀ f ∈ o.2.2, Fld Z h o.1 f.1 f.2.1 f.2.2.1 f.2.2.2) ∧ o.2.2.Pairwise (fun f g => slotOf Z f.1 f.2.1 f.2.2.1 ≠ slotOf Z g.1 g.2.1 g.2.2.1)
def own_AK (Z : State) (h : Heap) (a : own_A) : Prop := ∃ cl : Cell, Arr Z h a.1 cl a.2.1 ∧ cl.slots.toList = a.2.2.2 ∧ (∀ v ∈ a.2.2.2, fits a.2.1 v = true) ∧ (a.2.2.1 ≠ "" → Exa Z h a.1 a.2.2.1) ∧ (∀ C, a.2.1 = .object C → a.2.2.1 ≠ "" → Ovr Z cl.cls C)
/-- the heap h: what stood at the law's start Z stands; the objects os and the arrays as, all new, all apart -/
def own_ro (o : own_O) : Bool := match o.2.2 with | f :: _ => f.2.1 == "coder" | [] => false
def own_k (o : own_O) : Addr × Bool := (o.1, own_ro o)
def own_ka (a : own_A) : Addr × Bool := (a.1, decide (a.2.2.1 = ""))
def own_ap (x y : Addr × Bool) : Prop := (x.2 = true ∧ y.2 = true) ∨ x.1 ≠ y.1
def own_H (Z : State) (h : Heap) (os : List own_O) (as : List own_A) : Prop :=
  Ext Z.heap h ∧ (∀ o ∈ os, (own_ro o = false → Z.heap.size ≤ o.1) ∧ own_OK Z h o) ∧ (∀ a ∈ as, (a.2.2.1 ≠ "" → Z.heap.size ≤ a.1) ∧ own_AK Z h a) ∧ (os.map own_k ++ as.map own_ka).Pairwise own_ap
variable {w : own_W} {p : Program} {l : Launch} {e : Env} {R : Room} {s : State} {m : MethodId} {args : Array Value} {below : List Frame} {meth : Method} {c : Code} {Z : State} {a0 : Array Value} {own nm : String} {bytes : ByteArray} {maxL : Nat} {ret : Option FieldType} {Q : Option Value → Heap → Prop} {h h' : Heap} {k n k' n' : Nat} {pc pc' pcT : Nat} {Ls Ls' : Array Slot} {st rest : List Value} {os os' : List own_O} {as as' : List own_A} {g g' : JFrame} {tyR : FieldType}
theorem own_H.start (Z : State) : own_H Z Z.heap [] [] := ⟨⟨Nat.le_refl _, fun _ _ q => q⟩, fun _ q => (nomatch q), fun _ q => (nomatch q), List.Pairwise.nil⟩
theorem own_OK.ext {o : own_O} (E : Ext h h') (F : own_OK Z h o) : own_OK Z h' o := ⟨F.1.ext E, fun f hf => (F.2.1 f hf).ext E, F.2.2⟩
theorem own_AK.ext {a : own_A} (E : Ext h h') (F : own_AK Z h a) : own_AK Z h' a := by
  obtain ⟨cl, h1, h2, h3, h4, h5⟩ := F; exact ⟨cl, h1.ext E, h2, h3, fun q => (h4 q).ext E, h5⟩
theorem own_H.ext (H : own_H Z h os as) (E : Ext h h') : own_H Z h' os as :=
  ⟨⟨Nat.le_trans H.1.1 E.1, fun a c q => E.2 a c (H.1.2 a c q)⟩, fun o ho => ⟨(H.2.1 o ho).1, (H.2.1 o ho).2.ext E⟩, fun a ha => ⟨(H.2.2.1 a ha).1, (H.2.2.1 a ha).2.ext E⟩, H.2.2.2⟩
theorem own_H.ltO (H : own_H Z h os as) {o : own_O} (ho : o ∈ os) : o.1 < h.size := (H.2.1 o ho).2.1.lt
theorem own_H.ltA (H : own_H Z h os as) {a : own_A} (ha : a ∈ as) : a.1 < h.size := by obtain ⟨-, cl, h1, -⟩ := H.2.2.1 a ha; exact h1.lt
theorem own_ap.symm {x y : Addr × Bool} (q : own_ap x y) : own_ap y x := q.imp And.symm Ne.symm
theorem own_H.fresh (H : own_H Z h os as) : ∀ y ∈ os.map own_k ++ as.map own_ka, y.1 < h.size := fun y q => by
  rcases List.mem_append.mp q with q | q
  · obtain ⟨o, ho, rfl⟩ := List.mem_map.mp q; exact H.ltO ho
  · obtain ⟨o, ho, rfl⟩ := List.mem_map.mp q; exact H.ltA ho
theorem own_H.consO (H : own_H Z h os as) (E : Ext h h') {o : own_O} (F : own_OK Z h' o) (hb : own_ro o = false → Z.heap.size ≤ o.1) (hn : ∀ y ∈ os.map own_k ++ as.map own_ka, own_ap (own_k o) y) : own_H Z h' (o :: os) as := by
  have H' := H.ext E
  refine ⟨H'.1, fun x hx => ?_, H'.2.2.1, List.pairwise_cons.mpr ⟨hn, H.2.2.2⟩⟩
  rcases List.mem_cons.mp hx with rfl | hx
  · exact ⟨hb, F⟩
  · exact H'.2.1 x hx
theorem own_H.consA (H : own_H Z h os as) (E : Ext h h') {a : own_A} (F : own_AK Z h' a) (hb : a.2.2.1 ≠ "" → Z.heap.size ≤ a.1) (hn : ∀ y ∈ os.map own_k ++ as.map own_ka, own_ap (own_ka a) y) : own_H Z h' os (a :: as) := by
  have H' := H.ext E
  refine ⟨H'.1, H'.2.1, fun x hx => ?_, ?_⟩
  · rcases List.mem_cons.mp hx with rfl | hx
    · exact ⟨hb, F⟩
    · exact H'.2.2.1 x hx
  · have q2 := List.pairwise_append.mp H.2.2.2
    refine List.pairwise_append.mpr ⟨q2.1, List.pairwise_cons.mpr ⟨fun y hy => hn y (List.mem_append_right _ hy), q2.2.1⟩, fun x hx y hy => ?_⟩
    rcases List.mem_cons.mp hy with rfl | hy
    · exact (hn x (List.mem_append_left _ hx)).symm
    · exact q2.2.2 x hx y hy
theorem own_H.addO (H : own_H Z h os as) (E : Ext h h') {C : String} {fs : List (String × String × String × Value)} (F : own_OK Z h' (h.size, C, fs)) : own_H Z h' ((h.size, C, fs) :: os) as :=
  H.consO E F (fun _ => H.1.1) fun y hy => Or.inr fun q => Nat.lt_irrefl h.size ((show h.size = y.1 from q) ▸ H.fresh y hy)
theorem own_H.addA (H : own_H Z h os as) (E : Ext h h') {ty : FieldType} {ad : String} {vs : List Value} (F : own_AK Z h' (h.size, ty, ad, vs)) : own_H Z h' os ((h.size, ty, ad, vs) :: as) :=
  H.consA E F (fun _ => H.1.1) fun y hy => Or.inr fun q => Nat.lt_irrefl h.size ((show h.size = y.1 from q) ▸ H.fresh y hy)
theorem own_H.tailO {o : own_O} (H : own_H Z h (o :: os) as) : own_H Z h os as := ⟨H.1, fun x hx => H.2.1 x (List.mem_cons_of_mem _ hx), H.2.2.1, (List.pairwise_cons.mp H.2.2.2).2⟩
theorem own_mem {α : Type} {L : List α} {i : Nat} {x : α} (hx : L[i]? = some x) : x ∈ L := List.mem_of_getElem? hx
theorem own_H.atO (H : own_H Z h os as) {i : Nat} {a : Addr} {C : String} {fs : List (String × String × String × Value)} (ho : os[i]? = some (a, C, fs)) : Exa Z h a C := (H.2.1 _ (own_mem ho)).2.1
theorem own_H.newO (H : own_H Z h os as) {i : Nat} {a : Addr} {C : String} {fs : List (String × String × String × Value)} (ho : os[i]? = some (a, C, fs)) (hro : own_ro (a, C, fs) = false) : Z.heap.size ≤ a := (H.2.1 _ (own_mem ho)).1 hro
theorem own_H.fld (H : own_H Z h os as) {i q : Nat} {a : Addr} {C O f d : String} {v : Value} {fs : List (String × String × String × Value)} (ho : os[i]? = some (a, C, fs)) (hf : fs[q]? = some (O, f, d, v)) : Fld Z h a O f d v := (H.2.1 _ (own_mem ho)).2.2.1 _ (own_mem hf)
theorem own_pws {α : Type} {R : α → α → Prop} {L : List α} (P : L.Pairwise R) (S : ∀ {x y}, R x y → R y x) {i j : Nat} {x y : α} (hx : L[i]? = some x) (hy : L[j]? = some y) (ij : i ≠ j) : R x y := by
  obtain ⟨h1, rfl⟩ := List.getElem?_eq_some_iff.mp hx
  obtain ⟨h2, rfl⟩ := List.getElem?_eq_some_iff.mp hy
  rcases Nat.lt_or_gt_of_ne ij with lt | lt
  · exact List.pairwise_iff_getElem.mp P i j h1 h2 lt
  · exact S (List.pairwise_iff_getElem.mp P j i h2 h1 lt)
theorem own_H.neOO (H : own_H Z h os as) {i j : Nat} {x y : own_O} (hx : os[i]? = some x) (hy : os[j]? = some y) (ij : i ≠ j) (hro : own_ro y = false) : x.1 ≠ y.1 := by
  have h1 : (os.map own_k)[i]? = some (own_k x) := by rw [List.getElem?_map, hx]; rfl
  have h2 : (os.map own_k)[j]? = some (own_k y) := by rw [List.getElem?_map, hy]; rfl
  rcases own_pws (List.pairwise_append.mp H.2.2.2).1 own_ap.symm h1 h2 ij with ⟨-, q⟩ | q
  · rw [show (own_k y).2 = own_ro y from rfl, hro] at q; cases q
  · exact q
theorem own_H.neAA (H : own_H Z h os as) {i j : Nat} {x y : own_A} (hx : as[i]? = some x) (hy : as[j]? = some y) (ij : i ≠ j) (had : y.2.2.1 ≠ "") : x.1 ≠ y.1 := by
  have h1 : (as.map own_ka)[i]? = some (own_ka x) := by rw [List.getElem?_map, hx]; rfl
  have h2 : (as.map own_ka)[j]? = some (own_ka y) := by rw [List.getElem?_map, hy]; rfl
  rcases own_pws (List.pairwise_append.mp H.2.2.2).2.1 own_ap.symm h1 h2 ij with ⟨-, q⟩ | q
  · exact absurd (of_decide_eq_true q) had
  · exact q
theorem own_H.neOA (H : own_H Z h os as) {x : own_O} {y : own_A} (hx : x ∈ os) (hy : y ∈ as) (hr : own_ro x = false ∨ y.2.2.1 ≠ "") : x.1 ≠ y.1 := by
  rcases (List.pairwise_append.mp H.2.2.2).2.2 _ (List.mem_map.mpr ⟨x, hx, rfl⟩) _ (List.mem_map.mpr ⟨y, hy, rfl⟩) with ⟨q1, q2⟩ | q
  · rcases hr with hr | hr
    · rw [show (own_k x).2 = own_ro x from rfl, hr] at q1; cases q1
    · exact absurd (of_decide_eq_true q2) hr
  · exact q
theorem own_ro_set {a : Addr} {C O f d : String} {v v0 : Value} {fs : List (String × String × String × Value)} {q : Nat} (hf : fs[q]? = some (O, f, d, v0)) : own_ro (a, C, fs.set q (O, f, d, v)) = own_ro (a, C, fs) := by
  cases fs with
  | nil => cases hf
  | cons x fs =>
    cases q with
    | zero => cases hf; rfl
    | succ q => rfl
theorem own_set_map {α β : Type} {L : List α} {f : α → β} {i : Nat} {x x' : α} (hx : L[i]? = some x) (e : f x' = f x) : (L.set i x').map f = L.map f := by
  apply List.ext_getElem?
  intro j
  rw [List.getElem?_map, List.getElem?_map, List.getElem?_set]
  by_cases ij : i = j
  · subst ij; rw [hx]; have := (List.getElem?_eq_some_iff.mp hx).1; simp [this, e]
  · simp [ij]
theorem own_H.wrO (H : own_H Z h os as) {i q : Nat} {a : Addr} {C O f d : String} {v v0 : Value} {fs : List (String × String × String × Value)} (hro : own_ro (a, C, fs) = false) (ho : os[i]? = some (a, C, fs)) (hf : fs[q]? = some (O, f, d, v0)) (W : Wr h h' a (slotOf Z O f d) v) :
    own_H Z h' (os.set i (a, C, fs.set q (O, f, d, v))) as := by
  have na := H.newO ho hro
  have hlen := (List.getElem?_eq_some_iff.mp ho).1
  have hql := (List.getElem?_eq_some_iff.mp hf).1
  refine ⟨?_, fun x hx => ?_, fun y hy => ?_, ?_⟩
  · refine ⟨by rw [Wr.size W]; exact H.1.1, fun b cb hb => ?_⟩
    obtain ⟨cb', e1, -, -, -, e5, -⟩ := wr_at W (H.1.2 b cb hb)
    have : b ≠ a := Nat.ne_of_lt (Nat.lt_of_lt_of_le (Array.getElem?_eq_some_iff.mp hb).1 na)
    rw [← e5 this]; exact e1
  · obtain ⟨j, hj⟩ := List.mem_iff_getElem?.mp hx
    rw [List.getElem?_set] at hj
    by_cases ij : i = j
    · subst ij
      rw [if_pos rfl, if_pos hlen] at hj
      obtain rfl := Option.some.inj hj
      obtain ⟨n1, E, F, Pw⟩ := H.2.1 _ (own_mem ho)
      refine ⟨fun _ => na, E.wr W, fun z hz => ?_, ?_⟩
      · obtain ⟨r, hr⟩ := List.mem_iff_getElem?.mp hz
        rw [List.getElem?_set] at hr
        by_cases qr : q = r
        · subst qr
          rw [if_pos rfl, if_pos hql] at hr
          obtain rfl := Option.some.inj hr
          exact Fld.same (w := v0) W (F _ (own_mem (show (a, C, fs).2.2[q]? = some (O, f, d, v0) from hf)))
        · rw [if_neg qr] at hr
          refine Fld.other W (F _ (own_mem hr)) (Or.inr fun e => ?_)
          have P2 : ∀ i j : Nat, i < j → ∀ x y, fs[i]? = some x → fs[j]? = some y → slotOf Z x.1 x.2.1 x.2.2.1 ≠ slotOf Z y.1 y.2.1 y.2.2.1 := fun i j ij x y hx hy => by
            obtain ⟨h1, rfl⟩ := List.getElem?_eq_some_iff.mp hx
            obtain ⟨h2, rfl⟩ := List.getElem?_eq_some_iff.mp hy
            exact List.pairwise_iff_getElem.mp Pw i j h1 h2 ij
          rcases Nat.lt_or_gt_of_ne qr with lt | lt
          · exact P2 q r lt _ _ hf hr e.symm
          · exact P2 r q lt _ _ hr hf e
      · have hm : (fs.set q (O, f, d, v)).map (fun f => slotOf Z f.1 f.2.1 f.2.2.1) = fs.map (fun f => slotOf Z f.1 f.2.1 f.2.2.1) := own_set_map hf rfl
        have t := List.pairwise_map.mpr Pw
        rw [← hm] at t
        exact List.pairwise_map.mp t
    · rw [if_neg ij] at hj
      obtain ⟨n1, E, F, Pw⟩ := H.2.1 _ (own_mem hj)
      exact ⟨n1, E.wr W, fun z hz => Fld.other W (F z hz) (Or.inl (H.neOO hj ho (Ne.symm ij) hro)), Pw⟩
  · obtain ⟨n1, cl, h1, h2, h3, h4, h5⟩ := H.2.2.1 y hy
    exact ⟨n1, cl, h1.other W (Ne.symm (H.neOA (own_mem ho) hy (Or.inl hro))), h2, h3, fun q => (h4 q).wr W, h5⟩
  · rw [own_set_map (f := own_k) (x' := (a, C, fs.set q (O, f, d, v))) ho (congrArg (Prod.mk a) (own_ro_set hf))]; exact H.2.2.2
theorem own_H.wrA (H : own_H Z h os as) {i q : Nat} {a : Addr} {ty : FieldType} {ad : String} {v : Value} {vs : List Value} (had : ad ≠ "") (ha : as[i]? = some (a, ty, ad, vs)) (hq : q < vs.length) (hv : fits ty v = true) (W : Wr h h' a q v) :
    own_H Z h' os (as.set i (a, ty, ad, vs.set q v)) := by
  have na := (H.2.2.1 _ (own_mem ha)).1 had
  have hlen := (List.getElem?_eq_some_iff.mp ha).1
  refine ⟨?_, fun x hx => ?_, fun y hy => ?_, ?_⟩
  · refine ⟨by rw [Wr.size W]; exact H.1.1, fun b cb hb => ?_⟩
    obtain ⟨cb', e1, -, -, -, e5, -⟩ := wr_at W (H.1.2 b cb hb)
    have : b ≠ a := Nat.ne_of_lt (Nat.lt_of_lt_of_le (Array.getElem?_eq_some_iff.mp hb).1 na)
    rw [← e5 this]; exact e1
  · obtain ⟨n1, E, F, Pw⟩ := H.2.1 _ hx
    exact ⟨n1, E.wr W, fun z hz => Fld.other W (F z hz) (Or.inl (H.neOA hx (own_mem ha) (Or.inr had))), Pw⟩
  · obtain ⟨j, hj⟩ := List.mem_iff_getElem?.mp hy
    rw [List.getElem?_set] at hj
    by_cases ij : i = j
    · subst ij
      rw [if_pos rfl, if_pos hlen] at hj
      obtain rfl := Option.some.inj hj
      obtain ⟨n1, cl, h1, h2, h3, h4, h5⟩ := H.2.2.1 _ (own_mem ha)
      refine ⟨n1, _, h1.same W, ?_, fun z hz => ?_, fun q => (h4 q).wr W, h5⟩
      · show (cl.setSlot q v).slots.toList = vs.set q v
        rw [show (cl.setSlot q v).slots = cl.slots.setIfInBounds q v from rfl, Array.toList_setIfInBounds, show cl.slots.toList = vs from h2]
      · rcases List.mem_or_eq_of_mem_set hz with hz | rfl
        · exact h3 z hz
        · exact hv
    · rw [if_neg ij] at hj
      obtain ⟨n1, cl, h1, h2, h3, h4, h5⟩ := H.2.2.1 _ (own_mem hj)
      exact ⟨n1, cl, h1.other W (H.neAA hj ha (Ne.symm ij) had), h2, h3, fun q => (h4 q).wr W, h5⟩
  · rw [own_set_map (f := own_ka) (x' := (a, ty, ad, vs.set q v)) ha rfl]; exact H.2.2.2
theorem own_le {a b : Nat} (h : Nat.ble a b = true) : a ≤ b := Nat.le_of_ble_eq_true h
theorem own_idx {j : Int32} {q : Nat} (hj : j.toInt = (q : Int)) : j.toNatClampNeg = q := by simp only [Int32.toNatClampNeg, hj]; rfl
theorem own_in {j : Int32} {q N : Nat} (hj : j.toInt = (q : Int)) (hq : q < N) : ¬ (j < 0 ∨ N ≤ j.toNatClampNeg) := by
  rw [own_idx hj, Int32.lt_iff_toInt_lt, hj, show (0 : Int32).toInt = 0 from rfl]; omega
theorem own_len {N : Int32} {q : Nat} (hN : N.toInt = (q : Int)) : q.toInt32 = N := by
  have := Int32.toInt_lt N
  exact Int32.toInt_inj.mp ((len_toInt (by omega)).trans hN.symm)
/-! ## steps -/
theorem own_zw {vm : Vm} (hZ : Z.Warmed39 s.vm) {q : Nat} (hS : s.Since vm q) : Z.Warmed39 (s.setVm vm).vm := State.Warmed39.trans (t := s) hZ hS.1
theorem own_pure (K : own_Cx p s m meth c Z own nm bytes maxL ret)
    (f : ∀ {T : State} {L : List Loc} {vm : Vm}, Stand p l e R (s.setVm vm) m args below meth c T L k n → Z.Warmed39 (s.setVm vm).vm → (s.setVm vm).vm.findClass own = some m.cls → T.heap = h → ∀ target, Steps p.tables e below (T.setTop g') target → Steps p.tables e below (T.setTop g) target)
    (hr : own_G w p l e R s m args below meth c Z Q h k n g') : own_G w p l e R s m args below meth c Z Q h k n g := by
  intro T hX
  obtain ⟨T', v, h', k', n', hX', r1, r2, r3, r4, r5⟩ := hr T hX
  obtain ⟨L, vm, X, -, eT, -, hS⟩ := hX
  exact ⟨T', v, h', k', n', hX', r1, r2, r3, r4, fun fs q => f X (own_zw K.2.2.2.2.2.1 hS) (by rw [show (s.setVm vm).vm = vm from rfl, hS.1.alike.findClass]; exact K.2.2.2.2.2.2.1) eT _ (r5 fs q)⟩
theorem own_since {vm : Vm} {q q' : Nat} (hS : s.Since vm q) (hq : q ≤ q') : s.Since vm q' := ⟨hS.1, hS.2.mono hq⟩
theorem own_step {P : Heap → Prop} (K : own_Cx p s m meth c Z own nm bytes maxL ret)
    (f : ∀ {T : State} {L : List Loc} {vm : Vm}, Stand p l e R (s.setVm vm) m args below meth c T L k n → Z.Warmed39 (s.setVm vm).vm → (s.setVm vm).vm.findClass own = some m.cls → T.heap = h → Fr Z.heap.size L →
      ∃ (T' : State) (h' : Heap) (L' : List Loc), Stand p l e R (s.setVm vm) m args below meth c T' L' k' n' ∧ Fr Z.heap.size L' ∧ T'.heap = h' ∧ h.size ≤ h'.size ∧ P h' ∧ ∀ target, Steps p.tables e below (T'.setTop g') target → Steps p.tables e below (T.setTop g) target)
    (hr : ∀ h', P h' → own_G w p l e R s m args below meth c Z Q h' k' n' g') : own_G w p l e R s m args below meth c Z Q h k n g := by
  intro T hX
  obtain ⟨L, vm, X, N, eT, hw, hS⟩ := hX
  obtain ⟨T1, h1, L1, X1, N1, e1, z1, P1, st⟩ := f X (own_zw K.2.2.2.2.2.1 hS) (by rw [show (s.setVm vm).vm = vm from rfl, hS.1.alike.findClass]; exact K.2.2.2.2.2.2.1) eT N
  obtain ⟨T', v, h', k', n', hX', r1, r2, r3, r4, r5⟩ := hr h1 P1 T1 ⟨L1, vm, X1, N1, e1, hw, own_since hS z1⟩
  exact ⟨T', v, h', k', n', hX', r1, r2, r3, r4, fun fs q => st _ (r5 fs q)⟩
theorem own_iload (K : own_Cx p s m meth c Z own nm bytes maxL ret) {kk : Nat} {v : Int32} (hd : own_D bytes pc (.iload kk) 2 pc') (hl : Ls[kk]? = some (.val (.int v))) (hr : own_G w p l e R s m args below meth c Z Q h k n (mkF m pc' Ls (.int v :: st))) : own_G w p l e R s m args below meth c Z Q h k n (mkF m pc Ls (st)) := by
  obtain ⟨hd, rfl⟩ := hd
  exact own_pure K (fun X _ _ _ _ q => XS.iload X.here K.1 rfl (hb K.2.1 hd) hl q) hr
theorem own_iloadN (K : own_Cx p s m meth c Z own nm bytes maxL ret) {kk : Fin 4} {v : Int32} (hd : own_D bytes pc (.iload_n kk) 1 pc') (hl : Ls[kk.val]? = some (.val (.int v))) (hr : own_G w p l e R s m args below meth c Z Q h k n (mkF m pc' Ls (.int v :: st))) : own_G w p l e R s m args below meth c Z Q h k n (mkF m pc Ls (st)) := by
  obtain ⟨hd, rfl⟩ := hd
  exact own_pure K (fun X _ _ _ _ q => XS.iloadN X.here K.1 rfl (hb K.2.1 hd) hl q) hr
theorem own_istore (K : own_Cx p s m meth c Z own nm bytes maxL ret) {kk : Nat} {v : Int32} (hd : own_D bytes pc (.istore kk) 2 pc') (hl : storeLocals Ls kk (.int v) = some Ls') (hr : own_G w p l e R s m args below meth c Z Q h k n (mkF m pc' Ls' (st))) : own_G w p l e R s m args below meth c Z Q h k n (mkF m pc Ls (.int v :: st)) := by
  obtain ⟨hd, rfl⟩ := hd
  exact own_pure K (fun X _ _ _ _ q => XS.istore X.here K.1 rfl (hb K.2.1 hd) rfl hl q) hr
theorem own_istoreN (K : own_Cx p s m meth c Z own nm bytes maxL ret) {kk : Fin 4} {v : Int32} (hd : own_D bytes pc (.istore_n kk) 1 pc') (hl : storeLocals Ls kk.val (.int v) = some Ls') (hr : own_G w p l e R s m args below meth c Z Q h k n (mkF m pc' Ls' (st))) : own_G w p l e R s m args below meth c Z Q h k n (mkF m pc Ls (.int v :: st)) := by
  obtain ⟨hd, rfl⟩ := hd
  exact own_pure K (fun X _ _ _ _ q => XS.istoreN X.here K.1 rfl (hb K.2.1 hd) rfl hl q) hr
theorem own_lload (K : own_Cx p s m meth c Z own nm bytes maxL ret) {kk : Nat} {v : Int64} (hd : own_D bytes pc (.lload kk) 2 pc') (hl : Ls[kk]? = some (.val (.long v))) (hr : own_G w p l e R s m args below meth c Z Q h k n (mkF m pc' Ls (.long v :: st))) : own_G w p l e R s m args below meth c Z Q h k n (mkF m pc Ls (st)) := by
  obtain ⟨hd, rfl⟩ := hd
  exact own_pure K (fun X _ _ _ _ q => XT.lload X.here K.1 rfl (hb K.2.1 hd) hl q) hr
theorem own_lloadN (K : own_Cx p s m meth c Z own nm bytes maxL ret) {kk : Fin 4} {v : Int64} (hd : own_D bytes pc (.lload_n kk) 1 pc') (hl : Ls[kk.val]? = some (.val (.long v))) (hr : own_G w p l e R s m args below meth c Z Q h k n (mkF m pc' Ls (.long v :: st))) : own_G w p l e R s m args below meth c Z Q h k n (mkF m pc Ls (st)) := by
  obtain ⟨hd, rfl⟩ := hd
  exact own_pure K (fun X _ _ _ _ q => XT.lloadN X.here K.1 rfl (hb K.2.1 hd) hl q) hr
theorem own_lstore (K : own_Cx p s m meth c Z own nm bytes maxL ret) {kk : Nat} {v : Int64} (hd : own_D bytes pc (.lstore kk) 2 pc') (hl : storeLocals Ls kk (.long v) = some Ls') (hr : own_G w p l e R s m args below meth c Z Q h k n (mkF m pc' Ls' (st))) : own_G w p l e R s m args below meth c Z Q h k n (mkF m pc Ls (.long v :: st)) := by
  obtain ⟨hd, rfl⟩ := hd
  exact own_pure K (fun X _ _ _ _ q => XT.lstore X.here K.1 rfl (hb K.2.1 hd) rfl hl q) hr
theorem own_lstoreN (K : own_Cx p s m meth c Z own nm bytes maxL ret) {kk : Fin 4} {v : Int64} (hd : own_D bytes pc (.lstore_n kk) 1 pc') (hl : storeLocals Ls kk.val (.long v) = some Ls') (hr : own_G w p l e R s m args below meth c Z Q h k n (mkF m pc' Ls' (st))) : own_G w p l e R s m args below meth c Z Q h k n (mkF m pc Ls (.long v :: st)) := by
  obtain ⟨hd, rfl⟩ := hd
  exact own_pure K (fun X _ _ _ _ q => XT.lstoreN X.here K.1 rfl (hb K.2.1 hd) rfl hl q) hr
theorem own_dload (K : own_Cx p s m meth c Z own nm bytes maxL ret) {kk : Nat} {v : UInt64} (hd : own_D bytes pc (.dload kk) 2 pc') (hl : Ls[kk]? = some (.val (.double v))) (hr : own_G w p l e R s m args below meth c Z Q h k n (mkF m pc' Ls (.double v :: st))) : own_G w p l e R s m args below meth c Z Q h k n (mkF m pc Ls (st)) := by
  obtain ⟨hd, rfl⟩ := hd
  exact own_pure K (fun X _ _ _ _ q => XS.dload X.here K.1 rfl (hb K.2.1 hd) hl q) hr
theorem own_dloadN (K : own_Cx p s m meth c Z own nm bytes maxL ret) {kk : Fin 4} {v : UInt64} (hd : own_D bytes pc (.dload_n kk) 1 pc') (hl : Ls[kk.val]? = some (.val (.double v))) (hr : own_G w p l e R s m args below meth c Z Q h k n (mkF m pc' Ls (.double v :: st))) : own_G w p l e R s m args below meth c Z Q h k n (mkF m pc Ls (st)) := by
  obtain ⟨hd, rfl⟩ := hd
  exact own_pure K (fun X _ _ _ _ q => XS.dloadN X.here K.1 rfl (hb K.2.1 hd) hl q) hr
theorem own_dstore (K : own_Cx p s m meth c Z own nm bytes maxL ret) {kk : Nat} {v : UInt64} (hd : own_D bytes pc (.dstore kk) 2 pc') (hl : storeLocals Ls kk (.double v) = some Ls') (hr : own_G w p l e R s m args below meth c Z Q h k n (mkF m pc' Ls' (st))) : own_G w p l e R s m args below meth c Z Q h k n (mkF m pc Ls (.double v :: st)) := by
  obtain ⟨hd, rfl⟩ := hd
  exact own_pure K (fun X _ _ _ _ q => XS.dstore X.here K.1 rfl (hb K.2.1 hd) rfl hl q) hr
theorem own_dstoreN (K : own_Cx p s m meth c Z own nm bytes maxL ret) {kk : Fin 4} {v : UInt64} (hd : own_D bytes pc (.dstore_n kk) 1 pc') (hl : storeLocals Ls kk.val (.double v) = some Ls') (hr : own_G w p l e R s m args below meth c Z Q h k n (mkF m pc' Ls' (st))) : own_G w p l e R s m args below meth c Z Q h k n (mkF m pc Ls (.double v :: st)) := by
  obtain ⟨hd, rfl⟩ := hd
  exact own_pure K (fun X _ _ _ _ q => XS.dstoreN X.here K.1 rfl (hb K.2.1 hd) rfl hl q) hr
theorem own_aload (K : own_Cx p s m meth c Z own nm bytes maxL ret) {kk : Nat} {v : Value} (hd : own_D bytes pc (.aload kk) 2 pc') (hl : Ls[kk]? = some (.val v)) (hv : v.isRef = true) (hr : own_G w p l e R s m args below meth c Z Q h k n (mkF m pc' Ls (v :: st))) : own_G w p l e R s m args below meth c Z Q h k n (mkF m pc Ls (st)) := by
  obtain ⟨hd, rfl⟩ := hd
  exact own_pure K (fun X _ _ _ _ q => XS.aload X.here K.1 rfl (hb K.2.1 hd) hl hv q) hr
theorem own_aloadN (K : own_Cx p s m meth c Z own nm bytes maxL ret) {kk : Fin 4} {v : Value} (hd : own_D bytes pc (.aload_n kk) 1 pc') (hl : Ls[kk.val]? = some (.val v)) (hv : v.isRef = true) (hr : own_G w p l e R s m args below meth c Z Q h k n (mkF m pc' Ls (v :: st))) : own_G w p l e R s m args below meth c Z Q h k n (mkF m pc Ls (st)) := by
  obtain ⟨hd, rfl⟩ := hd
  exact own_pure K (fun X _ _ _ _ q => XS.aloadN X.here K.1 rfl (hb K.2.1 hd) hl hv q) hr
theorem own_astore (K : own_Cx p s m meth c Z own nm bytes maxL ret) {kk : Nat} {v : Value} (hd : own_D bytes pc (.astore kk) 2 pc') (hv : v.isRef = true) (hl : storeLocals Ls kk v = some Ls') (hr : own_G w p l e R s m args below meth c Z Q h k n (mkF m pc' Ls' (st))) : own_G w p l e R s m args below meth c Z Q h k n (mkF m pc Ls (v :: st)) := by
  obtain ⟨hd, rfl⟩ := hd
  exact own_pure K (fun X _ _ _ _ q => XS.astore X.here K.1 rfl (hb K.2.1 hd) rfl hv hl q) hr
theorem own_astoreN (K : own_Cx p s m meth c Z own nm bytes maxL ret) {kk : Fin 4} {v : Value} (hd : own_D bytes pc (.astore_n kk) 1 pc') (hv : v.isRef = true) (hl : storeLocals Ls kk.val v = some Ls') (hr : own_G w p l e R s m args below meth c Z Q h k n (mkF m pc' Ls' (st))) : own_G w p l e R s m args below meth c Z Q h k n (mkF m pc Ls (v :: st)) := by
  obtain ⟨hd, rfl⟩ := hd
  exact own_pure K (fun X _ _ _ _ q => XS.astoreN X.here K.1 rfl (hb K.2.1 hd) rfl hv hl q) hr
theorem own_iconst (K : own_Cx p s m meth c Z own nm bytes maxL ret) {i : Int} {v : Int32} (hd : own_D bytes pc (.iconst i) 1 pc') (hv : Int32.ofInt i = v) (hr : own_G w p l e R s m args below meth c Z Q h k n (mkF m pc' Ls (.int v :: st))) : own_G w p l e R s m args below meth c Z Q h k n (mkF m pc Ls st) := by
  obtain ⟨hd, rfl⟩ := hd
  subst hv
  exact own_pure K (fun X _ _ _ _ q => XS.iconst X.here K.1 rfl (hb K.2.1 hd) q) hr
theorem own_bipush (K : own_Cx p s m meth c Z own nm bytes maxL ret) {i : Int} {v : Int32} (hd : own_D bytes pc (.bipush i) 2 pc') (hv : (Int8.ofInt i).toInt32 = v) (hr : own_G w p l e R s m args below meth c Z Q h k n (mkF m pc' Ls (.int v :: st))) : own_G w p l e R s m args below meth c Z Q h k n (mkF m pc Ls st) := by
  obtain ⟨hd, rfl⟩ := hd
  subst hv
  exact own_pure K (fun X _ _ _ _ q => XS.bipush X.here K.1 rfl (hb K.2.1 hd) q) hr
theorem own_sipush (K : own_Cx p s m meth c Z own nm bytes maxL ret) {i : Int} {v : Int32} (hd : own_D bytes pc (.sipush i) 3 pc') (hv : (Int16.ofInt i).toInt32 = v) (hr : own_G w p l e R s m args below meth c Z Q h k n (mkF m pc' Ls (.int v :: st))) : own_G w p l e R s m args below meth c Z Q h k n (mkF m pc Ls st) := by
  obtain ⟨hd, rfl⟩ := hd
  subst hv
  exact own_pure K (fun X _ _ _ _ q => XS.sipush X.here K.1 rfl (hb K.2.1 hd) q) hr
theorem own_lconst (K : own_Cx p s m meth c Z own nm bytes maxL ret) {i : Fin 2} {v : Int64} (hd : own_D bytes pc (.lconst i) 1 pc') (hv : Int64.ofNat i = v) (hr : own_G w p l e R s m args below meth c Z Q h k n (mkF m pc' Ls (.long v :: st))) : own_G w p l e R s m args below meth c Z Q h k n (mkF m pc Ls st) := by
  obtain ⟨hd, rfl⟩ := hd
  subst hv
  exact own_pure K (fun X _ _ _ _ q => XT.lconst X.here K.1 rfl (hb K.2.1 hd) q) hr
theorem own_dconst0 (K : own_Cx p s m meth c Z own nm bytes maxL ret) {v : UInt64} (hd : own_D bytes pc (.dconst 0) 1 pc') (hv : FP.dconst0 = v) (hr : own_G w p l e R s m args below meth c Z Q h k n (mkF m pc' Ls (.double v :: st))) : own_G w p l e R s m args below meth c Z Q h k n (mkF m pc Ls st) := by
  obtain ⟨hd, rfl⟩ := hd
  exact own_pure K (fun X _ _ _ _ q => XS.dconst0 X.here K.1 rfl (hb K.2.1 hd) hv q) hr
theorem own_dconst1 (K : own_Cx p s m meth c Z own nm bytes maxL ret) {v : UInt64} (hd : own_D bytes pc (.dconst 1) 1 pc') (hv : FP.dconst1 = v) (hr : own_G w p l e R s m args below meth c Z Q h k n (mkF m pc' Ls (.double v :: st))) : own_G w p l e R s m args below meth c Z Q h k n (mkF m pc Ls st) := by
  obtain ⟨hd, rfl⟩ := hd
  exact own_pure K (fun X _ _ _ _ q => XS.dconst1 X.here K.1 rfl (hb K.2.1 hd) hv q) hr
theorem own_aconstNull (K : own_Cx p s m meth c Z own nm bytes maxL ret)  (hd : own_D bytes pc (.aconst_null) 1 pc') (hr : own_G w p l e R s m args below meth c Z Q h k n (mkF m pc' Ls (.null :: st))) : own_G w p l e R s m args below meth c Z Q h k n (mkF m pc Ls (st)) := by
  obtain ⟨hd, rfl⟩ := hd
  exact own_pure K (fun X _ _ _ _ q => XS.aconstNull X.here K.1 rfl (hb K.2.1 hd)  q) hr
theorem own_iadd (K : own_Cx p s m meth c Z own nm bytes maxL ret) {x y : Int32} (hd : own_D bytes pc (.iadd) 1 pc') (hr : own_G w p l e R s m args below meth c Z Q h k n (mkF m pc' Ls (.int (x + y) :: st))) : own_G w p l e R s m args below meth c Z Q h k n (mkF m pc Ls (.int y :: .int x :: st)) := by
  obtain ⟨hd, rfl⟩ := hd
  exact own_pure K (fun X _ _ _ _ q => XS.iadd X.here K.1 rfl (hb K.2.1 hd) rfl q) hr
theorem own_isub (K : own_Cx p s m meth c Z own nm bytes maxL ret) {x y : Int32} (hd : own_D bytes pc (.isub) 1 pc') (hr : own_G w p l e R s m args below meth c Z Q h k n (mkF m pc' Ls (.int (x - y) :: st))) : own_G w p l e R s m args below meth c Z Q h k n (mkF m pc Ls (.int y :: .int x :: st)) := by
  obtain ⟨hd, rfl⟩ := hd
  exact own_pure K (fun X _ _ _ _ q => XS.isub X.here K.1 rfl (hb K.2.1 hd) rfl q) hr
theorem own_iand (K : own_Cx p s m meth c Z own nm bytes maxL ret) {x y : Int32} (hd : own_D bytes pc (.iand) 1 pc') (hr : own_G w p l e R s m args below meth c Z Q h k n (mkF m pc' Ls (.int (x &&& y) :: st))) : own_G w p l e R s m args below meth c Z Q h k n (mkF m pc Ls (.int y :: .int x :: st)) := by
  obtain ⟨hd, rfl⟩ := hd
  exact own_pure K (fun X _ _ _ _ q => XS.iand X.here K.1 rfl (hb K.2.1 hd) rfl q) hr
theorem own_imul (K : own_Cx p s m meth c Z own nm bytes maxL ret) {x y : Int32} (hd : own_D bytes pc (.imul) 1 pc') (hr : own_G w p l e R s m args below meth c Z Q h k n (mkF m pc' Ls (.int (x * y) :: st))) : own_G w p l e R s m args below meth c Z Q h k n (mkF m pc Ls (.int y :: .int x :: st)) := by
  obtain ⟨hd, rfl⟩ := hd
  exact own_pure K (fun X _ _ _ _ q => XS.imul X.here K.1 rfl (hb K.2.1 hd) rfl q) hr
theorem own_ixor (K : own_Cx p s m meth c Z own nm bytes maxL ret) {x y : Int32} (hd : own_D bytes pc (.ixor) 1 pc') (hr : own_G w p l e R s m args below meth c Z Q h k n (mkF m pc' Ls (.int (x ^^^ y) :: st))) : own_G w p l e R s m args below meth c Z Q h k n (mkF m pc Ls (.int y :: .int x :: st)) := by
  obtain ⟨hd, rfl⟩ := hd
  exact own_pure K (fun X _ _ _ _ q => XT.ixor X.here K.1 rfl (hb K.2.1 hd) rfl q) hr
theorem own_ior (K : own_Cx p s m meth c Z own nm bytes maxL ret) {x y : Int32} (hd : own_D bytes pc (.ior) 1 pc') (hr : own_G w p l e R s m args below meth c Z Q h k n (mkF m pc' Ls (.int (x ||| y) :: st))) : own_G w p l e R s m args below meth c Z Q h k n (mkF m pc Ls (.int y :: .int x :: st)) := by
  obtain ⟨hd, rfl⟩ := hd
  exact own_pure K (fun X _ _ _ _ q => XT.ior X.here K.1 rfl (hb K.2.1 hd) rfl q) hr
theorem own_ishl (K : own_Cx p s m meth c Z own nm bytes maxL ret) {x y : Int32} (hd : own_D bytes pc (.ishl) 1 pc') (hr : own_G w p l e R s m args below meth c Z Q h k n (mkF m pc' Ls (.int (x <<< (y &&& 31)) :: st))) : own_G w p l e R s m args below meth c Z Q h k n (mkF m pc Ls (.int y :: .int x :: st)) := by
  obtain ⟨hd, rfl⟩ := hd
  exact own_pure K (fun X _ _ _ _ q => XT.ishl X.here K.1 rfl (hb K.2.1 hd) rfl q) hr
theorem own_ishr (K : own_Cx p s m meth c Z own nm bytes maxL ret) {x y : Int32} (hd : own_D bytes pc (.ishr) 1 pc') (hr : own_G w p l e R s m args below meth c Z Q h k n (mkF m pc' Ls (.int (x >>> (y &&& 31)) :: st))) : own_G w p l e R s m args below meth c Z Q h k n (mkF m pc Ls (.int y :: .int x :: st)) := by
  obtain ⟨hd, rfl⟩ := hd
  exact own_pure K (fun X _ _ _ _ q => XT.ishr X.here K.1 rfl (hb K.2.1 hd) rfl q) hr
theorem own_iushr (K : own_Cx p s m meth c Z own nm bytes maxL ret) {x y : Int32} (hd : own_D bytes pc (.iushr) 1 pc') (hr : own_G w p l e R s m args below meth c Z Q h k n (mkF m pc' Ls (.int (XT.ushr x y) :: st))) : own_G w p l e R s m args below meth c Z Q h k n (mkF m pc Ls (.int y :: .int x :: st)) := by
  obtain ⟨hd, rfl⟩ := hd
  exact own_pure K (fun X _ _ _ _ q => XT.iushr X.here K.1 rfl (hb K.2.1 hd) rfl q) hr
theorem own_ladd (K : own_Cx p s m meth c Z own nm bytes maxL ret) {x y : Int64} (hd : own_D bytes pc (.ladd) 1 pc') (hr : own_G w p l e R s m args below meth c Z Q h k n (mkF m pc' Ls (.long (x + y) :: st))) : own_G w p l e R s m args below meth c Z Q h k n (mkF m pc Ls (.long y :: .long x :: st)) := by
  obtain ⟨hd, rfl⟩ := hd
  exact own_pure K (fun X _ _ _ _ q => XT.ladd X.here K.1 rfl (hb K.2.1 hd) rfl q) hr
theorem own_lsub (K : own_Cx p s m meth c Z own nm bytes maxL ret) {x y : Int64} (hd : own_D bytes pc (.lsub) 1 pc') (hr : own_G w p l e R s m args below meth c Z Q h k n (mkF m pc' Ls (.long (x - y) :: st))) : own_G w p l e R s m args below meth c Z Q h k n (mkF m pc Ls (.long y :: .long x :: st)) := by
  obtain ⟨hd, rfl⟩ := hd
  exact own_pure K (fun X _ _ _ _ q => XT.lsub X.here K.1 rfl (hb K.2.1 hd) rfl q) hr
theorem own_lmul (K : own_Cx p s m meth c Z own nm bytes maxL ret) {x y : Int64} (hd : own_D bytes pc (.lmul) 1 pc') (hr : own_G w p l e R s m args below meth c Z Q h k n (mkF m pc' Ls (.long (x * y) :: st))) : own_G w p l e R s m args below meth c Z Q h k n (mkF m pc Ls (.long y :: .long x :: st)) := by
  obtain ⟨hd, rfl⟩ := hd
  exact own_pure K (fun X _ _ _ _ q => XT.lmul X.here K.1 rfl (hb K.2.1 hd) rfl q) hr
theorem own_land (K : own_Cx p s m meth c Z own nm bytes maxL ret) {x y : Int64} (hd : own_D bytes pc (.land) 1 pc') (hr : own_G w p l e R s m args below meth c Z Q h k n (mkF m pc' Ls (.long (x &&& y) :: st))) : own_G w p l e R s m args below meth c Z Q h k n (mkF m pc Ls (.long y :: .long x :: st)) := by
  obtain ⟨hd, rfl⟩ := hd
  exact own_pure K (fun X _ _ _ _ q => XT.land X.here K.1 rfl (hb K.2.1 hd) rfl q) hr
theorem own_lor (K : own_Cx p s m meth c Z own nm bytes maxL ret) {x y : Int64} (hd : own_D bytes pc (.lor) 1 pc') (hr : own_G w p l e R s m args below meth c Z Q h k n (mkF m pc' Ls (.long (x ||| y) :: st))) : own_G w p l e R s m args below meth c Z Q h k n (mkF m pc Ls (.long y :: .long x :: st)) := by
  obtain ⟨hd, rfl⟩ := hd
  exact own_pure K (fun X _ _ _ _ q => XT.lor X.here K.1 rfl (hb K.2.1 hd) rfl q) hr
theorem own_lxor (K : own_Cx p s m meth c Z own nm bytes maxL ret) {x y : Int64} (hd : own_D bytes pc (.lxor) 1 pc') (hr : own_G w p l e R s m args below meth c Z Q h k n (mkF m pc' Ls (.long (x ^^^ y) :: st))) : own_G w p l e R s m args below meth c Z Q h k n (mkF m pc Ls (.long y :: .long x :: st)) := by
  obtain ⟨hd, rfl⟩ := hd
  exact own_pure K (fun X _ _ _ _ q => XT.lxor X.here K.1 rfl (hb K.2.1 hd) rfl q) hr
theorem own_lshl (K : own_Cx p s m meth c Z own nm bytes maxL ret) {x : Int64} {y : Int32} (hd : own_D bytes pc (.lshl) 1 pc') (hr : own_G w p l e R s m args below meth c Z Q h k n (mkF m pc' Ls (.long (x <<< (y.toInt64 &&& 63)) :: st))) : own_G w p l e R s m args below meth c Z Q h k n (mkF m pc Ls (.int y :: .long x :: st)) := by
  obtain ⟨hd, rfl⟩ := hd
  exact own_pure K (fun X _ _ _ _ q => XT.lshl X.here K.1 rfl (hb K.2.1 hd) rfl q) hr
theorem own_lshr (K : own_Cx p s m meth c Z own nm bytes maxL ret) {x : Int64} {y : Int32} (hd : own_D bytes pc (.lshr) 1 pc') (hr : own_G w p l e R s m args below meth c Z Q h k n (mkF m pc' Ls (.long (x >>> (y.toInt64 &&& 63)) :: st))) : own_G w p l e R s m args below meth c Z Q h k n (mkF m pc Ls (.int y :: .long x :: st)) := by
  obtain ⟨hd, rfl⟩ := hd
  exact own_pure K (fun X _ _ _ _ q => XT.lshr X.here K.1 rfl (hb K.2.1 hd) rfl q) hr
theorem own_lushr (K : own_Cx p s m meth c Z own nm bytes maxL ret) {x : Int64} {y : Int32} (hd : own_D bytes pc (.lushr) 1 pc') (hr : own_G w p l e R s m args below meth c Z Q h k n (mkF m pc' Ls (.long (XT.ushrL x y) :: st))) : own_G w p l e R s m args below meth c Z Q h k n (mkF m pc Ls (.int y :: .long x :: st)) := by
  obtain ⟨hd, rfl⟩ := hd
  exact own_pure K (fun X _ _ _ _ q => XT.lushr X.here K.1 rfl (hb K.2.1 hd) rfl q) hr
theorem own_lcmp (K : own_Cx p s m meth c Z own nm bytes maxL ret) {x y : Int64} (hd : own_D bytes pc (.lcmp) 1 pc') (hr : own_G w p l e R s m args below meth c Z Q h k n (mkF m pc' Ls (.int (XT.cmpL x y) :: st))) : own_G w p l e R s m args below meth c Z Q h k n (mkF m pc Ls (.long y :: .long x :: st)) := by
  obtain ⟨hd, rfl⟩ := hd
  exact own_pure K (fun X _ _ _ _ q => XT.lcmp X.here K.1 rfl (hb K.2.1 hd) rfl q) hr
theorem own_idiv (K : own_Cx p s m meth c Z own nm bytes maxL ret) {x y : Int32} (hd : own_D bytes pc (.idiv) 1 pc') (hy : y ≠ 0) (hr : own_G w p l e R s m args below meth c Z Q h k n (mkF m pc' Ls (.int (x / y) :: st))) : own_G w p l e R s m args below meth c Z Q h k n (mkF m pc Ls (.int y :: .int x :: st)) := by
  obtain ⟨hd, rfl⟩ := hd
  exact own_pure K (fun X _ _ _ _ q => XS.idiv X.here K.1 rfl (hb K.2.1 hd) rfl hy q) hr
theorem own_ldiv (K : own_Cx p s m meth c Z own nm bytes maxL ret) {x y : Int64} (hd : own_D bytes pc (.ldiv) 1 pc') (hy : y ≠ 0) (hr : own_G w p l e R s m args below meth c Z Q h k n (mkF m pc' Ls (.long (x / y) :: st))) : own_G w p l e R s m args below meth c Z Q h k n (mkF m pc Ls (.long y :: .long x :: st)) := by
  obtain ⟨hd, rfl⟩ := hd
  exact own_pure K (fun X _ _ _ _ q => XT.ldiv X.here K.1 rfl (hb K.2.1 hd) rfl hy q) hr
theorem own_irem (K : own_Cx p s m meth c Z own nm bytes maxL ret) {x y : Int32} (hd : own_D bytes pc .irem 1 pc') (hy : y ≠ 0) (hr : own_G w p l e R s m args below meth c Z Q h k n (mkF m pc' Ls (.int (x % y) :: st))) : own_G w p l e R s m args below meth c Z Q h k n (mkF m pc Ls (.int y :: .int x :: st)) := by
  obtain ⟨hd, rfl⟩ := hd
  exact own_pure K (fun X _ _ _ _ q => iremM X K.1 rfl (hb K.2.1 hd) rfl hy q) hr
theorem own_ineg (K : own_Cx p s m meth c Z own nm bytes maxL ret) {x : Int32} (hd : own_D bytes pc (.ineg) 1 pc') (hr : own_G w p l e R s m args below meth c Z Q h k n (mkF m pc' Ls (.int (-x) :: st))) : own_G w p l e R s m args below meth c Z Q h k n (mkF m pc Ls (.int x :: st)) := by
  obtain ⟨hd, rfl⟩ := hd
  exact own_pure K (fun X _ _ _ _ q => XS.ineg X.here K.1 rfl (hb K.2.1 hd) rfl q) hr
theorem own_lneg (K : own_Cx p s m meth c Z own nm bytes maxL ret) {x : Int64} (hd : own_D bytes pc (.lneg) 1 pc') (hr : own_G w p l e R s m args below meth c Z Q h k n (mkF m pc' Ls (.long (-x) :: st))) : own_G w p l e R s m args below meth c Z Q h k n (mkF m pc Ls (.long x :: st)) := by
  obtain ⟨hd, rfl⟩ := hd
  exact own_pure K (fun X _ _ _ _ q => XT.lneg X.here K.1 rfl (hb K.2.1 hd) rfl q) hr
theorem own_i2l (K : own_Cx p s m meth c Z own nm bytes maxL ret) {x : Int32} (hd : own_D bytes pc (.i2l) 1 pc') (hr : own_G w p l e R s m args below meth c Z Q h k n (mkF m pc' Ls (.long (x.toInt64) :: st))) : own_G w p l e R s m args below meth c Z Q h k n (mkF m pc Ls (.int x :: st)) := by
  obtain ⟨hd, rfl⟩ := hd
  exact own_pure K (fun X _ _ _ _ q => XT.i2l X.here K.1 rfl (hb K.2.1 hd) rfl q) hr
theorem own_l2i (K : own_Cx p s m meth c Z own nm bytes maxL ret) {x : Int64} (hd : own_D bytes pc (.l2i) 1 pc') (hr : own_G w p l e R s m args below meth c Z Q h k n (mkF m pc' Ls (.int (x.toInt32) :: st))) : own_G w p l e R s m args below meth c Z Q h k n (mkF m pc Ls (.long x :: st)) := by
  obtain ⟨hd, rfl⟩ := hd
  exact own_pure K (fun X _ _ _ _ q => XT.l2i X.here K.1 rfl (hb K.2.1 hd) rfl q) hr
theorem own_i2b (K : own_Cx p s m meth c Z own nm bytes maxL ret) {x : Int32} (hd : own_D bytes pc (.i2b) 1 pc') (hr : own_G w p l e R s m args below meth c Z Q h k n (mkF m pc' Ls (.int (x.toInt8.toInt32) :: st))) : own_G w p l e R s m args below meth c Z Q h k n (mkF m pc Ls (.int x :: st)) := by
  obtain ⟨hd, rfl⟩ := hd
  exact own_pure K (fun X _ _ _ _ q => XT.i2b X.here K.1 rfl (hb K.2.1 hd) rfl q) hr
theorem own_i2c (K : own_Cx p s m meth c Z own nm bytes maxL ret) {x : Int32} (hd : own_D bytes pc (.i2c) 1 pc') (hr : own_G w p l e R s m args below meth c Z Q h k n (mkF m pc' Ls (.int (x.toUInt32.toUInt16.toUInt32.toInt32) :: st))) : own_G w p l e R s m args below meth c Z Q h k n (mkF m pc Ls (.int x :: st)) := by
  obtain ⟨hd, rfl⟩ := hd
  exact own_pure K (fun X _ _ _ _ q => XT.i2c X.here K.1 rfl (hb K.2.1 hd) rfl q) hr
theorem own_i2s (K : own_Cx p s m meth c Z own nm bytes maxL ret) {x : Int32} (hd : own_D bytes pc (.i2s) 1 pc') (hr : own_G w p l e R s m args below meth c Z Q h k n (mkF m pc' Ls (.int (x.toInt16.toInt32) :: st))) : own_G w p l e R s m args below meth c Z Q h k n (mkF m pc Ls (.int x :: st)) := by
  obtain ⟨hd, rfl⟩ := hd
  exact own_pure K (fun X _ _ _ _ q => XT.i2s X.here K.1 rfl (hb K.2.1 hd) rfl q) hr
theorem own_i2d (K : own_Cx p s m meth c Z own nm bytes maxL ret) {x : Int32} (hd : own_D bytes pc (.i2d) 1 pc') (hr : own_G w p l e R s m args below meth c Z Q h k n (mkF m pc' Ls (.double (FP.i2d x) :: st))) : own_G w p l e R s m args below meth c Z Q h k n (mkF m pc Ls (.int x :: st)) := by
  obtain ⟨hd, rfl⟩ := hd
  exact own_pure K (fun X _ _ _ _ q => XS.i2dS X.here K.1 rfl (hb K.2.1 hd) rfl rfl q) hr
theorem own_l2d (K : own_Cx p s m meth c Z own nm bytes maxL ret) {x : Int64} (hd : own_D bytes pc (.l2d) 1 pc') (hr : own_G w p l e R s m args below meth c Z Q h k n (mkF m pc' Ls (.double (FP.l2d x) :: st))) : own_G w p l e R s m args below meth c Z Q h k n (mkF m pc Ls (.long x :: st)) := by
  obtain ⟨hd, rfl⟩ := hd
  exact own_pure K (fun X _ _ _ _ q => XS.l2dS X.here K.1 rfl (hb K.2.1 hd) rfl rfl q) hr
theorem own_dneg (K : own_Cx p s m meth c Z own nm bytes maxL ret) {x : UInt64} (hd : own_D bytes pc (.dneg) 1 pc') (hr : own_G w p l e R s m args below meth c Z Q h k n (mkF m pc' Ls (.double (FP.dneg x) :: st))) : own_G w p l e R s m args below meth c Z Q h k n (mkF m pc Ls (.double x :: st)) := by
  obtain ⟨hd, rfl⟩ := hd
  exact own_pure K (fun X _ _ _ _ q => XS.dnegS X.here K.1 rfl (hb K.2.1 hd) rfl rfl q) hr
theorem own_dcmp (K : own_Cx p s m meth c Z own nm bytes maxL ret) {oo : CmpOp} {x y : UInt64} (hd : own_D bytes pc (.dcmp oo) 1 pc') (hr : own_G w p l e R s m args below meth c Z Q h k n (mkF m pc' Ls (.int (cmpValue (FP.dcmp x y) oo) :: st))) : own_G w p l e R s m args below meth c Z Q h k n (mkF m pc Ls (.double y :: .double x :: st)) := by
  obtain ⟨hd, rfl⟩ := hd
  exact own_pure K (fun X _ _ _ _ q => XS.dcmpS X.here K.1 rfl (hb K.2.1 hd) rfl rfl q) hr
theorem own_dadd (K : own_Cx p s m meth c Z own nm bytes maxL ret) {x y : UInt64} (hd : own_D bytes pc (.dadd) 1 pc') (hn : Jvm.Free.Fl.NoNaN64 (FP.dadd x y)) (hr : own_G w p l e R s m args below meth c Z Q h k n (mkF m pc' Ls (.double (FP.dadd x y) :: st))) : own_G w p l e R s m args below meth c Z Q h k n (mkF m pc Ls (.double y :: .double x :: st)) := by
  obtain ⟨hd, rfl⟩ := hd
  exact own_pure K (fun X _ _ _ _ q => XS.daddS X.here K.1 rfl (hb K.2.1 hd) rfl hn rfl q) hr
theorem own_dsub (K : own_Cx p s m meth c Z own nm bytes maxL ret) {x y : UInt64} (hd : own_D bytes pc (.dsub) 1 pc') (hn : Jvm.Free.Fl.NoNaN64 (FP.dsub x y)) (hr : own_G w p l e R s m args below meth c Z Q h k n (mkF m pc' Ls (.double (FP.dsub x y) :: st))) : own_G w p l e R s m args below meth c Z Q h k n (mkF m pc Ls (.double y :: .double x :: st)) := by
  obtain ⟨hd, rfl⟩ := hd
  exact own_pure K (fun X _ _ _ _ q => XS.dsubS X.here K.1 rfl (hb K.2.1 hd) rfl hn rfl q) hr
theorem own_dmul (K : own_Cx p s m meth c Z own nm bytes maxL ret) {x y : UInt64} (hd : own_D bytes pc (.dmul) 1 pc') (hn : Jvm.Free.Fl.NoNaN64 (FP.dmul x y)) (hr : own_G w p l e R s m args below meth c Z Q h k n (mkF m pc' Ls (.double (FP.dmul x y) :: st))) : own_G w p l e R s m args below meth c Z Q h k n (mkF m pc Ls (.double y :: .double x :: st)) := by
  obtain ⟨hd, rfl⟩ := hd
  exact own_pure K (fun X _ _ _ _ q => XS.dmulS X.here K.1 rfl (hb K.2.1 hd) rfl hn rfl q) hr
theorem own_ddiv (K : own_Cx p s m meth c Z own nm bytes maxL ret) {x y : UInt64} (hd : own_D bytes pc (.ddiv) 1 pc') (hn : Jvm.Free.Fl.NoNaN64 (FP.ddiv x y)) (hr : own_G w p l e R s m args below meth c Z Q h k n (mkF m pc' Ls (.double (FP.ddiv x y) :: st))) : own_G w p l e R s m args below meth c Z Q h k n (mkF m pc Ls (.double y :: .double x :: st)) := by
  obtain ⟨hd, rfl⟩ := hd
  exact own_pure K (fun X _ _ _ _ q => XS.ddivS X.here K.1 rfl (hb K.2.1 hd) rfl hn rfl q) hr
theorem own_dup (K : own_Cx p s m meth c Z own nm bytes maxL ret) {x : Value} (hd : own_D bytes pc (.dup) 1 pc') (hc : x.category = 1) (hr : own_G w p l e R s m args below meth c Z Q h k n (mkF m pc' Ls (x :: x :: st))) : own_G w p l e R s m args below meth c Z Q h k n (mkF m pc Ls (x :: st)) := by
  obtain ⟨hd, rfl⟩ := hd
  exact own_pure K (fun X _ _ _ _ q => XS.dup X.here K.1 rfl (hb K.2.1 hd) rfl hc q) hr
theorem own_pop (K : own_Cx p s m meth c Z own nm bytes maxL ret) {x : Value} (hd : own_D bytes pc (.pop) 1 pc') (hc : x.category = 1) (hr : own_G w p l e R s m args below meth c Z Q h k n (mkF m pc' Ls (st))) : own_G w p l e R s m args below meth c Z Q h k n (mkF m pc Ls (x :: st)) := by
  obtain ⟨hd, rfl⟩ := hd
  exact own_pure K (fun X _ _ _ _ q => XT.pop X.here K.1 rfl (hb K.2.1 hd) rfl hc q) hr
theorem own_dupX1 (K : own_Cx p s m meth c Z own nm bytes maxL ret) {x y : Value} (hd : own_D bytes pc (.dup_x1) 1 pc') (hc : x.category = 1) (hc' : y.category = 1) (hr : own_G w p l e R s m args below meth c Z Q h k n (mkF m pc' Ls (x :: y :: x :: st))) : own_G w p l e R s m args below meth c Z Q h k n (mkF m pc Ls (x :: y :: st)) := by
  obtain ⟨hd, rfl⟩ := hd
  exact own_pure K (fun X _ _ _ _ q => XT.dupX1 X.here K.1 rfl (hb K.2.1 hd) rfl hc hc' q) hr
theorem own_dup2 (K : own_Cx p s m meth c Z own nm bytes maxL ret) {x y : Value} (hd : own_D bytes pc (.dup2) 1 pc') (hc : x.category = 1) (hc' : y.category = 1) (hr : own_G w p l e R s m args below meth c Z Q h k n (mkF m pc' Ls (x :: y :: x :: y :: st))) : own_G w p l e R s m args below meth c Z Q h k n (mkF m pc Ls (x :: y :: st)) := by
  obtain ⟨hd, rfl⟩ := hd
  exact own_pure K (fun X _ _ _ _ q => XT.dup2 X.here K.1 rfl (hb K.2.1 hd) rfl hc hc' q) hr
theorem own_iinc (K : own_Cx p s m meth c Z own nm bytes maxL ret) {kk : Nat} {cst : Int} {x y : Int32} (hd : own_D bytes pc (.iinc kk cst) 3 pc') (hl : Ls[kk]? = some (.val (.int x))) (hy : x + Int32.ofInt cst = y) (hl' : storeLocals Ls kk (.int y) = some Ls') (hr : own_G w p l e R s m args below meth c Z Q h k n (mkF m pc' Ls' st)) : own_G w p l e R s m args below meth c Z Q h k n (mkF m pc Ls st) := by
  obtain ⟨hd, rfl⟩ := hd
  subst hy
  exact own_pure K (fun X _ _ _ _ q => XS.iinc X.here K.1 rfl (hb K.2.1 hd) hl hl' q) hr
theorem own_goto (K : own_Cx p s m meth c Z own nm bytes maxL ret) {off : Int} {pcF : Nat} (hd : own_B bytes pc (.goto off) off pcF pcT) (hr : own_G w p l e R s m args below meth c Z Q h k n (mkF m pcT Ls st)) : own_G w p l e R s m args below meth c Z Q h k n (mkF m pc Ls st) := by
  obtain ⟨hd, -, h1, h2⟩ := hd
  exact own_pure K (fun X _ _ _ _ q => XS.goto X.here K.1 rfl rfl (hb K.2.1 hd) h1 h2 q) hr
theorem own_ldcI (K : own_Cx p s m meth c Z own nm bytes maxL ret) {i : Nat} {v : Int32} (hd : own_D bytes pc (.ldc i) 2 pc') (wc : (Cond.constant own i v).before a0 Z = true) (hr : own_G w p l e R s m args below meth c Z Q h k n (mkF m pc' Ls (.int v :: st))) : own_G w p l e R s m args below meth c Z Q h k n (mkF m pc Ls st) := by
  obtain ⟨hd, rfl⟩ := hd
  exact own_pure K (fun X hZ ho _ _ q => X.ldcI K.1 ho (mvT hZ wc) rfl (hb K.2.1 hd) q) hr
theorem own_ldc2J (K : own_Cx p s m meth c Z own nm bytes maxL ret) {i : Nat} {v : Int64} (hd : own_D bytes pc (.ldc2_w i) 3 pc') (wc : (Cond.constantLong own i v).before a0 Z = true) (hr : own_G w p l e R s m args below meth c Z Q h k n (mkF m pc' Ls (.long v :: st))) : own_G w p l e R s m args below meth c Z Q h k n (mkF m pc Ls st) := by
  obtain ⟨hd, rfl⟩ := hd
  exact own_pure K (fun X hZ ho _ _ q => X.ldc2J K.1 ho (mvT hZ wc) rfl (hb K.2.1 hd) q) hr
theorem own_ldc2D (K : own_Cx p s m meth c Z own nm bytes maxL ret) {i : Nat} {v : UInt64} (hd : own_D bytes pc (.ldc2_w i) 3 pc') (wc : (Cond.constantDouble own i v).before a0 Z = true) (hr : own_G w p l e R s m args below meth c Z Q h k n (mkF m pc' Ls (.double v :: st))) : own_G w p l e R s m args below meth c Z Q h k n (mkF m pc Ls st) := by
  obtain ⟨hd, rfl⟩ := hd
  exact own_pure K (fun X hZ ho _ _ q => X.ldc2DoubleC K.1 ho (mvT hZ wc) (g := mkF m pc Ls st) rfl (hb K.2.1 hd) _ q) hr
theorem own_i0_eq (x : Int32) : (ifCond.holds .eq x = true) = (x = 0) := by simp [ifCond.holds, Int32.lt_iff_toInt_lt, Int32.le_iff_toInt_le]
theorem own_ii_eq (x y : Int32) : (if_icmp.holds .eq x y = true) = (x = y) := by simp [if_icmp.holds, Int32.lt_iff_toInt_lt, Int32.le_iff_toInt_le]
theorem own_ifeq (K : own_Cx p s m meth c Z own nm bytes maxL ret) {off : Int} {pcF : Nat} {x : Int32} (hd : own_B bytes pc (.ifCond .eq off) off pcF pcT) (hT : (x = 0) → own_G w p l e R s m args below meth c Z Q h k n (mkF m pcT Ls st)) (hF : ¬ (x = 0) → own_G w p l e R s m args below meth c Z Q h k n (mkF m pcF Ls st)) : own_G w p l e R s m args below meth c Z Q h k n (mkF m pc Ls (.int x :: st)) := by
  obtain ⟨hd, rfl, h1, h2⟩ := hd
  by_cases q : ifCond.holds .eq x = true
  · exact own_pure K (fun X _ _ _ _ r => XS.ifYes X.here K.1 rfl rfl (hb K.2.1 hd) rfl q h1 h2 r) (hT ((own_i0_eq x).mp q))
  · exact own_pure K (fun X _ _ _ _ r => XS.ifNo X.here K.1 rfl (hb K.2.1 hd) rfl (Bool.eq_false_iff.mpr q) r) (hF fun z => q ((own_i0_eq x).mpr z))
theorem own_icmpeq (K : own_Cx p s m meth c Z own nm bytes maxL ret) {off : Int} {pcF : Nat} {x y : Int32} (hd : own_B bytes pc (.if_icmp .eq off) off pcF pcT) (hT : (x = y) → own_G w p l e R s m args below meth c Z Q h k n (mkF m pcT Ls st)) (hF : ¬ (x = y) → own_G w p l e R s m args below meth c Z Q h k n (mkF m pcF Ls st)) : own_G w p l e R s m args below meth c Z Q h k n (mkF m pc Ls (.int y :: .int x :: st)) := by
  obtain ⟨hd, rfl, h1, h2⟩ := hd
  by_cases q : if_icmp.holds .eq x y = true
  · exact own_pure K (fun X _ _ _ _ r => XS.icmpYes X.here K.1 rfl rfl (hb K.2.1 hd) rfl q h1 h2 r) (hT ((own_ii_eq x y).mp q))
  · exact own_pure K (fun X _ _ _ _ r => XS.icmpNo X.here K.1 rfl (hb K.2.1 hd) rfl (Bool.eq_false_iff.mpr q) r) (hF fun z => q ((own_ii_eq x y).mpr z))
theorem own_i0_ne (x : Int32) : (ifCond.holds .ne x = true) = (x ≠ 0) := by simp [ifCond.holds, Int32.lt_iff_toInt_lt, Int32.le_iff_toInt_le]
theorem own_ii_ne (x y : Int32) : (if_icmp.holds .ne x y = true) = (x ≠ y) := by simp [if_icmp.holds, Int32.lt_iff_toInt_lt, Int32.le_iff_toInt_le]
theorem own_ifne (K : own_Cx p s m meth c Z own nm bytes maxL ret) {off : Int} {pcF : Nat} {x : Int32} (hd : own_B bytes pc (.ifCond .ne off) off pcF pcT) (hT : (x ≠ 0) → own_G w p l e R s m args below meth c Z Q h k n (mkF m pcT Ls st)) (hF : ¬ (x ≠ 0) → own_G w p l e R s m args below meth c Z Q h k n (mkF m pcF Ls st)) : own_G w p l e R s m args below meth c Z Q h k n (mkF m pc Ls (.int x :: st)) := by
  obtain ⟨hd, rfl, h1, h2⟩ := hd
  by_cases q : ifCond.holds .ne x = true
  · exact own_pure K (fun X _ _ _ _ r => XS.ifYes X.here K.1 rfl rfl (hb K.2.1 hd) rfl q h1 h2 r) (hT ((own_i0_ne x).mp q))
  · exact own_pure K (fun X _ _ _ _ r => XS.ifNo X.here K.1 rfl (hb K.2.1 hd) rfl (Bool.eq_false_iff.mpr q) r) (hF fun z => q ((own_i0_ne x).mpr z))
theorem own_icmpne (K : own_Cx p s m meth c Z own nm bytes maxL ret) {off : Int} {pcF : Nat} {x y : Int32} (hd : own_B bytes pc (.if_icmp .ne off) off pcF pcT) (hT : (x ≠ y) → own_G w p l e R s m args below meth c Z Q h k n (mkF m pcT Ls st)) (hF : ¬ (x ≠ y) → own_G w p l e R s m args below meth c Z Q h k n (mkF m pcF Ls st)) : own_G w p l e R s m args below meth c Z Q h k n (mkF m pc Ls (.int y :: .int x :: st)) := by
  obtain ⟨hd, rfl, h1, h2⟩ := hd
  by_cases q : if_icmp.holds .ne x y = true
  · exact own_pure K (fun X _ _ _ _ r => XS.icmpYes X.here K.1 rfl rfl (hb K.2.1 hd) rfl q h1 h2 r) (hT ((own_ii_ne x y).mp q))
  · exact own_pure K (fun X _ _ _ _ r => XS.icmpNo X.here K.1 rfl (hb K.2.1 hd) rfl (Bool.eq_false_iff.mpr q) r) (hF fun z => q ((own_ii_ne x y).mpr z))
theorem own_i0_lt (x : Int32) : (ifCond.holds .lt x = true) = (x.toInt < 0) := by simp [ifCond.holds, Int32.lt_iff_toInt_lt, Int32.le_iff_toInt_le]
theorem own_ii_lt (x y : Int32) : (if_icmp.holds .lt x y = true) = (x.toInt < y.toInt) := by simp [if_icmp.holds, Int32.lt_iff_toInt_lt, Int32.le_iff_toInt_le]
theorem own_iflt (K : own_Cx p s m meth c Z own nm bytes maxL ret) {off : Int} {pcF : Nat} {x : Int32} (hd : own_B bytes pc (.ifCond .lt off) off pcF pcT) (hT : (x.toInt < 0) → own_G w p l e R s m args below meth c Z Q h k n (mkF m pcT Ls st)) (hF : ¬ (x.toInt < 0) → own_G w p l e R s m args below meth c Z Q h k n (mkF m pcF Ls st)) : own_G w p l e R s m args below meth c Z Q h k n (mkF m pc Ls (.int x :: st)) := by
  obtain ⟨hd, rfl, h1, h2⟩ := hd
  by_cases q : ifCond.holds .lt x = true
  · exact own_pure K (fun X _ _ _ _ r => XS.ifYes X.here K.1 rfl rfl (hb K.2.1 hd) rfl q h1 h2 r) (hT ((own_i0_lt x).mp q))
  · exact own_pure K (fun X _ _ _ _ r => XS.ifNo X.here K.1 rfl (hb K.2.1 hd) rfl (Bool.eq_false_iff.mpr q) r) (hF fun z => q ((own_i0_lt x).mpr z))
theorem own_icmplt (K : own_Cx p s m meth c Z own nm bytes maxL ret) {off : Int} {pcF : Nat} {x y : Int32} (hd : own_B bytes pc (.if_icmp .lt off) off pcF pcT) (hT : (x.toInt < y.toInt) → own_G w p l e R s m args below meth c Z Q h k n (mkF m pcT Ls st)) (hF : ¬ (x.toInt < y.toInt) → own_G w p l e R s m args below meth c Z Q h k n (mkF m pcF Ls st)) : own_G w p l e R s m args below meth c Z Q h k n (mkF m pc Ls (.int y :: .int x :: st)) := by
  obtain ⟨hd, rfl, h1, h2⟩ := hd
  by_cases q : if_icmp.holds .lt x y = true
  · exact own_pure K (fun X _ _ _ _ r => XS.icmpYes X.here K.1 rfl rfl (hb K.2.1 hd) rfl q h1 h2 r) (hT ((own_ii_lt x y).mp q))
  · exact own_pure K (fun X _ _ _ _ r => XS.icmpNo X.here K.1 rfl (hb K.2.1 hd) rfl (Bool.eq_false_iff.mpr q) r) (hF fun z => q ((own_ii_lt x y).mpr z))
theorem own_i0_ge (x : Int32) : (ifCond.holds .ge x = true) = (0 ≤ x.toInt) := by simp [ifCond.holds, Int32.lt_iff_toInt_lt, Int32.le_iff_toInt_le]
theorem own_ii_ge (x y : Int32) : (if_icmp.holds .ge x y = true) = (y.toInt ≤ x.toInt) := by simp [if_icmp.holds, Int32.lt_iff_toInt_lt, Int32.le_iff_toInt_le]
theorem own_ifge (K : own_Cx p s m meth c Z own nm bytes maxL ret) {off : Int} {pcF : Nat} {x : Int32} (hd : own_B bytes pc (.ifCond .ge off) off pcF pcT) (hT : (0 ≤ x.toInt) → own_G w p l e R s m args below meth c Z Q h k n (mkF m pcT Ls st)) (hF : ¬ (0 ≤ x.toInt) → own_G w p l e R s m args below meth c Z Q h k n (mkF m pcF Ls st)) : own_G w p l e R s m args below meth c Z Q h k n (mkF m pc Ls (.int x :: st)) := by
  obtain ⟨hd, rfl, h1, h2⟩ := hd
  by_cases q : ifCond.holds .ge x = true
  · exact own_pure K (fun X _ _ _ _ r => XS.ifYes X.here K.1 rfl rfl (hb K.2.1 hd) rfl q h1 h2 r) (hT ((own_i0_ge x).mp q))
  · exact own_pure K (fun X _ _ _ _ r => XS.ifNo X.here K.1 rfl (hb K.2.1 hd) rfl (Bool.eq_false_iff.mpr q) r) (hF fun z => q ((own_i0_ge x).mpr z))
theorem own_icmpge (K : own_Cx p s m meth c Z own nm bytes maxL ret) {off : Int} {pcF : Nat} {x y : Int32} (hd : own_B bytes pc (.if_icmp .ge off) off pcF pcT) (hT : (y.toInt ≤ x.toInt) → own_G w p l e R s m args below meth c Z Q h k n (mkF m pcT Ls st)) (hF : ¬ (y.toInt ≤ x.toInt) → own_G w p l e R s m args below meth c Z Q h k n (mkF m pcF Ls st)) : own_G w p l e R s m args below meth c Z Q h k n (mkF m pc Ls (.int y :: .int x :: st)) := by
  obtain ⟨hd, rfl, h1, h2⟩ := hd
  by_cases q : if_icmp.holds .ge x y = true
  · exact own_pure K (fun X _ _ _ _ r => XS.icmpYes X.here K.1 rfl rfl (hb K.2.1 hd) rfl q h1 h2 r) (hT ((own_ii_ge x y).mp q))
  · exact own_pure K (fun X _ _ _ _ r => XS.icmpNo X.here K.1 rfl (hb K.2.1 hd) rfl (Bool.eq_false_iff.mpr q) r) (hF fun z => q ((own_ii_ge x y).mpr z))
theorem own_i0_gt (x : Int32) : (ifCond.holds .gt x = true) = (0 < x.toInt) := by simp [ifCond.holds, Int32.lt_iff_toInt_lt, Int32.le_iff_toInt_le]
theorem own_ii_gt (x y : Int32) : (if_icmp.holds .gt x y = true) = (y.toInt < x.toInt) := by simp [if_icmp.holds, Int32.lt_iff_toInt_lt, Int32.le_iff_toInt_le]
theorem own_ifgt (K : own_Cx p s m meth c Z own nm bytes maxL ret) {off : Int} {pcF : Nat} {x : Int32} (hd : own_B bytes pc (.ifCond .gt off) off pcF pcT) (hT : (0 < x.toInt) → own_G w p l e R s m args below meth c Z Q h k n (mkF m pcT Ls st)) (hF : ¬ (0 < x.toInt) → own_G w p l e R s m args below meth c Z Q h k n (mkF m pcF Ls st)) : own_G w p l e R s m args below meth c Z Q h k n (mkF m pc Ls (.int x :: st)) := by
  obtain ⟨hd, rfl, h1, h2⟩ := hd
  by_cases q : ifCond.holds .gt x = true
  · exact own_pure K (fun X _ _ _ _ r => XS.ifYes X.here K.1 rfl rfl (hb K.2.1 hd) rfl q h1 h2 r) (hT ((own_i0_gt x).mp q))
  · exact own_pure K (fun X _ _ _ _ r => XS.ifNo X.here K.1 rfl (hb K.2.1 hd) rfl (Bool.eq_false_iff.mpr q) r) (hF fun z => q ((own_i0_gt x).mpr z))
theorem own_icmpgt (K : own_Cx p s m meth c Z own nm bytes maxL ret) {off : Int} {pcF : Nat} {x y : Int32} (hd : own_B bytes pc (.if_icmp .gt off) off pcF pcT) (hT : (y.toInt < x.toInt) → own_G w p l e R s m args below meth c Z Q h k n (mkF m pcT Ls st)) (hF : ¬ (y.toInt < x.toInt) → own_G w p l e R s m args below meth c Z Q h k n (mkF m pcF Ls st)) : own_G w p l e R s m args below meth c Z Q h k n (mkF m pc Ls (.int y :: .int x :: st)) := by
  obtain ⟨hd, rfl, h1, h2⟩ := hd
  by_cases q : if_icmp.holds .gt x y = true
  · exact own_pure K (fun X _ _ _ _ r => XS.icmpYes X.here K.1 rfl rfl (hb K.2.1 hd) rfl q h1 h2 r) (hT ((own_ii_gt x y).mp q))
  · exact own_pure K (fun X _ _ _ _ r => XS.icmpNo X.here K.1 rfl (hb K.2.1 hd) rfl (Bool.eq_false_iff.mpr q) r) (hF fun z => q ((own_ii_gt x y).mpr z))
theorem own_i0_le (x : Int32) : (ifCond.holds .le x = true) = (x.toInt ≤ 0) := by simp [ifCond.holds, Int32.lt_iff_toInt_lt, Int32.le_iff_toInt_le]
theorem own_ii_le (x y : Int32) : (if_icmp.holds .le x y = true) = (x.toInt ≤ y.toInt) := by simp [if_icmp.holds, Int32.lt_iff_toInt_lt, Int32.le_iff_toInt_le]
theorem own_ifle (K : own_Cx p s m meth c Z own nm bytes maxL ret) {off : Int} {pcF : Nat} {x : Int32} (hd : own_B bytes pc (.ifCond .le off) off pcF pcT) (hT : (x.toInt ≤ 0) → own_G w p l e R s m args below meth c Z Q h k n (mkF m pcT Ls st)) (hF : ¬ (x.toInt ≤ 0) → own_G w p l e R s m args below meth c Z Q h k n (mkF m pcF Ls st)) : own_G w p l e R s m args below meth c Z Q h k n (mkF m pc Ls (.int x :: st)) := by
  obtain ⟨hd, rfl, h1, h2⟩ := hd
  by_cases q : ifCond.holds .le x = true
  · exact own_pure K (fun X _ _ _ _ r => XS.ifYes X.here K.1 rfl rfl (hb K.2.1 hd) rfl q h1 h2 r) (hT ((own_i0_le x).mp q))
  · exact own_pure K (fun X _ _ _ _ r => XS.ifNo X.here K.1 rfl (hb K.2.1 hd) rfl (Bool.eq_false_iff.mpr q) r) (hF fun z => q ((own_i0_le x).mpr z))
theorem own_icmple (K : own_Cx p s m meth c Z own nm bytes maxL ret) {off : Int} {pcF : Nat} {x y : Int32} (hd : own_B bytes pc (.if_icmp .le off) off pcF pcT) (hT : (x.toInt ≤ y.toInt) → own_G w p l e R s m args below meth c Z Q h k n (mkF m pcT Ls st)) (hF : ¬ (x.toInt ≤ y.toInt) → own_G w p l e R s m args below meth c Z Q h k n (mkF m pcF Ls st)) : own_G w p l e R s m args below meth c Z Q h k n (mkF m pc Ls (.int y :: .int x :: st)) := by
  obtain ⟨hd, rfl, h1, h2⟩ := hd
  by_cases q : if_icmp.holds .le x y = true
  · exact own_pure K (fun X _ _ _ _ r => XS.icmpYes X.here K.1 rfl rfl (hb K.2.1 hd) rfl q h1 h2 r) (hT ((own_ii_le x y).mp q))
  · exact own_pure K (fun X _ _ _ _ r => XS.icmpNo X.here K.1 rfl (hb K.2.1 hd) rfl (Bool.eq_false_iff.mpr q) r) (hF fun z => q ((own_ii_le x y).mpr z))
theorem own_ifnullN (K : own_Cx p s m meth c Z own nm bytes maxL ret) {off : Int} {pcF : Nat} (hd : own_B bytes pc (.ifnull off) off pcF pcT) (hr : own_G w p l e R s m args below meth c Z Q h k n (mkF m pcT Ls st)) : own_G w p l e R s m args below meth c Z Q h k n (mkF m pc Ls (.null :: st)) := by
  obtain ⟨hd, rfl, h1, h2⟩ := hd
  exact own_pure K (fun X _ _ _ _ r => XS.ifnullYes X.here K.1 rfl rfl (hb K.2.1 hd) rfl h1 h2 r) hr
theorem own_ifnullR (K : own_Cx p s m meth c Z own nm bytes maxL ret) {off : Int} {pcF : Nat} {b : Addr} (hd : own_B bytes pc (.ifnull off) off pcF pcT) (hr : own_G w p l e R s m args below meth c Z Q h k n (mkF m pcF Ls st)) : own_G w p l e R s m args below meth c Z Q h k n (mkF m pc Ls (.ref b :: st)) := by
  obtain ⟨hd, rfl, h1, h2⟩ := hd
  exact own_pure K (fun X _ _ _ _ r => XS.ifnullNo X.here K.1 rfl (hb K.2.1 hd) rfl r) hr
theorem own_ifnonnullN (K : own_Cx p s m meth c Z own nm bytes maxL ret) {off : Int} {pcF : Nat} (hd : own_B bytes pc (.ifnonnull off) off pcF pcT) (hr : own_G w p l e R s m args below meth c Z Q h k n (mkF m pcF Ls st)) : own_G w p l e R s m args below meth c Z Q h k n (mkF m pc Ls (.null :: st)) := by
  obtain ⟨hd, rfl, h1, h2⟩ := hd
  exact own_pure K (fun X _ _ _ _ r => XT.ifnonnullNo X.here K.1 rfl (hb K.2.1 hd) rfl r) hr
theorem own_ifnonnullR (K : own_Cx p s m meth c Z own nm bytes maxL ret) {off : Int} {pcF : Nat} {b : Addr} (hd : own_B bytes pc (.ifnonnull off) off pcF pcT) (hr : own_G w p l e R s m args below meth c Z Q h k n (mkF m pcT Ls st)) : own_G w p l e R s m args below meth c Z Q h k n (mkF m pc Ls (.ref b :: st)) := by
  obtain ⟨hd, rfl, h1, h2⟩ := hd
  exact own_pure K (fun X _ _ _ _ r => XT.ifnonnullYes X.here K.1 rfl rfl (hb K.2.1 hd) rfl h1 h2 r) hr
theorem own_acmpeq (K : own_Cx p s m meth c Z own nm bytes maxL ret) {off : Int} {pcF : Nat} {x y : Value} (hd : own_B bytes pc (.if_acmp .eq off) off pcF pcT) (h1' : x.isRef = true) (h2' : y.isRef = true) (hT : (x = y) → own_G w p l e R s m args below meth c Z Q h k n (mkF m pcT Ls st)) (hF : ¬ (x = y) → own_G w p l e R s m args below meth c Z Q h k n (mkF m pcF Ls st)) : own_G w p l e R s m args below meth c Z Q h k n (mkF m pc Ls (y :: x :: st)) := by
  obtain ⟨hd, rfl, h1, h2⟩ := hd
  by_cases q : x = y
  · exact own_pure K (fun X _ _ _ _ r => XT.acmpYes X.here K.1 rfl rfl (hb K.2.1 hd) rfl h1' h2' (decide_eq_true q) h1 h2 r) (hT q)
  · exact own_pure K (fun X _ _ _ _ r => XT.acmpNo X.here K.1 rfl (hb K.2.1 hd) rfl h1' h2' (decide_eq_false q) r) (hF q)
theorem own_acmpne (K : own_Cx p s m meth c Z own nm bytes maxL ret) {off : Int} {pcF : Nat} {x y : Value} (hd : own_B bytes pc (.if_acmp .ne off) off pcF pcT) (h1' : x.isRef = true) (h2' : y.isRef = true) (hT : (x ≠ y) → own_G w p l e R s m args below meth c Z Q h k n (mkF m pcT Ls st)) (hF : ¬ (x ≠ y) → own_G w p l e R s m args below meth c Z Q h k n (mkF m pcF Ls st)) : own_G w p l e R s m args below meth c Z Q h k n (mkF m pc Ls (y :: x :: st)) := by
  obtain ⟨hd, rfl, h1, h2⟩ := hd
  by_cases q : x ≠ y
  · exact own_pure K (fun X _ _ _ _ r => XT.acmpYes X.here K.1 rfl rfl (hb K.2.1 hd) rfl h1' h2' (decide_eq_true q) h1 h2 r) (hT q)
  · exact own_pure K (fun X _ _ _ _ r => XT.acmpNo X.here K.1 rfl (hb K.2.1 hd) rfl h1' h2' (decide_eq_false q) r) (hF q)
theorem own_getfield (K : own_Cx p s m meth c Z own nm bytes maxL ret) {i j q : Nat} {R0 O f d host C : String} {v : Value} {a : Addr} {fs : List (String × String × String × Value)} (hd : own_D bytes pc (.getfield i) 3 pc') (wl : (Cond.fieldLink own i R0 f d).before a0 Z = true ∨ (Cond.fieldLinkNest own i R0 f d host).before a0 Z = true) (via : Via Z R0 O f d) (H : own_H Z h os as) (ho : os[j]? = some (a, C, fs)) (hf : fs[q]? = some (O, f, d, v)) (hr : own_G w p l e R s m args below meth c Z Q h k n (mkF m pc' Ls (v :: st))) : own_G w p l e R s m args below meth c Z Q h k n (mkF m pc Ls (.ref a :: st)) := by
  obtain ⟨hd, rfl⟩ := hd
  refine own_step K (P := fun h' => h' = h) (fun X hZ hw eT N => ?_) (fun h' e => by subst e; exact hr)
  obtain ⟨T', X', e', st⟩ := getF X K.1 hZ hw wl via eT (H.fld ho hf) (g := mkF m pc Ls (.ref a :: st)) rfl rfl (hb K.2.1 hd)
  exact ⟨T', _, _, X', N, e', Nat.le_refl _, rfl, st⟩
theorem own_putfield (K : own_Cx p s m meth c Z own nm bytes maxL ret) {i j q kk : Nat} {R0 O f d host C : String} {v v0 : Value} {a : Addr} {fs : List (String × String × String × Value)} {ty : FieldType} (hd : own_D bytes pc (.putfield i) 3 pc') (wl : (Cond.fieldLink own i R0 f d).before a0 Z = true ∨ (Cond.fieldLinkNest own i R0 f d host).before a0 Z = true) (via : Via Z R0 O f d) (H : own_H Z h os as) (ho : os[j]? = some (a, C, fs)) (hf : fs[q]? = some (O, f, d, v0))
    (L : (Cond.lays C O f d).before a0 Z = true ∨ ((Cond.laysFinal C O f d).before a0 Z = true ∧ own = O ∧ nm = "<init>")) (wi : (Cond.instantiable C kk).before a0 Z = true) (hty : parseFieldDescriptor d = some ty) (hn : narrow ty v = v) (hfit : fits ty v = true) (hr : ∀ h', own_H Z h' (os.set j (a, C, fs.set q (O, f, d, v))) as → own_G w p l e R s m args below meth c Z Q h' k n (mkF m pc' Ls st)) (hro : own_ro (a, C, fs) = false := by rfl) : own_G w p l e R s m args below meth c Z Q h k n (mkF m pc Ls (v :: .ref a :: st)) := by
  obtain ⟨hd, rfl⟩ := hd
  refine own_step K (P := fun h' => own_H Z h' (os.set j (a, C, fs.set q (O, f, d, v))) as) (fun X hZ hw eT N => ?_) hr
  obtain ⟨T', h', X', e', W, st⟩ := putF X K.1 hZ hw wl via eT (H.fld ho hf) (H.atO ho) (L.imp id (fun z => ⟨z.1, z.2.1, K.2.2.2.2.2.2.2.trans z.2.2⟩)) wi hty hn hfit (g := mkF m pc Ls (v :: .ref a :: st)) rfl rfl (hb K.2.1 hd)
  exact ⟨T', h', _, X', Fr.snoc X' N (H.newO ho hro), e', Nat.le_of_eq (Wr.size W).symm, H.wrO hro ho hf W, st⟩
theorem own_new (K : own_Cx p s m meth c Z own nm bytes maxL ret) {i kk : Nat} {C : String} {fs : List (String × String × String × Value)} (hd : own_D bytes pc (.new i) 3 pc') (w1 : (Cond.classLink own i C).before a0 Z = true) (w2 : (Cond.instantiable C kk).before a0 Z = true) (w3 : (Cond.initialized C).before a0 Z = true) (H : own_H Z h os as)
    (hF : ∀ f ∈ fs, Laid Z a0 C f.1 f.2.1 f.2.2.1 ∧ ∃ ty, parseFieldDescriptor f.2.2.1 = some ty ∧ f.2.2.2 = defaultValue ty) (hP : fs.Pairwise (fun f g => slotOf Z f.1 f.2.1 f.2.2.1 ≠ slotOf Z g.1 g.2.1 g.2.2.1)) (hc : k + 1 ≤ R.cells) (hl : n + kk ≤ R.slots)
    (hr : ∀ h' a, own_H Z h' ((a, C, fs) :: os) as → own_G w p l e R s m args below meth c Z Q h' (k + 1) (n + kk) (mkF m pc' Ls (.ref a :: st))) : own_G w p l e R s m args below meth c Z Q h k n (mkF m pc Ls st) := by
  obtain ⟨hd, rfl⟩ := hd
  refine own_step K (P := fun h' => own_H Z h' ((h.size, C, fs) :: os) as) (fun X hZ hw eT N => ?_) (fun h' H' => hr h' _ H')
  obtain ⟨T', h', X', e', E, A, D, -, st⟩ := newO X K.1 hZ hw w1 w2 w3 eT (g := mkF m pc Ls st) rfl (hb K.2.1 hd) hc hl
  exact ⟨T', h', _, X', N, e', E.1, H.addO E ⟨A, fun f hf => by obtain ⟨hL, ty, t1, t2⟩ := hF f hf; show Fld Z h' h.size f.1 f.2.1 f.2.2.1 f.2.2.2; rw [t2]; exact D hL t1, hP⟩, st⟩
theorem own_newarray (K : own_Cx p s m meth c Z own nm bytes maxL ret) {aty : ArrayType} {ty : FieldType} {N : Int32} {q : Nat} {ad : String} {vs : List Value} (hd : own_D bytes pc (.newarray aty) 2 pc') (hty : newarray.typeOf aty = ty) (w1 : (Cond.arrayClass ty).before a0 Z = true) (H : own_H Z h os as) (hN : N.toInt = (q : Int)) (had : "[" ++ ty.toString = ad) (hvs : vs = List.replicate q (defaultValue ty)) (hq : q * 8 ≤ 536870912) (hc : k + 1 ≤ R.cells) (hl : n + q ≤ R.slots)
    (hr : ∀ h' a, own_H Z h' os ((a, ty, ad, vs) :: as) → own_G w p l e R s m args below meth c Z Q h' (k + 1) (n + q) (mkF m pc' Ls (.ref a :: st))) : own_G w p l e R s m args below meth c Z Q h k n (mkF m pc Ls (.int N :: st)) := by
  obtain ⟨hd, rfl⟩ := hd
  subst hty
  refine own_step K (P := fun h' => own_H Z h' os ((h.size, newarray.typeOf aty, ad, vs) :: as)) (fun X hZ hw eT N => ?_) (fun h' H' => hr h' _ H')
  have hNq := own_idx hN
  obtain ⟨T', h', cA, X', e', E, A, Ex, st⟩ := newPE X K.1 hZ w1 eT (g := mkF m pc Ls (.int _ :: st)) rfl (hb K.2.1 hd) rfl (by rw [Int32.lt_iff_toInt_lt, hN, show (0 : Int32).toInt = 0 from rfl]; omega) (cap := q) (Nat.le_of_eq hNq) hq hc hl had
  refine ⟨T', h', _, X', N, e', E.1, H.addA E ⟨_, A, ?_, ?_, fun _ => Ex, fun C hC => ?_⟩, st⟩
  · show (newA cA (newarray.typeOf aty) _).slots.toList = vs
    simp [newA, hNq, hvs]
  · intro v hv
    rw [show v = defaultValue (newarray.typeOf aty) from List.eq_of_mem_replicate (hvs ▸ hv)]
    cases aty <;> rfl
  · cases aty <;> cases hC
theorem own_iaload (K : own_Cx p s m meth c Z own nm bytes maxL ret) {i q : Nat} {a : Addr} {ad : String} {vs : List Value} {v : Value} {j : Int32} (hd : own_D bytes pc .iaload 1 pc') (H : own_H Z h os as) (ha : as[i]? = some (a, .int, ad, vs)) (hj : j.toInt = (q : Int)) (hv : vs[q]? = some v) (hr : own_G w p l e R s m args below meth c Z Q h k n (mkF m pc' Ls (v :: st))) : own_G w p l e R s m args below meth c Z Q h k n (mkF m pc Ls (.int j :: .ref a :: st)) := by
  obtain ⟨hd, rfl⟩ := hd
  obtain ⟨-, cl, A, e1, -⟩ := H.2.2.1 _ (own_mem ha)
  have hq := (List.getElem?_eq_some_iff.mp hv).1
  have hsz : cl.slots.size = vs.length := by rw [← Array.length_toList]; exact congrArg List.length e1
  exact own_pure K (fun X hZ _ eT _ r => X.iaload K.1 (by rw [eT]; exact A.1) (State.isArrayOf_alike hZ.alike A.2.1) A.2.2 (by rw [hsz]; exact own_in hj hq) (by rw [own_idx hj, ← Array.getElem?_toList]; exact (show cl.slots.toList = vs from e1) ▸ hv) (g := mkF m pc Ls (.int j :: .ref a :: st)) rfl rfl (hb K.2.1 hd) _ r) hr
theorem own_laload (K : own_Cx p s m meth c Z own nm bytes maxL ret) {i q : Nat} {a : Addr} {ad : String} {vs : List Value} {v : Value} {j : Int32} (hd : own_D bytes pc .laload 1 pc') (H : own_H Z h os as) (ha : as[i]? = some (a, .long, ad, vs)) (hj : j.toInt = (q : Int)) (hv : vs[q]? = some v) (hr : own_G w p l e R s m args below meth c Z Q h k n (mkF m pc' Ls (v :: st))) : own_G w p l e R s m args below meth c Z Q h k n (mkF m pc Ls (.int j :: .ref a :: st)) := by
  obtain ⟨hd, rfl⟩ := hd
  obtain ⟨-, cl, A, e1, -⟩ := H.2.2.1 _ (own_mem ha)
  have hq := (List.getElem?_eq_some_iff.mp hv).1
  have hsz : cl.slots.size = vs.length := by rw [← Array.length_toList]; exact congrArg List.length e1
  exact own_pure K (fun X hZ _ eT _ r => X.laload K.1 (by rw [eT]; exact A.1) (State.isArrayOf_alike hZ.alike A.2.1) A.2.2 (by rw [hsz]; exact own_in hj hq) (by rw [own_idx hj, ← Array.getElem?_toList]; exact (show cl.slots.toList = vs from e1) ▸ hv) (g := mkF m pc Ls (.int j :: .ref a :: st)) rfl rfl (hb K.2.1 hd) _ r) hr
theorem own_daload (K : own_Cx p s m meth c Z own nm bytes maxL ret) {i q : Nat} {a : Addr} {ad : String} {vs : List Value} {v : Value} {j : Int32} (hd : own_D bytes pc .daload 1 pc') (H : own_H Z h os as) (ha : as[i]? = some (a, .double, ad, vs)) (hj : j.toInt = (q : Int)) (hv : vs[q]? = some v) (hr : own_G w p l e R s m args below meth c Z Q h k n (mkF m pc' Ls (v :: st))) : own_G w p l e R s m args below meth c Z Q h k n (mkF m pc Ls (.int j :: .ref a :: st)) := by
  obtain ⟨hd, rfl⟩ := hd
  obtain ⟨-, cl, A, e1, -⟩ := H.2.2.1 _ (own_mem ha)
  have hq := (List.getElem?_eq_some_iff.mp hv).1
  have hsz : cl.slots.size = vs.length := by rw [← Array.length_toList]; exact congrArg List.length e1
  exact own_pure K (fun X hZ _ eT _ r => X.daload K.1 (by rw [eT]; exact A.1) (State.isArrayOf_alike hZ.alike A.2.1) A.2.2 (by rw [hsz]; exact own_in hj hq) (by rw [own_idx hj, ← Array.getElem?_toList]; exact (show cl.slots.toList = vs from e1) ▸ hv) (g := mkF m pc Ls (.int j :: .ref a :: st)) rfl rfl (hb K.2.1 hd) _ r) hr
theorem own_caload (K : own_Cx p s m meth c Z own nm bytes maxL ret) {i q : Nat} {a : Addr} {ad : String} {vs : List Value} {v : Value} {j : Int32} (hd : own_D bytes pc .caload 1 pc') (H : own_H Z h os as) (ha : as[i]? = some (a, .char, ad, vs)) (hj : j.toInt = (q : Int)) (hv : vs[q]? = some v) (hr : own_G w p l e R s m args below meth c Z Q h k n (mkF m pc' Ls (v :: st))) : own_G w p l e R s m args below meth c Z Q h k n (mkF m pc Ls (.int j :: .ref a :: st)) := by
  obtain ⟨hd, rfl⟩ := hd
  obtain ⟨-, cl, A, e1, -⟩ := H.2.2.1 _ (own_mem ha)
  have hq := (List.getElem?_eq_some_iff.mp hv).1
  have hsz : cl.slots.size = vs.length := by rw [← Array.length_toList]; exact congrArg List.length e1
  exact own_pure K (fun X hZ _ eT _ r => X.caload K.1 (by rw [eT]; exact A.1) (State.isArrayOf_alike hZ.alike A.2.1) A.2.2 (by rw [hsz]; exact own_in hj hq) (by rw [own_idx hj, ← Array.getElem?_toList]; exact (show cl.slots.toList = vs from e1) ▸ hv) (g := mkF m pc Ls (.int j :: .ref a :: st)) rfl rfl (hb K.2.1 hd) _ r) hr
theorem own_baload (K : own_Cx p s m meth c Z own nm bytes maxL ret) {i q : Nat} {a : Addr} {ad : String} {vs : List Value} {v : Value} {j : Int32} (hd : own_D bytes pc .baload 1 pc') (H : own_H Z h os as) (ha : as[i]? = some (a, .byte, ad, vs)) (hj : j.toInt = (q : Int)) (hv : vs[q]? = some v) (hr : own_G w p l e R s m args below meth c Z Q h k n (mkF m pc' Ls (v :: st))) : own_G w p l e R s m args below meth c Z Q h k n (mkF m pc Ls (.int j :: .ref a :: st)) := by
  obtain ⟨hd, rfl⟩ := hd
  obtain ⟨-, cl, A, e1, -⟩ := H.2.2.1 _ (own_mem ha)
  have hq := (List.getElem?_eq_some_iff.mp hv).1
  have hsz : cl.slots.size = vs.length := by rw [← Array.length_toList]; exact congrArg List.length e1
  exact own_pure K (fun X hZ _ eT _ r => X.baloadBytes K.1 (by rw [eT]; exact A.1) (State.isArrayOf_alike hZ.alike A.2.1) A.2.2 (by rw [hsz]; exact own_in hj hq) (by rw [own_idx hj, ← Array.getElem?_toList]; exact (show cl.slots.toList = vs from e1) ▸ hv) (g := mkF m pc Ls (.int j :: .ref a :: st)) rfl rfl (hb K.2.1 hd) _ r) hr
theorem own_aaload (K : own_Cx p s m meth c Z own nm bytes maxL ret) {i q : Nat} {a : Addr} {ad : String} {ty : FieldType} {vs : List Value} {v : Value} {j : Int32} (hd : own_D bytes pc .aaload 1 pc') (H : own_H Z h os as) (ha : as[i]? = some (a, ty, ad, vs)) (hty : ty.isReference = true) (hj : j.toInt = (q : Int)) (hv : vs[q]? = some v) (hr : own_G w p l e R s m args below meth c Z Q h k n (mkF m pc' Ls (v :: st))) : own_G w p l e R s m args below meth c Z Q h k n (mkF m pc Ls (.int j :: .ref a :: st)) := by
  obtain ⟨hd, rfl⟩ := hd
  obtain ⟨-, cl, A, e1, -⟩ := H.2.2.1 _ (own_mem ha)
  have hq := (List.getElem?_eq_some_iff.mp hv).1
  have hsz : cl.slots.size = vs.length := by rw [← Array.length_toList]; exact congrArg List.length e1
  exact own_pure K (fun X hZ _ eT _ r => X.aaload K.1 (by rw [eT]; exact A.1) (State.isArrayOf_alike hZ.alike A.2.1) hty A.2.2 (by rw [hsz]; exact own_in hj hq) (by rw [own_idx hj, ← Array.getElem?_toList]; exact (show cl.slots.toList = vs from e1) ▸ hv) (g := mkF m pc Ls (.int j :: .ref a :: st)) rfl rfl (hb K.2.1 hd) _ r) hr
theorem own_iastore (K : own_Cx p s m meth c Z own nm bytes maxL ret) {i q : Nat} {a : Addr} {ad : String} {vs : List Value} {j : Int32} {x : Int32} (hd : own_D bytes pc .iastore 1 pc') (H : own_H Z h os as) (ha : as[i]? = some (a, .int, ad, vs)) (hj : j.toInt = (q : Int)) (hq : q < vs.length) (hr : ∀ h', own_H Z h' os (as.set i (a, .int, ad, vs.set q (.int x))) → own_G w p l e R s m args below meth c Z Q h' k n (mkF m pc' Ls st)) (had : ad ≠ "" := by decide) : own_G w p l e R s m args below meth c Z Q h k n (mkF m pc Ls (.int x :: .int j :: .ref a :: st)) := by
  obtain ⟨hd, rfl⟩ := hd
  obtain ⟨na, cl, A, e1, -⟩ := H.2.2.1 _ (own_mem ha)
  have hsz : cl.slots.size = vs.length := by rw [← Array.length_toList]; exact congrArg List.length e1
  refine own_step K (P := fun h' => own_H Z h' os (as.set i (a, .int, ad, vs.set q (.int x)))) (fun X hZ _ eT N => ?_) hr
  obtain ⟨T', h', X', e', W, st⟩ := stI X K.1 hZ eT A (by rw [hsz]; exact own_in hj hq) (g := mkF m pc Ls (.int x :: .int j :: .ref a :: st)) rfl rfl (hb K.2.1 hd)
  exact ⟨T', h', _, X', Fr.snoc X' N (na had), e', Nat.le_of_eq (Wr.size W).symm, H.wrA had ha hq (rfl) (by rw [own_idx hj] at W; exact W), st⟩
theorem own_lastore (K : own_Cx p s m meth c Z own nm bytes maxL ret) {i q : Nat} {a : Addr} {ad : String} {vs : List Value} {j : Int32} {x : Int64} (hd : own_D bytes pc .lastore 1 pc') (H : own_H Z h os as) (ha : as[i]? = some (a, .long, ad, vs)) (hj : j.toInt = (q : Int)) (hq : q < vs.length) (hr : ∀ h', own_H Z h' os (as.set i (a, .long, ad, vs.set q (.long x))) → own_G w p l e R s m args below meth c Z Q h' k n (mkF m pc' Ls st)) (had : ad ≠ "" := by decide) : own_G w p l e R s m args below meth c Z Q h k n (mkF m pc Ls (.long x :: .int j :: .ref a :: st)) := by
  obtain ⟨hd, rfl⟩ := hd
  obtain ⟨na, cl, A, e1, -⟩ := H.2.2.1 _ (own_mem ha)
  have hsz : cl.slots.size = vs.length := by rw [← Array.length_toList]; exact congrArg List.length e1
  refine own_step K (P := fun h' => own_H Z h' os (as.set i (a, .long, ad, vs.set q (.long x)))) (fun X hZ _ eT N => ?_) hr
  obtain ⟨T', h', X', e', W, st⟩ := stJ X K.1 hZ eT A (by rw [hsz]; exact own_in hj hq) (g := mkF m pc Ls (.long x :: .int j :: .ref a :: st)) rfl rfl (hb K.2.1 hd)
  exact ⟨T', h', _, X', Fr.snoc X' N (na had), e', Nat.le_of_eq (Wr.size W).symm, H.wrA had ha hq (rfl) (by rw [own_idx hj] at W; exact W), st⟩
theorem own_dastore (K : own_Cx p s m meth c Z own nm bytes maxL ret) {i q : Nat} {a : Addr} {ad : String} {vs : List Value} {j : Int32} {x : UInt64} (hd : own_D bytes pc .dastore 1 pc') (H : own_H Z h os as) (ha : as[i]? = some (a, .double, ad, vs)) (hj : j.toInt = (q : Int)) (hq : q < vs.length) (hr : ∀ h', own_H Z h' os (as.set i (a, .double, ad, vs.set q (.double x))) → own_G w p l e R s m args below meth c Z Q h' k n (mkF m pc' Ls st)) (had : ad ≠ "" := by decide) : own_G w p l e R s m args below meth c Z Q h k n (mkF m pc Ls (.double x :: .int j :: .ref a :: st)) := by
  obtain ⟨hd, rfl⟩ := hd
  obtain ⟨na, cl, A, e1, -⟩ := H.2.2.1 _ (own_mem ha)
  have hsz : cl.slots.size = vs.length := by rw [← Array.length_toList]; exact congrArg List.length e1
  refine own_step K (P := fun h' => own_H Z h' os (as.set i (a, .double, ad, vs.set q (.double x)))) (fun X hZ _ eT N => ?_) hr
  obtain ⟨T', h', X', e', W, st⟩ := stD X K.1 hZ eT A (by rw [hsz]; exact own_in hj hq) (g := mkF m pc Ls (.double x :: .int j :: .ref a :: st)) rfl rfl (hb K.2.1 hd)
  exact ⟨T', h', _, X', Fr.snoc X' N (na had), e', Nat.le_of_eq (Wr.size W).symm, H.wrA had ha hq (rfl) (by rw [own_idx hj] at W; exact W), st⟩
theorem own_castore (K : own_Cx p s m meth c Z own nm bytes maxL ret) {i q : Nat} {a : Addr} {ad : String} {vs : List Value} {j : Int32} {x : Int32} (hd : own_D bytes pc .castore 1 pc') (H : own_H Z h os as) (ha : as[i]? = some (a, .char, ad, vs)) (hj : j.toInt = (q : Int)) (hq : q < vs.length) (hr : ∀ h', own_H Z h' os (as.set i (a, .char, ad, vs.set q (.int (nar .char x)))) → own_G w p l e R s m args below meth c Z Q h' k n (mkF m pc' Ls st)) (had : ad ≠ "" := by decide) : own_G w p l e R s m args below meth c Z Q h k n (mkF m pc Ls (.int x :: .int j :: .ref a :: st)) := by
  obtain ⟨hd, rfl⟩ := hd
  obtain ⟨na, cl, A, e1, -⟩ := H.2.2.1 _ (own_mem ha)
  have hsz : cl.slots.size = vs.length := by rw [← Array.length_toList]; exact congrArg List.length e1
  refine own_step K (P := fun h' => own_H Z h' os (as.set i (a, .char, ad, vs.set q (.int (nar .char x))))) (fun X hZ _ eT N => ?_) hr
  obtain ⟨T', h', X', e', W, st⟩ := stC X K.1 hZ eT A (by rw [hsz]; exact own_in hj hq) (g := mkF m pc Ls (.int x :: .int j :: .ref a :: st)) rfl rfl (hb K.2.1 hd)
  exact ⟨T', h', _, X', Fr.snoc X' N (na had), e', Nat.le_of_eq (Wr.size W).symm, H.wrA had ha hq (by first | exact fits_nar_char _ | exact fits_nar_char | (simp [fits_nar_char]; done)) (by rw [own_idx hj] at W; exact W), st⟩
theorem own_bastore (K : own_Cx p s m meth c Z own nm bytes maxL ret) {i q : Nat} {a : Addr} {ad : String} {vs : List Value} {j : Int32} {x : Int32} (hd : own_D bytes pc .bastore 1 pc') (H : own_H Z h os as) (ha : as[i]? = some (a, .byte, ad, vs)) (hj : j.toInt = (q : Int)) (hq : q < vs.length) (hr : ∀ h', own_H Z h' os (as.set i (a, .byte, ad, vs.set q (.int (nar .byte x)))) → own_G w p l e R s m args below meth c Z Q h' k n (mkF m pc' Ls st)) (had : ad ≠ "" := by decide) : own_G w p l e R s m args below meth c Z Q h k n (mkF m pc Ls (.int x :: .int j :: .ref a :: st)) := by
  obtain ⟨hd, rfl⟩ := hd
  obtain ⟨na, cl, A, e1, -⟩ := H.2.2.1 _ (own_mem ha)
  have hsz : cl.slots.size = vs.length := by rw [← Array.length_toList]; exact congrArg List.length e1
  refine own_step K (P := fun h' => own_H Z h' os (as.set i (a, .byte, ad, vs.set q (.int (nar .byte x))))) (fun X hZ _ eT N => ?_) hr
  obtain ⟨T', h', X', e', W, st⟩ := stB X K.1 hZ eT A (by rw [hsz]; exact own_in hj hq) (g := mkF m pc Ls (.int x :: .int j :: .ref a :: st)) rfl rfl (hb K.2.1 hd)
  exact ⟨T', h', _, X', Fr.snoc X' N (na had), e', Nat.le_of_eq (Wr.size W).symm, H.wrA had ha hq (by first | exact fits_nar_byte _ | exact fits_nar_byte | (simp [fits_nar_byte]; done)) (by rw [own_idx hj] at W; exact W), st⟩
theorem own_arraylength (K : own_Cx p s m meth c Z own nm bytes maxL ret) {i : Nat} {a : Addr} {ad : String} {ty : FieldType} {vs : List Value} {N : Int32} (hd : own_D bytes pc .arraylength 1 pc') (H : own_H Z h os as) (ha : as[i]? = some (a, ty, ad, vs)) (hN : N.toInt = (vs.length : Int)) (hr : own_G w p l e R s m args below meth c Z Q h k n (mkF m pc' Ls (.int N :: st))) : own_G w p l e R s m args below meth c Z Q h k n (mkF m pc Ls (.ref a :: st)) := by
  obtain ⟨hd, rfl⟩ := hd
  obtain ⟨-, cl, A, e1, -⟩ := H.2.2.1 _ (own_mem ha)
  have hsz : cl.slots.size = vs.length := by rw [← Array.length_toList]; exact congrArg List.length e1
  have e2 : cl.slots.size.toInt32 = N := by rw [hsz]; exact own_len hN
  exact own_pure K (fun X hZ _ eT _ r => X.arraylength K.1 (by rw [eT]; exact A.1) (State.isArrayOf_alike hZ.alike A.2.1) (g := mkF m pc Ls (.ref a :: st)) rfl rfl (hb K.2.1 hd) _ (by rw [e2]; exact r)) hr
theorem own_checkcast (K : own_Cx p s m meth c Z own nm bytes maxL ret) {i : Nat} {a : Addr} {Kn : String} (hd : own_D bytes pc (.checkcast i) 3 pc') (w1 : (Cond.classLink own i Kn).before a0 Z = true) (I : Ins Z h a Kn true) (hr : own_G w p l e R s m args below meth c Z Q h k n (mkF m pc' Ls (.ref a :: st))) : own_G w p l e R s m args below meth c Z Q h k n (mkF m pc Ls (.ref a :: st)) := by
  obtain ⟨hd, rfl⟩ := hd
  refine own_step K (P := fun h' => h' = h) (fun X hZ hw eT N => ?_) (fun h' e => by subst e; exact hr)
  obtain ⟨T', X', e', st⟩ := castY X K.1 hZ hw w1 eT I (g := mkF m pc Ls (.ref a :: st)) rfl rfl (hb K.2.1 hd)
  exact ⟨T', _, _, X', N, e', Nat.le_refl _, rfl, st⟩
theorem own_H.exaA (H : own_H Z h os as) {i : Nat} {a : Addr} {ty : FieldType} {ad : String} {vs : List Value} (ha : as[i]? = some (a, ty, ad, vs)) (hn : ad ≠ "") : Exa Z h a ad := by
  obtain ⟨-, cl, -, -, -, h4, -⟩ := H.2.2.1 _ (own_mem ha); exact h4 hn
theorem own_clone (K : own_Cx p s m meth c Z own nm bytes maxL ret) {i j : Nat} {a : Addr} {ty : FieldType} {ad : String} {vs : List Value} (hd : own_D bytes pc (.invokevirtual i) 3 pc') (w1 : (Cond.methodLink own i ⟨ad, "clone", "()Ljava/lang/Object;"⟩).before a0 Z = true) (w2 : (Cond.sameMethod ad "java/lang/Object" "clone" "()Ljava/lang/Object;").before a0 Z = true) (w3 : (Cond.native ⟨"java/lang/Object", "clone", "()Ljava/lang/Object;"⟩).before a0 Z = true)
    (w4 : (Cond.instanceMethod ⟨"java/lang/Object", "clone", "()Ljava/lang/Object;"⟩).before a0 Z = true) (w5 : (Cond.selects ad ⟨ad, "clone", "()Ljava/lang/Object;"⟩ ⟨"java/lang/Object", "clone", "()Ljava/lang/Object;"⟩).before a0 Z = true) (w6 : (Cond.castable ad "java/lang/Cloneable").before a0 Z = true)
    (H : own_H Z h os as) (ha : as[j]? = some (a, ty, ad, vs)) (hn : ad ≠ "") (hsz : Ls.size = maxL) (hf : 1 ≤ R.frames) {W : Nat} (hW : (st.map fun v => v.category).sum ≤ W) (hl : W + 14 ≤ R.locals) (hc : k + 1 ≤ R.cells) (hsl : n + vs.length ≤ R.slots)
    (hr : ∀ h' b, own_H Z h' os ((b, ty, ad, vs) :: as) → own_G w p l e R s m args below meth c Z Q h' (k + 1) (n + vs.length) (mkF m pc' Ls (.ref b :: st))) : own_G w p l e R s m args below meth c Z Q h k n (mkF m pc Ls (.ref a :: st)) := by
  obtain ⟨hd, rfl⟩ := hd
  obtain ⟨-, cl, A, e1, e3, e4, e5⟩ := H.2.2.1 _ (own_mem ha)
  have hsz' : cl.slots.size = vs.length := by rw [← Array.length_toList]; exact congrArg List.length e1
  have F : FitC Z cl := fun i v hv => by
    obtain ⟨hs, k, hk, comp, hkind⟩ := A.2.1
    have hm : v ∈ vs := by
      have : cl.slots.toList[i]? = some v := by rw [Array.getElem?_toList]; exact hv
      exact (show cl.slots.toList = vs from e1) ▸ own_mem this
    simp [State.fitsSlot, State.slotType?, hk, hkind, show fits ty v = true from e3 v hm]
  refine own_step K (P := fun h' => own_H Z h' os ((h.size, ty, ad, vs) :: as)) (fun X hZ hw eT N => ?_) (fun h' H' => hr h' _ H')
  obtain ⟨T', h', X', e', E, A', Ex, st⟩ := cloneA X K.1 hZ hw w1 w2 w3 w4 w5 w6 eT A (e4 hn) F (g := mkF m pc Ls (.ref a :: st)) rfl (hsz.trans K.2.2.1.symm) rfl (hb K.2.1 hd) hf (W := W) (by show 2 * 0 + _ ≤ W; simpa using hW) hl (cap := vs.length) (Nat.le_of_eq hsz') hc hsl
  exact ⟨T', h', _, X', N, e', E.1, H.addA E ⟨_, A', e1, e3, fun _ => Ex, e5⟩, st⟩
theorem own_initO (K : own_Cx p s m meth c Z own nm bytes maxL ret) {i : Nat} {a : Addr} (hd : own_D bytes pc (.invokespecial i) 3 pc') (w1 : (Cond.methodLink own i Lib.objectInit).before a0 Z = true) (w2 : (Cond.instanceMethod Lib.objectInit).before a0 Z = true) (w3 : (Cond.code Lib.objectInit ⟨#[0xb1]⟩ 1 none).before a0 Z = true) (hsz : Ls.size = maxL) (hf : 1 ≤ R.frames) {W : Nat} (hW : (st.map fun v => v.category).sum ≤ W) (hl : W + 12 ≤ R.locals) (hr : own_G w p l e R s m args below meth c Z Q h k n (mkF m pc' Ls st)) : own_G w p l e R s m args below meth c Z Q h k n (mkF m pc Ls (.ref a :: st)) := by
  obtain ⟨hd, rfl⟩ := hd
  refine own_step K (P := fun h' => h' = h) (fun X hZ hw eT N => ?_) (fun h' e => by subst e; exact hr)
  obtain ⟨T', X', e', st⟩ := initO X K.1 hZ hw w1 w2 w3 eT (g := mkF m pc Ls (.ref a :: st)) rfl (hsz.trans K.2.2.1.symm) rfl (hb K.2.1 hd) hf (W := W) (by show 2 * 0 + _ ≤ W; simpa using hW) hl
  exact ⟨T', _, _, X', N, e', Nat.le_refl _, rfl, st⟩
theorem own_static (K : own_Cx p s m meth c Z own nm bytes maxL ret) {i ml W : Nat} {y : MethodName} {b : ByteArray} {rt : Option FieldType} {rm : Room} {argsL : List Value} {Qc : Option Value → Heap → Prop} {ps : List FieldType} {r : Option FieldType} (hd : own_D bytes pc (.invokestatic i) 3 pc') (w1 : (Cond.methodLink own i y).before a0 Z = true) (w2 : (Cond.static y).before a0 Z = true) (w3 : (Cond.initialized y.cls).before a0 Z = true) (w4 : (Cond.code y b ml rt).before a0 Z = true)
    (hM : own_Met none l Z y b ml rt [] rm argsL.toArray h Qc) (hp : parseMethodDescriptor y.desc = some ⟨ps, r⟩) (hlen : argsL.length = ps.length) (hst : st = argsL.reverse ++ rest) (hsz : Ls.size = maxL) (hy : y.cls ≠ "java/lang/invoke/MethodHandle" ∧ y.cls ≠ "java/lang/invoke/VarHandle") (hW : (rest.map fun v => v.category).sum ≤ W) (hf : rm.frames + 1 ≤ R.frames) (hl : W + (ml + 11) + rm.locals ≤ R.locals) (hc : k + rm.cells ≤ R.cells) (hs : n + rm.slots ≤ R.slots)
    (hr : ∀ v h', Qc v h' → own_G w p l e R s m args below meth c Z Q h' (k + rm.cells) (n + rm.slots) (mkF m (pc') Ls (v.toList ++ rest))) : own_G w p l e R s m args below meth c Z Q h k n (mkF m pc Ls st) := by
  obtain ⟨hd, rfl⟩ := hd
  intro T hX
  obtain ⟨L, vm, X, N, eT, hw, hS⟩ := hX
  have hZ := own_zw K.2.2.2.2.2.1 hS
  have hown : (s.setVm vm).vm.findClass own = some m.cls := by rw [show (s.setVm vm).vm = vm from rfl, hS.1.alike.findClass]; exact K.2.2.2.2.2.2.1
  obtain ⟨v, vm1, ⟨T1, L1, k1, n1⟩, -, X1, ⟨Lc, ⟨hQ, N1, z1⟩, l1, y1, x1⟩, st1⟩ := Jvm.LawKit.callS X K.1 (y := y) hown (mvT hZ w1) (mvT hZ w2) (mvT hZ w3) (mvT hZ w4) hy (backOf (W := W) (Q := fun v h'' L => Qc v h'' ∧ Fr Z.heap.size L ∧ h.size ≤ h''.size) (show MetFree _ _ _ _ _ _ from hM) hZ w4 w3 hf hl) (g := mkF m pc Ls st) rfl (hsz.trans K.2.2.1.symm) (argsL := argsL) (rest := rest) (lenOf hp hlen) hst (by show 2 * 0 + _ ≤ W; simpa using hW) (hb K.2.1 hd) (fun _ _ => ⟨rfl, eT, hc, hs⟩)
  dsimp only [Pt.U, Pt.locs, Pt.cells, Pt.slots] at X1 l1 y1 x1 st1 hQ z1
  subst l1 y1 x1
  obtain ⟨T', v', h', k', n', hX', r1, r2, r3, r4, r5⟩ := hr v T1.heap hQ T1 ⟨_, vm, X1, N.app N1, rfl, hw, own_since hS z1⟩
  exact ⟨T', v', h', k', n', hX', r1, r2, r3, r4, fun fs q => st1 _ (r5 fs q)⟩
theorem own_special (K : own_Cx p s m meth c Z own nm bytes maxL ret) {i ml W : Nat} {y : MethodName} {b : ByteArray} {rm : Room} {a : Addr} {argsL : List Value} {Qc : Option Value → Heap → Prop} {ps : List FieldType} {r : Option FieldType} (hd : own_D bytes pc (.invokespecial i) 3 pc') (hy1 : y.name = "<init>") (w1 : (Cond.methodLink own i y).before a0 Z = true) (w2 : (Cond.instanceMethod y).before a0 Z = true) (w3 : (Cond.initialized y.cls).before a0 Z = true) (w4 : (Cond.code y b ml none).before a0 Z = true)
    (hM : own_Met none l Z y b ml none [] rm (.ref a :: argsL).toArray h Qc) (hp : parseMethodDescriptor y.desc = some ⟨ps, r⟩) (hlen : argsL.length = ps.length) (hst : st = argsL.reverse ++ .ref a :: rest) (hsz : Ls.size = maxL) (hy : y.cls ≠ "java/lang/invoke/MethodHandle" ∧ y.cls ≠ "java/lang/invoke/VarHandle") (hW : (rest.map fun v => v.category).sum ≤ W) (hf : rm.frames + 1 ≤ R.frames) (hl : W + (ml + 11) + rm.locals ≤ R.locals) (hc : k + rm.cells ≤ R.cells) (hs : n + rm.slots ≤ R.slots)
    (hr : ∀ v h', Qc v h' → own_G w p l e R s m args below meth c Z Q h' (k + rm.cells) (n + rm.slots) (mkF m (pc') Ls (v.toList ++ rest))) : own_G w p l e R s m args below meth c Z Q h k n (mkF m pc Ls st) := by
  obtain ⟨hd, rfl⟩ := hd
  intro T hX
  obtain ⟨L, vm, X, N, eT, hw, hS⟩ := hX
  have hZ := own_zw K.2.2.2.2.2.1 hS
  have hown : (s.setVm vm).vm.findClass own = some m.cls := by rw [show (s.setVm vm).vm = vm from rfl, hS.1.alike.findClass]; exact K.2.2.2.2.2.2.1
  obtain ⟨v, vm1, ⟨T1, L1, k1, n1⟩, -, X1, ⟨Lc, ⟨hQ, N1, z1⟩, l1, y1, x1⟩, st1⟩ := X.specialBack K.1 (y := y) hy1 hown (mvT hZ w1) (mvT hZ w2) (mvT hZ w4) hy (backOf (W := W) (Q := fun v h'' L => Qc v h'' ∧ Fr Z.heap.size L ∧ h.size ≤ h''.size) (show MetFree _ _ _ _ _ _ from hM) hZ w4 w3 hf hl) (g := mkF m pc Ls st) rfl (hsz.trans K.2.2.1.symm) (Steps.refl _) (a := a) (argsL := argsL) (rest := rest) (lenOf hp hlen) hst (by show 2 * 0 + _ ≤ W; simpa using hW) (hb K.2.1 hd) (fun _ _ => ⟨rfl, eT, hc, hs⟩)
  dsimp only [Pt.U, Pt.locs, Pt.cells, Pt.slots] at X1 l1 y1 x1 st1 hQ z1
  subst l1 y1 x1
  obtain ⟨T', v', h', k', n', hX', r1, r2, r3, r4, r5⟩ := hr v T1.heap hQ T1 ⟨_, vm, X1, N.app N1, rfl, hw, own_since hS z1⟩
  exact ⟨T', v', h', k', n', hX', r1, r2, r3, r4, fun fs q => st1.trans (r5 fs q)⟩
theorem own_virtual (K : own_Cx p s m meth c Z own nm bytes maxL ret) {i ml W : Nat} {y : MethodName} {C : String} {b : ByteArray} {rt : Option FieldType} {rm : Room} {a : Addr} {argsL : List Value} {Qc : Option Value → Heap → Prop} {ps : List FieldType} {r : Option FieldType} (hd : own_D bytes pc (.invokevirtual i) 3 pc') (w1 : (Cond.methodLink own i y).before a0 Z = true) (w2 : (Cond.declares y).before a0 Z = true) (w5 : (Cond.selects C y y).before a0 Z = true) (w6 : (Cond.instanceMethod y).before a0 Z = true) (w3 : (Cond.initialized y.cls).before a0 Z = true) (w4 : (Cond.code y b ml rt).before a0 Z = true)
    (E : Exa Z h a C) (hM : own_Met none l Z y b ml rt [] rm (.ref a :: argsL).toArray h Qc) (hp : parseMethodDescriptor y.desc = some ⟨ps, r⟩) (hlen : argsL.length = ps.length) (hst : st = argsL.reverse ++ .ref a :: rest) (hsz : Ls.size = maxL) (hy : y.cls ≠ "java/lang/invoke/MethodHandle" ∧ y.cls ≠ "java/lang/invoke/VarHandle") (hW : (rest.map fun v => v.category).sum ≤ W) (hf : rm.frames + 1 ≤ R.frames) (hl : W + (ml + 11) + rm.locals ≤ R.locals) (hc : k + rm.cells ≤ R.cells) (hs : n + rm.slots ≤ R.slots)
    (hr : ∀ v h', Qc v h' → own_G w p l e R s m args below meth c Z Q h' (k + rm.cells) (n + rm.slots) (mkF m (pc') Ls (v.toList ++ rest))) : own_G w p l e R s m args below meth c Z Q h k n (mkF m pc Ls st) := by
  obtain ⟨hd, rfl⟩ := hd
  intro T hX
  obtain ⟨L, vm, X, N, eT, hw, hS⟩ := hX
  have hZ := own_zw K.2.2.2.2.2.1 hS
  have hown : (s.setVm vm).vm.findClass own = some m.cls := by rw [show (s.setVm vm).vm = vm from rfl, hS.1.alike.findClass]; exact K.2.2.2.2.2.2.1
  obtain ⟨cq, kq, qa, qb, qc⟩ := isOf (s := s.setVm vm) hZ eT E
  obtain ⟨v, vm1, ⟨T1, L1, k1, n1⟩, -, X1, ⟨Lc, ⟨hQ, N1, z1⟩, l1, y1, x1⟩, st1⟩ := X.virtualBack K.1 (y := y) (z := y) hown (mvT hZ w1) (mvT hZ w2) (notFace_of_selects (C := C) (args := #[]) (mvT hZ w5)) (mvT hZ w5) (mvT hZ w6) hy (backOf (W := W) (Q := fun v h'' L => Qc v h'' ∧ Fr Z.heap.size L ∧ h.size ≤ h''.size) (show MetFree _ _ _ _ _ _ from hM) hZ w4 w3 hf hl) qa qc (g := mkF m pc Ls st) rfl (hsz.trans K.2.2.1.symm) (Steps.refl _) (argsL := argsL) (rest := rest) (lenOf hp hlen) hst (by show 2 * 0 + _ ≤ W; simpa using hW) (hb K.2.1 hd) (fun _ _ => ⟨rfl, eT, hc, hs⟩)
  dsimp only [Pt.U, Pt.locs, Pt.cells, Pt.slots] at X1 l1 y1 x1 st1 hQ z1
  subst l1 y1 x1
  obtain ⟨T', v', h', k', n', hX', r1, r2, r3, r4, r5⟩ := hr v T1.heap hQ T1 ⟨_, vm, X1, N.app N1, rfl, hw, own_since hS z1⟩
  exact ⟨T', v', h', k', n', hX', r1, r2, r3, r4, fun fs q => st1.trans (r5 fs q)⟩
theorem own_virtualZ (K : own_Cx p s m meth c Z own nm bytes maxL ret) {i ml W : Nat} {y z : MethodName} {C : String} {b : ByteArray} {rt : Option FieldType} {rm : Room} {a : Addr} {argsL : List Value} {Qc : Option Value → Heap → Prop} {ps : List FieldType} {r : Option FieldType} (hd : own_D bytes pc (.invokevirtual i) 3 pc') (w1 : (Cond.methodLink own i y).before a0 Z = true) (w2 : (Cond.declares y).before a0 Z = true) (w5 : (Cond.selects C y z).before a0 Z = true) (w6 : (Cond.instanceMethod z).before a0 Z = true) (w3 : (Cond.initialized z.cls).before a0 Z = true) (w4 : (Cond.code z b ml rt).before a0 Z = true)
    (E : Exa Z h a C) (hnf : ∀ vm, s.Warmed39 vm → NotFace (s.setVm vm) y) (hM : own_Met none l Z z b ml rt [] rm (.ref a :: argsL).toArray h Qc) (hp : parseMethodDescriptor y.desc = some ⟨ps, r⟩) (hlen : argsL.length = ps.length) (hst : st = argsL.reverse ++ .ref a :: rest) (hsz : Ls.size = maxL) (hy : y.cls ≠ "java/lang/invoke/MethodHandle" ∧ y.cls ≠ "java/lang/invoke/VarHandle") (hW : (rest.map fun v => v.category).sum ≤ W) (hf : rm.frames + 1 ≤ R.frames) (hl : W + (ml + 11) + rm.locals ≤ R.locals) (hc : k + rm.cells ≤ R.cells) (hs : n + rm.slots ≤ R.slots)
    (hr : ∀ v h', Qc v h' → own_G w p l e R s m args below meth c Z Q h' (k + rm.cells) (n + rm.slots) (mkF m (pc') Ls (v.toList ++ rest))) : own_G w p l e R s m args below meth c Z Q h k n (mkF m pc Ls st) := by
  obtain ⟨hd, rfl⟩ := hd
  intro T hX
  obtain ⟨L, vm, X, N, eT, hw, hS⟩ := hX
  have hZ := own_zw K.2.2.2.2.2.1 hS
  have hown : (s.setVm vm).vm.findClass own = some m.cls := by rw [show (s.setVm vm).vm = vm from rfl, hS.1.alike.findClass]; exact K.2.2.2.2.2.2.1
  obtain ⟨cq, kq, qa, qb, qc⟩ := isOf (s := s.setVm vm) hZ eT E
  obtain ⟨v, vm1, ⟨T1, L1, k1, n1⟩, -, X1, ⟨Lc, ⟨hQ, N1, z1⟩, l1, y1, x1⟩, st1⟩ := X.virtualBack K.1 (y := y) (z := z) hown (mvT hZ w1) (mvT hZ w2) (hnf vm hS.1) (mvT hZ w5) (mvT hZ w6) hy (backOf (W := W) (Q := fun v h'' L => Qc v h'' ∧ Fr Z.heap.size L ∧ h.size ≤ h''.size) (show MetFree _ _ _ _ _ _ from hM) hZ w4 w3 hf hl) qa qc (g := mkF m pc Ls st) rfl (hsz.trans K.2.2.1.symm) (Steps.refl _) (argsL := argsL) (rest := rest) (lenOf hp hlen) hst (by show 2 * 0 + _ ≤ W; simpa using hW) (hb K.2.1 hd) (fun _ _ => ⟨rfl, eT, hc, hs⟩)
  dsimp only [Pt.U, Pt.locs, Pt.cells, Pt.slots] at X1 l1 y1 x1 st1 hQ z1
  subst l1 y1 x1
  obtain ⟨T', v', h', k', n', hX', r1, r2, r3, r4, r5⟩ := hr v T1.heap hQ T1 ⟨_, vm, X1, N.app N1, rfl, hw, own_since hS z1⟩
  exact ⟨T', v', h', k', n', hX', r1, r2, r3, r4, fun fs q => st1.trans (r5 fs q)⟩
theorem own_retI (K : own_Cx p s m meth c Z own nm bytes maxL (some .int)) (hJ : ∀ vm, w.1 vm → w.2 vm) {z : Int32} (hd : own_D bytes pc .ireturn 1 pc') (hk : k ≤ R.cells) (hn : n ≤ R.slots) (hQ : Q (some (.int z)) h) : own_G w p l e R s m args below meth c Z Q h k n (mkF m pc Ls (.int z :: st)) := by
  obtain ⟨hd, -⟩ := hd
  intro T hX
  obtain ⟨L, vm, X, N, eT, hw, hS⟩ := hX
  exact ⟨T, some (.int z), h, k, n, ⟨L, vm, X, N, eT, hJ vm hw, hS⟩, hk, hn, (fun q => by rw [K.2.2.2.1] at q; cases q), hQ, fun fs q => retOut X K.1 K.2.2.2.1 (rfl) (Or.inl ⟨rfl, Or.inl rfl, z, rfl⟩) (hb K.2.1 hd) q⟩
theorem own_retZ (K : own_Cx p s m meth c Z own nm bytes maxL (some .boolean)) (hJ : ∀ vm, w.1 vm → w.2 vm) {z : Int32} (hz : z = 0 ∨ z = 1) (hd : own_D bytes pc .ireturn 1 pc') (hk : k ≤ R.cells) (hn : n ≤ R.slots) (hQ : Q (some (.int z)) h) : own_G w p l e R s m args below meth c Z Q h k n (mkF m pc Ls (.int z :: st)) := by
  obtain ⟨hd, -⟩ := hd
  intro T hX
  obtain ⟨L, vm, X, N, eT, hw, hS⟩ := hX
  exact ⟨T, some (.int z), h, k, n, ⟨L, vm, X, N, eT, hJ vm hw, hS⟩, hk, hn, (fun q => by rw [K.2.2.2.1] at q; cases q), hQ, fun fs q => retOut X K.1 K.2.2.2.1 (by rcases hz with rfl | rfl <;> decide) (Or.inl ⟨rfl, Or.inr (Or.inl rfl), z, rfl⟩) (hb K.2.1 hd) q⟩
theorem own_retC (K : own_Cx p s m meth c Z own nm bytes maxL (some .char)) (hJ : ∀ vm, w.1 vm → w.2 vm) {z : Int32} (hz : narrow .char (.int z) = .int z) (hd : own_D bytes pc .ireturn 1 pc') (hk : k ≤ R.cells) (hn : n ≤ R.slots) (hQ : Q (some (.int z)) h) : own_G w p l e R s m args below meth c Z Q h k n (mkF m pc Ls (.int z :: st)) := by
  obtain ⟨hd, -⟩ := hd
  intro T hX
  obtain ⟨L, vm, X, N, eT, hw, hS⟩ := hX
  exact ⟨T, some (.int z), h, k, n, ⟨L, vm, X, N, eT, hJ vm hw, hS⟩, hk, hn, (fun q => by rw [K.2.2.2.1] at q; cases q), hQ, fun fs q => retOut X K.1 K.2.2.2.1 (hz) (Or.inl ⟨rfl, Or.inr (Or.inr (Or.inr (Or.inl rfl))), z, rfl⟩) (hb K.2.1 hd) q⟩
theorem own_retBy (K : own_Cx p s m meth c Z own nm bytes maxL (some .byte)) (hJ : ∀ vm, w.1 vm → w.2 vm) {z : Int32} (hz : narrow .byte (.int z) = .int z) (hd : own_D bytes pc .ireturn 1 pc') (hk : k ≤ R.cells) (hn : n ≤ R.slots) (hQ : Q (some (.int z)) h) : own_G w p l e R s m args below meth c Z Q h k n (mkF m pc Ls (.int z :: st)) := by
  obtain ⟨hd, -⟩ := hd
  intro T hX
  obtain ⟨L, vm, X, N, eT, hw, hS⟩ := hX
  exact ⟨T, some (.int z), h, k, n, ⟨L, vm, X, N, eT, hJ vm hw, hS⟩, hk, hn, (fun q => by rw [K.2.2.2.1] at q; cases q), hQ, fun fs q => retOut X K.1 K.2.2.2.1 (hz) (Or.inl ⟨rfl, Or.inr (Or.inr (Or.inl rfl)), z, rfl⟩) (hb K.2.1 hd) q⟩
theorem own_retL (K : own_Cx p s m meth c Z own nm bytes maxL (some .long)) (hJ : ∀ vm, w.1 vm → w.2 vm) {z : Int64} (hd : own_D bytes pc .lreturn 1 pc') (hk : k ≤ R.cells) (hn : n ≤ R.slots) (hQ : Q (some (.long z)) h) : own_G w p l e R s m args below meth c Z Q h k n (mkF m pc Ls (.long z :: st)) := by
  obtain ⟨hd, -⟩ := hd
  intro T hX
  obtain ⟨L, vm, X, N, eT, hw, hS⟩ := hX
  exact ⟨T, some (.long z), h, k, n, ⟨L, vm, X, N, eT, hJ vm hw, hS⟩, hk, hn, (fun q => by rw [K.2.2.2.1] at q; cases q), hQ, fun fs q => retOut X K.1 K.2.2.2.1 (rfl) (Or.inr (Or.inl ⟨rfl, rfl, z, rfl⟩)) (hb K.2.1 hd) q⟩
theorem own_retD (K : own_Cx p s m meth c Z own nm bytes maxL (some .double)) (hJ : ∀ vm, w.1 vm → w.2 vm) {z : UInt64} (hd : own_D bytes pc .dreturn 1 pc') (hk : k ≤ R.cells) (hn : n ≤ R.slots) (hQ : Q (some (.double z)) h) : own_G w p l e R s m args below meth c Z Q h k n (mkF m pc Ls (.double z :: st)) := by
  obtain ⟨hd, -⟩ := hd
  intro T hX
  obtain ⟨L, vm, X, N, eT, hw, hS⟩ := hX
  exact ⟨T, some (.double z), h, k, n, ⟨L, vm, X, N, eT, hJ vm hw, hS⟩, hk, hn, (fun q => by rw [K.2.2.2.1] at q; cases q), hQ, fun fs q => retOut X K.1 K.2.2.2.1 (rfl) (Or.inr (Or.inr (Or.inl ⟨rfl, rfl, z, rfl⟩))) (hb K.2.1 hd) q⟩
theorem own_retA (K : own_Cx p s m meth c Z own nm bytes maxL (some tyR)) (hJ : ∀ vm, w.1 vm → w.2 vm) {v : Value} (hty : tyR.isReference = true) (hv : v.isRef = true) (hd : own_D bytes pc .areturn 1 pc') (hk : k ≤ R.cells) (hn : n ≤ R.slots) (hQ : Q (some (v)) h) : own_G w p l e R s m args below meth c Z Q h k n (mkF m pc Ls (v :: st)) := by
  obtain ⟨hd, -⟩ := hd
  intro T hX
  obtain ⟨L, vm, X, N, eT, hw, hS⟩ := hX
  exact ⟨T, some (v), h, k, n, ⟨L, vm, X, N, eT, hJ vm hw, hS⟩, hk, hn, (fun q => by rw [K.2.2.2.1] at q; cases q), hQ, fun fs q => retOut X K.1 K.2.2.2.1 (by rcases ref_cases hv with rfl | ⟨a, rfl⟩ <;> cases tyR <;> first | rfl | cases hty) (Or.inr (Or.inr (Or.inr (Or.inr ⟨rfl, hty, hv⟩)))) (hb K.2.1 hd) q⟩
theorem own_retV (K : own_Cx p s m meth c Z own nm bytes maxL none) (hJ : ∀ vm, w.1 vm → w.2 vm) (hd : own_D bytes pc .return_ 1 pc') (hk : k ≤ R.cells) (hn : n ≤ R.slots) (hQ : Q none h) : own_G w p l e R s m args below meth c Z Q h k n (mkF m pc Ls []) := by
  obtain ⟨hd, -⟩ := hd
  intro T hX
  obtain ⟨L, vm, X, N, eT, hw, hS⟩ := hX
  exact ⟨T, none, h, k, n, ⟨L, vm, X, N, eT, hJ vm hw, hS⟩, hk, hn, (fun _ => rfl), hQ, fun fs q => X.returnOut K.1 K.2.2.2.1 (hb K.2.1 hd) q⟩
theorem own_met {y : MethodName} {ws : List Cond} {rm : Room} {as' : Array Value} (hpn : plainFor y = true)
    (body : ∀ (p : Program) (e : Env) (s : State) (m : MethodId) (below : List Frame) (meth : Method) (c : Code), own_Cx p s m meth c Z y.cls y.name bytes maxL ret → own_G (fun vm => vm = s.vm, fun vm => vm = s.vm) p l e rm s m as' below meth c Z Q h 0 0 (entryFrame m as' maxL)) :
    own_Met none l Z y bytes maxL ret ws rm as' h Q := by
  unfold own_Met; dsimp only
  refine MetFree.of_bodySF hpn hisR ?_
  intro p e s m args below meth c s₁ Bd hml0 hP hK
  obtain ⟨rfl, hZ, hh⟩ := hP
  have X0 : Stand p l e rm s m args below meth c s₁ [] 0 0 := Stand.of_body Bd
  have e0 : s₁.heap = h := by rw [← hh, Bd.state]; rfl
  have hlk : meth.locks = false := BodyLoose.notSynchronized Bd
  obtain ⟨T', v, h', k', n', ⟨L, vm, X, N, eT, hw, hS⟩, r1, r2, r3, r4, r5⟩ := body p e s m below meth c ⟨Bd.exec, Bd.bytes, hml0, Bd.returns, hlk, hZ, findClass_of_methodNamed Bd.named, (name_of_methodNamed Bd.named Bd.method).1⟩ s₁
    ⟨[], s.vm, X0, Fr.nil _, e0, rfl, (State.WarmedH.refl s).since _⟩
  have hgr : h.size ≤ h'.size := by rw [← eT, ← hh]; exact X.same.2.1
  obtain rfl : vm = s.vm := hw
  obtain ⟨fs, hr, hrun, hended, hW, hsame⟩ := Stand.leave (s := s) X r3
  exact ⟨_, _, r5 fs hr, hrun, hended, v, L, rfl, ⟨by show Q v T'.heap; rw [eT]; exact r4, N, by show h.size ≤ T'.heap.size; rw [eT]; exact hgr⟩, ⟨_, rfl⟩, hW, hsame.mono r1 r2⟩
theorem own_metW {t : List String × List String} {y : MethodName} {ws : List Cond} {rm : Room} {as' : Array Value} (hpn : plainFor y = true)
    (body : ∀ (p : Program) (e : Env) (s : State) (m : MethodId) (below : List Frame) (meth : Method) (c : Code), own_Cx p s m meth c Z y.cls y.name bytes maxL ret → IB Z s.vm t.1 → own_G (fun vm => vm = s.vm, fun vm => IB Z vm t.2) p l e rm s m as' below meth c Z Q h 0 0 (entryFrame m as' maxL)) :
    own_Met (some t) l Z y bytes maxL ret ws rm as' h Q := by
  unfold own_Met; dsimp only
  refine MetFree.of_bodySF hpn hisR ?_
  intro p e s m args below meth c s₁ Bd hml0 hP hK
  obtain ⟨rfl, hZ, hh, hI⟩ := hP
  have X0 : Stand p l e rm s m args below meth c s₁ [] 0 0 := Stand.of_body Bd
  have e0 : s₁.heap = h := by rw [← hh, Bd.state]; rfl
  have hlk : meth.locks = false := BodyLoose.notSynchronized Bd
  obtain ⟨T', v, h', k', n', ⟨L, vm, X, N, eT, hw, hS⟩, r1, r2, r3, r4, r5⟩ := body p e s m below meth c ⟨Bd.exec, Bd.bytes, hml0, Bd.returns, hlk, hZ, findClass_of_methodNamed Bd.named, (name_of_methodNamed Bd.named Bd.method).1⟩ hI s₁
    ⟨[], s.vm, X0, Fr.nil _, e0, rfl, (State.WarmedH.refl s).since _⟩
  have hgr : h.size ≤ h'.size := by rw [← eT, ← hh]; exact X.same.2.1
  have hTi : T'.vm.interned = vm.interned := X.warmed.interned_eq
  have hIe : IB Z T'.vm t.2 := by obtain ⟨more, q1, q2⟩ := hw; exact ⟨more, hTi.trans q1, q2⟩
  obtain ⟨fs, hr, hrun, hended, q1, q2, q3, q4⟩ := Stand.leaveW X hS (Nat.le_of_eq (congrArg Array.size eT.symm)) r3
  exact ⟨_, _, r5 fs hr, hrun, hended, v, L, rfl, ⟨by show Q v T'.heap; rw [eT]; exact r4, N, by show h.size ≤ T'.heap.size; rw [eT]; exact hgr, hIe⟩, q1, q2, q3, q4.mono r1 r2⟩
theorem own_list_getD {vs : List Value} {cl : Cell} (e : cl.slots.toList = vs) (d : Value) {i : Nat} (hi : i < cl.slots.size) : cl.slots[i]? = some (vs.getD i d) := by
  subst e
  rw [List.getD_eq_getElem?_getD, Array.getElem?_toList, Array.getElem?_eq_getElem hi]; rfl
theorem own_arv {a : Addr} {ty : FieldType} {ad : String} {vs : List Value} (F : own_AK Z h (a, ty, ad, vs)) (hl : vs.length < 2147483648) : ∃ (kc : ClassId) (z : Int32), z.toNatClampNeg = vs.length ∧ ¬ z < 0 ∧ Arv Z h a kc ty z vs .null := by
  obtain ⟨cl, A, e1, e3, -, -⟩ := F
  have e1' : cl.slots.toList = vs := e1
  have hsz : cl.slots.size = vs.length := by rw [← Array.length_toList, e1']
  have q := len_toInt (n := vs.length) (by omega)
  have z0 : ¬ vs.length.toInt32 < 0 := by rw [Int32.lt_iff_toInt_lt, q, show (0 : Int32).toInt = 0 from rfl]; omega
  have zc : vs.length.toInt32.toNatClampNeg = vs.length := by simp only [Int32.toNatClampNeg, q]; rfl
  refine ⟨cl.cls, vs.length.toInt32, zc, z0, cl, A, rfl, by rw [zc]; exact hsz, z0, fun i hi => own_list_getD e1' _ hi, fun i hi => ?_⟩
  have hi' : i < vs.length := by omega
  rw [List.getD_eq_getElem?_getD, List.getElem?_eq_getElem hi']
  exact e3 _ (List.getElem_mem hi')
theorem own_of_arv {a : Addr} {ty : FieldType} {vs : List Value} {kc : ClassId} {z : Int32} {d : Value} (F : Arv Z h a kc ty z vs d) (hz : z.toNatClampNeg = vs.length) : ∃ cl : Cell, Arr Z h a cl ty ∧ cl.cls = kc ∧ cl.slots.toList = vs ∧ ∀ v ∈ vs, fits ty v = true := by
  obtain ⟨cl, A, e1, e2, -, H, G⟩ := F
  have hsz : cl.slots.size = vs.length := e2.trans hz
  refine ⟨cl, A, e1, ?_, fun v hv => ?_⟩
  · apply List.ext_getElem?
    intro i
    rw [Array.getElem?_toList]
    by_cases hi : i < cl.slots.size
    · rw [H i hi, List.getD_eq_getElem?_getD, List.getElem?_eq_getElem (by omega)]; rfl
    · rw [Array.getElem?_eq_none (by omega), List.getElem?_eq_none (by omega)]
  · obtain ⟨i, hi, rfl⟩ := List.getElem_of_mem hv
    have := G i (by omega)
    rw [List.getD_eq_getElem?_getD, List.getElem?_eq_getElem hi] at this
    exact this
theorem own_H.keepA (H : own_H Z h os as) {b : Addr} {ty : FieldType} {ad : String} {vd vd' : List Value} {i : Nat} (had : ad ≠ "") (hb : as[i]? = some (b, ty, ad, vd)) (Kp : Keep h h' [b]) (F : ∃ cl : Cell, Arr Z h' b cl ty ∧ cl.slots.toList = vd' ∧ ∀ v ∈ vd', fits ty v = true) (hty : ∀ C, ty ≠ .object C) : own_H Z h' os (as.set i (b, ty, ad, vd')) := by
  have nb := (H.2.2.1 _ (own_mem hb)).1 had
  have hlen := (List.getElem?_eq_some_iff.mp hb).1
  refine ⟨⟨Nat.le_trans H.1.1 Kp.1, fun x cx hx => Kp.2.1 x cx (H.1.2 x cx hx) fun q => ?_⟩, fun o ho => ?_, fun y hy => ?_, ?_⟩
  · cases List.mem_singleton.mp q; exact absurd (Array.getElem?_eq_some_iff.mp hx).1 (Nat.not_lt.mpr nb)
  · obtain ⟨n1, E, F', Pw⟩ := H.2.1 o ho
    exact ⟨n1, E.keep Kp, fun f hf => (F' f hf).keep Kp fun q => H.neOA ho (own_mem hb) (Or.inr had) (List.mem_singleton.mp q), Pw⟩
  · obtain ⟨j, hj⟩ := List.mem_iff_getElem?.mp hy
    rw [List.getElem?_set] at hj
    by_cases ij : i = j
    · subst ij
      rw [if_pos rfl, if_pos hlen] at hj
      obtain rfl := Option.some.inj hj
      obtain ⟨cl, A, e1, e2⟩ := F
      obtain ⟨-, cl0, -, -, -, e4, -⟩ := H.2.2.1 _ (own_mem hb)
      exact ⟨fun _ => nb, cl, A, e1, e2, fun q => (e4 q).keep Kp, fun C hC => absurd hC (hty C)⟩
    · rw [if_neg ij] at hj
      obtain ⟨n1, cl, h1, h2, h3, h4, h5⟩ := H.2.2.1 _ (own_mem hj)
      exact ⟨n1, cl, ⟨Kp.2.1 _ _ h1.1 fun q => H.neAA hj hb (Ne.symm ij) had (List.mem_singleton.mp q), h1.2⟩, h2, h3, fun q => (h4 q).keep Kp, h5⟩
  · rw [own_set_map (f := own_ka) (x' := (b, ty, ad, vd')) hb rfl]; exact H.2.2.2
theorem own_range_take {vs : List Value} {sq nq : Nat} {d : Value} (hq : sq + nq ≤ vs.length) : (vs.drop sq).take nq = (List.range nq).map fun i => vs.getD (sq + i) d := by
  apply List.ext_getElem?
  intro i
  by_cases hi : i < nq
  · rw [List.getElem?_take_of_lt hi, List.getElem?_drop, List.getElem?_map, List.getElem?_range hi, Option.map_some, List.getD_eq_getElem?_getD, List.getElem?_eq_getElem (by omega)]; rfl
  · rw [List.getElem?_eq_none (by simp; omega), List.getElem?_eq_none (by simp; omega)]
theorem own_arraycopy (K : own_Cx p s m meth c Z own nm bytes maxL ret) {i ia ib : Nat} {a b : Addr} {ty : FieldType} {ada adb : String} {vs vd : List Value} {sp dp nn : Int32} {sq dq nq : Nat} (hd : own_D bytes pc (.invokestatic i) 3 pc') (w1 : (Cond.methodLink own i Jvm.Stand.acN).before a0 Z = true) (w2 : (Cond.native Jvm.Stand.acN).before a0 Z = true) (w3 : (Cond.static Jvm.Stand.acN).before a0 Z = true) (w4 : (Cond.initialized "java/lang/System").before a0 Z = true) (H : own_H Z h os as)
    (ha : as[ia]? = some (a, ty, ada, vs)) (hb' : as[ib]? = some (b, ty, adb, vd)) (hty : refKind ty = false) (hto : ∀ C, ty ≠ .object C) (hsp : sp.toInt = (sq : Int)) (hdp : dp.toInt = (dq : Int)) (hnn : nn.toInt = (nq : Int)) (h4 : sq + nq ≤ vs.length) (h5 : dq + nq ≤ vd.length) (hvl : vs.length < 2147483648) (hvd : vd.length < 2147483648) (hsz : Ls.size = maxL) (hf : 1 ≤ R.frames) {W : Nat} (hW : (st.map fun v => v.category).sum ≤ W) (hlo : W + (nativeFrameWords "java/lang/System" "arraycopy" 5 + 11) ≤ R.locals)
    (hr : ∀ h', own_H Z h' os (as.set ib (b, ty, adb, vd.take dq ++ (vs.drop sq).take nq ++ vd.drop (dq + nq))) → own_G w p l e R s m args below meth c Z Q h' k n (mkF m pc' Ls st)) (hadb : adb ≠ "" := by decide) : own_G w p l e R s m args below meth c Z Q h k n (mkF m pc Ls (.int nn :: .int dp :: .ref b :: .int sp :: .ref a :: st)) := by
  obtain ⟨hd, rfl⟩ := hd
  refine own_step K (P := fun h' => own_H Z h' os (as.set ib (b, ty, adb, vd.take dq ++ (vs.drop sq).take nq ++ vd.drop (dq + nq)))) (fun X hZ hw eT N => ?_) hr
  obtain ⟨ka, za, qa1, qa2, A⟩ := own_arv (H.2.2.1 _ (own_mem ha)).2 hvl
  obtain ⟨kb, zb, qb1, qb2, B⟩ := own_arv (H.2.2.1 _ (own_mem hb')).2 hvd
  have i1 := own_idx hsp
  have i2 := own_idx hdp
  have i3 := own_idx hnn
  have neg : ∀ {x : Int32} {q : Nat}, x.toInt = (q : Int) → ¬ x < 0 := fun {x q} e => by rw [Int32.lt_iff_toInt_lt, e, show (0 : Int32).toInt = 0 from rfl]; omega
  obtain ⟨T', h', L, X', e', N', Kp, A', st⟩ := cpA X K.1 hZ hw w1 w2 w3 w4 eT A B (Or.inl ⟨rfl, hty⟩) (neg hsp) (neg hdp) (neg hnn) (by rw [i1, i3, qa1]; exact h4) (by rw [i2, i3, qb1]; exact h5) (by rw [i1, i3]) (by rw [i2, i3]; exact h5) N ((H.2.2.1 _ (own_mem hb')).1 hadb) (g := mkF m pc Ls (.int nn :: .int dp :: .ref b :: .int sp :: .ref a :: st)) rfl (hsz.trans K.2.2.1.symm) rfl (hb K.2.1 hd) hf (W := W) (by show 2 * 0 + _ ≤ W; simpa using hW) hlo
  rw [i2, i3, ← own_range_take h4] at A'
  obtain ⟨cl, c1, -, c3, c4⟩ := own_of_arv A' (by rw [qb1]; simp; omega)
  exact ⟨T', h', L, X', N', e', Kp.1, H.keepA hadb hb' Kp ⟨cl, c1, c3, c4⟩ hto, st⟩
theorem own_cast {g g' : JFrame} (q : g = g') (hr : own_G w p l e R s m args below meth c Z Q h k n g') : own_G w p l e R s m args below meth c Z Q h k n g := q ▸ hr
theorem own_topI {x x' : Int32} (q : x = x') (hr : own_G w p l e R s m args below meth c Z Q h k n (mkF m pc Ls (.int x' :: st))) : own_G w p l e R s m args below meth c Z Q h k n (mkF m pc Ls (.int x :: st)) := q ▸ hr
theorem own_topL {x x' : Int64} (q : x = x') (hr : own_G w p l e R s m args below meth c Z Q h k n (mkF m pc Ls (.long x' :: st))) : own_G w p l e R s m args below meth c Z Q h k n (mkF m pc Ls (.long x :: st)) := q ▸ hr
theorem own_topD {x x' : UInt64} (q : x = x') (hr : own_G w p l e R s m args below meth c Z Q h k n (mkF m pc Ls (.double x' :: st))) : own_G w p l e R s m args below meth c Z Q h k n (mkF m pc Ls (.double x :: st)) := q ▸ hr
theorem own_H.perm (H : own_H Z h os as) (po : os.Perm os') (pa : as.Perm as') : own_H Z h os' as' :=
  ⟨H.1, fun o ho => H.2.1 o (po.mem_iff.mpr ho), fun a ha => H.2.2.1 a (pa.mem_iff.mpr ha), (((po.map _).append (pa.map _)).pairwise_iff own_ap.symm).mp H.2.2.2⟩
theorem own_front {α : Type} {L : List α} {x : α} : ∀ {i : Nat}, L[i]? = some x → L.Perm (x :: L.eraseIdx i) := by
  induction L with
  | nil => intro i hx; cases hx
  | cons y L ih =>
    intro i hx
    cases i with
    | zero => cases hx; exact List.Perm.refl _
    | succ i =>
      have q := ih (i := i) (by simpa using hx)
      exact ((q.cons y).trans (List.Perm.swap x y _))
theorem own_H.frontO (H : own_H Z h os as) (i : Nat) {x : own_O} (hx : os[i]? = some x) : own_H Z h (x :: os.eraseIdx i) as := H.perm (own_front hx) (List.Perm.refl _)
theorem own_H.frontA (H : own_H Z h os as) (i : Nat) {x : own_A} (hx : as[i]? = some x) : own_H Z h os (x :: as.eraseIdx i) := H.perm (List.Perm.refl _) (own_front hx)
end OwnKit
end Jvm.RoadKit
namespace Jvm.RoadKit
open Sem ClassFile Op Lib Bundle Jvm.Stand Jvm.Free Jvm.LawKit Jvm.Free.SB Jvm.Free.SBG
section OwnLit
variable {w : own_W} {p : Program} {l : Launch} {e : Env} {R : Room} {s : State} {m : MethodId} {args : Array Value} {below : List Frame} {meth : Method} {c : Code} {Z : State} {a0 : Array Value} {own nm : String} {bytes : ByteArray} {maxL : Nat} {ret : Option FieldType} {Q : Option Value → Heap → Prop} {h h' : Heap} {k n k' n' : Nat} {pc pc' pcT : Nat} {Ls Ls' : Array Slot} {st rest : List Value} {os os' : List own_O} {as as' : List own_A} {g g' : JFrame} {vm vm0 vm1 : Vm} {Ts : List String} {text : String} {i : Nat}
theorem own_IB (q : vm1.interned = vm0.interned) (I : IB Z vm0 Ts) : IB Z vm1 Ts := by obtain ⟨more, e1, e2⟩ := I; exact ⟨more, q.trans e1, e2⟩
theorem own_weak {J' : Vm → Prop} (hJ : ∀ vm, w.1 vm → J' vm) (hr : own_G (J', w.2) p l e R s m args below meth c Z Q h k n g) : own_G w p l e R s m args below meth c Z Q h k n g := fun T hX => by
  obtain ⟨L, vm, X, N, eT, hw, hS⟩ := hX
  exact hr T ⟨L, vm, X, N, eT, hJ vm hw, hS⟩
theorem own_join {g1 : JFrame} (hs : own_G w p l e R s m args below meth c Z Q h k n g1) (hr : own_G w p l e R s m args below meth c Z Q h k n g1 → own_G w p l e R s m args below meth c Z Q h k n g) : own_G w p l e R s m args below meth c Z Q h k n g := hr hs
theorem own_joinB {F : Bool → JFrame} (hs : ∀ b, own_G w p l e R s m args below meth c Z Q h k n (F b)) (hr : (∀ b, own_G w p l e R s m args below meth c Z Q h k n (F b)) → own_G w p l e R s m args below meth c Z Q h k n g) : own_G w p l e R s m args below meth c Z Q h k n g := hr hs
theorem own_joinP {g1 : JFrame} (P : Prop) (hs : P → own_G w p l e R s m args below meth c Z Q h k n g1) (hr : (P → own_G w p l e R s m args below meth c Z Q h k n g1) → own_G w p l e R s m args below meth c Z Q h k n g) : own_G w p l e R s m args below meth c Z Q h k n g := hr hs
theorem own_rec {F : Nat → JFrame} {N : Nat} (I : Nat → Prop) (hs : ∀ i, i ≤ N → I i → (∀ i', i < i' → i' ≤ N → I i' → own_G w p l e R s m args below meth c Z Q h k n (F i')) → own_G w p l e R s m args below meth c Z Q h k n (F i)) (i : Nat) (hi : i ≤ N) (hI : I i) : own_G w p l e R s m args below meth c Z Q h k n (F i) := by
  have key : ∀ d i, i ≤ N → N - i ≤ d → I i → own_G w p l e R s m args below meth c Z Q h k n (F i) := by
    intro d
    induction d with
    | zero => intro i hi hd hI; exact hs i hi hI fun i' h1 h2 _ => absurd h1 (by omega)
    | succ d ih => intro i hi hd hI; exact hs i hi hI fun i' h1 h2 h3 => ih i' h2 (by omega) h3
  exact key _ i hi (Nat.le_refl _) hI
abbrev own_SR (a : Addr) (f0 f1 : Value) : own_O := (a, "java/lang/String", [("java/lang/String", "coder", "B", f0), ("java/lang/String", "value", "[B", f1)])
theorem own_IBm (I : IB Z vm []) : IB Z vm Ts := by obtain ⟨more, e1, e2⟩ := I; exact ⟨more, e1, fun q hq => by obtain ⟨t, ht, -⟩ := e2 q hq; cases ht⟩
/-- a field that the later tables find is the start's field -/
theorem own_upF (al : Z.vm.Alike vm) {a : Addr} {cell : Cell} {C n d : String} {v : Value} {f : Field} (hc : h[a]? = some cell) (hu : cell.vm ≠ .unknown) (ho : cell.vm.isStatics = false) (hf : ∃ cf kf ix, (Wst Z vm h).fieldFound? C n d = some (cf, kf, ix, f) ∧ vm.assignable cell.cls cf = true) (hs : f.isStatic = false) (hv : cell.slots[f.slot]? = some v) : Fld Z h a C n d v := by
  obtain ⟨cf, kf, ix, e1, e2⟩ := hf
  obtain ⟨kZ, eZ⟩ := ff_back (U := Wst Z vm h) al e1
  exact ⟨cell, cf, kZ, ix, f, hc, eZ, hs, hu, ho, by rw [← al.assignable]; exact e2, hv⟩
/-- a class that the later tables find is the start's, its record but for what warms -/
theorem own_upC (al : Z.vm.Alike vm) {C : String} {ci : ClassId} {kc : Class} (hf : vm.findClass C = some ci) (hk : vm.classes[ci]? = some kc) : Z.vm.findClass C = some ci ∧ ∃ kZ : Class, Z.vm.classes[ci]? = some kZ ∧ kZ.kind = kc.kind ∧ kZ.instanceTypes = kc.instanceTypes := by
  have fZ : Z.vm.findClass C = some ci := by rw [← al.findClass]; exact hf
  obtain ⟨kZ, hZ, -⟩ := Vm.findClass_spec fZ
  obtain ⟨k', h1, h2⟩ := al.2.2 _ _ hZ
  obtain rfl : k' = kc := Option.some.inj (h1.symm.trans hk)
  exact ⟨fZ, kZ, hZ, (congrArg Class.kind h2).symm, (congrArg Class.instanceTypes h2).symm⟩
theorem own_unpack {units : Array UInt16} {vs : List Value} (hZ : Z.Warmed39 vm) (htext : utf16ToString? units = some text) (ht : (∀ c ∈ text.toList, c.toNat < 256) ∧ text.toList.map (fun c => Value.int (Jvm.Lit.byteI c.toNat.toUInt16)) = vs)
    (hP : slotOf Z "java/lang/String" "coder" "B" ≠ slotOf Z "java/lang/String" "value" "[B") {q : SQ} (F : SlB (Wst Z vm h) q units) : own_OK Z h (own_SR q.sa (.int (0 : Int32)) (.ref q.sd)) ∧ own_AK Z h (q.sd, .byte, "", vs) := by
  have al := hZ.alike
  obtain ⟨cS, ⟨S, hfS, hcS⟩, ⟨kS, hkS, -, hlen⟩, hB, hby⟩ := F
  subst hcS
  obtain ⟨fS, kZ, hkZ, -, hty⟩ := own_upC al (show vm.findClass "java/lang/String" = some q.sC.cls from hfS) hkS
  obtain ⟨hcell, hunk, hobj, ⟨c1, k1, i1, v1, w1⟩, ⟨c2, k2, i2, v2, w2⟩, stV, stC, slV, slC, harr, ⟨nst, kA, hkA, comp, hkind⟩, aunk, -, -, -, hfit⟩ := S
  obtain ⟨-, kB, hkB, hkd, -⟩ := own_upC al (show vm.findClass "[B" = some q.SA.cls from hB) hkA
  have bytes : q.SA.slots.toList = vs := by
    rw [hby, SBG.stringBytes_lat (Jvm.ClassFile.lat_of_text htext ht.1), ← ht.2, Array.toList_map, Jvm.ClassFile.units_of_text htext ht.1, List.map_map]; rfl
  have coder := own_upF al (v := .int 0) hcell hunk hobj ⟨c2, k2, i2, v2, w2⟩ stC slC
  have value := own_upF al (v := .ref q.sd) hcell hunk hobj ⟨c1, k1, i1, v1, w1⟩ stV slV
  refine ⟨⟨⟨q.sC, kZ, hcell, fS, hkZ, hobj, fun _ => hlen.trans (congrArg Array.size hty).symm⟩, fun f hf => ?_, ?_⟩, q.SA, ⟨harr, ⟨nst, kB, hkB, comp, hkd.trans hkind⟩, aunk⟩, bytes, fun v hv => ?_, fun z => absurd rfl z, fun C hC => by cases hC⟩
  · simp only [List.mem_cons, List.not_mem_nil, or_false] at hf
    rcases hf with rfl | rfl
    · exact coder
    · exact value
  · exact List.pairwise_cons.mpr ⟨fun y hy => by obtain rfl := List.mem_singleton.mp hy; exact hP, List.pairwise_singleton _ _⟩
  · rw [← bytes] at hv
    obtain ⟨j, hj, rfl⟩ := List.getElem_of_mem hv
    rw [Array.length_toList] at hj
    have z := hfit j hj
    rw [Array.getD_eq_getD_getElem?, Array.getElem?_eq_getElem hj] at z
    simpa using z
theorem own_atoms {s : State} (hZ : Z.Warmed39 s.vm) (wS : ∀ a ∈ Bundle.stringAtoms, a.before a0 Z = true) : ∀ a ∈ Bundle.stringAtoms, a.before args s = true := fun d hd => by
  have q := wS d hd
  simp only [Bundle.stringAtoms, List.mem_cons, List.not_mem_nil, or_false] at hd
  rcases hd with rfl | rfl | rfl | rfl | rfl | rfl | rfl
  case inr.inr.inl => exact mvA hZ q
  all_goals exact mv hZ q
theorem own_heldC (hZ : Z.Warmed39 vm) (ws : (Cond.stringLink own i text).before a0 Z = true) (wS : ∀ a ∈ Bundle.stringAtoms, a.before a0 Z = true) (I : IB Z vm Ts) (hnot : text ∉ Ts) (hh : Jvm.Lit.constHeld Z own i) (hcw : Jvm.Lit.compactW.before a0 Z = true) (ht : ∀ c ∈ text.toList, c.toNat < 256) (E : Ext Z.heap h) :
    CHv Z [(own, i)] vm h ∧ ∀ x, Z.heap.size ≤ x → Safe Z [(own, i)] vm h x := by
  have wi : (Cond.instantiable "java/lang/String" 4).before a0 Z = true := wS _ (by simp [Bundle.stringAtoms, Bundle.sN])
  have wa : (Cond.arrayClass .byte).before a0 Z = true := wS _ (by simp [Bundle.stringAtoms])
  have h0 := heldStart hh ws ht hcw wa wi
  have h1 : ConstHeldL (Wst Z vm h) own i := heldCarry (s := { Z with heap := h }) hZ ws I hnot (fun b cl q => E.2 b cl q) h0
  have h2 : ConstHeldL (Z.setVm vm) own i := heldCarry (s := Z) hZ ws I hnot (fun b cl q => q) h0
  refine ⟨fun p hp u a hb => ?_, fun x hx B => ?_⟩
  · obtain rfl := List.mem_singleton.mp hp
    obtain ⟨c, k, cf, j, q1, q2, q3, q4, q5, q6⟩ := hb
    exact h1 c k cf j u a q1 q2 q3 q4 q5 q6
  · obtain ⟨p, hp, u, a, hb, q, hq, F, hy⟩ := B
    obtain rfl := List.mem_singleton.mp hp
    obtain ⟨c, k, cf, j, q1, q2, q3, q4, q5, q6⟩ := hb
    obtain ⟨q', hq', F'⟩ := SlB.of (h2 c k cf j u a q1 q2 q3 q4 q5 q6)
    have e1 : q'.sa = q.sa := hq'.trans hq.symm
    have e2 : q'.sC = q.sC := by
      have t := E.2 _ _ (show Z.heap[q'.sa]? = some q'.sC from F'.ha)
      rw [e1] at t
      exact Option.some.inj (t.symm.trans F.ha)
    have e3 : q'.sd = q.sd := F.same F' (Vm.Alike.refl _) e1 e2
    have l1 : q'.sa < Z.heap.size := (Array.getElem?_eq_some_iff.mp (show Z.heap[q'.sa]? = some q'.sC from F'.ha)).1
    have l2 : q'.sd < Z.heap.size := (Array.getElem?_eq_some_iff.mp (show Z.heap[q'.sd]? = some q'.SA from F'.hd)).1
    rw [e1] at l1; rw [e3] at l2
    rcases hy with rfl | rfl
    · exact absurd hx (Nat.not_le.mpr l1)
    · exact absurd hx (Nat.not_le.mpr l2)
/-- a literal whose text matters -/
theorem own_ldcL (K : own_Cx p s m meth c Z own nm bytes maxL ret) {nn : Nat} (hd : own_D bytes pc (.ldc i) 2 pc') (ws : (Cond.stringLink own i text).before a0 Z = true) (wS : ∀ a ∈ Bundle.stringAtoms, a.before a0 Z = true) (hI : ∀ vm, w.1 vm → IB Z vm Ts) (hnot : text ∉ Ts) (hh : Jvm.Lit.constHeld Z own i) (hcw : Jvm.Lit.compactW.before a0 Z = true) {vs : List Value} (ht : (∀ c ∈ text.toList, c.toNat < 256) ∧ text.toList.map (fun c => Value.int (Jvm.Lit.byteI c.toNat.toUInt16)) = vs) (hP : slotOf Z "java/lang/String" "coder" "B" ≠ slotOf Z "java/lang/String" "value" "[B") (H : own_H Z h os as) (hn : 4 * text.toList.length ≤ nn) (hbig : nn ≤ 536870912) (hc : k + 2 ≤ R.cells) (hl : n + (nn + 4) ≤ R.slots)
    (hr : ∀ h' a b, own_H Z h' (own_SR a (.int (0 : Int32)) (.ref b) :: os) ((b, .byte, "", vs) :: as) → own_G (fun vm => IB Z vm (text :: Ts) ∧ Lit (s.setVm vm) own i a, w.2) p l e R s m args below meth c Z Q h' (k + 2) (n + (nn + 4)) (mkF m pc' Ls (.ref a :: st))) : own_G w p l e R s m args below meth c Z Q h k n (mkF m pc Ls st) := by
  obtain ⟨hd, rfl⟩ := hd
  intro T hX
  obtain ⟨L, vm, X, N, eT, hw, hS⟩ := hX
  have hZ := own_zw K.2.2.2.2.2.1 hS
  have hown : vm.findClass own = some m.cls := by rw [hS.1.alike.findClass]; exact K.2.2.2.2.2.2.1
  obtain ⟨a, T1, X1, hS1, ⟨kk, hkk, hrr⟩, hkeep, hTW, hint, st1⟩ := X.ldcColdN K.1 (own := own) hown (mvS hZ ws) (own_atoms (s := s.setVm vm) hZ wS) (g := mkF m pc Ls st) rfl (hb K.2.1 hd) hn hbig hc hl
  subst eT
  have E := ext_of hkeep
  have hf : T1.vm.findClass own = some m.cls := by rw [hS1.1.alike.findClass]; exact hown
  have hS2 : s.Since T1.vm T1.heap.size := hS.trans hS1 E.1
  have hTi : T.vm.interned = vm.interned := X.warmed.interned_eq
  have I1 : IB Z T1.vm (text :: Ts) := (hI vm hw).step (hint.imp (fun q => q.trans hTi) fun ⟨us, q1, q2, _⟩ => ⟨us, a, q1, by rw [← hTi]; exact q2⟩)
  have hL : Lit (s.setVm T1.vm) own i a := by simp [Lit, State.resolvedAt?, hf, hkk, hrr]
  obtain ⟨hC, hSf⟩ := own_heldC hZ ws wS (hI vm hw) hnot hh hcw ht.1 H.1
  have hEL : EW Z a0 [(own, i)] := EW.cons ws ht.1 EW.nil
  have A := CHv.at X hZ hEL hC
  have hZT : Z.Warmed39 T.vm := wtrans (s := s.setVm vm) hZ X.warmed
  have B := CHv.later (vm := T.vm) (vm1 := T1.vm) hZT (show (Wst Z T.vm T.heap).Warmed39 T1.vm from hTW) hEL E (hint.imp id fun ⟨us, _, q1, q2, q3⟩ => ⟨us, a, q1, q2, fun hl => by
    obtain ⟨q, cS, hq, r1, r2, r3, r4, r5⟩ := q3 hl
    have F : SlB T1 q us := ⟨cS, r1, r2, r3, r4⟩
    refine ⟨q, hq, F.carry (V := Wst Z T1.vm T1.heap) (Vm.Alike.refl _) F.ha F.hd, ?_⟩
    rcases r5 with ⟨z, -⟩ | z
    · exact absurd z (Nat.not_lt_zero _)
    · exact z⟩) A.1
  have hZ1 : Z.Warmed39 T1.vm := State.Warmed39.trans (t := s.setVm vm) hZ hS1.1
  have w2 : (Cond.stringLink own i text).before a0 (Wst Z T1.vm T1.heap) = true := mvS (s := { Z with heap := T1.heap }) hZ1 ws
  obtain ⟨k0', cf, j, units, hkx, hcf, hp, hu, -, htext, -⟩ := Cond.stringLink_spec (s := Wst Z T1.vm T1.heap) hf w2
  have hkx : T1.vm.classes[m.cls]? = some k0' := hkx
  have ekk : k0' = kk := Option.some.inj (hkx.symm.trans hkk)
  have hB0 : Booksv T1.vm own i units a := ⟨m.cls, k0', cf, j, hf, hkx, hcf, hp, hu, Or.inl (by rw [ekk]; exact hrr)⟩
  obtain ⟨q, hqa, F⟩ := SlB.of (B.1 _ (List.mem_singleton.mpr rfl) units a hB0)
  have hne : ∀ x, Z.heap.size ≤ x → x < T.heap.size → x ≠ q.sa ∧ x ≠ q.sd := fun x hx hlt => by
    have S1 : Safe Z [(own, i)] T1.vm T1.heap x := (A.trans ⟨B.1, E.1, B.2⟩).safe hlt (hSf x hx)
    exact ⟨fun e1 => S1 ⟨_, List.mem_singleton.mpr rfl, units, a, hB0, q, hqa, F, Or.inl e1⟩, fun e1 => S1 ⟨_, List.mem_singleton.mpr rfl, units, a, hB0, q, hqa, F, Or.inr e1⟩⟩
  obtain ⟨U1, U2⟩ := own_unpack hZ1 htext ht hP F
  have hap : ∀ y ∈ os.map own_k ++ as.map own_ka, own_ap (q.sa, true) y ∧ own_ap (q.sd, true) y := fun y hy => by
    have lt := H.fresh y hy
    rcases Bool.eq_false_or_eq_true y.2 with t | t
    · exact ⟨Or.inl ⟨rfl, t⟩, Or.inl ⟨rfl, t⟩⟩
    · have hx : Z.heap.size ≤ y.1 := by
        rcases List.mem_append.mp hy with hy | hy
        · obtain ⟨o, ho, rfl⟩ := List.mem_map.mp hy; exact (H.2.1 o ho).1 t
        · obtain ⟨o, ho, rfl⟩ := List.mem_map.mp hy; exact (H.2.2.1 o ho).1 (of_decide_eq_false t)
      have z := hne y.1 hx lt
      exact ⟨Or.inr z.1.symm, Or.inr z.2.symm⟩
  subst hqa
  have H1 : own_H Z T1.heap (own_SR q.sa (.int (0 : Int32)) (.ref q.sd) :: os) as := H.consO E U1 (fun z => by cases z) fun y hy => (hap y hy).1
  have H2 : own_H Z T1.heap (own_SR q.sa (.int (0 : Int32)) (.ref q.sd) :: os) ((q.sd, .byte, "", vs) :: as) := H1.consA ⟨Nat.le_refl _, fun _ _ q => q⟩ U2 (fun z => absurd rfl z) fun y hy => by
    rcases List.mem_cons.mp hy with rfl | hy
    · exact Or.inl ⟨rfl, rfl⟩
    · exact (hap y hy).2
  obtain ⟨T', v', h', k', n', hX', r1, r2, r3, r4, r5⟩ := hr T1.heap q.sa q.sd H2 T1 ⟨_, T1.vm, X1, N, rfl, ⟨I1, hL⟩, hS2⟩
  exact ⟨T', v', h', k', n', hX', r1, r2, r3, r4, fun fs q => st1 _ (r5 fs q)⟩
/-- a literal whose text does not matter -/
theorem own_ldcO (K : own_Cx p s m meth c Z own nm bytes maxL ret) {nn : Nat} (hd : own_D bytes pc (.ldc i) 2 pc') (ws : (Cond.stringLink own i text).before a0 Z = true) (wS : ∀ a ∈ Bundle.stringAtoms, a.before a0 Z = true) (hI : ∀ vm, w.1 vm → IB Z vm Ts) (H : own_H Z h os as) (hn : 4 * text.toList.length ≤ nn) (hbig : nn ≤ 536870912) (hc : k + 2 ≤ R.cells) (hl : n + (nn + 4) ≤ R.slots)
    (hr : ∀ h' a, own_H Z h' os as → own_G (fun vm => IB Z vm (text :: Ts), w.2) p l e R s m args below meth c Z Q h' (k + 2) (n + (nn + 4)) (mkF m pc' Ls (.ref a :: st))) : own_G w p l e R s m args below meth c Z Q h k n (mkF m pc Ls st) := by
  obtain ⟨hd, rfl⟩ := hd
  intro T hX
  obtain ⟨L, vm, X, N, eT, hw, hS⟩ := hX
  have hZ := own_zw K.2.2.2.2.2.1 hS
  have hown : vm.findClass own = some m.cls := by rw [hS.1.alike.findClass]; exact K.2.2.2.2.2.2.1
  obtain ⟨a, T1, X1, hS1, ⟨kk, hkk, hrr⟩, hkeep, hTW, hint, st1⟩ := X.ldcColdN K.1 (own := own) hown (mvS hZ ws) (own_atoms (s := s.setVm vm) hZ wS) (g := mkF m pc Ls st) rfl (hb K.2.1 hd) hn hbig hc hl
  subst eT
  have E := ext_of hkeep
  have hf : T1.vm.findClass own = some m.cls := by rw [hS1.1.alike.findClass]; exact hown
  have hS2 : s.Since T1.vm T1.heap.size := hS.trans hS1 E.1
  have hTi : T.vm.interned = vm.interned := X.warmed.interned_eq
  have I1 : IB Z T1.vm (text :: Ts) := (hI vm hw).step (hint.imp (fun q => q.trans hTi) fun ⟨us, q1, q2, _⟩ => ⟨us, a, q1, by rw [← hTi]; exact q2⟩)
  have hL : Lit (s.setVm T1.vm) own i a := by simp [Lit, State.resolvedAt?, hf, hkk, hrr]
  obtain ⟨T', v', h', k', n', hX', r1, r2, r3, r4, r5⟩ := hr T1.heap a (H.ext E) T1 ⟨_, T1.vm, X1, N, rfl, I1, hS2⟩
  exact ⟨T', v', h', k', n', hX', r1, r2, r3, r4, fun fs q => st1 _ (r5 fs q)⟩
/-- an entry that this walk has loaded -/
theorem own_ldcA (K : own_Cx p s m meth c Z own nm bytes maxL ret) {a : Addr} (hd : own_D bytes pc (.ldc i) 2 pc') (ws : (Cond.stringLink own i text).before a0 Z = true) (hL : ∀ vm, w.1 vm → Lit (s.setVm vm) own i a)
    (hr : own_G w p l e R s m args below meth c Z Q h k n (mkF m pc' Ls (.ref a :: st))) : own_G w p l e R s m args below meth c Z Q h k n (mkF m pc Ls st) := by
  obtain ⟨hd, rfl⟩ := hd
  intro T hX
  obtain ⟨L, vm, X, N, eT, hw, hS⟩ := hX
  have hZ := own_zw K.2.2.2.2.2.1 hS
  have hown : vm.findClass own = some m.cls := by rw [hS.1.alike.findClass]; exact K.2.2.2.2.2.2.1
  obtain ⟨T', v', h', k', n', hX', r1, r2, r3, r4, r5⟩ := hr T ⟨L, vm, X, N, eT, hw, hS⟩
  exact ⟨T', v', h', k', n', hX', r1, r2, r3, r4, fun fs q => ldcAgain X K.1 hZ hown ws (hL vm hw) (g := mkF m pc Ls st) rfl (hb K.2.1 hd) _ (r5 fs q)⟩
theorem own_back {y : MethodName} {b : ByteArray} {ml : Nat} {rt : Option FieldType} {rm : Room} {len W : Nat} {as' : Array Value} {t : List String × List String} {Qc : Option Value → Heap → Prop} (hM : own_Met (some t) l Z y b ml rt [] rm as' h Qc) (hZ : Z.Warmed39 vm) (hI : IB Z vm t.1)
    (wc : (Cond.code y b ml rt).before a0 Z = true) (wz : (Cond.initialized y.cls).before a0 Z = true) (hf : rm.frames + 1 ≤ R.frames) (hl : W + (ml + 11) + rm.locals ≤ R.locals) :
    BackS l R p e below (s.setVm vm) args y len W (fun A a => a = as' ∧ A.U.heap = h ∧ A.cells + rm.cells ≤ R.cells ∧ A.slots + rm.slots ≤ R.slots)
      (fun A _ v B => ∃ L, (Qc v B.U.heap ∧ Fr Z.heap.size L ∧ h.size ≤ B.U.heap.size ∧ IB Z B.U.vm t.2) ∧ B.locs = A.locs ++ L ∧ B.cells = A.cells + rm.cells ∧ B.slots = A.slots + rm.slots) :=
  BackS.of_freeW (bytes := b) (maxL := ml) (ret := rt) (E := fun _ _ o t' L k n => k = rm.cells ∧ n = rm.slots ∧ ∃ v, o = .returned v ∧ Qc v t'.heap ∧ Fr Z.heap.size L ∧ h.size ≤ t'.heap.size ∧ IB Z t'.vm t.2) (show MetFree l y (head1 (Cond.code y b ml rt :: []) rm) (fun a U => a = as' ∧ Z.Warmed39 U.vm ∧ U.heap = h ∧ IB Z U.vm t.1) (fun _ _ _ _ _ => True) (fun _ U o U' => ∃ v L, o = .returned v ∧ (Qc v U'.heap ∧ Fr Z.heap.size L ∧ h.size ≤ U'.heap.size ∧ IB Z U'.vm t.2) ∧ ReturnedEndW U o U' L rm.cells rm.slots) from hM) hf hl
    (fun m meth c A a Y hp => have hU : Z.Warmed39 A.U.vm := wtrans (s := s.setVm vm) hZ Y.warmed
      ⟨by show (Cond.and _ .tt).before a A.U = true; rw [Cond.before_and, mv hU wc]; rfl, mv hU wc, mv hU wz, hp.2.2.1, hp.2.2.2⟩)
    (fun m meth c A a g mk Y hp => ⟨hp.1, wtrans (s := s.setVm vm) hZ Y.warmed, hp.2.1, own_IB (vm0 := vm) Y.warmed.interned_eq hI⟩) (fun _ _ _ _ _ _ _ _ _ => trivial)
    (fun _ _ _ _ ⟨v, L, h1, h2, h3⟩ => ⟨L, _, _, h3, rfl, rfl, v, h1, h2⟩)
    (fun m meth c A a g mk v t' L k n Y hp _ _ ⟨e1, e2, v', e3, e4⟩ => by cases e3; subst e1 e2; exact ⟨L, e4, rfl, rfl, rfl⟩)
theorem own_staticW (K : own_Cx p s m meth c Z own nm bytes maxL ret) {i ml W : Nat} {y : MethodName} {b : ByteArray} {rt : Option FieldType} {rm : Room} {argsL : List Value} {t : List String × List String} {Qc : Option Value → Heap → Prop} {ps : List FieldType} {r : Option FieldType} (hI : ∀ vm, w.1 vm → IB Z vm t.1) (hd : own_D bytes pc (.invokestatic i) 3 pc') (w1 : (Cond.methodLink own i y).before a0 Z = true) (w2 : (Cond.static y).before a0 Z = true) (w3 : (Cond.initialized y.cls).before a0 Z = true) (w4 : (Cond.code y b ml rt).before a0 Z = true)
    (hM : own_Met (some t) l Z y b ml rt [] rm argsL.toArray h Qc) (hp : parseMethodDescriptor y.desc = some ⟨ps, r⟩) (hlen : argsL.length = ps.length) (hst : st = argsL.reverse ++ rest) (hsz : Ls.size = maxL) (hy : y.cls ≠ "java/lang/invoke/MethodHandle" ∧ y.cls ≠ "java/lang/invoke/VarHandle") (hW : (rest.map fun v => v.category).sum ≤ W) (hf : rm.frames + 1 ≤ R.frames) (hl : W + (ml + 11) + rm.locals ≤ R.locals) (hc : k + rm.cells ≤ R.cells) (hs : n + rm.slots ≤ R.slots)
    (hr : ∀ v h', Qc v h' → own_G (fun vm => IB Z vm t.2, w.2) p l e R s m args below meth c Z Q h' (k + rm.cells) (n + rm.slots) (mkF m (pc') Ls (v.toList ++ rest))) : own_G w p l e R s m args below meth c Z Q h k n (mkF m pc Ls st) := by
  obtain ⟨hd, rfl⟩ := hd
  intro T hX
  obtain ⟨L, vm, X, N, eT, hw, hS⟩ := hX
  have hZ := own_zw K.2.2.2.2.2.1 hS
  have hown : (s.setVm vm).vm.findClass own = some m.cls := by rw [show (s.setVm vm).vm = vm from rfl, hS.1.alike.findClass]; exact K.2.2.2.2.2.2.1
  obtain ⟨v, vm1, ⟨T1, L1, k1, n1⟩, -, X1, hS1, hg1, ⟨Lc, ⟨hQ, N1, z1, I1⟩, l1, y1, x1⟩, st1⟩ := callSS X K.1 (y := y) hown (mvT hZ w1) (mvT hZ w2) (mvT hZ w3) (mvT hZ w4) hy (own_back (W := W) hM hZ (hI vm hw) w4 w3 hf hl) (g := mkF m pc Ls st) rfl (hsz.trans K.2.2.1.symm) (argsL := argsL) (rest := rest) (lenOf hp hlen) hst (by show 2 * 0 + _ ≤ W; simpa using hW) (hb K.2.1 hd) (fun _ _ => ⟨rfl, eT, hc, hs⟩)
  dsimp only [Pt.U, Pt.locs, Pt.cells, Pt.slots] at X1 l1 y1 x1 st1 hQ z1 hS1 hg1 I1
  subst l1 y1 x1
  have hS2 : s.Since T1.vm T1.heap.size := hS.trans hS1 (by rw [← eT]; exact hg1)
  obtain ⟨T', v', h', k', n', hX', r1, r2, r3, r4, r5⟩ := hr v T1.heap hQ T1 ⟨_, T1.vm, X1, N.app N1, rfl, I1, hS2⟩
  exact ⟨T', v', h', k', n', hX', r1, r2, r3, r4, fun fs q => st1.trans (r5 fs q)⟩
theorem own_specialW (K : own_Cx p s m meth c Z own nm bytes maxL ret) {i ml W : Nat} {y : MethodName} {b : ByteArray} {rm : Room} {a : Addr} {argsL : List Value} {t : List String × List String} {Qc : Option Value → Heap → Prop} {ps : List FieldType} {r : Option FieldType} (hI : ∀ vm, w.1 vm → IB Z vm t.1) (hd : own_D bytes pc (.invokespecial i) 3 pc') (hy1 : y.name = "<init>") (w1 : (Cond.methodLink own i y).before a0 Z = true) (w2 : (Cond.instanceMethod y).before a0 Z = true) (w3 : (Cond.initialized y.cls).before a0 Z = true) (w4 : (Cond.code y b ml none).before a0 Z = true)
    (hM : own_Met (some t) l Z y b ml none [] rm (.ref a :: argsL).toArray h Qc) (hp : parseMethodDescriptor y.desc = some ⟨ps, r⟩) (hlen : argsL.length = ps.length) (hst : st = argsL.reverse ++ .ref a :: rest) (hsz : Ls.size = maxL) (hy : y.cls ≠ "java/lang/invoke/MethodHandle" ∧ y.cls ≠ "java/lang/invoke/VarHandle") (hW : (rest.map fun v => v.category).sum ≤ W) (hf : rm.frames + 1 ≤ R.frames) (hl : W + (ml + 11) + rm.locals ≤ R.locals) (hc : k + rm.cells ≤ R.cells) (hs : n + rm.slots ≤ R.slots)
    (hr : ∀ v h', Qc v h' → own_G (fun vm => IB Z vm t.2, w.2) p l e R s m args below meth c Z Q h' (k + rm.cells) (n + rm.slots) (mkF m (pc') Ls (v.toList ++ rest))) : own_G w p l e R s m args below meth c Z Q h k n (mkF m pc Ls st) := by
  obtain ⟨hd, rfl⟩ := hd
  intro T hX
  obtain ⟨L, vm, X, N, eT, hw, hS⟩ := hX
  have hZ := own_zw K.2.2.2.2.2.1 hS
  have hown : (s.setVm vm).vm.findClass own = some m.cls := by rw [show (s.setVm vm).vm = vm from rfl, hS.1.alike.findClass]; exact K.2.2.2.2.2.2.1
  obtain ⟨v, vm1, ⟨T1, L1, k1, n1⟩, -, X1, hS1, hg1, ⟨Lc, ⟨hQ, N1, z1, I1⟩, l1, y1, x1⟩, st1⟩ := X.specialBackS K.1 (y := y) hy1 hown (mvT hZ w1) (mvT hZ w2) (mvT hZ w4) hy (own_back (W := W) hM hZ (hI vm hw) w4 w3 hf hl) (g := mkF m pc Ls st) rfl (hsz.trans K.2.2.1.symm) (Steps.refl _) (a := a) (argsL := argsL) (rest := rest) (lenOf hp hlen) hst (by show 2 * 0 + _ ≤ W; simpa using hW) (hb K.2.1 hd) (fun _ _ => ⟨rfl, eT, hc, hs⟩)
  dsimp only [Pt.U, Pt.locs, Pt.cells, Pt.slots] at X1 l1 y1 x1 st1 hQ z1 hS1 hg1 I1
  subst l1 y1 x1
  have hS2 : s.Since T1.vm T1.heap.size := hS.trans hS1 (by rw [← eT]; exact hg1)
  obtain ⟨T', v', h', k', n', hX', r1, r2, r3, r4, r5⟩ := hr v T1.heap hQ T1 ⟨_, T1.vm, X1, N.app N1, rfl, I1, hS2⟩
  exact ⟨T', v', h', k', n', hX', r1, r2, r3, r4, fun fs q => st1.trans (r5 fs q)⟩
theorem own_virtualW (K : own_Cx p s m meth c Z own nm bytes maxL ret) {i ml W : Nat} {y : MethodName} {C : String} {b : ByteArray} {rt : Option FieldType} {rm : Room} {a : Addr} {argsL : List Value} {t : List String × List String} {Qc : Option Value → Heap → Prop} {ps : List FieldType} {r : Option FieldType} (hI : ∀ vm, w.1 vm → IB Z vm t.1) (hd : own_D bytes pc (.invokevirtual i) 3 pc') (w1 : (Cond.methodLink own i y).before a0 Z = true) (w2 : (Cond.declares y).before a0 Z = true) (w5 : (Cond.selects C y y).before a0 Z = true) (w6 : (Cond.instanceMethod y).before a0 Z = true) (w3 : (Cond.initialized y.cls).before a0 Z = true) (w4 : (Cond.code y b ml rt).before a0 Z = true)
    (E : Exa Z h a C) (hM : own_Met (some t) l Z y b ml rt [] rm (.ref a :: argsL).toArray h Qc) (hp : parseMethodDescriptor y.desc = some ⟨ps, r⟩) (hlen : argsL.length = ps.length) (hst : st = argsL.reverse ++ .ref a :: rest) (hsz : Ls.size = maxL) (hy : y.cls ≠ "java/lang/invoke/MethodHandle" ∧ y.cls ≠ "java/lang/invoke/VarHandle") (hW : (rest.map fun v => v.category).sum ≤ W) (hf : rm.frames + 1 ≤ R.frames) (hl : W + (ml + 11) + rm.locals ≤ R.locals) (hc : k + rm.cells ≤ R.cells) (hs : n + rm.slots ≤ R.slots)
    (hr : ∀ v h', Qc v h' → own_G (fun vm => IB Z vm t.2, w.2) p l e R s m args below meth c Z Q h' (k + rm.cells) (n + rm.slots) (mkF m (pc') Ls (v.toList ++ rest))) : own_G w p l e R s m args below meth c Z Q h k n (mkF m pc Ls st) := by
  obtain ⟨hd, rfl⟩ := hd
  intro T hX
  obtain ⟨L, vm, X, N, eT, hw, hS⟩ := hX
  have hZ := own_zw K.2.2.2.2.2.1 hS
  have hown : (s.setVm vm).vm.findClass own = some m.cls := by rw [show (s.setVm vm).vm = vm from rfl, hS.1.alike.findClass]; exact K.2.2.2.2.2.2.1
  obtain ⟨cq, kq, qa, qb, qc⟩ := isOf (s := s.setVm vm) hZ eT E
  obtain ⟨v, vm1, ⟨T1, L1, k1, n1⟩, -, X1, hS1, hg1, ⟨Lc, ⟨hQ, N1, z1, I1⟩, l1, y1, x1⟩, st1⟩ := X.virtualBackS K.1 (y := y) (z := y) hown (mvT hZ w1) (mvT hZ w2) (notFace_of_selects (C := C) (args := #[]) (mvT hZ w5)) (mvT hZ w5) (mvT hZ w6) hy (own_back (W := W) hM hZ (hI vm hw) w4 w3 hf hl) qa qc (g := mkF m pc Ls st) rfl (hsz.trans K.2.2.1.symm) (Steps.refl _) (argsL := argsL) (rest := rest) (lenOf hp hlen) hst (by show 2 * 0 + _ ≤ W; simpa using hW) (hb K.2.1 hd) (fun _ _ => ⟨rfl, eT, hc, hs⟩)
  dsimp only [Pt.U, Pt.locs, Pt.cells, Pt.slots] at X1 l1 y1 x1 st1 hQ z1 hS1 hg1 I1
  subst l1 y1 x1
  have hS2 : s.Since T1.vm T1.heap.size := hS.trans hS1 (by rw [← eT]; exact hg1)
  obtain ⟨T', v', h', k', n', hX', r1, r2, r3, r4, r5⟩ := hr v T1.heap hQ T1 ⟨_, T1.vm, X1, N.app N1, rfl, I1, hS2⟩
  exact ⟨T', v', h', k', n', hX', r1, r2, r3, r4, fun fs q => st1.trans (r5 fs q)⟩
end OwnLit
end Jvm.RoadKit
namespace Jvm.RoadKit
open Sem ClassFile Op Lib Jvm.Stand Jvm.Free Jvm.LawKit
section OwnSta
variable {w : own_W} {p : Program} {l : Launch} {e : Env} {R : Room} {s : State} {m : MethodId} {args : Array Value} {below : List Frame} {meth : Method} {c : Code} {Z : State} {a0 : Array Value} {own nm : String} {bytes : ByteArray} {maxL : Nat} {ret : Option FieldType} {Q : Option Value → Heap → Prop} {h h' : Heap} {k n k' n' : Nat} {pc pc' pcT : Nat} {Ls Ls' : Array Slot} {st rest : List Value} {os os' : List own_O} {as as' : List own_A} {g g' : JFrame} {tyR : FieldType}
theorem own_ldcF (K : own_Cx p s m meth c Z own nm bytes maxL ret) {i : Nat} {v : UInt32} (hd : own_D bytes pc (.ldc i) 2 pc') (wc : (Cond.constantFloat own i v).before a0 Z = true) (hr : own_G w p l e R s m args below meth c Z Q h k n (mkF m pc' Ls (.float v :: st))) : own_G w p l e R s m args below meth c Z Q h k n (mkF m pc Ls st) := by
  obtain ⟨hd, rfl⟩ := hd
  exact own_pure K (fun X hZ ho _ _ q => X.ldcFloatC K.1 ho (mvT hZ wc) (g := mkF m pc Ls st) rfl (hb K.2.1 hd) _ q) hr
theorem own_getstatic (K : own_Cx p s m meth c Z own nm bytes maxL ret) {i : Nat} {R0 O f d : String} {v : Value} (hd : own_D bytes pc (.getstatic i) 3 pc') (wl : (Cond.fieldLink own i R0 f d).before a0 Z = true) (via : Via Z R0 O f d) (F : Sta Z h O f d v) (hr : own_G w p l e R s m args below meth c Z Q h k n (mkF m pc' Ls (v :: st))) : own_G w p l e R s m args below meth c Z Q h k n (mkF m pc Ls st) := by
  obtain ⟨hd, rfl⟩ := hd
  refine own_step K (P := fun h' => h' = h) (fun X hZ hw eT N => ?_) (fun h' e => by subst e; exact hr)
  obtain ⟨T', X', e', st⟩ := getS X K.1 hZ hw wl via eT F (host := "") (g := mkF m pc Ls st) rfl (hb K.2.1 hd)
  exact ⟨T', _, _, X', N, e', Nat.le_refl _, rfl, st⟩
theorem own_ialoadZ (K : own_Cx p s m meth c Z own nm bytes maxL ret) {q : Nat} {a : Addr} {cl : Cell} {v : Value} {j : Int32} (hd : own_D bytes pc .iaload 1 pc') (A : Arr Z h a cl .int) (hj : j.toInt = (q : Int)) (hv : cl.slots[q]? = some v) (hr : own_G w p l e R s m args below meth c Z Q h k n (mkF m pc' Ls (v :: st))) : own_G w p l e R s m args below meth c Z Q h k n (mkF m pc Ls (.int j :: .ref a :: st)) := by
  obtain ⟨hd, rfl⟩ := hd
  have hq := (Array.getElem?_eq_some_iff.mp hv).1
  exact own_pure K (fun X hZ _ eT _ r => X.iaload K.1 (by rw [eT]; exact A.1) (State.isArrayOf_alike hZ.alike A.2.1) A.2.2 (own_in hj hq) (by rw [own_idx hj]; exact hv) (g := mkF m pc Ls (.int j :: .ref a :: st)) rfl rfl (hb K.2.1 hd) _ r) hr
theorem own_private (K : own_Cx p s m meth c Z own nm bytes maxL ret) {i ml W : Nat} {y : MethodName} {C : String} {b : ByteArray} {rt : Option FieldType} {rm : Room} {a : Addr} {argsL : List Value} {Qc : Option Value → Heap → Prop} {ps : List FieldType} {r : Option FieldType} (hd : own_D bytes pc (.invokevirtual i) 3 pc') (w1 : (Cond.methodLink own i y).before a0 Z = true) (w2 : (Cond.privateMethod y).before a0 Z = true) (w5 : (Cond.selects y.cls y y).before a0 Z = true) (w6 : (Cond.instanceMethod y).before a0 Z = true) (w3 : (Cond.initialized y.cls).before a0 Z = true) (w4 : (Cond.code y b ml rt).before a0 Z = true)
    (E : Exa Z h a C) (hM : own_Met none l Z y b ml rt [] rm (.ref a :: argsL).toArray h Qc) (hp : parseMethodDescriptor y.desc = some ⟨ps, r⟩) (hlen : argsL.length = ps.length) (hst : st = argsL.reverse ++ .ref a :: rest) (hsz : Ls.size = maxL) (hy : y.cls ≠ "java/lang/invoke/MethodHandle" ∧ y.cls ≠ "java/lang/invoke/VarHandle") (hW : (rest.map fun v => v.category).sum ≤ W) (hf : rm.frames + 1 ≤ R.frames) (hl : W + (ml + 11) + rm.locals ≤ R.locals) (hc : k + rm.cells ≤ R.cells) (hs : n + rm.slots ≤ R.slots)
    (hr : ∀ v h', Qc v h' → own_G w p l e R s m args below meth c Z Q h' (k + rm.cells) (n + rm.slots) (mkF m (pc') Ls (v.toList ++ rest))) : own_G w p l e R s m args below meth c Z Q h k n (mkF m pc Ls st) := by
  obtain ⟨hd, rfl⟩ := hd
  intro T hX
  obtain ⟨L, vm, X, N, eT, hw, hS⟩ := hX
  have hZ := own_zw K.2.2.2.2.2.1 hS
  have hown : (s.setVm vm).vm.findClass own = some m.cls := by rw [show (s.setVm vm).vm = vm from rfl, hS.1.alike.findClass]; exact K.2.2.2.2.2.2.1
  obtain ⟨cell, kc, x1, x2, x3, x4, x5⟩ := E
  obtain ⟨v, vm1, ⟨T1, L1, k1, n1⟩, -, X1, ⟨Lc, ⟨hQ, N1, z1⟩, l1, y1, x1⟩, st1⟩ := X.privateBack K.1 (y := y) hown (mvT hZ w1) (mvT hZ w6) (mvT hZ w5) (Cond.privateMethod_at (args := args) (mvT hZ w2)) (mvT hZ w4) hy (backOf (W := W) (Q := fun v h'' L => Qc v h'' ∧ Fr Z.heap.size L ∧ h.size ≤ h''.size) (show MetFree _ _ _ _ _ _ from hM) hZ w4 w3 hf hl) (g := mkF m pc Ls st) rfl (hsz.trans K.2.2.1.symm) (Steps.refl _) (a := a) (cell := cell) (by rw [eT]; exact x1) (fun q z => by rw [z] at x4; cases x4) (argsL := argsL) (rest := rest) (lenOf hp hlen) hst (by show 2 * 0 + _ ≤ W; simpa using hW) (hb K.2.1 hd) (fun _ _ => ⟨rfl, eT, hc, hs⟩)
  dsimp only [Pt.U, Pt.locs, Pt.cells, Pt.slots] at X1 l1 y1 x1 st1 hQ z1
  subst l1 y1 x1
  obtain ⟨T', v', h', k', n', hX', r1, r2, r3, r4, r5⟩ := hr v T1.heap hQ T1 ⟨_, vm, X1, N.app N1, rfl, hw, own_since hS z1⟩
  exact ⟨T', v', h', k', n', hX', r1, r2, r3, r4, fun fs q => st1.trans (r5 fs q)⟩
end OwnSta
end Jvm.RoadKit
namespace Jvm.RoadKit
open Sem ClassFile Op Lib Jvm.Stand Jvm.Free Jvm.LawKit
section OwnSup
variable {w : own_W} {p : Program} {l : Launch} {e : Env} {R : Room} {s : State} {m : MethodId} {args : Array Value} {below : List Frame} {meth : Method} {c : Code} {Z : State} {a0 : Array Value} {own nm : String} {bytes : ByteArray} {maxL : Nat} {ret : Option FieldType} {Q : Option Value → Heap → Prop} {h h' : Heap} {k n k' n' : Nat} {pc pc' pcT : Nat} {Ls Ls' : Array Slot} {st rest : List Value} {os os' : List own_O} {as as' : List own_A} {g g' : JFrame}
theorem own_same {y z : MethodName} {C : String} (w6 : (Cond.instanceMethod y).before a0 Z = true) (w5 : (Cond.selects C z z).before a0 Z = true) (hc : z.cls = y.cls) (hy : y.cls ≠ "java/lang/invoke/MethodHandle" ∧ y.cls ≠ "java/lang/invoke/VarHandle") : (Cond.sameMethod y.cls y.cls y.name y.desc).before a0 Z = true := by
  obtain ⟨mk, methM, hn, hm, -, -⟩ := Cond.instanceMethod_spec w6
  obtain ⟨c, r, m, -, -, h3, -, k, h4, h5⟩ := Cond.selects_spec w5
  have f1 := findClass_of_methodNamed hn
  have f2 := findClass_of_methodNamed h3
  rw [hc, f1] at f2
  have hf := State.methodFound?_of_named hn hy
  have hk : Z.vm.classes[mk.cls]? = some k := by rw [Option.some.inj f2]; exact h4
  simp [Cond.before, Cond.holds, Cond.value, f1, hf, hn, hk, h5]
theorem own_nf (K : own_Cx p s m meth c Z own nm bytes maxL ret) {y z : MethodName} {C : String} (w5 : (Cond.selects C z z).before a0 Z = true) (hc : z.cls = y.cls) : ∀ vm, s.Warmed39 vm → NotFace (s.setVm vm) y := fun vm hv r0 h0 => by
  have hZ : Z.Warmed39 (s.setVm vm).vm := State.Warmed39.trans (t := s) K.2.2.2.2.2.1 hv
  obtain ⟨c, r, m, -, -, h3, -, k, h4, h5⟩ := Cond.selects_spec (mvT (args := #[]) hZ w5)
  have f1 := findClass_of_methodNamed h0
  have f2 := findClass_of_methodNamed h3
  rw [hc, f1] at f2
  exact ⟨k, by rw [Option.some.inj f2]; exact h4, h5⟩
theorem own_baloadZ (K : own_Cx p s m meth c Z own nm bytes maxL ret) {q : Nat} {a : Addr} {cl : Cell} {v : Value} {j : Int32} (hd : own_D bytes pc .baload 1 pc') (A : Arr Z h a cl .byte) (hj : j.toInt = (q : Int)) (hv : cl.slots[q]? = some v) (hr : own_G w p l e R s m args below meth c Z Q h k n (mkF m pc' Ls (v :: st))) : own_G w p l e R s m args below meth c Z Q h k n (mkF m pc Ls (.int j :: .ref a :: st)) := by
  obtain ⟨hd, rfl⟩ := hd
  have hq := (Array.getElem?_eq_some_iff.mp hv).1
  exact own_pure K (fun X hZ _ eT _ r => X.baloadBytes K.1 (by rw [eT]; exact A.1) (State.isArrayOf_alike hZ.alike A.2.1) A.2.2 (own_in hj hq) (by rw [own_idx hj]; exact hv) (g := mkF m pc Ls (.int j :: .ref a :: st)) rfl rfl (hb K.2.1 hd) _ r) hr
theorem own_super (K : own_Cx p s m meth c Z own nm bytes maxL ret) {i ml W : Nat} {y : MethodName} {C : String} {b : ByteArray} {rt : Option FieldType} {rm : Room} {a : Addr} {argsL : List Value} {Qc : Option Value → Heap → Prop} {ps : List FieldType} {r : Option FieldType} (hd : own_D bytes pc (.invokespecial i) 3 pc') (w1 : (Cond.methodLink own i y).before a0 Z = true) (w2 : (Cond.sameMethod y.cls y.cls y.name y.desc).before a0 Z = true) (w6 : (Cond.instanceMethod y).before a0 Z = true) (w7 : (Cond.superclass own y.cls).before a0 Z = true) (w3 : (Cond.initialized y.cls).before a0 Z = true) (w4 : (Cond.code y b ml rt).before a0 Z = true) (hnm : y.name ≠ "<init>")
    (E : Ins Z h a C true) (hM : own_Met none l Z y b ml rt [] rm (.ref a :: argsL).toArray h Qc) (hp : parseMethodDescriptor y.desc = some ⟨ps, r⟩) (hlen : argsL.length = ps.length) (hst : st = argsL.reverse ++ .ref a :: rest) (hsz : Ls.size = maxL) (hW : (rest.map fun v => v.category).sum ≤ W) (hf : rm.frames + 1 ≤ R.frames) (hl : W + (ml + 11) + rm.locals ≤ R.locals) (hc : k + rm.cells ≤ R.cells) (hs : n + rm.slots ≤ R.slots)
    (hr : ∀ v h', Qc v h' → own_G w p l e R s m args below meth c Z Q h' (k + rm.cells) (n + rm.slots) (mkF m (pc') Ls (v.toList ++ rest))) : own_G w p l e R s m args below meth c Z Q h k n (mkF m pc Ls st) := by
  obtain ⟨hd, rfl⟩ := hd
  intro T hX
  obtain ⟨L, vm, X, N, eT, hw, hS⟩ := hX
  have hZ := own_zw K.2.2.2.2.2.1 hS
  have hown : (s.setVm vm).vm.findClass own = some m.cls := by rw [show (s.setVm vm).vm = vm from rfl, hS.1.alike.findClass]; exact K.2.2.2.2.2.2.1
  obtain ⟨v, vm1, ⟨T1, L1, k1, n1⟩, -, X1, ⟨Lc, ⟨hQ, N1, z1⟩, l1, y1, x1⟩, st1⟩ := superBack X K.1 hZ (y := y) hown w1 w2 w6 w7 hnm (backOf (W := W) (Q := fun v h'' L => Qc v h'' ∧ Fr Z.heap.size L ∧ h.size ≤ h''.size) (show MetFree _ _ _ _ _ _ from hM) hZ w4 w3 hf hl) eT E (g := mkF m pc Ls st) rfl (hsz.trans K.2.2.1.symm) w4 (argsL := argsL) (rest := rest) (lenOf hp hlen) hst (by show 2 * 0 + _ ≤ W; simpa using hW) (hb K.2.1 hd) (fun _ _ => ⟨rfl, eT, hc, hs⟩)
  dsimp only [Pt.U, Pt.locs, Pt.cells, Pt.slots] at X1 l1 y1 x1 st1 hQ z1
  subst l1 y1 x1
  obtain ⟨T', v', h', k', n', hX', r1, r2, r3, r4, r5⟩ := hr v T1.heap hQ T1 ⟨_, vm, X1, N.app N1, rfl, hw, own_since hS z1⟩
  exact ⟨T', v', h', k', n', hX', r1, r2, r3, r4, fun fs q => st1.trans (r5 fs q)⟩
end OwnSup
end Jvm.RoadKit
namespace Jvm.Pilot.@@N@@
open Jvm Jvm.ClassFile Sem Op Lib Jvm.Free Jvm.Stand Jvm.LawKit Jvm.RoadKit Bundle Jvm.Pilot.@@N@@.Jvm.D
def own_Z (Z : State) (a0 : Array Value) : Prop := ∀ d ∈ tables_1, d.before a0 Z = true
theorem own_w0 {Z : State} {a0 : Array Value} (hw : own_Z Z a0) : (Jvm.Cond.methodLink "com/example/farcall/farcall/EndpointToStringPinLaw" (7 : Nat) ({ cls := "com/example/farcall/farcall/EndpointToStringPinLaw", name := "makeHost", desc := "(ICCC)Ljava/lang/String;" } : Jvm.MethodName)).before a0 Z = true := hw _ (List.mem_of_getElem? (i := 0) rfl)
theorem own_w1 {Z : State} {a0 : Array Value} (hw : own_Z Z a0) : (Jvm.Cond.static ({ cls := "com/example/farcall/farcall/EndpointToStringPinLaw", name := "makeHost", desc := "(ICCC)Ljava/lang/String;" } : Jvm.MethodName)).before a0 Z = true := hw _ (List.mem_of_getElem? (i := 1) rfl)
theorem own_w2 {Z : State} {a0 : Array Value} (hw : own_Z Z a0) : (Jvm.Cond.initialized "com/example/farcall/farcall/EndpointToStringPinLaw").before a0 Z = true := hw _ (List.mem_of_getElem? (i := 2) rfl)
theorem own_w3 {Z : State} {a0 : Array Value} (hw : own_Z Z a0) : (Jvm.Cond.code ({ cls := "com/example/farcall/farcall/EndpointToStringPinLaw", name := "makeHost", desc := "(ICCC)Ljava/lang/String;" } : Jvm.MethodName) method_3_code (4 : Nat) (Option.some (Jvm.ClassFile.FieldType.object "java/lang/String"))).before a0 Z = true := hw _ (List.mem_of_getElem? (i := 3) rfl)
theorem own_w4 {Z : State} {a0 : Array Value} (hw : own_Z Z a0) : (Jvm.Cond.classLink "com/example/farcall/farcall/EndpointToStringPinLaw" (25 : Nat) "java/lang/String").before a0 Z = true := hw _ (List.mem_of_getElem? (i := 4) rfl)
theorem own_w5 {Z : State} {a0 : Array Value} (hw : own_Z Z a0) : (Jvm.Cond.instantiable "java/lang/String" (4 : Nat)).before a0 Z = true := hw _ (List.mem_of_getElem? (i := 5) rfl)
theorem own_w6 {Z : State} {a0 : Array Value} (hw : own_Z Z a0) : (Jvm.Cond.initialized "java/lang/String").before a0 Z = true := hw _ (List.mem_of_getElem? (i := 6) rfl)
theorem own_w7 {Z : State} {a0 : Array Value} (hw : own_Z Z a0) : (Jvm.Cond.arrayClass Jvm.ClassFile.FieldType.char).before a0 Z = true := hw _ (List.mem_of_getElem? (i := 7) rfl)
theorem own_w8 {Z : State} {a0 : Array Value} (hw : own_Z Z a0) : (Jvm.Cond.methodLink "com/example/farcall/farcall/EndpointToStringPinLaw" (38 : Nat) ({ cls := "java/lang/String", name := "<init>", desc := "([C)V" } : Jvm.MethodName)).before a0 Z = true := hw _ (List.mem_of_getElem? (i := 8) rfl)
theorem own_w9 {Z : State} {a0 : Array Value} (hw : own_Z Z a0) : (Jvm.Cond.instanceMethod ({ cls := "java/lang/String", name := "<init>", desc := "([C)V" } : Jvm.MethodName)).before a0 Z = true := hw _ (List.mem_of_getElem? (i := 9) rfl)
theorem own_w10 {Z : State} {a0 : Array Value} (hw : own_Z Z a0) : (Jvm.Cond.code ({ cls := "java/lang/String", name := "<init>", desc := "([C)V" } : Jvm.MethodName) jdk_42_method_3_code (2 : Nat) (Option.none : Option Jvm.ClassFile.FieldType)).before a0 Z = true := hw _ (List.mem_of_getElem? (i := 10) rfl)
theorem own_w11 {Z : State} {a0 : Array Value} (hw : own_Z Z a0) : (Jvm.Cond.methodLink "java/lang/String" (27 : Nat) ({ cls := "java/lang/String", name := "<init>", desc := "([CIILjava/lang/Void;)V" } : Jvm.MethodName)).before a0 Z = true := hw _ (List.mem_of_getElem? (i := 11) rfl)
theorem own_w12 {Z : State} {a0 : Array Value} (hw : own_Z Z a0) : (Jvm.Cond.instanceMethod ({ cls := "java/lang/String", name := "<init>", desc := "([CIILjava/lang/Void;)V" } : Jvm.MethodName)).before a0 Z = true := hw _ (List.mem_of_getElem? (i := 12) rfl)
theorem own_w14 {Z : State} {a0 : Array Value} (hw : own_Z Z a0) : (Jvm.Cond.code ({ cls := "java/lang/String", name := "<init>", desc := "([CIILjava/lang/Void;)V" } : Jvm.MethodName) jdk_42_method_149_code (6 : Nat) (Option.none : Option Jvm.ClassFile.FieldType)).before a0 Z = true := hw _ (List.mem_of_getElem? (i := 14) rfl)
theorem own_w15 {Z : State} {a0 : Array Value} (hw : own_Z Z a0) : (Jvm.Cond.methodLink "java/lang/String" (1 : Nat) ({ cls := "java/lang/Object", name := "<init>", desc := "()V" } : Jvm.MethodName)).before a0 Z = true := hw _ (List.mem_of_getElem? (i := 15) rfl)
theorem own_w16 {Z : State} {a0 : Array Value} (hw : own_Z Z a0) : (Jvm.Cond.instanceMethod ({ cls := "java/lang/Object", name := "<init>", desc := "()V" } : Jvm.MethodName)).before a0 Z = true := hw _ (List.mem_of_getElem? (i := 16) rfl)
theorem own_w17 {Z : State} {a0 : Array Value} (hw : own_Z Z a0) : (Jvm.Cond.code ({ cls := "java/lang/Object", name := "<init>", desc := "()V" } : Jvm.MethodName) object_method_1_code (1 : Nat) (Option.none : Option Jvm.ClassFile.FieldType)).before a0 Z = true := hw _ (List.mem_of_getElem? (i := 17) rfl)
theorem own_w18 {Z : State} {a0 : Array Value} (hw : own_Z Z a0) : (Jvm.Cond.fieldLink "java/lang/String" (38 : Nat) "java/lang/String" "COMPACT_STRINGS" "Z").before a0 Z = true := hw _ (List.mem_of_getElem? (i := 18) rfl)
theorem own_w19 {Z : State} {a0 : Array Value} (hw : own_Z Z a0) : (Jvm.Cond.methodLink "java/lang/String" (177 : Nat) ({ cls := "java/lang/StringUTF16", name := "compress", desc := "([CII)[B" } : Jvm.MethodName)).before a0 Z = true := hw _ (List.mem_of_getElem? (i := 19) rfl)
theorem own_w20 {Z : State} {a0 : Array Value} (hw : own_Z Z a0) : (Jvm.Cond.static ({ cls := "java/lang/StringUTF16", name := "compress", desc := "([CII)[B" } : Jvm.MethodName)).before a0 Z = true := hw _ (List.mem_of_getElem? (i := 20) rfl)
theorem own_w21 {Z : State} {a0 : Array Value} (hw : own_Z Z a0) : (Jvm.Cond.initialized "java/lang/StringUTF16").before a0 Z = true := hw _ (List.mem_of_getElem? (i := 21) rfl)
theorem own_w22 {Z : State} {a0 : Array Value} (hw : own_Z Z a0) : (Jvm.Cond.code ({ cls := "java/lang/StringUTF16", name := "compress", desc := "([CII)[B" } : Jvm.MethodName) jdk_52_method_16_code (6 : Nat) (Option.some (Jvm.ClassFile.FieldType.array Jvm.ClassFile.FieldType.byte))).before a0 Z = true := hw _ (List.mem_of_getElem? (i := 22) rfl)
theorem own_w23 {Z : State} {a0 : Array Value} (hw : own_Z Z a0) : (Jvm.Cond.arrayClass Jvm.ClassFile.FieldType.byte).before a0 Z = true := hw _ (List.mem_of_getElem? (i := 23) rfl)
theorem own_w24 {Z : State} {a0 : Array Value} (hw : own_Z Z a0) : (Jvm.Cond.methodLink "java/lang/StringUTF16" (115 : Nat) ({ cls := "java/lang/StringUTF16", name := "compress", desc := "([CI[BII)I" } : Jvm.MethodName)).before a0 Z = true := hw _ (List.mem_of_getElem? (i := 24) rfl)
theorem own_w25 {Z : State} {a0 : Array Value} (hw : own_Z Z a0) : (Jvm.Cond.static ({ cls := "java/lang/StringUTF16", name := "compress", desc := "([CI[BII)I" } : Jvm.MethodName)).before a0 Z = true := hw _ (List.mem_of_getElem? (i := 25) rfl)
theorem own_w26 {Z : State} {a0 : Array Value} (hw : own_Z Z a0) : (Jvm.Cond.code ({ cls := "java/lang/StringUTF16", name := "compress", desc := "([CI[BII)I" } : Jvm.MethodName) jdk_52_method_21_code (7 : Nat) (Option.some Jvm.ClassFile.FieldType.int)).before a0 Z = true := hw _ (List.mem_of_getElem? (i := 26) rfl)
theorem own_w27 {Z : State} {a0 : Array Value} (hw : own_Z Z a0) : (Jvm.Cond.methodLink "java/lang/String" (47 : Nat) ({ cls := "java/lang/StringUTF16", name := "coderFromArrayLen", desc := "([BI)B" } : Jvm.MethodName)).before a0 Z = true := hw _ (List.mem_of_getElem? (i := 27) rfl)
theorem own_w28 {Z : State} {a0 : Array Value} (hw : own_Z Z a0) : (Jvm.Cond.static ({ cls := "java/lang/StringUTF16", name := "coderFromArrayLen", desc := "([BI)B" } : Jvm.MethodName)).before a0 Z = true := hw _ (List.mem_of_getElem? (i := 28) rfl)
theorem own_w29 {Z : State} {a0 : Array Value} (hw : own_Z Z a0) : (Jvm.Cond.code ({ cls := "java/lang/StringUTF16", name := "coderFromArrayLen", desc := "([BI)B" } : Jvm.MethodName) jdk_52_method_15_code (2 : Nat) (Option.some Jvm.ClassFile.FieldType.byte)).before a0 Z = true := hw _ (List.mem_of_getElem? (i := 29) rfl)
theorem own_w30 {Z : State} {a0 : Array Value} (hw : own_Z Z a0) : (Jvm.Cond.fieldLink "java/lang/String" (15 : Nat) "java/lang/String" "coder" "B").before a0 Z = true := hw _ (List.mem_of_getElem? (i := 30) rfl)
theorem own_w31 {Z : State} {a0 : Array Value} (hw : own_Z Z a0) : (Jvm.Cond.laysFinal "java/lang/String" "java/lang/String" "coder" "B").before a0 Z = true := hw _ (List.mem_of_getElem? (i := 31) rfl)
theorem own_w32 {Z : State} {a0 : Array Value} (hw : own_Z Z a0) : (Jvm.Cond.fieldLink "java/lang/String" (9 : Nat) "java/lang/String" "value" "[B").before a0 Z = true := hw _ (List.mem_of_getElem? (i := 32) rfl)
theorem own_w33 {Z : State} {a0 : Array Value} (hw : own_Z Z a0) : (Jvm.Cond.laysFinal "java/lang/String" "java/lang/String" "value" "[B").before a0 Z = true := hw _ (List.mem_of_getElem? (i := 33) rfl)
theorem own_w34 {Z : State} {a0 : Array Value} (hw : own_Z Z a0) : (Jvm.Cond.constant "com/example/farcall/farcall/EndpointToStringPinLaw" (13 : Nat) (2147483647 : Int32)).before a0 Z = true := hw _ (List.mem_of_getElem? (i := 34) rfl)
theorem own_w35 {Z : State} {a0 : Array Value} (hw : own_Z Z a0) : (Jvm.Cond.constant "com/example/farcall/farcall/EndpointToStringPinLaw" (14 : Nat) (65535 : Int32)).before a0 Z = true := hw _ (List.mem_of_getElem? (i := 35) rfl)
theorem own_w36 {Z : State} {a0 : Array Value} (hw : own_Z Z a0) : (Jvm.Cond.classLink "com/example/farcall/farcall/EndpointToStringPinLaw" (15 : Nat) "com/example/farcall/farcall/Endpoint").before a0 Z = true := hw _ (List.mem_of_getElem? (i := 36) rfl)
theorem own_w37 {Z : State} {a0 : Array Value} (hw : own_Z Z a0) : (Jvm.Cond.instantiable "com/example/farcall/farcall/Endpoint" (2 : Nat)).before a0 Z = true := hw _ (List.mem_of_getElem? (i := 37) rfl)
theorem own_w38 {Z : State} {a0 : Array Value} (hw : own_Z Z a0) : (Jvm.Cond.initialized "com/example/farcall/farcall/Endpoint").before a0 Z = true := hw _ (List.mem_of_getElem? (i := 38) rfl)
theorem own_w39 {Z : State} {a0 : Array Value} (hw : own_Z Z a0) : (Jvm.Cond.methodLink "com/example/farcall/farcall/EndpointToStringPinLaw" (17 : Nat) ({ cls := "com/example/farcall/farcall/Endpoint", name := "<init>", desc := "(Ljava/lang/String;I)V" } : Jvm.MethodName)).before a0 Z = true := hw _ (List.mem_of_getElem? (i := 39) rfl)
theorem own_w40 {Z : State} {a0 : Array Value} (hw : own_Z Z a0) : (Jvm.Cond.instanceMethod ({ cls := "com/example/farcall/farcall/Endpoint", name := "<init>", desc := "(Ljava/lang/String;I)V" } : Jvm.MethodName)).before a0 Z = true := hw _ (List.mem_of_getElem? (i := 40) rfl)
theorem own_w41 {Z : State} {a0 : Array Value} (hw : own_Z Z a0) : (Jvm.Cond.code ({ cls := "com/example/farcall/farcall/Endpoint", name := "<init>", desc := "(Ljava/lang/String;I)V" } : Jvm.MethodName) prog_16_method_1_code (3 : Nat) (Option.none : Option Jvm.ClassFile.FieldType)).before a0 Z = true := hw _ (List.mem_of_getElem? (i := 41) rfl)
theorem own_w42 {Z : State} {a0 : Array Value} (hw : own_Z Z a0) : (Jvm.Cond.methodLink "com/example/farcall/farcall/Endpoint" (1 : Nat) ({ cls := "java/lang/Record", name := "<init>", desc := "()V" } : Jvm.MethodName)).before a0 Z = true := hw _ (List.mem_of_getElem? (i := 42) rfl)
theorem own_w43 {Z : State} {a0 : Array Value} (hw : own_Z Z a0) : (Jvm.Cond.instanceMethod ({ cls := "java/lang/Record", name := "<init>", desc := "()V" } : Jvm.MethodName)).before a0 Z = true := hw _ (List.mem_of_getElem? (i := 43) rfl)
theorem own_w45 {Z : State} {a0 : Array Value} (hw : own_Z Z a0) : (Jvm.Cond.initialized "java/lang/Record").before a0 Z = true := hw _ (List.mem_of_getElem? (i := 45) rfl)
theorem own_w46 {Z : State} {a0 : Array Value} (hw : own_Z Z a0) : (Jvm.Cond.code ({ cls := "java/lang/Record", name := "<init>", desc := "()V" } : Jvm.MethodName) jdk_30_method_1_code (1 : Nat) (Option.none : Option Jvm.ClassFile.FieldType)).before a0 Z = true := hw _ (List.mem_of_getElem? (i := 46) rfl)
theorem own_w47 {Z : State} {a0 : Array Value} (hw : own_Z Z a0) : (Jvm.Cond.methodLink "java/lang/Record" (1 : Nat) ({ cls := "java/lang/Object", name := "<init>", desc := "()V" } : Jvm.MethodName)).before a0 Z = true := hw _ (List.mem_of_getElem? (i := 47) rfl)
theorem own_w48 {Z : State} {a0 : Array Value} (hw : own_Z Z a0) : (Jvm.Cond.stringLink "com/example/farcall/farcall/Endpoint" (7 : Nat) "host").before a0 Z = true := hw _ (List.mem_of_getElem? (i := 48) rfl)
theorem own_w49 {Z : State} {a0 : Array Value} (hw : own_Z Z a0) : (Jvm.Cond.soleField "java/lang/String" "value").before a0 Z = true := hw _ (List.mem_of_getElem? (i := 49) rfl)
theorem own_w50 {Z : State} {a0 : Array Value} (hw : own_Z Z a0) : (Jvm.Cond.soleField "java/lang/String" "coder").before a0 Z = true := hw _ (List.mem_of_getElem? (i := 50) rfl)
theorem own_w51 {Z : State} {a0 : Array Value} (hw : own_Z Z a0) : (Jvm.Cond.methodLink "com/example/farcall/farcall/Endpoint" (9 : Nat) ({ cls := "java/util/Objects", name := "requireNonNull", desc := "(Ljava/lang/Object;Ljava/lang/String;)Ljava/lang/Object;" } : Jvm.MethodName)).before a0 Z = true := hw _ (List.mem_of_getElem? (i := 51) rfl)
theorem own_w52 {Z : State} {a0 : Array Value} (hw : own_Z Z a0) : (Jvm.Cond.static ({ cls := "java/util/Objects", name := "requireNonNull", desc := "(Ljava/lang/Object;Ljava/lang/String;)Ljava/lang/Object;" } : Jvm.MethodName)).before a0 Z = true := hw _ (List.mem_of_getElem? (i := 52) rfl)
theorem own_w53 {Z : State} {a0 : Array Value} (hw : own_Z Z a0) : (Jvm.Cond.initialized "java/util/Objects").before a0 Z = true := hw _ (List.mem_of_getElem? (i := 53) rfl)
theorem own_w54 {Z : State} {a0 : Array Value} (hw : own_Z Z a0) : (Jvm.Cond.code ({ cls := "java/util/Objects", name := "requireNonNull", desc := "(Ljava/lang/Object;Ljava/lang/String;)Ljava/lang/Object;" } : Jvm.MethodName) jdk_31_method_11_code (2 : Nat) (Option.some (Jvm.ClassFile.FieldType.object "java/lang/Object"))).before a0 Z = true := hw _ (List.mem_of_getElem? (i := 54) rfl)
theorem own_w55 {Z : State} {a0 : Array Value} (hw : own_Z Z a0) : (Jvm.Cond.constant "com/example/farcall/farcall/Endpoint" (15 : Nat) (65535 : Int32)).before a0 Z = true := hw _ (List.mem_of_getElem? (i := 55) rfl)
theorem own_w56 {Z : State} {a0 : Array Value} (hw : own_Z Z a0) : (Jvm.Cond.fieldLink "com/example/farcall/farcall/Endpoint" (37 : Nat) "com/example/farcall/farcall/Endpoint" "host" "Ljava/lang/String;").before a0 Z = true := hw _ (List.mem_of_getElem? (i := 56) rfl)
theorem own_w57 {Z : State} {a0 : Array Value} (hw : own_Z Z a0) : (Jvm.Cond.laysFinal "com/example/farcall/farcall/Endpoint" "com/example/farcall/farcall/Endpoint" "host" "Ljava/lang/String;").before a0 Z = true := hw _ (List.mem_of_getElem? (i := 57) rfl)
theorem own_w58 {Z : State} {a0 : Array Value} (hw : own_Z Z a0) : (Jvm.Cond.fieldLink "com/example/farcall/farcall/Endpoint" (42 : Nat) "com/example/farcall/farcall/Endpoint" "port" "I").before a0 Z = true := hw _ (List.mem_of_getElem? (i := 58) rfl)
theorem own_w59 {Z : State} {a0 : Array Value} (hw : own_Z Z a0) : (Jvm.Cond.laysFinal "com/example/farcall/farcall/Endpoint" "com/example/farcall/farcall/Endpoint" "port" "I").before a0 Z = true := hw _ (List.mem_of_getElem? (i := 59) rfl)
theorem own_w60 {Z : State} {a0 : Array Value} (hw : own_Z Z a0) : (Jvm.Cond.methodLink "com/example/farcall/farcall/EndpointToStringPinLaw" (20 : Nat) ({ cls := "com/example/farcall/farcall/Endpoint", name := "toString", desc := "()Ljava/lang/String;" } : Jvm.MethodName)).before a0 Z = true := hw _ (List.mem_of_getElem? (i := 60) rfl)
theorem own_w61 {Z : State} {a0 : Array Value} (hw : own_Z Z a0) : (Jvm.Cond.declares ({ cls := "com/example/farcall/farcall/Endpoint", name := "toString", desc := "()Ljava/lang/String;" } : Jvm.MethodName)).before a0 Z = true := hw _ (List.mem_of_getElem? (i := 61) rfl)
theorem own_w62 {Z : State} {a0 : Array Value} (hw : own_Z Z a0) : (Jvm.Cond.instanceMethod ({ cls := "com/example/farcall/farcall/Endpoint", name := "toString", desc := "()Ljava/lang/String;" } : Jvm.MethodName)).before a0 Z = true := hw _ (List.mem_of_getElem? (i := 62) rfl)
theorem own_w63 {Z : State} {a0 : Array Value} (hw : own_Z Z a0) : (Jvm.Cond.selects "com/example/farcall/farcall/Endpoint" ({ cls := "com/example/farcall/farcall/Endpoint", name := "toString", desc := "()Ljava/lang/String;" } : Jvm.MethodName) ({ cls := "com/example/farcall/farcall/Endpoint", name := "toString", desc := "()Ljava/lang/String;" } : Jvm.MethodName)).before a0 Z = true := hw _ (List.mem_of_getElem? (i := 63) rfl)
theorem own_w64 {Z : State} {a0 : Array Value} (hw : own_Z Z a0) : (Jvm.Cond.code ({ cls := "com/example/farcall/farcall/Endpoint", name := "toString", desc := "()Ljava/lang/String;" } : Jvm.MethodName) prog_16_method_2_code (1 : Nat) (Option.some (Jvm.ClassFile.FieldType.object "java/lang/String"))).before a0 Z = true := hw _ (List.mem_of_getElem? (i := 64) rfl)
theorem own_w65 {Z : State} {a0 : Array Value} (hw : own_Z Z a0) : (Jvm.Cond.classLink "com/example/farcall/farcall/Endpoint" (18 : Nat) "java/lang/StringBuilder").before a0 Z = true := hw _ (List.mem_of_getElem? (i := 65) rfl)
theorem own_w66 {Z : State} {a0 : Array Value} (hw : own_Z Z a0) : (Jvm.Cond.instantiable "java/lang/StringBuilder" (4 : Nat)).before a0 Z = true := hw _ (List.mem_of_getElem? (i := 66) rfl)
theorem own_w67 {Z : State} {a0 : Array Value} (hw : own_Z Z a0) : (Jvm.Cond.initialized "java/lang/StringBuilder").before a0 Z = true := hw _ (List.mem_of_getElem? (i := 67) rfl)
theorem own_w68 {Z : State} {a0 : Array Value} (hw : own_Z Z a0) : (Jvm.Cond.methodLink "com/example/farcall/farcall/Endpoint" (20 : Nat) ({ cls := "java/lang/StringBuilder", name := "<init>", desc := "()V" } : Jvm.MethodName)).before a0 Z = true := hw _ (List.mem_of_getElem? (i := 68) rfl)
theorem own_w69 {Z : State} {a0 : Array Value} (hw : own_Z Z a0) : (Jvm.Cond.instanceMethod ({ cls := "java/lang/StringBuilder", name := "<init>", desc := "()V" } : Jvm.MethodName)).before a0 Z = true := hw _ (List.mem_of_getElem? (i := 69) rfl)
theorem own_w70 {Z : State} {a0 : Array Value} (hw : own_Z Z a0) : (Jvm.Cond.code ({ cls := "java/lang/StringBuilder", name := "<init>", desc := "()V" } : Jvm.MethodName) jdk_67_method_1_code (1 : Nat) (Option.none : Option Jvm.ClassFile.FieldType)).before a0 Z = true := hw _ (List.mem_of_getElem? (i := 70) rfl)
theorem own_w71 {Z : State} {a0 : Array Value} (hw : own_Z Z a0) : (Jvm.Cond.methodLink "java/lang/StringBuilder" (1 : Nat) ({ cls := "java/lang/AbstractStringBuilder", name := "<init>", desc := "(I)V" } : Jvm.MethodName)).before a0 Z = true := hw _ (List.mem_of_getElem? (i := 71) rfl)
theorem own_w72 {Z : State} {a0 : Array Value} (hw : own_Z Z a0) : (Jvm.Cond.instanceMethod ({ cls := "java/lang/AbstractStringBuilder", name := "<init>", desc := "(I)V" } : Jvm.MethodName)).before a0 Z = true := hw _ (List.mem_of_getElem? (i := 72) rfl)
theorem own_w75 {Z : State} {a0 : Array Value} (hw : own_Z Z a0) : (Jvm.Cond.initialized "java/lang/AbstractStringBuilder").before a0 Z = true := hw _ (List.mem_of_getElem? (i := 75) rfl)
theorem own_w76 {Z : State} {a0 : Array Value} (hw : own_Z Z a0) : (Jvm.Cond.code ({ cls := "java/lang/AbstractStringBuilder", name := "<init>", desc := "(I)V" } : Jvm.MethodName) jdk_68_method_2_code (2 : Nat) (Option.none : Option Jvm.ClassFile.FieldType)).before a0 Z = true := hw _ (List.mem_of_getElem? (i := 76) rfl)
theorem own_w77 {Z : State} {a0 : Array Value} (hw : own_Z Z a0) : (Jvm.Cond.methodLink "java/lang/AbstractStringBuilder" (3 : Nat) ({ cls := "java/lang/Object", name := "<init>", desc := "()V" } : Jvm.MethodName)).before a0 Z = true := hw _ (List.mem_of_getElem? (i := 77) rfl)
theorem own_w78 {Z : State} {a0 : Array Value} (hw : own_Z Z a0) : (Jvm.Cond.fieldLink "java/lang/AbstractStringBuilder" (18 : Nat) "java/lang/String" "COMPACT_STRINGS" "Z").before a0 Z = true := hw _ (List.mem_of_getElem? (i := 78) rfl)
theorem own_w79 {Z : State} {a0 : Array Value} (hw : own_Z Z a0) : (Jvm.Cond.fieldLink "java/lang/AbstractStringBuilder" (15 : Nat) "java/lang/AbstractStringBuilder" "value" "[B").before a0 Z = true := hw _ (List.mem_of_getElem? (i := 79) rfl)
theorem own_w80 {Z : State} {a0 : Array Value} (hw : own_Z Z a0) : (Jvm.Cond.lays "java/lang/StringBuilder" "java/lang/AbstractStringBuilder" "value" "[B").before a0 Z = true := hw _ (List.mem_of_getElem? (i := 80) rfl)
theorem own_w81 {Z : State} {a0 : Array Value} (hw : own_Z Z a0) : (Jvm.Cond.fieldLink "java/lang/AbstractStringBuilder" (22 : Nat) "java/lang/AbstractStringBuilder" "coder" "B").before a0 Z = true := hw _ (List.mem_of_getElem? (i := 81) rfl)
theorem own_w82 {Z : State} {a0 : Array Value} (hw : own_Z Z a0) : (Jvm.Cond.lays "java/lang/StringBuilder" "java/lang/AbstractStringBuilder" "coder" "B").before a0 Z = true := hw _ (List.mem_of_getElem? (i := 82) rfl)
theorem own_w83 {Z : State} {a0 : Array Value} (hw : own_Z Z a0) : (Jvm.Cond.methodLink "com/example/farcall/farcall/Endpoint" (23 : Nat) ({ cls := "java/lang/StringBuilder", name := "append", desc := "(Ljava/lang/String;)Ljava/lang/StringBuilder;" } : Jvm.MethodName)).before a0 Z = true := hw _ (List.mem_of_getElem? (i := 83) rfl)
theorem own_w84 {Z : State} {a0 : Array Value} (hw : own_Z Z a0) : (Jvm.Cond.declares ({ cls := "java/lang/StringBuilder", name := "append", desc := "(Ljava/lang/String;)Ljava/lang/StringBuilder;" } : Jvm.MethodName)).before a0 Z = true := hw _ (List.mem_of_getElem? (i := 84) rfl)
theorem own_w85 {Z : State} {a0 : Array Value} (hw : own_Z Z a0) : (Jvm.Cond.instanceMethod ({ cls := "java/lang/StringBuilder", name := "append", desc := "(Ljava/lang/String;)Ljava/lang/StringBuilder;" } : Jvm.MethodName)).before a0 Z = true := hw _ (List.mem_of_getElem? (i := 85) rfl)
theorem own_w86 {Z : State} {a0 : Array Value} (hw : own_Z Z a0) : (Jvm.Cond.selects "java/lang/StringBuilder" ({ cls := "java/lang/StringBuilder", name := "append", desc := "(Ljava/lang/String;)Ljava/lang/StringBuilder;" } : Jvm.MethodName) ({ cls := "java/lang/StringBuilder", name := "append", desc := "(Ljava/lang/String;)Ljava/lang/StringBuilder;" } : Jvm.MethodName)).before a0 Z = true := hw _ (List.mem_of_getElem? (i := 86) rfl)
theorem own_w87 {Z : State} {a0 : Array Value} (hw : own_Z Z a0) : (Jvm.Cond.code ({ cls := "java/lang/StringBuilder", name := "append", desc := "(Ljava/lang/String;)Ljava/lang/StringBuilder;" } : Jvm.MethodName) jdk_67_method_7_code (2 : Nat) (Option.some (Jvm.ClassFile.FieldType.object "java/lang/StringBuilder"))).before a0 Z = true := hw _ (List.mem_of_getElem? (i := 87) rfl)
theorem own_w88 {Z : State} {a0 : Array Value} (hw : own_Z Z a0) : (Jvm.Cond.methodLink "java/lang/StringBuilder" (29 : Nat) ({ cls := "java/lang/AbstractStringBuilder", name := "append", desc := "(Ljava/lang/String;)Ljava/lang/AbstractStringBuilder;" } : Jvm.MethodName)).before a0 Z = true := hw _ (List.mem_of_getElem? (i := 88) rfl)
theorem own_w89 {Z : State} {a0 : Array Value} (hw : own_Z Z a0) : (Jvm.Cond.instanceMethod ({ cls := "java/lang/AbstractStringBuilder", name := "append", desc := "(Ljava/lang/String;)Ljava/lang/AbstractStringBuilder;" } : Jvm.MethodName)).before a0 Z = true := hw _ (List.mem_of_getElem? (i := 89) rfl)
theorem own_w90 {Z : State} {a0 : Array Value} (hw : own_Z Z a0) : (Jvm.Cond.superclass "java/lang/StringBuilder" "java/lang/AbstractStringBuilder").before a0 Z = true := hw _ (List.mem_of_getElem? (i := 90) rfl)
theorem own_w92 {Z : State} {a0 : Array Value} (hw : own_Z Z a0) : (Jvm.Cond.code ({ cls := "java/lang/AbstractStringBuilder", name := "append", desc := "(Ljava/lang/String;)Ljava/lang/AbstractStringBuilder;" } : Jvm.MethodName) jdk_68_method_22_code (3 : Nat) (Option.some (Jvm.ClassFile.FieldType.object "java/lang/AbstractStringBuilder"))).before a0 Z = true := hw _ (List.mem_of_getElem? (i := 92) rfl)
theorem own_w93 {Z : State} {a0 : Array Value} (hw : own_Z Z a0) : (Jvm.Cond.methodLink "java/lang/AbstractStringBuilder" (32 : Nat) ({ cls := "java/lang/String", name := "length", desc := "()I" } : Jvm.MethodName)).before a0 Z = true := hw _ (List.mem_of_getElem? (i := 93) rfl)
theorem own_w94 {Z : State} {a0 : Array Value} (hw : own_Z Z a0) : (Jvm.Cond.declares ({ cls := "java/lang/String", name := "length", desc := "()I" } : Jvm.MethodName)).before a0 Z = true := hw _ (List.mem_of_getElem? (i := 94) rfl)
theorem own_w95 {Z : State} {a0 : Array Value} (hw : own_Z Z a0) : (Jvm.Cond.instanceMethod ({ cls := "java/lang/String", name := "length", desc := "()I" } : Jvm.MethodName)).before a0 Z = true := hw _ (List.mem_of_getElem? (i := 95) rfl)
theorem own_w96 {Z : State} {a0 : Array Value} (hw : own_Z Z a0) : (Jvm.Cond.selects "java/lang/String" ({ cls := "java/lang/String", name := "length", desc := "()I" } : Jvm.MethodName) ({ cls := "java/lang/String", name := "length", desc := "()I" } : Jvm.MethodName)).before a0 Z = true := hw _ (List.mem_of_getElem? (i := 96) rfl)
theorem own_w97 {Z : State} {a0 : Array Value} (hw : own_Z Z a0) : (Jvm.Cond.code ({ cls := "java/lang/String", name := "length", desc := "()I" } : Jvm.MethodName) jdk_42_method_54_code (1 : Nat) (Option.some Jvm.ClassFile.FieldType.int)).before a0 Z = true := hw _ (List.mem_of_getElem? (i := 97) rfl)
theorem own_w98 {Z : State} {a0 : Array Value} (hw : own_Z Z a0) : (Jvm.Cond.methodLink "java/lang/String" (335 : Nat) ({ cls := "java/lang/String", name := "coder", desc := "()B" } : Jvm.MethodName)).before a0 Z = true := hw _ (List.mem_of_getElem? (i := 98) rfl)
theorem own_w99 {Z : State} {a0 : Array Value} (hw : own_Z Z a0) : (Jvm.Cond.declares ({ cls := "java/lang/String", name := "coder", desc := "()B" } : Jvm.MethodName)).before a0 Z = true := hw _ (List.mem_of_getElem? (i := 99) rfl)
theorem own_w100 {Z : State} {a0 : Array Value} (hw : own_Z Z a0) : (Jvm.Cond.instanceMethod ({ cls := "java/lang/String", name := "coder", desc := "()B" } : Jvm.MethodName)).before a0 Z = true := hw _ (List.mem_of_getElem? (i := 100) rfl)
theorem own_w101 {Z : State} {a0 : Array Value} (hw : own_Z Z a0) : (Jvm.Cond.selects "java/lang/String" ({ cls := "java/lang/String", name := "coder", desc := "()B" } : Jvm.MethodName) ({ cls := "java/lang/String", name := "coder", desc := "()B" } : Jvm.MethodName)).before a0 Z = true := hw _ (List.mem_of_getElem? (i := 101) rfl)
theorem own_w102 {Z : State} {a0 : Array Value} (hw : own_Z Z a0) : (Jvm.Cond.code ({ cls := "java/lang/String", name := "coder", desc := "()B" } : Jvm.MethodName) jdk_42_method_152_code (1 : Nat) (Option.some Jvm.ClassFile.FieldType.byte)).before a0 Z = true := hw _ (List.mem_of_getElem? (i := 102) rfl)
theorem own_w103 {Z : State} {a0 : Array Value} (hw : own_Z Z a0) : (Jvm.Cond.fieldLink "java/lang/AbstractStringBuilder" (79 : Nat) "java/lang/AbstractStringBuilder" "count" "I").before a0 Z = true := hw _ (List.mem_of_getElem? (i := 103) rfl)
theorem own_w104 {Z : State} {a0 : Array Value} (hw : own_Z Z a0) : (Jvm.Cond.lays "java/lang/StringBuilder" "java/lang/AbstractStringBuilder" "count" "I").before a0 Z = true := hw _ (List.mem_of_getElem? (i := 104) rfl)
theorem own_w105 {Z : State} {a0 : Array Value} (hw : own_Z Z a0) : (Jvm.Cond.methodLink "java/lang/AbstractStringBuilder" (100 : Nat) ({ cls := "java/lang/AbstractStringBuilder", name := "ensureCapacityInternal", desc := "(I)V" } : Jvm.MethodName)).before a0 Z = true := hw _ (List.mem_of_getElem? (i := 105) rfl)
theorem own_w106 {Z : State} {a0 : Array Value} (hw : own_Z Z a0) : (Jvm.Cond.instanceMethod ({ cls := "java/lang/AbstractStringBuilder", name := "ensureCapacityInternal", desc := "(I)V" } : Jvm.MethodName)).before a0 Z = true := hw _ (List.mem_of_getElem? (i := 106) rfl)
theorem own_w107 {Z : State} {a0 : Array Value} (hw : own_Z Z a0) : (Jvm.Cond.privateMethod ({ cls := "java/lang/AbstractStringBuilder", name := "ensureCapacityInternal", desc := "(I)V" } : Jvm.MethodName)).before a0 Z = true := hw _ (List.mem_of_getElem? (i := 107) rfl)
theorem own_w108 {Z : State} {a0 : Array Value} (hw : own_Z Z a0) : (Jvm.Cond.selects "java/lang/StringBuilder" ({ cls := "java/lang/AbstractStringBuilder", name := "ensureCapacityInternal", desc := "(I)V" } : Jvm.MethodName) ({ cls := "java/lang/AbstractStringBuilder", name := "ensureCapacityInternal", desc := "(I)V" } : Jvm.MethodName)).before a0 Z = true := hw _ (List.mem_of_getElem? (i := 108) rfl)
theorem own_w109 {Z : State} {a0 : Array Value} (hw : own_Z Z a0) : (Jvm.Cond.code ({ cls := "java/lang/AbstractStringBuilder", name := "ensureCapacityInternal", desc := "(I)V" } : Jvm.MethodName) jdk_68_method_9_code (3 : Nat) (Option.none : Option Jvm.ClassFile.FieldType)).before a0 Z = true := hw _ (List.mem_of_getElem? (i := 109) rfl)
theorem own_w110 {Z : State} {a0 : Array Value} (hw : own_Z Z a0) : (Jvm.Cond.methodLink "java/lang/AbstractStringBuilder" (208 : Nat) ({ cls := "java/lang/AbstractStringBuilder", name := "putStringAt", desc := "(ILjava/lang/String;)V" } : Jvm.MethodName)).before a0 Z = true := hw _ (List.mem_of_getElem? (i := 110) rfl)
theorem own_w111 {Z : State} {a0 : Array Value} (hw : own_Z Z a0) : (Jvm.Cond.instanceMethod ({ cls := "java/lang/AbstractStringBuilder", name := "putStringAt", desc := "(ILjava/lang/String;)V" } : Jvm.MethodName)).before a0 Z = true := hw _ (List.mem_of_getElem? (i := 111) rfl)
theorem own_w112 {Z : State} {a0 : Array Value} (hw : own_Z Z a0) : (Jvm.Cond.privateMethod ({ cls := "java/lang/AbstractStringBuilder", name := "putStringAt", desc := "(ILjava/lang/String;)V" } : Jvm.MethodName)).before a0 Z = true := hw _ (List.mem_of_getElem? (i := 112) rfl)
theorem own_w113 {Z : State} {a0 : Array Value} (hw : own_Z Z a0) : (Jvm.Cond.selects "java/lang/StringBuilder" ({ cls := "java/lang/AbstractStringBuilder", name := "putStringAt", desc := "(ILjava/lang/String;)V" } : Jvm.MethodName) ({ cls := "java/lang/AbstractStringBuilder", name := "putStringAt", desc := "(ILjava/lang/String;)V" } : Jvm.MethodName)).before a0 Z = true := hw _ (List.mem_of_getElem? (i := 113) rfl)
theorem own_w114 {Z : State} {a0 : Array Value} (hw : own_Z Z a0) : (Jvm.Cond.code ({ cls := "java/lang/AbstractStringBuilder", name := "putStringAt", desc := "(ILjava/lang/String;)V" } : Jvm.MethodName) jdk_68_method_73_code (3 : Nat) (Option.none : Option Jvm.ClassFile.FieldType)).before a0 Z = true := hw _ (List.mem_of_getElem? (i := 114) rfl)
theorem own_w115 {Z : State} {a0 : Array Value} (hw : own_Z Z a0) : (Jvm.Cond.methodLink "java/lang/AbstractStringBuilder" (397 : Nat) ({ cls := "java/lang/AbstractStringBuilder", name := "inflateIfNeededFor", desc := "(Ljava/lang/String;)V" } : Jvm.MethodName)).before a0 Z = true := hw _ (List.mem_of_getElem? (i := 115) rfl)
theorem own_w116 {Z : State} {a0 : Array Value} (hw : own_Z Z a0) : (Jvm.Cond.instanceMethod ({ cls := "java/lang/AbstractStringBuilder", name := "inflateIfNeededFor", desc := "(Ljava/lang/String;)V" } : Jvm.MethodName)).before a0 Z = true := hw _ (List.mem_of_getElem? (i := 116) rfl)
theorem own_w117 {Z : State} {a0 : Array Value} (hw : own_Z Z a0) : (Jvm.Cond.privateMethod ({ cls := "java/lang/AbstractStringBuilder", name := "inflateIfNeededFor", desc := "(Ljava/lang/String;)V" } : Jvm.MethodName)).before a0 Z = true := hw _ (List.mem_of_getElem? (i := 117) rfl)
theorem own_w118 {Z : State} {a0 : Array Value} (hw : own_Z Z a0) : (Jvm.Cond.selects "java/lang/StringBuilder" ({ cls := "java/lang/AbstractStringBuilder", name := "inflateIfNeededFor", desc := "(Ljava/lang/String;)V" } : Jvm.MethodName) ({ cls := "java/lang/AbstractStringBuilder", name := "inflateIfNeededFor", desc := "(Ljava/lang/String;)V" } : Jvm.MethodName)).before a0 Z = true := hw _ (List.mem_of_getElem? (i := 118) rfl)
theorem own_w119 {Z : State} {a0 : Array Value} (hw : own_Z Z a0) : (Jvm.Cond.code ({ cls := "java/lang/AbstractStringBuilder", name := "inflateIfNeededFor", desc := "(Ljava/lang/String;)V" } : Jvm.MethodName) jdk_68_method_71_code (2 : Nat) (Option.none : Option Jvm.ClassFile.FieldType)).before a0 Z = true := hw _ (List.mem_of_getElem? (i := 119) rfl)
theorem own_w120 {Z : State} {a0 : Array Value} (hw : own_Z Z a0) : (Jvm.Cond.methodLink "java/lang/AbstractStringBuilder" (40 : Nat) ({ cls := "java/lang/String", name := "coder", desc := "()B" } : Jvm.MethodName)).before a0 Z = true := hw _ (List.mem_of_getElem? (i := 120) rfl)
theorem own_w121 {Z : State} {a0 : Array Value} (hw : own_Z Z a0) : (Jvm.Cond.methodLink "java/lang/AbstractStringBuilder" (399 : Nat) ({ cls := "java/lang/String", name := "getBytes", desc := "([BIB)V" } : Jvm.MethodName)).before a0 Z = true := hw _ (List.mem_of_getElem? (i := 121) rfl)
theorem own_w122 {Z : State} {a0 : Array Value} (hw : own_Z Z a0) : (Jvm.Cond.declares ({ cls := "java/lang/String", name := "getBytes", desc := "([BIB)V" } : Jvm.MethodName)).before a0 Z = true := hw _ (List.mem_of_getElem? (i := 122) rfl)
theorem own_w123 {Z : State} {a0 : Array Value} (hw : own_Z Z a0) : (Jvm.Cond.instanceMethod ({ cls := "java/lang/String", name := "getBytes", desc := "([BIB)V" } : Jvm.MethodName)).before a0 Z = true := hw _ (List.mem_of_getElem? (i := 123) rfl)
theorem own_w124 {Z : State} {a0 : Array Value} (hw : own_Z Z a0) : (Jvm.Cond.selects "java/lang/String" ({ cls := "java/lang/String", name := "getBytes", desc := "([BIB)V" } : Jvm.MethodName) ({ cls := "java/lang/String", name := "getBytes", desc := "([BIB)V" } : Jvm.MethodName)).before a0 Z = true := hw _ (List.mem_of_getElem? (i := 124) rfl)
theorem own_w125 {Z : State} {a0 : Array Value} (hw : own_Z Z a0) : (Jvm.Cond.code ({ cls := "java/lang/String", name := "getBytes", desc := "([BIB)V" } : Jvm.MethodName) jdk_42_method_147_code (4 : Nat) (Option.none : Option Jvm.ClassFile.FieldType)).before a0 Z = true := hw _ (List.mem_of_getElem? (i := 125) rfl)
theorem own_w126 {Z : State} {a0 : Array Value} (hw : own_Z Z a0) : (Jvm.Cond.methodLink "java/lang/String" (212 : Nat) ({ cls := "java/lang/System", name := "arraycopy", desc := "(Ljava/lang/Object;ILjava/lang/Object;II)V" } : Jvm.MethodName)).before a0 Z = true := hw _ (List.mem_of_getElem? (i := 126) rfl)
theorem own_w127 {Z : State} {a0 : Array Value} (hw : own_Z Z a0) : (Jvm.Cond.static ({ cls := "java/lang/System", name := "arraycopy", desc := "(Ljava/lang/Object;ILjava/lang/Object;II)V" } : Jvm.MethodName)).before a0 Z = true := hw _ (List.mem_of_getElem? (i := 127) rfl)
theorem own_w128 {Z : State} {a0 : Array Value} (hw : own_Z Z a0) : (Jvm.Cond.initialized "java/lang/System").before a0 Z = true := hw _ (List.mem_of_getElem? (i := 128) rfl)
theorem own_w129 {Z : State} {a0 : Array Value} (hw : own_Z Z a0) : (Jvm.Cond.native ({ cls := "java/lang/System", name := "arraycopy", desc := "(Ljava/lang/Object;ILjava/lang/Object;II)V" } : Jvm.MethodName)).before a0 Z = true := hw _ (List.mem_of_getElem? (i := 129) rfl)
theorem own_w130 {Z : State} {a0 : Array Value} (hw : own_Z Z a0) : (Jvm.Cond.stringLink "com/example/farcall/farcall/Endpoint" (46 : Nat) ":").before a0 Z = true := hw _ (List.mem_of_getElem? (i := 130) rfl)
theorem own_w131 {Z : State} {a0 : Array Value} (hw : own_Z Z a0) : (Jvm.Cond.methodLink "com/example/farcall/farcall/Endpoint" (27 : Nat) ({ cls := "java/lang/StringBuilder", name := "append", desc := "(I)Ljava/lang/StringBuilder;" } : Jvm.MethodName)).before a0 Z = true := hw _ (List.mem_of_getElem? (i := 131) rfl)
theorem own_w132 {Z : State} {a0 : Array Value} (hw : own_Z Z a0) : (Jvm.Cond.declares ({ cls := "java/lang/StringBuilder", name := "append", desc := "(I)Ljava/lang/StringBuilder;" } : Jvm.MethodName)).before a0 Z = true := hw _ (List.mem_of_getElem? (i := 132) rfl)
theorem own_w133 {Z : State} {a0 : Array Value} (hw : own_Z Z a0) : (Jvm.Cond.instanceMethod ({ cls := "java/lang/StringBuilder", name := "append", desc := "(I)Ljava/lang/StringBuilder;" } : Jvm.MethodName)).before a0 Z = true := hw _ (List.mem_of_getElem? (i := 133) rfl)
theorem own_w134 {Z : State} {a0 : Array Value} (hw : own_Z Z a0) : (Jvm.Cond.selects "java/lang/StringBuilder" ({ cls := "java/lang/StringBuilder", name := "append", desc := "(I)Ljava/lang/StringBuilder;" } : Jvm.MethodName) ({ cls := "java/lang/StringBuilder", name := "append", desc := "(I)Ljava/lang/StringBuilder;" } : Jvm.MethodName)).before a0 Z = true := hw _ (List.mem_of_getElem? (i := 134) rfl)
theorem own_w135 {Z : State} {a0 : Array Value} (hw : own_Z Z a0) : (Jvm.Cond.code ({ cls := "java/lang/StringBuilder", name := "append", desc := "(I)Ljava/lang/StringBuilder;" } : Jvm.MethodName) jdk_67_method_15_code (2 : Nat) (Option.some (Jvm.ClassFile.FieldType.object "java/lang/StringBuilder"))).before a0 Z = true := hw _ (List.mem_of_getElem? (i := 135) rfl)
theorem own_w136 {Z : State} {a0 : Array Value} (hw : own_Z Z a0) : (Jvm.Cond.methodLink "java/lang/StringBuilder" (53 : Nat) ({ cls := "java/lang/AbstractStringBuilder", name := "append", desc := "(I)Ljava/lang/AbstractStringBuilder;" } : Jvm.MethodName)).before a0 Z = true := hw _ (List.mem_of_getElem? (i := 136) rfl)
theorem own_w137 {Z : State} {a0 : Array Value} (hw : own_Z Z a0) : (Jvm.Cond.instanceMethod ({ cls := "java/lang/AbstractStringBuilder", name := "append", desc := "(I)Ljava/lang/AbstractStringBuilder;" } : Jvm.MethodName)).before a0 Z = true := hw _ (List.mem_of_getElem? (i := 137) rfl)
theorem own_w139 {Z : State} {a0 : Array Value} (hw : own_Z Z a0) : (Jvm.Cond.code ({ cls := "java/lang/AbstractStringBuilder", name := "append", desc := "(I)Ljava/lang/AbstractStringBuilder;" } : Jvm.MethodName) jdk_68_method_32_code (4 : Nat) (Option.some (Jvm.ClassFile.FieldType.object "java/lang/AbstractStringBuilder"))).before a0 Z = true := hw _ (List.mem_of_getElem? (i := 139) rfl)
theorem own_w140 {Z : State} {a0 : Array Value} (hw : own_Z Z a0) : (Jvm.Cond.methodLink "java/lang/AbstractStringBuilder" (245 : Nat) ({ cls := "java/lang/Integer", name := "stringSize", desc := "(I)I" } : Jvm.MethodName)).before a0 Z = true := hw _ (List.mem_of_getElem? (i := 140) rfl)
theorem own_w141 {Z : State} {a0 : Array Value} (hw : own_Z Z a0) : (Jvm.Cond.static ({ cls := "java/lang/Integer", name := "stringSize", desc := "(I)I" } : Jvm.MethodName)).before a0 Z = true := hw _ (List.mem_of_getElem? (i := 141) rfl)
theorem own_w142 {Z : State} {a0 : Array Value} (hw : own_Z Z a0) : (Jvm.Cond.initialized "java/lang/Integer").before a0 Z = true := hw _ (List.mem_of_getElem? (i := 142) rfl)
theorem own_w143 {Z : State} {a0 : Array Value} (hw : own_Z Z a0) : (Jvm.Cond.code ({ cls := "java/lang/Integer", name := "stringSize", desc := "(I)I" } : Jvm.MethodName) jdk_33_method_13_code (4 : Nat) (Option.some Jvm.ClassFile.FieldType.int)).before a0 Z = true := hw _ (List.mem_of_getElem? (i := 143) rfl)
theorem own_w144 {Z : State} {a0 : Array Value} (hw : own_Z Z a0) : (Jvm.Cond.methodLink "java/lang/AbstractStringBuilder" (83 : Nat) ({ cls := "java/lang/AbstractStringBuilder", name := "isLatin1", desc := "()Z" } : Jvm.MethodName)).before a0 Z = true := hw _ (List.mem_of_getElem? (i := 144) rfl)
theorem own_w145 {Z : State} {a0 : Array Value} (hw : own_Z Z a0) : (Jvm.Cond.declares ({ cls := "java/lang/AbstractStringBuilder", name := "isLatin1", desc := "()Z" } : Jvm.MethodName)).before a0 Z = true := hw _ (List.mem_of_getElem? (i := 145) rfl)
theorem own_w146 {Z : State} {a0 : Array Value} (hw : own_Z Z a0) : (Jvm.Cond.instanceMethod ({ cls := "java/lang/AbstractStringBuilder", name := "isLatin1", desc := "()Z" } : Jvm.MethodName)).before a0 Z = true := hw _ (List.mem_of_getElem? (i := 146) rfl)
theorem own_w147 {Z : State} {a0 : Array Value} (hw : own_Z Z a0) : (Jvm.Cond.selects "java/lang/StringBuilder" ({ cls := "java/lang/AbstractStringBuilder", name := "isLatin1", desc := "()Z" } : Jvm.MethodName) ({ cls := "java/lang/AbstractStringBuilder", name := "isLatin1", desc := "()Z" } : Jvm.MethodName)).before a0 Z = true := hw _ (List.mem_of_getElem? (i := 147) rfl)
theorem own_w148 {Z : State} {a0 : Array Value} (hw : own_Z Z a0) : (Jvm.Cond.code ({ cls := "java/lang/AbstractStringBuilder", name := "isLatin1", desc := "()Z" } : Jvm.MethodName) jdk_68_method_68_code (1 : Nat) (Option.some Jvm.ClassFile.FieldType.boolean)).before a0 Z = true := hw _ (List.mem_of_getElem? (i := 148) rfl)
theorem own_w149 {Z : State} {a0 : Array Value} (hw : own_Z Z a0) : (Jvm.Cond.methodLink "java/lang/AbstractStringBuilder" (248 : Nat) ({ cls := "java/lang/Integer", name := "getChars", desc := "(II[B)I" } : Jvm.MethodName)).before a0 Z = true := hw _ (List.mem_of_getElem? (i := 149) rfl)
theorem own_w150 {Z : State} {a0 : Array Value} (hw : own_Z Z a0) : (Jvm.Cond.static ({ cls := "java/lang/Integer", name := "getChars", desc := "(II[B)I" } : Jvm.MethodName)).before a0 Z = true := hw _ (List.mem_of_getElem? (i := 150) rfl)
theorem own_w151 {Z : State} {a0 : Array Value} (hw : own_Z Z a0) : (Jvm.Cond.code ({ cls := "java/lang/Integer", name := "getChars", desc := "(II[B)I" } : Jvm.MethodName) jdk_33_method_12_code (7 : Nat) (Option.some Jvm.ClassFile.FieldType.int)).before a0 Z = true := hw _ (List.mem_of_getElem? (i := 151) rfl)
theorem own_w152 {Z : State} {a0 : Array Value} (hw : own_Z Z a0) : (Jvm.Cond.fieldLink "java/lang/Integer" (83 : Nat) "java/lang/Integer" "DigitOnes" "[B").before a0 Z = true := hw _ (List.mem_of_getElem? (i := 152) rfl)
theorem own_w153 {Z : State} {a0 : Array Value} (hw : own_Z Z a0) : (Jvm.Cond.methodLink "com/example/farcall/farcall/Endpoint" (30 : Nat) ({ cls := "java/lang/StringBuilder", name := "toString", desc := "()Ljava/lang/String;" } : Jvm.MethodName)).before a0 Z = true := hw _ (List.mem_of_getElem? (i := 153) rfl)
theorem own_w154 {Z : State} {a0 : Array Value} (hw : own_Z Z a0) : (Jvm.Cond.declares ({ cls := "java/lang/StringBuilder", name := "toString", desc := "()Ljava/lang/String;" } : Jvm.MethodName)).before a0 Z = true := hw _ (List.mem_of_getElem? (i := 154) rfl)
theorem own_w155 {Z : State} {a0 : Array Value} (hw : own_Z Z a0) : (Jvm.Cond.instanceMethod ({ cls := "java/lang/StringBuilder", name := "toString", desc := "()Ljava/lang/String;" } : Jvm.MethodName)).before a0 Z = true := hw _ (List.mem_of_getElem? (i := 155) rfl)
theorem own_w156 {Z : State} {a0 : Array Value} (hw : own_Z Z a0) : (Jvm.Cond.selects "java/lang/StringBuilder" ({ cls := "java/lang/StringBuilder", name := "toString", desc := "()Ljava/lang/String;" } : Jvm.MethodName) ({ cls := "java/lang/StringBuilder", name := "toString", desc := "()Ljava/lang/String;" } : Jvm.MethodName)).before a0 Z = true := hw _ (List.mem_of_getElem? (i := 156) rfl)
theorem own_w157 {Z : State} {a0 : Array Value} (hw : own_Z Z a0) : (Jvm.Cond.code ({ cls := "java/lang/StringBuilder", name := "toString", desc := "()Ljava/lang/String;" } : Jvm.MethodName) jdk_67_method_42_code (1 : Nat) (Option.some (Jvm.ClassFile.FieldType.object "java/lang/String"))).before a0 Z = true := hw _ (List.mem_of_getElem? (i := 157) rfl)
theorem own_w158 {Z : State} {a0 : Array Value} (hw : own_Z Z a0) : (Jvm.Cond.classLink "java/lang/StringBuilder" (18 : Nat) "java/lang/String").before a0 Z = true := hw _ (List.mem_of_getElem? (i := 158) rfl)
theorem own_w159 {Z : State} {a0 : Array Value} (hw : own_Z Z a0) : (Jvm.Cond.methodLink "java/lang/StringBuilder" (137 : Nat) ({ cls := "java/lang/String", name := "<init>", desc := "(Ljava/lang/StringBuilder;)V" } : Jvm.MethodName)).before a0 Z = true := hw _ (List.mem_of_getElem? (i := 159) rfl)
theorem own_w160 {Z : State} {a0 : Array Value} (hw : own_Z Z a0) : (Jvm.Cond.instanceMethod ({ cls := "java/lang/String", name := "<init>", desc := "(Ljava/lang/StringBuilder;)V" } : Jvm.MethodName)).before a0 Z = true := hw _ (List.mem_of_getElem? (i := 160) rfl)
theorem own_w161 {Z : State} {a0 : Array Value} (hw : own_Z Z a0) : (Jvm.Cond.code ({ cls := "java/lang/String", name := "<init>", desc := "(Ljava/lang/StringBuilder;)V" } : Jvm.MethodName) jdk_42_method_53_code (2 : Nat) (Option.none : Option Jvm.ClassFile.FieldType)).before a0 Z = true := hw _ (List.mem_of_getElem? (i := 161) rfl)
theorem own_w162 {Z : State} {a0 : Array Value} (hw : own_Z Z a0) : (Jvm.Cond.methodLink "java/lang/String" (489 : Nat) ({ cls := "java/lang/String", name := "<init>", desc := "(Ljava/lang/AbstractStringBuilder;Ljava/lang/Void;)V" } : Jvm.MethodName)).before a0 Z = true := hw _ (List.mem_of_getElem? (i := 162) rfl)
theorem own_w163 {Z : State} {a0 : Array Value} (hw : own_Z Z a0) : (Jvm.Cond.instanceMethod ({ cls := "java/lang/String", name := "<init>", desc := "(Ljava/lang/AbstractStringBuilder;Ljava/lang/Void;)V" } : Jvm.MethodName)).before a0 Z = true := hw _ (List.mem_of_getElem? (i := 163) rfl)
theorem own_w164 {Z : State} {a0 : Array Value} (hw : own_Z Z a0) : (Jvm.Cond.code ({ cls := "java/lang/String", name := "<init>", desc := "(Ljava/lang/AbstractStringBuilder;Ljava/lang/Void;)V" } : Jvm.MethodName) jdk_42_method_150_code (5 : Nat) (Option.none : Option Jvm.ClassFile.FieldType)).before a0 Z = true := hw _ (List.mem_of_getElem? (i := 164) rfl)
theorem own_w165 {Z : State} {a0 : Array Value} (hw : own_Z Z a0) : (Jvm.Cond.methodLink "java/lang/String" (552 : Nat) ({ cls := "java/lang/AbstractStringBuilder", name := "getValue", desc := "()[B" } : Jvm.MethodName)).before a0 Z = true := hw _ (List.mem_of_getElem? (i := 165) rfl)
theorem own_w166 {Z : State} {a0 : Array Value} (hw : own_Z Z a0) : (Jvm.Cond.declares ({ cls := "java/lang/AbstractStringBuilder", name := "getValue", desc := "()[B" } : Jvm.MethodName)).before a0 Z = true := hw _ (List.mem_of_getElem? (i := 166) rfl)
theorem own_w167 {Z : State} {a0 : Array Value} (hw : own_Z Z a0) : (Jvm.Cond.instanceMethod ({ cls := "java/lang/AbstractStringBuilder", name := "getValue", desc := "()[B" } : Jvm.MethodName)).before a0 Z = true := hw _ (List.mem_of_getElem? (i := 167) rfl)
theorem own_w168 {Z : State} {a0 : Array Value} (hw : own_Z Z a0) : (Jvm.Cond.selects "java/lang/StringBuilder" ({ cls := "java/lang/AbstractStringBuilder", name := "getValue", desc := "()[B" } : Jvm.MethodName) ({ cls := "java/lang/AbstractStringBuilder", name := "getValue", desc := "()[B" } : Jvm.MethodName)).before a0 Z = true := hw _ (List.mem_of_getElem? (i := 168) rfl)
theorem own_w169 {Z : State} {a0 : Array Value} (hw : own_Z Z a0) : (Jvm.Cond.code ({ cls := "java/lang/AbstractStringBuilder", name := "getValue", desc := "()[B" } : Jvm.MethodName) jdk_68_method_64_code (1 : Nat) (Option.some (Jvm.ClassFile.FieldType.array Jvm.ClassFile.FieldType.byte))).before a0 Z = true := hw _ (List.mem_of_getElem? (i := 169) rfl)
theorem own_w170 {Z : State} {a0 : Array Value} (hw : own_Z Z a0) : (Jvm.Cond.methodLink "java/lang/String" (549 : Nat) ({ cls := "java/lang/AbstractStringBuilder", name := "length", desc := "()I" } : Jvm.MethodName)).before a0 Z = true := hw _ (List.mem_of_getElem? (i := 170) rfl)
theorem own_w171 {Z : State} {a0 : Array Value} (hw : own_Z Z a0) : (Jvm.Cond.declares ({ cls := "java/lang/AbstractStringBuilder", name := "length", desc := "()I" } : Jvm.MethodName)).before a0 Z = true := hw _ (List.mem_of_getElem? (i := 171) rfl)
theorem own_w172 {Z : State} {a0 : Array Value} (hw : own_Z Z a0) : (Jvm.Cond.instanceMethod ({ cls := "java/lang/AbstractStringBuilder", name := "length", desc := "()I" } : Jvm.MethodName)).before a0 Z = true := hw _ (List.mem_of_getElem? (i := 172) rfl)
theorem own_w173 {Z : State} {a0 : Array Value} (hw : own_Z Z a0) : (Jvm.Cond.selects "java/lang/StringBuilder" ({ cls := "java/lang/AbstractStringBuilder", name := "length", desc := "()I" } : Jvm.MethodName) ({ cls := "java/lang/StringBuilder", name := "length", desc := "()I" } : Jvm.MethodName)).before a0 Z = true := hw _ (List.mem_of_getElem? (i := 173) rfl)
theorem own_w174 {Z : State} {a0 : Array Value} (hw : own_Z Z a0) : (Jvm.Cond.instanceMethod ({ cls := "java/lang/StringBuilder", name := "length", desc := "()I" } : Jvm.MethodName)).before a0 Z = true := hw _ (List.mem_of_getElem? (i := 174) rfl)
theorem own_w175 {Z : State} {a0 : Array Value} (hw : own_Z Z a0) : (Jvm.Cond.code ({ cls := "java/lang/StringBuilder", name := "length", desc := "()I" } : Jvm.MethodName) jdk_67_method_93_code (1 : Nat) (Option.some Jvm.ClassFile.FieldType.int)).before a0 Z = true := hw _ (List.mem_of_getElem? (i := 175) rfl)
theorem own_w176 {Z : State} {a0 : Array Value} (hw : own_Z Z a0) : (Jvm.Cond.methodLink "java/lang/StringBuilder" (343 : Nat) ({ cls := "java/lang/AbstractStringBuilder", name := "length", desc := "()I" } : Jvm.MethodName)).before a0 Z = true := hw _ (List.mem_of_getElem? (i := 176) rfl)
theorem own_w177 {Z : State} {a0 : Array Value} (hw : own_Z Z a0) : (Jvm.Cond.code ({ cls := "java/lang/AbstractStringBuilder", name := "length", desc := "()I" } : Jvm.MethodName) jdk_68_method_6_code (1 : Nat) (Option.some Jvm.ClassFile.FieldType.int)).before a0 Z = true := hw _ (List.mem_of_getElem? (i := 177) rfl)
theorem own_w178 {Z : State} {a0 : Array Value} (hw : own_Z Z a0) : (Jvm.Cond.methodLink "java/lang/String" (1047 : Nat) ({ cls := "java/lang/AbstractStringBuilder", name := "isLatin1", desc := "()Z" } : Jvm.MethodName)).before a0 Z = true := hw _ (List.mem_of_getElem? (i := 178) rfl)
theorem own_w179 {Z : State} {a0 : Array Value} (hw : own_Z Z a0) : (Jvm.Cond.methodLink "java/lang/String" (54 : Nat) ({ cls := "java/util/Arrays", name := "copyOfRange", desc := "([BII)[B" } : Jvm.MethodName)).before a0 Z = true := hw _ (List.mem_of_getElem? (i := 179) rfl)
theorem own_w180 {Z : State} {a0 : Array Value} (hw : own_Z Z a0) : (Jvm.Cond.static ({ cls := "java/util/Arrays", name := "copyOfRange", desc := "([BII)[B" } : Jvm.MethodName)).before a0 Z = true := hw _ (List.mem_of_getElem? (i := 180) rfl)
theorem own_w181 {Z : State} {a0 : Array Value} (hw : own_Z Z a0) : (Jvm.Cond.initialized "java/util/Arrays").before a0 Z = true := hw _ (List.mem_of_getElem? (i := 181) rfl)
theorem own_w182 {Z : State} {a0 : Array Value} (hw : own_Z Z a0) : (Jvm.Cond.code ({ cls := "java/util/Arrays", name := "copyOfRange", desc := "([BII)[B" } : Jvm.MethodName) jdk_65_method_132_code (3 : Nat) (Option.some (Jvm.ClassFile.FieldType.array Jvm.ClassFile.FieldType.byte))).before a0 Z = true := hw _ (List.mem_of_getElem? (i := 182) rfl)
theorem own_w183 {Z : State} {a0 : Array Value} (hw : own_Z Z a0) : (Jvm.Cond.methodLink "java/util/Arrays" (339 : Nat) ({ cls := "java/util/Arrays", name := "copyOfRangeByte", desc := "([BII)[B" } : Jvm.MethodName)).before a0 Z = true := hw _ (List.mem_of_getElem? (i := 183) rfl)
theorem own_w184 {Z : State} {a0 : Array Value} (hw : own_Z Z a0) : (Jvm.Cond.static ({ cls := "java/util/Arrays", name := "copyOfRangeByte", desc := "([BII)[B" } : Jvm.MethodName)).before a0 Z = true := hw _ (List.mem_of_getElem? (i := 184) rfl)
theorem own_w185 {Z : State} {a0 : Array Value} (hw : own_Z Z a0) : (Jvm.Cond.code ({ cls := "java/util/Arrays", name := "copyOfRangeByte", desc := "([BII)[B" } : Jvm.MethodName) jdk_65_method_133_code (5 : Nat) (Option.some (Jvm.ClassFile.FieldType.array Jvm.ClassFile.FieldType.byte))).before a0 Z = true := hw _ (List.mem_of_getElem? (i := 185) rfl)
theorem own_w186 {Z : State} {a0 : Array Value} (hw : own_Z Z a0) : (Jvm.Cond.methodLink "java/util/Arrays" (343 : Nat) ({ cls := "java/util/Arrays", name := "checkLength", desc := "(II)V" } : Jvm.MethodName)).before a0 Z = true := hw _ (List.mem_of_getElem? (i := 186) rfl)
theorem own_w187 {Z : State} {a0 : Array Value} (hw : own_Z Z a0) : (Jvm.Cond.static ({ cls := "java/util/Arrays", name := "checkLength", desc := "(II)V" } : Jvm.MethodName)).before a0 Z = true := hw _ (List.mem_of_getElem? (i := 187) rfl)
theorem own_w188 {Z : State} {a0 : Array Value} (hw : own_Z Z a0) : (Jvm.Cond.code ({ cls := "java/util/Arrays", name := "checkLength", desc := "(II)V" } : Jvm.MethodName) jdk_65_method_131_code (2 : Nat) (Option.none : Option Jvm.ClassFile.FieldType)).before a0 Z = true := hw _ (List.mem_of_getElem? (i := 188) rfl)
theorem own_w189 {Z : State} {a0 : Array Value} (hw : own_Z Z a0) : (Jvm.Cond.methodLink "java/util/Arrays" (304 : Nat) ({ cls := "java/lang/Math", name := "min", desc := "(II)I" } : Jvm.MethodName)).before a0 Z = true := hw _ (List.mem_of_getElem? (i := 189) rfl)
theorem own_w190 {Z : State} {a0 : Array Value} (hw : own_Z Z a0) : (Jvm.Cond.static ({ cls := "java/lang/Math", name := "min", desc := "(II)I" } : Jvm.MethodName)).before a0 Z = true := hw _ (List.mem_of_getElem? (i := 190) rfl)
theorem own_w191 {Z : State} {a0 : Array Value} (hw : own_Z Z a0) : (Jvm.Cond.initialized "java/lang/Math").before a0 Z = true := hw _ (List.mem_of_getElem? (i := 191) rfl)
theorem own_w192 {Z : State} {a0 : Array Value} (hw : own_Z Z a0) : (Jvm.Cond.code ({ cls := "java/lang/Math", name := "min", desc := "(II)I" } : Jvm.MethodName) jdk_29_method_69_code (2 : Nat) (Option.some Jvm.ClassFile.FieldType.int)).before a0 Z = true := hw _ (List.mem_of_getElem? (i := 192) rfl)
theorem own_w193 {Z : State} {a0 : Array Value} (hw : own_Z Z a0) : (Jvm.Cond.methodLink "java/util/Arrays" (150 : Nat) ({ cls := "java/lang/System", name := "arraycopy", desc := "(Ljava/lang/Object;ILjava/lang/Object;II)V" } : Jvm.MethodName)).before a0 Z = true := hw _ (List.mem_of_getElem? (i := 193) rfl)
theorem own_w194 {Z : State} {a0 : Array Value} (hw : own_Z Z a0) : (Jvm.Cond.methodLink "com/example/farcall/farcall/EndpointToStringPinLaw" (24 : Nat) ({ cls := "java/lang/String", name := "length", desc := "()I" } : Jvm.MethodName)).before a0 Z = true := hw _ (List.mem_of_getElem? (i := 194) rfl)
theorem own_w195 {Z : State} {a0 : Array Value} (hw : own_Z Z a0) : (Jvm.Cond.methodLink "com/example/farcall/farcall/EndpointToStringPinLaw" (30 : Nat) ({ cls := "java/lang/String", name := "charAt", desc := "(I)C" } : Jvm.MethodName)).before a0 Z = true := hw _ (List.mem_of_getElem? (i := 195) rfl)
theorem own_w196 {Z : State} {a0 : Array Value} (hw : own_Z Z a0) : (Jvm.Cond.declares ({ cls := "java/lang/String", name := "charAt", desc := "(I)C" } : Jvm.MethodName)).before a0 Z = true := hw _ (List.mem_of_getElem? (i := 196) rfl)
theorem own_w197 {Z : State} {a0 : Array Value} (hw : own_Z Z a0) : (Jvm.Cond.instanceMethod ({ cls := "java/lang/String", name := "charAt", desc := "(I)C" } : Jvm.MethodName)).before a0 Z = true := hw _ (List.mem_of_getElem? (i := 197) rfl)
theorem own_w198 {Z : State} {a0 : Array Value} (hw : own_Z Z a0) : (Jvm.Cond.selects "java/lang/String" ({ cls := "java/lang/String", name := "charAt", desc := "(I)C" } : Jvm.MethodName) ({ cls := "java/lang/String", name := "charAt", desc := "(I)C" } : Jvm.MethodName)).before a0 Z = true := hw _ (List.mem_of_getElem? (i := 198) rfl)
theorem own_w199 {Z : State} {a0 : Array Value} (hw : own_Z Z a0) : (Jvm.Cond.code ({ cls := "java/lang/String", name := "charAt", desc := "(I)C" } : Jvm.MethodName) jdk_42_method_56_code (2 : Nat) (Option.some Jvm.ClassFile.FieldType.char)).before a0 Z = true := hw _ (List.mem_of_getElem? (i := 199) rfl)
theorem own_w200 {Z : State} {a0 : Array Value} (hw : own_Z Z a0) : (Jvm.Cond.methodLink "java/lang/String" (492 : Nat) ({ cls := "java/lang/String", name := "isLatin1", desc := "()Z" } : Jvm.MethodName)).before a0 Z = true := hw _ (List.mem_of_getElem? (i := 200) rfl)
theorem own_w201 {Z : State} {a0 : Array Value} (hw : own_Z Z a0) : (Jvm.Cond.declares ({ cls := "java/lang/String", name := "isLatin1", desc := "()Z" } : Jvm.MethodName)).before a0 Z = true := hw _ (List.mem_of_getElem? (i := 201) rfl)
theorem own_w202 {Z : State} {a0 : Array Value} (hw : own_Z Z a0) : (Jvm.Cond.instanceMethod ({ cls := "java/lang/String", name := "isLatin1", desc := "()Z" } : Jvm.MethodName)).before a0 Z = true := hw _ (List.mem_of_getElem? (i := 202) rfl)
theorem own_w203 {Z : State} {a0 : Array Value} (hw : own_Z Z a0) : (Jvm.Cond.selects "java/lang/String" ({ cls := "java/lang/String", name := "isLatin1", desc := "()Z" } : Jvm.MethodName) ({ cls := "java/lang/String", name := "isLatin1", desc := "()Z" } : Jvm.MethodName)).before a0 Z = true := hw _ (List.mem_of_getElem? (i := 203) rfl)
theorem own_w204 {Z : State} {a0 : Array Value} (hw : own_Z Z a0) : (Jvm.Cond.code ({ cls := "java/lang/String", name := "isLatin1", desc := "()Z" } : Jvm.MethodName) jdk_42_method_154_code (1 : Nat) (Option.some Jvm.ClassFile.FieldType.boolean)).before a0 Z = true := hw _ (List.mem_of_getElem? (i := 204) rfl)
theorem own_w205 {Z : State} {a0 : Array Value} (hw : own_Z Z a0) : (Jvm.Cond.methodLink "java/lang/String" (495 : Nat) ({ cls := "java/lang/StringLatin1", name := "charAt", desc := "([BI)C" } : Jvm.MethodName)).before a0 Z = true := hw _ (List.mem_of_getElem? (i := 205) rfl)
theorem own_w206 {Z : State} {a0 : Array Value} (hw : own_Z Z a0) : (Jvm.Cond.static ({ cls := "java/lang/StringLatin1", name := "charAt", desc := "([BI)C" } : Jvm.MethodName)).before a0 Z = true := hw _ (List.mem_of_getElem? (i := 206) rfl)
theorem own_w207 {Z : State} {a0 : Array Value} (hw : own_Z Z a0) : (Jvm.Cond.initialized "java/lang/StringLatin1").before a0 Z = true := hw _ (List.mem_of_getElem? (i := 207) rfl)
theorem own_w208 {Z : State} {a0 : Array Value} (hw : own_Z Z a0) : (Jvm.Cond.code ({ cls := "java/lang/StringLatin1", name := "charAt", desc := "([BI)C" } : Jvm.MethodName) jdk_43_method_2_code (2 : Nat) (Option.some Jvm.ClassFile.FieldType.char)).before a0 Z = true := hw _ (List.mem_of_getElem? (i := 208) rfl)
theorem own_w209 {Z : State} {a0 : Array Value} (hw : own_Z Z a0) : (Jvm.Cond.methodLink "java/lang/StringLatin1" (9 : Nat) ({ cls := "java/lang/String", name := "checkIndex", desc := "(II)V" } : Jvm.MethodName)).before a0 Z = true := hw _ (List.mem_of_getElem? (i := 209) rfl)
theorem own_w210 {Z : State} {a0 : Array Value} (hw : own_Z Z a0) : (Jvm.Cond.static ({ cls := "java/lang/String", name := "checkIndex", desc := "(II)V" } : Jvm.MethodName)).before a0 Z = true := hw _ (List.mem_of_getElem? (i := 210) rfl)
theorem own_w211 {Z : State} {a0 : Array Value} (hw : own_Z Z a0) : (Jvm.Cond.code ({ cls := "java/lang/String", name := "checkIndex", desc := "(II)V" } : Jvm.MethodName) jdk_42_method_155_code (2 : Nat) (Option.none : Option Jvm.ClassFile.FieldType)).before a0 Z = true := hw _ (List.mem_of_getElem? (i := 211) rfl)
theorem own_w212 {Z : State} {a0 : Array Value} (hw : own_Z Z a0) : (Jvm.Cond.fieldLink "java/lang/String" (1053 : Nat) "jdk/internal/util/Preconditions" "SIOOBE_FORMATTER" "Ljava/util/function/BiFunction;").before a0 Z = true := hw _ (List.mem_of_getElem? (i := 212) rfl)
theorem own_w213 {Z : State} {a0 : Array Value} (hw : own_Z Z a0) : (Jvm.Cond.initialized "jdk/internal/util/Preconditions").before a0 Z = true := hw _ (List.mem_of_getElem? (i := 213) rfl)
theorem own_w214 {Z : State} {a0 : Array Value} (hw : own_Z Z a0) : (Jvm.Cond.methodLink "java/lang/String" (1059 : Nat) ({ cls := "jdk/internal/util/Preconditions", name := "checkIndex", desc := "(IILjava/util/function/BiFunction;)I" } : Jvm.MethodName)).before a0 Z = true := hw _ (List.mem_of_getElem? (i := 214) rfl)
theorem own_w215 {Z : State} {a0 : Array Value} (hw : own_Z Z a0) : (Jvm.Cond.static ({ cls := "jdk/internal/util/Preconditions", name := "checkIndex", desc := "(IILjava/util/function/BiFunction;)I" } : Jvm.MethodName)).before a0 Z = true := hw _ (List.mem_of_getElem? (i := 215) rfl)
theorem own_w216 {Z : State} {a0 : Array Value} (hw : own_Z Z a0) : (Jvm.Cond.code ({ cls := "jdk/internal/util/Preconditions", name := "checkIndex", desc := "(IILjava/util/function/BiFunction;)I" } : Jvm.MethodName) jdk_41_method_11_code (3 : Nat) (Option.some Jvm.ClassFile.FieldType.int)).before a0 Z = true := hw _ (List.mem_of_getElem? (i := 216) rfl)
theorem own_w217 {Z : State} {a0 : Array Value} (hw : own_Z Z a0) : (Jvm.Cond.methodLink "com/example/farcall/farcall/EndpointToStringPinLaw" (34 : Nat) ({ cls := "com/example/farcall/farcall/EndpointToStringPinLaw", name := "digit", desc := "(II)C" } : Jvm.MethodName)).before a0 Z = true := hw _ (List.mem_of_getElem? (i := 217) rfl)
theorem own_w218 {Z : State} {a0 : Array Value} (hw : own_Z Z a0) : (Jvm.Cond.static ({ cls := "com/example/farcall/farcall/EndpointToStringPinLaw", name := "digit", desc := "(II)C" } : Jvm.MethodName)).before a0 Z = true := hw _ (List.mem_of_getElem? (i := 218) rfl)
theorem own_w219 {Z : State} {a0 : Array Value} (hw : own_Z Z a0) : (Jvm.Cond.code ({ cls := "com/example/farcall/farcall/EndpointToStringPinLaw", name := "digit", desc := "(II)C" } : Jvm.MethodName) method_4_code (3 : Nat) (Option.some Jvm.ClassFile.FieldType.char)).before a0 Z = true := hw _ (List.mem_of_getElem? (i := 219) rfl)
theorem own_w220 {Z : State} {a0 : Array Value} (hw : own_Z Z a0) : (Jvm.Cond.stringLink "java/lang/String" (7 : Nat) "").before a0 Z = true := hw _ (List.mem_of_getElem? (i := 220) rfl)
theorem own_w221 {Z : State} {a0 : Array Value} (hw : own_Z Z a0) : (Jvm.Cond.fieldLink "java/lang/Integer" (87 : Nat) "java/lang/Integer" "DigitTens" "[B").before a0 Z = true := hw _ (List.mem_of_getElem? (i := 221) rfl)
theorem own_selp0 {Z : State} {a0 : Array Value} (hw : own_Z Z a0) : (Jvm.Cond.selects "java/lang/AbstractStringBuilder" ({ cls := "java/lang/AbstractStringBuilder", name := "inflateIfNeededFor", desc := "(Ljava/lang/String;)V" } : Jvm.MethodName) ({ cls := "java/lang/AbstractStringBuilder", name := "inflateIfNeededFor", desc := "(Ljava/lang/String;)V" } : Jvm.MethodName)).before a0 Z = true := by
  obtain ⟨c, r, m, -, -, h3, -, k, h4, h5⟩ := Cond.selects_spec (own_w118 hw)
  exact Jvm.Stand.selects_self_of_private (y := ({ cls := "java/lang/AbstractStringBuilder", name := "inflateIfNeededFor", desc := "(Ljava/lang/String;)V" } : Jvm.MethodName)) (findClass_of_methodNamed h3) h4 h5 (Cond.privateMethod_at (own_w117 hw)) (own_w116 hw) (by decide)
theorem own_selp1 {Z : State} {a0 : Array Value} (hw : own_Z Z a0) : (Jvm.Cond.selects "java/lang/AbstractStringBuilder" ({ cls := "java/lang/AbstractStringBuilder", name := "ensureCapacityInternal", desc := "(I)V" } : Jvm.MethodName) ({ cls := "java/lang/AbstractStringBuilder", name := "ensureCapacityInternal", desc := "(I)V" } : Jvm.MethodName)).before a0 Z = true := by
  obtain ⟨c, r, m, -, -, h3, -, k, h4, h5⟩ := Cond.selects_spec (own_w108 hw)
  exact Jvm.Stand.selects_self_of_private (y := ({ cls := "java/lang/AbstractStringBuilder", name := "ensureCapacityInternal", desc := "(I)V" } : Jvm.MethodName)) (findClass_of_methodNamed h3) h4 h5 (Cond.privateMethod_at (own_w107 hw)) (own_w106 hw) (by decide)
theorem own_selp2 {Z : State} {a0 : Array Value} (hw : own_Z Z a0) : (Jvm.Cond.selects "java/lang/AbstractStringBuilder" ({ cls := "java/lang/AbstractStringBuilder", name := "putStringAt", desc := "(ILjava/lang/String;)V" } : Jvm.MethodName) ({ cls := "java/lang/AbstractStringBuilder", name := "putStringAt", desc := "(ILjava/lang/String;)V" } : Jvm.MethodName)).before a0 Z = true := by
  obtain ⟨c, r, m, -, -, h3, -, k, h4, h5⟩ := Cond.selects_spec (own_w113 hw)
  exact Jvm.Stand.selects_self_of_private (y := ({ cls := "java/lang/AbstractStringBuilder", name := "putStringAt", desc := "(ILjava/lang/String;)V" } : Jvm.MethodName)) (findClass_of_methodNamed h3) h4 h5 (Cond.privateMethod_at (own_w112 hw)) (own_w111 hw) (by decide)
theorem own_d0_0 : own_D jdk_42_method_149_code 0 (.aload_n 0) 1 1 := ⟨by decide +kernel, rfl⟩
theorem own_d0_1 : own_D jdk_42_method_149_code 1 (.invokespecial 1) 3 4 := ⟨by decide +kernel, rfl⟩
theorem own_d0_4 : own_D jdk_42_method_149_code 4 (.iload_n 3) 1 5 := ⟨by decide +kernel, rfl⟩
theorem own_d0_5 : own_B jdk_42_method_149_code 5 (.ifCond .ne 22) 22 8 27 := ⟨by decide +kernel, rfl, by decide, by decide⟩
theorem own_d0_8 : own_D jdk_42_method_149_code 8 (.aload_n 0) 1 9 := ⟨by decide +kernel, rfl⟩
theorem own_d0_9 : own_D jdk_42_method_149_code 9 (.ldc 7) 2 11 := ⟨by decide +kernel, rfl⟩
theorem own_d0_11 : own_D jdk_42_method_149_code 11 (.getfield 9) 3 14 := ⟨by decide +kernel, rfl⟩
theorem own_d0_14 : own_D jdk_42_method_149_code 14 (.putfield 9) 3 17 := ⟨by decide +kernel, rfl⟩
theorem own_d0_17 : own_D jdk_42_method_149_code 17 (.aload_n 0) 1 18 := ⟨by decide +kernel, rfl⟩
theorem own_d0_18 : own_D jdk_42_method_149_code 18 (.ldc 7) 2 20 := ⟨by decide +kernel, rfl⟩
theorem own_d0_20 : own_D jdk_42_method_149_code 20 (.getfield 15) 3 23 := ⟨by decide +kernel, rfl⟩
theorem own_d0_23 : own_D jdk_42_method_149_code 23 (.putfield 15) 3 26 := ⟨by decide +kernel, rfl⟩
theorem own_d0_26 : own_D jdk_42_method_149_code 26 (.return_) 1 27 := ⟨by decide +kernel, rfl⟩
theorem own_d1_0 : own_D jdk_42_method_3_code 0 (.aload_n 0) 1 1 := ⟨by decide +kernel, rfl⟩
theorem own_d1_1 : own_D jdk_42_method_3_code 1 (.aload_n 1) 1 2 := ⟨by decide +kernel, rfl⟩
theorem own_d1_2 : own_D jdk_42_method_3_code 2 (.iconst 0) 1 3 := ⟨by decide +kernel, rfl⟩
theorem own_d1_3 : own_D jdk_42_method_3_code 3 (.aload_n 1) 1 4 := ⟨by decide +kernel, rfl⟩
theorem own_d1_4 : own_D jdk_42_method_3_code 4 (.arraylength) 1 5 := ⟨by decide +kernel, rfl⟩
theorem own_d1_5 : own_D jdk_42_method_3_code 5 (.aconst_null) 1 6 := ⟨by decide +kernel, rfl⟩
theorem own_d1_6 : own_D jdk_42_method_3_code 6 (.invokespecial 27) 3 9 := ⟨by decide +kernel, rfl⟩
theorem own_d1_9 : own_D jdk_42_method_3_code 9 (.return_) 1 10 := ⟨by decide +kernel, rfl⟩
theorem own_d2_0 : own_D jdk_52_method_21_code 0 (.iconst 0) 1 1 := ⟨by decide +kernel, rfl⟩
theorem own_d2_1 : own_D jdk_52_method_21_code 1 (.istore 5) 2 3 := ⟨by decide +kernel, rfl⟩
theorem own_d2_3 : own_D jdk_52_method_21_code 3 (.iload 5) 2 5 := ⟨by decide +kernel, rfl⟩
theorem own_d2_5 : own_D jdk_52_method_21_code 5 (.iload 4) 2 7 := ⟨by decide +kernel, rfl⟩
theorem own_d2_7 : own_B jdk_52_method_21_code 7 (.if_icmp .ge 37) 37 10 44 := ⟨by decide +kernel, rfl, by decide, by decide⟩
theorem own_d2_10 : own_D jdk_52_method_21_code 10 (.aload_n 0) 1 11 := ⟨by decide +kernel, rfl⟩
theorem own_d2_11 : own_D jdk_52_method_21_code 11 (.iload_n 1) 1 12 := ⟨by decide +kernel, rfl⟩
theorem own_d2_12 : own_D jdk_52_method_21_code 12 (.caload) 1 13 := ⟨by decide +kernel, rfl⟩
theorem own_d2_13 : own_D jdk_52_method_21_code 13 (.istore 6) 2 15 := ⟨by decide +kernel, rfl⟩
theorem own_d2_15 : own_D jdk_52_method_21_code 15 (.iload 6) 2 17 := ⟨by decide +kernel, rfl⟩
theorem own_d2_17 : own_D jdk_52_method_21_code 17 (.sipush 255) 3 20 := ⟨by decide +kernel, rfl⟩
theorem own_d2_20 : own_B jdk_52_method_21_code 20 (.if_icmp .le 6) 6 23 26 := ⟨by decide +kernel, rfl, by decide, by decide⟩
theorem own_d2_26 : own_D jdk_52_method_21_code 26 (.aload_n 2) 1 27 := ⟨by decide +kernel, rfl⟩
theorem own_d2_27 : own_D jdk_52_method_21_code 27 (.iload_n 3) 1 28 := ⟨by decide +kernel, rfl⟩
theorem own_d2_28 : own_D jdk_52_method_21_code 28 (.iload 6) 2 30 := ⟨by decide +kernel, rfl⟩
theorem own_d2_30 : own_D jdk_52_method_21_code 30 (.i2b) 1 31 := ⟨by decide +kernel, rfl⟩
theorem own_d2_31 : own_D jdk_52_method_21_code 31 (.bastore) 1 32 := ⟨by decide +kernel, rfl⟩
theorem own_d2_32 : own_D jdk_52_method_21_code 32 (.iinc 1 1) 3 35 := ⟨by decide +kernel, rfl⟩
theorem own_d2_35 : own_D jdk_52_method_21_code 35 (.iinc 3 1) 3 38 := ⟨by decide +kernel, rfl⟩
theorem own_d2_38 : own_D jdk_52_method_21_code 38 (.iinc 5 1) 3 41 := ⟨by decide +kernel, rfl⟩
theorem own_d2_41 : own_B jdk_52_method_21_code 41 (.goto (-38)) (-38) 44 3 := ⟨by decide +kernel, rfl, by decide, by decide⟩
theorem own_d2_44 : own_D jdk_52_method_21_code 44 (.iload 4) 2 46 := ⟨by decide +kernel, rfl⟩
theorem own_d2_46 : own_D jdk_52_method_21_code 46 (.ireturn) 1 47 := ⟨by decide +kernel, rfl⟩
theorem own_d3_0 : own_D jdk_52_method_16_code 0 (.iload_n 2) 1 1 := ⟨by decide +kernel, rfl⟩
theorem own_d3_1 : own_D jdk_52_method_16_code 1 (.newarray .byte) 2 3 := ⟨by decide +kernel, rfl⟩
theorem own_d3_3 : own_D jdk_52_method_16_code 3 (.astore_n 3) 1 4 := ⟨by decide +kernel, rfl⟩
theorem own_d3_4 : own_D jdk_52_method_16_code 4 (.aload_n 0) 1 5 := ⟨by decide +kernel, rfl⟩
theorem own_d3_5 : own_D jdk_52_method_16_code 5 (.iload_n 1) 1 6 := ⟨by decide +kernel, rfl⟩
theorem own_d3_6 : own_D jdk_52_method_16_code 6 (.aload_n 3) 1 7 := ⟨by decide +kernel, rfl⟩
theorem own_d3_7 : own_D jdk_52_method_16_code 7 (.iconst 0) 1 8 := ⟨by decide +kernel, rfl⟩
theorem own_d3_8 : own_D jdk_52_method_16_code 8 (.iload_n 2) 1 9 := ⟨by decide +kernel, rfl⟩
theorem own_d3_9 : own_D jdk_52_method_16_code 9 (.invokestatic 115) 3 12 := ⟨by decide +kernel, rfl⟩
theorem own_d3_12 : own_D jdk_52_method_16_code 12 (.istore 4) 2 14 := ⟨by decide +kernel, rfl⟩
theorem own_d3_14 : own_D jdk_52_method_16_code 14 (.iload 4) 2 16 := ⟨by decide +kernel, rfl⟩
theorem own_d3_16 : own_D jdk_52_method_16_code 16 (.iload_n 2) 1 17 := ⟨by decide +kernel, rfl⟩
theorem own_d3_17 : own_B jdk_52_method_16_code 17 (.if_icmp .eq 40) 40 20 57 := ⟨by decide +kernel, rfl, by decide, by decide⟩
theorem own_d3_57 : own_D jdk_52_method_16_code 57 (.aload_n 3) 1 58 := ⟨by decide +kernel, rfl⟩
theorem own_d3_58 : own_D jdk_52_method_16_code 58 (.areturn) 1 59 := ⟨by decide +kernel, rfl⟩
theorem own_d4_0 : own_D jdk_52_method_15_code 0 (.iload_n 1) 1 1 := ⟨by decide +kernel, rfl⟩
theorem own_d4_1 : own_D jdk_52_method_15_code 1 (.aload_n 0) 1 2 := ⟨by decide +kernel, rfl⟩
theorem own_d4_2 : own_D jdk_52_method_15_code 2 (.arraylength) 1 3 := ⟨by decide +kernel, rfl⟩
theorem own_d4_3 : own_D jdk_52_method_15_code 3 (.isub) 1 4 := ⟨by decide +kernel, rfl⟩
theorem own_d4_4 : own_D jdk_52_method_15_code 4 (.bipush 31) 2 6 := ⟨by decide +kernel, rfl⟩
theorem own_d4_6 : own_D jdk_52_method_15_code 6 (.iushr) 1 7 := ⟨by decide +kernel, rfl⟩
theorem own_d4_7 : own_D jdk_52_method_15_code 7 (.i2b) 1 8 := ⟨by decide +kernel, rfl⟩
theorem own_d4_8 : own_D jdk_52_method_15_code 8 (.ireturn) 1 9 := ⟨by decide +kernel, rfl⟩
theorem own_d0_27 : own_D jdk_42_method_149_code 27 (.getstatic 38) 3 30 := ⟨by decide +kernel, rfl⟩
theorem own_d0_30 : own_B jdk_42_method_149_code 30 (.ifCond .eq 28) 28 33 58 := ⟨by decide +kernel, rfl, by decide, by decide⟩
theorem own_d0_33 : own_D jdk_42_method_149_code 33 (.aload_n 1) 1 34 := ⟨by decide +kernel, rfl⟩
theorem own_d0_34 : own_D jdk_42_method_149_code 34 (.iload_n 2) 1 35 := ⟨by decide +kernel, rfl⟩
theorem own_d0_35 : own_D jdk_42_method_149_code 35 (.iload_n 3) 1 36 := ⟨by decide +kernel, rfl⟩
theorem own_d0_36 : own_D jdk_42_method_149_code 36 (.invokestatic 177) 3 39 := ⟨by decide +kernel, rfl⟩
theorem own_d0_39 : own_D jdk_42_method_149_code 39 (.astore 5) 2 41 := ⟨by decide +kernel, rfl⟩
theorem own_d0_41 : own_D jdk_42_method_149_code 41 (.aload_n 0) 1 42 := ⟨by decide +kernel, rfl⟩
theorem own_d0_42 : own_D jdk_42_method_149_code 42 (.aload 5) 2 44 := ⟨by decide +kernel, rfl⟩
theorem own_d0_44 : own_D jdk_42_method_149_code 44 (.iload_n 3) 1 45 := ⟨by decide +kernel, rfl⟩
theorem own_d0_45 : own_D jdk_42_method_149_code 45 (.invokestatic 47) 3 48 := ⟨by decide +kernel, rfl⟩
theorem own_d0_48 : own_D jdk_42_method_149_code 48 (.putfield 15) 3 51 := ⟨by decide +kernel, rfl⟩
theorem own_d0_51 : own_D jdk_42_method_149_code 51 (.aload_n 0) 1 52 := ⟨by decide +kernel, rfl⟩
theorem own_d0_52 : own_D jdk_42_method_149_code 52 (.aload 5) 2 54 := ⟨by decide +kernel, rfl⟩
theorem own_d0_54 : own_D jdk_42_method_149_code 54 (.putfield 9) 3 57 := ⟨by decide +kernel, rfl⟩
theorem own_d0_57 : own_D jdk_42_method_149_code 57 (.return_) 1 58 := ⟨by decide +kernel, rfl⟩
theorem own_d5_0 : own_D jdk_42_method_154_code 0 (.getstatic 38) 3 3 := ⟨by decide +kernel, rfl⟩
theorem own_d5_3 : own_B jdk_42_method_154_code 3 (.ifCond .eq 14) 14 6 17 := ⟨by decide +kernel, rfl, by decide, by decide⟩
theorem own_d5_6 : own_D jdk_42_method_154_code 6 (.aload_n 0) 1 7 := ⟨by decide +kernel, rfl⟩
theorem own_d5_7 : own_D jdk_42_method_154_code 7 (.getfield 15) 3 10 := ⟨by decide +kernel, rfl⟩
theorem own_d5_10 : own_B jdk_42_method_154_code 10 (.ifCond .ne 7) 7 13 17 := ⟨by decide +kernel, rfl, by decide, by decide⟩
theorem own_d5_13 : own_D jdk_42_method_154_code 13 (.iconst 1) 1 14 := ⟨by decide +kernel, rfl⟩
theorem own_d5_14 : own_B jdk_42_method_154_code 14 (.goto 4) 4 17 18 := ⟨by decide +kernel, rfl, by decide, by decide⟩
theorem own_d5_18 : own_D jdk_42_method_154_code 18 (.ireturn) 1 19 := ⟨by decide +kernel, rfl⟩
theorem own_d6_0 : own_D jdk_42_method_152_code 0 (.getstatic 38) 3 3 := ⟨by decide +kernel, rfl⟩
theorem own_d6_3 : own_B jdk_42_method_152_code 3 (.ifCond .eq 10) 10 6 13 := ⟨by decide +kernel, rfl, by decide, by decide⟩
theorem own_d6_6 : own_D jdk_42_method_152_code 6 (.aload_n 0) 1 7 := ⟨by decide +kernel, rfl⟩
theorem own_d6_7 : own_D jdk_42_method_152_code 7 (.getfield 15) 3 10 := ⟨by decide +kernel, rfl⟩
theorem own_d6_10 : own_B jdk_42_method_152_code 10 (.goto 4) 4 13 14 := ⟨by decide +kernel, rfl, by decide, by decide⟩
theorem own_d6_14 : own_D jdk_42_method_152_code 14 (.ireturn) 1 15 := ⟨by decide +kernel, rfl⟩
theorem own_d7_0 : own_D jdk_41_method_11_code 0 (.iload_n 0) 1 1 := ⟨by decide +kernel, rfl⟩
theorem own_d7_1 : own_B jdk_41_method_11_code 1 (.ifCond .lt 8) 8 4 9 := ⟨by decide +kernel, rfl, by decide, by decide⟩
theorem own_d7_4 : own_D jdk_41_method_11_code 4 (.iload_n 0) 1 5 := ⟨by decide +kernel, rfl⟩
theorem own_d7_5 : own_D jdk_41_method_11_code 5 (.iload_n 1) 1 6 := ⟨by decide +kernel, rfl⟩
theorem own_d7_6 : own_B jdk_41_method_11_code 6 (.if_icmp .lt 10) 10 9 16 := ⟨by decide +kernel, rfl, by decide, by decide⟩
theorem own_d7_16 : own_D jdk_41_method_11_code 16 (.iload_n 0) 1 17 := ⟨by decide +kernel, rfl⟩
theorem own_d7_17 : own_D jdk_41_method_11_code 17 (.ireturn) 1 18 := ⟨by decide +kernel, rfl⟩
theorem own_d8_0 : own_D jdk_42_method_155_code 0 (.iload_n 0) 1 1 := ⟨by decide +kernel, rfl⟩
theorem own_d8_1 : own_D jdk_42_method_155_code 1 (.iload_n 1) 1 2 := ⟨by decide +kernel, rfl⟩
theorem own_d8_2 : own_D jdk_42_method_155_code 2 (.getstatic 1053) 3 5 := ⟨by decide +kernel, rfl⟩
theorem own_d8_5 : own_D jdk_42_method_155_code 5 (.invokestatic 1059) 3 8 := ⟨by decide +kernel, rfl⟩
theorem own_d8_8 : own_D jdk_42_method_155_code 8 (.pop) 1 9 := ⟨by decide +kernel, rfl⟩
theorem own_d8_9 : own_D jdk_42_method_155_code 9 (.return_) 1 10 := ⟨by decide +kernel, rfl⟩
theorem own_d9_0 : own_D jdk_43_method_2_code 0 (.iload_n 1) 1 1 := ⟨by decide +kernel, rfl⟩
theorem own_d9_1 : own_D jdk_43_method_2_code 1 (.aload_n 0) 1 2 := ⟨by decide +kernel, rfl⟩
theorem own_d9_2 : own_D jdk_43_method_2_code 2 (.arraylength) 1 3 := ⟨by decide +kernel, rfl⟩
theorem own_d9_3 : own_D jdk_43_method_2_code 3 (.invokestatic 9) 3 6 := ⟨by decide +kernel, rfl⟩
theorem own_d9_6 : own_D jdk_43_method_2_code 6 (.aload_n 0) 1 7 := ⟨by decide +kernel, rfl⟩
theorem own_d9_7 : own_D jdk_43_method_2_code 7 (.iload_n 1) 1 8 := ⟨by decide +kernel, rfl⟩
theorem own_d9_8 : own_D jdk_43_method_2_code 8 (.baload) 1 9 := ⟨by decide +kernel, rfl⟩
theorem own_d9_9 : own_D jdk_43_method_2_code 9 (.sipush 255) 3 12 := ⟨by decide +kernel, rfl⟩
theorem own_d9_12 : own_D jdk_43_method_2_code 12 (.iand) 1 13 := ⟨by decide +kernel, rfl⟩
theorem own_d9_13 : own_D jdk_43_method_2_code 13 (.i2c) 1 14 := ⟨by decide +kernel, rfl⟩
theorem own_d9_14 : own_D jdk_43_method_2_code 14 (.ireturn) 1 15 := ⟨by decide +kernel, rfl⟩
theorem own_d10_0 : own_D jdk_42_method_56_code 0 (.aload_n 0) 1 1 := ⟨by decide +kernel, rfl⟩
theorem own_d10_1 : own_D jdk_42_method_56_code 1 (.invokevirtual 492) 3 4 := ⟨by decide +kernel, rfl⟩
theorem own_d10_4 : own_B jdk_42_method_56_code 4 (.ifCond .eq 12) 12 7 16 := ⟨by decide +kernel, rfl, by decide, by decide⟩
theorem own_d10_7 : own_D jdk_42_method_56_code 7 (.aload_n 0) 1 8 := ⟨by decide +kernel, rfl⟩
theorem own_d10_8 : own_D jdk_42_method_56_code 8 (.getfield 9) 3 11 := ⟨by decide +kernel, rfl⟩
theorem own_d10_11 : own_D jdk_42_method_56_code 11 (.iload_n 1) 1 12 := ⟨by decide +kernel, rfl⟩
theorem own_d10_12 : own_D jdk_42_method_56_code 12 (.invokestatic 495) 3 15 := ⟨by decide +kernel, rfl⟩
theorem own_d10_15 : own_D jdk_42_method_56_code 15 (.ireturn) 1 16 := ⟨by decide +kernel, rfl⟩
theorem own_d11_0 : own_D method_3_code 0 (.iload_n 0) 1 1 := ⟨by decide +kernel, rfl⟩
theorem own_d11_1 : own_B method_3_code 1 (.ifCond .ne 14) 14 4 15 := ⟨by decide +kernel, rfl, by decide, by decide⟩
theorem own_d11_4 : own_D method_3_code 4 (.new 25) 3 7 := ⟨by decide +kernel, rfl⟩
theorem own_d11_7 : own_D method_3_code 7 (.dup) 1 8 := ⟨by decide +kernel, rfl⟩
theorem own_d11_8 : own_D method_3_code 8 (.iconst 0) 1 9 := ⟨by decide +kernel, rfl⟩
theorem own_d11_9 : own_D method_3_code 9 (.newarray .char) 2 11 := ⟨by decide +kernel, rfl⟩
theorem own_d11_11 : own_D method_3_code 11 (.invokespecial 38) 3 14 := ⟨by decide +kernel, rfl⟩
theorem own_d11_14 : own_D method_3_code 14 (.areturn) 1 15 := ⟨by decide +kernel, rfl⟩
theorem own_d11_15 : own_D method_3_code 15 (.iload_n 0) 1 16 := ⟨by decide +kernel, rfl⟩
theorem own_d11_16 : own_D method_3_code 16 (.iconst 1) 1 17 := ⟨by decide +kernel, rfl⟩
theorem own_d11_17 : own_B method_3_code 17 (.if_icmp .ne 18) 18 20 35 := ⟨by decide +kernel, rfl, by decide, by decide⟩
theorem own_d11_20 : own_D method_3_code 20 (.new 25) 3 23 := ⟨by decide +kernel, rfl⟩
theorem own_d11_23 : own_D method_3_code 23 (.dup) 1 24 := ⟨by decide +kernel, rfl⟩
theorem own_d11_24 : own_D method_3_code 24 (.iconst 1) 1 25 := ⟨by decide +kernel, rfl⟩
theorem own_d11_25 : own_D method_3_code 25 (.newarray .char) 2 27 := ⟨by decide +kernel, rfl⟩
theorem own_d11_27 : own_D method_3_code 27 (.dup) 1 28 := ⟨by decide +kernel, rfl⟩
theorem own_d11_28 : own_D method_3_code 28 (.iconst 0) 1 29 := ⟨by decide +kernel, rfl⟩
theorem own_d11_29 : own_D method_3_code 29 (.iload_n 1) 1 30 := ⟨by decide +kernel, rfl⟩
theorem own_d11_30 : own_D method_3_code 30 (.castore) 1 31 := ⟨by decide +kernel, rfl⟩
theorem own_d11_31 : own_D method_3_code 31 (.invokespecial 38) 3 34 := ⟨by decide +kernel, rfl⟩
theorem own_d11_34 : own_D method_3_code 34 (.areturn) 1 35 := ⟨by decide +kernel, rfl⟩
theorem own_d11_35 : own_D method_3_code 35 (.iload_n 0) 1 36 := ⟨by decide +kernel, rfl⟩
theorem own_d11_36 : own_D method_3_code 36 (.iconst 2) 1 37 := ⟨by decide +kernel, rfl⟩
theorem own_d11_37 : own_B method_3_code 37 (.if_icmp .ne 22) 22 40 59 := ⟨by decide +kernel, rfl, by decide, by decide⟩
theorem own_d11_40 : own_D method_3_code 40 (.new 25) 3 43 := ⟨by decide +kernel, rfl⟩
theorem own_d11_43 : own_D method_3_code 43 (.dup) 1 44 := ⟨by decide +kernel, rfl⟩
theorem own_d11_44 : own_D method_3_code 44 (.iconst 2) 1 45 := ⟨by decide +kernel, rfl⟩
theorem own_d11_45 : own_D method_3_code 45 (.newarray .char) 2 47 := ⟨by decide +kernel, rfl⟩
theorem own_d11_47 : own_D method_3_code 47 (.dup) 1 48 := ⟨by decide +kernel, rfl⟩
theorem own_d11_48 : own_D method_3_code 48 (.iconst 0) 1 49 := ⟨by decide +kernel, rfl⟩
theorem own_d11_49 : own_D method_3_code 49 (.iload_n 1) 1 50 := ⟨by decide +kernel, rfl⟩
theorem own_d11_50 : own_D method_3_code 50 (.castore) 1 51 := ⟨by decide +kernel, rfl⟩
theorem own_d11_51 : own_D method_3_code 51 (.dup) 1 52 := ⟨by decide +kernel, rfl⟩
theorem own_d11_52 : own_D method_3_code 52 (.iconst 1) 1 53 := ⟨by decide +kernel, rfl⟩
theorem own_d11_53 : own_D method_3_code 53 (.iload_n 2) 1 54 := ⟨by decide +kernel, rfl⟩
theorem own_d11_54 : own_D method_3_code 54 (.castore) 1 55 := ⟨by decide +kernel, rfl⟩
theorem own_d11_55 : own_D method_3_code 55 (.invokespecial 38) 3 58 := ⟨by decide +kernel, rfl⟩
theorem own_d11_58 : own_D method_3_code 58 (.areturn) 1 59 := ⟨by decide +kernel, rfl⟩
theorem own_d11_59 : own_D method_3_code 59 (.new 25) 3 62 := ⟨by decide +kernel, rfl⟩
theorem own_d11_62 : own_D method_3_code 62 (.dup) 1 63 := ⟨by decide +kernel, rfl⟩
theorem own_d11_63 : own_D method_3_code 63 (.iconst 3) 1 64 := ⟨by decide +kernel, rfl⟩
theorem own_d11_64 : own_D method_3_code 64 (.newarray .char) 2 66 := ⟨by decide +kernel, rfl⟩
theorem own_d11_66 : own_D method_3_code 66 (.dup) 1 67 := ⟨by decide +kernel, rfl⟩
theorem own_d11_67 : own_D method_3_code 67 (.iconst 0) 1 68 := ⟨by decide +kernel, rfl⟩
theorem own_d11_68 : own_D method_3_code 68 (.iload_n 1) 1 69 := ⟨by decide +kernel, rfl⟩
theorem own_d11_69 : own_D method_3_code 69 (.castore) 1 70 := ⟨by decide +kernel, rfl⟩
theorem own_d11_70 : own_D method_3_code 70 (.dup) 1 71 := ⟨by decide +kernel, rfl⟩
theorem own_d11_71 : own_D method_3_code 71 (.iconst 1) 1 72 := ⟨by decide +kernel, rfl⟩
theorem own_d11_72 : own_D method_3_code 72 (.iload_n 2) 1 73 := ⟨by decide +kernel, rfl⟩
theorem own_d11_73 : own_D method_3_code 73 (.castore) 1 74 := ⟨by decide +kernel, rfl⟩
theorem own_d11_74 : own_D method_3_code 74 (.dup) 1 75 := ⟨by decide +kernel, rfl⟩
theorem own_d11_75 : own_D method_3_code 75 (.iconst 2) 1 76 := ⟨by decide +kernel, rfl⟩
theorem own_d11_76 : own_D method_3_code 76 (.iload_n 3) 1 77 := ⟨by decide +kernel, rfl⟩
theorem own_d11_77 : own_D method_3_code 77 (.castore) 1 78 := ⟨by decide +kernel, rfl⟩
theorem own_d11_78 : own_D method_3_code 78 (.invokespecial 38) 3 81 := ⟨by decide +kernel, rfl⟩
theorem own_d11_81 : own_D method_3_code 81 (.areturn) 1 82 := ⟨by decide +kernel, rfl⟩
theorem own_d12_0 : own_D jdk_30_method_1_code 0 (.aload_n 0) 1 1 := ⟨by decide +kernel, rfl⟩
theorem own_d12_1 : own_D jdk_30_method_1_code 1 (.invokespecial 1) 3 4 := ⟨by decide +kernel, rfl⟩
theorem own_d12_4 : own_D jdk_30_method_1_code 4 (.return_) 1 5 := ⟨by decide +kernel, rfl⟩
theorem own_d13_0 : own_D jdk_31_method_11_code 0 (.aload_n 0) 1 1 := ⟨by decide +kernel, rfl⟩
theorem own_d13_1 : own_B jdk_31_method_11_code 1 (.ifnonnull 12) 12 4 13 := ⟨by decide +kernel, rfl, by decide, by decide⟩
theorem own_d13_13 : own_D jdk_31_method_11_code 13 (.aload_n 0) 1 14 := ⟨by decide +kernel, rfl⟩
theorem own_d13_14 : own_D jdk_31_method_11_code 14 (.areturn) 1 15 := ⟨by decide +kernel, rfl⟩
theorem own_d14_0 : own_D prog_16_method_1_code 0 (.aload_n 0) 1 1 := ⟨by decide +kernel, rfl⟩
theorem own_d14_1 : own_D prog_16_method_1_code 1 (.invokespecial 1) 3 4 := ⟨by decide +kernel, rfl⟩
theorem own_d14_4 : own_D prog_16_method_1_code 4 (.aload_n 1) 1 5 := ⟨by decide +kernel, rfl⟩
theorem own_d14_5 : own_D prog_16_method_1_code 5 (.ldc 7) 2 7 := ⟨by decide +kernel, rfl⟩
theorem own_d14_7 : own_D prog_16_method_1_code 7 (.invokestatic 9) 3 10 := ⟨by decide +kernel, rfl⟩
theorem own_d14_10 : own_D prog_16_method_1_code 10 (.pop) 1 11 := ⟨by decide +kernel, rfl⟩
theorem own_d14_11 : own_D prog_16_method_1_code 11 (.iload_n 2) 1 12 := ⟨by decide +kernel, rfl⟩
theorem own_d14_12 : own_D prog_16_method_1_code 12 (.iconst 1) 1 13 := ⟨by decide +kernel, rfl⟩
theorem own_d14_13 : own_B prog_16_method_1_code 13 (.if_icmp .lt 9) 9 16 22 := ⟨by decide +kernel, rfl, by decide, by decide⟩
theorem own_d14_16 : own_D prog_16_method_1_code 16 (.iload_n 2) 1 17 := ⟨by decide +kernel, rfl⟩
theorem own_d14_17 : own_D prog_16_method_1_code 17 (.ldc 15) 2 19 := ⟨by decide +kernel, rfl⟩
theorem own_d14_19 : own_B prog_16_method_1_code 19 (.if_icmp .le 30) 30 22 49 := ⟨by decide +kernel, rfl, by decide, by decide⟩
theorem own_d14_49 : own_D prog_16_method_1_code 49 (.aload_n 0) 1 50 := ⟨by decide +kernel, rfl⟩
theorem own_d14_50 : own_D prog_16_method_1_code 50 (.aload_n 1) 1 51 := ⟨by decide +kernel, rfl⟩
theorem own_d14_51 : own_D prog_16_method_1_code 51 (.putfield 37) 3 54 := ⟨by decide +kernel, rfl⟩
theorem own_d14_54 : own_D prog_16_method_1_code 54 (.aload_n 0) 1 55 := ⟨by decide +kernel, rfl⟩
theorem own_d14_55 : own_D prog_16_method_1_code 55 (.iload_n 2) 1 56 := ⟨by decide +kernel, rfl⟩
theorem own_d14_56 : own_D prog_16_method_1_code 56 (.putfield 42) 3 59 := ⟨by decide +kernel, rfl⟩
theorem own_d14_59 : own_D prog_16_method_1_code 59 (.return_) 1 60 := ⟨by decide +kernel, rfl⟩
theorem own_d15_0 : own_D jdk_68_method_2_code 0 (.aload_n 0) 1 1 := ⟨by decide +kernel, rfl⟩
theorem own_d15_1 : own_D jdk_68_method_2_code 1 (.invokespecial 3) 3 4 := ⟨by decide +kernel, rfl⟩
theorem own_d15_4 : own_D jdk_68_method_2_code 4 (.getstatic 18) 3 7 := ⟨by decide +kernel, rfl⟩
theorem own_d15_7 : own_B jdk_68_method_2_code 7 (.ifCond .eq 18) 18 10 25 := ⟨by decide +kernel, rfl, by decide, by decide⟩
theorem own_d15_10 : own_D jdk_68_method_2_code 10 (.aload_n 0) 1 11 := ⟨by decide +kernel, rfl⟩
theorem own_d15_11 : own_D jdk_68_method_2_code 11 (.iload_n 1) 1 12 := ⟨by decide +kernel, rfl⟩
theorem own_d15_12 : own_D jdk_68_method_2_code 12 (.newarray .byte) 2 14 := ⟨by decide +kernel, rfl⟩
theorem own_d15_14 : own_D jdk_68_method_2_code 14 (.putfield 15) 3 17 := ⟨by decide +kernel, rfl⟩
theorem own_d15_17 : own_D jdk_68_method_2_code 17 (.aload_n 0) 1 18 := ⟨by decide +kernel, rfl⟩
theorem own_d15_18 : own_D jdk_68_method_2_code 18 (.iconst 0) 1 19 := ⟨by decide +kernel, rfl⟩
theorem own_d15_19 : own_D jdk_68_method_2_code 19 (.putfield 22) 3 22 := ⟨by decide +kernel, rfl⟩
theorem own_d15_22 : own_B jdk_68_method_2_code 22 (.goto 16) 16 25 38 := ⟨by decide +kernel, rfl, by decide, by decide⟩
theorem own_d15_38 : own_D jdk_68_method_2_code 38 (.return_) 1 39 := ⟨by decide +kernel, rfl⟩
theorem own_d16_0 : own_D jdk_67_method_1_code 0 (.aload_n 0) 1 1 := ⟨by decide +kernel, rfl⟩
theorem own_d16_1 : own_D jdk_67_method_1_code 1 (.bipush 16) 2 3 := ⟨by decide +kernel, rfl⟩
theorem own_d16_3 : own_D jdk_67_method_1_code 3 (.invokespecial 1) 3 6 := ⟨by decide +kernel, rfl⟩
theorem own_d16_6 : own_D jdk_67_method_1_code 6 (.return_) 1 7 := ⟨by decide +kernel, rfl⟩
theorem own_d17_0 : own_D jdk_68_method_9_code 0 (.aload_n 0) 1 1 := ⟨by decide +kernel, rfl⟩
theorem own_d17_1 : own_D jdk_68_method_9_code 1 (.getfield 15) 3 4 := ⟨by decide +kernel, rfl⟩
theorem own_d17_4 : own_D jdk_68_method_9_code 4 (.arraylength) 1 5 := ⟨by decide +kernel, rfl⟩
theorem own_d17_5 : own_D jdk_68_method_9_code 5 (.aload_n 0) 1 6 := ⟨by decide +kernel, rfl⟩
theorem own_d17_6 : own_D jdk_68_method_9_code 6 (.getfield 22) 3 9 := ⟨by decide +kernel, rfl⟩
theorem own_d17_9 : own_D jdk_68_method_9_code 9 (.ishr) 1 10 := ⟨by decide +kernel, rfl⟩
theorem own_d17_10 : own_D jdk_68_method_9_code 10 (.istore_n 2) 1 11 := ⟨by decide +kernel, rfl⟩
theorem own_d17_11 : own_D jdk_68_method_9_code 11 (.iload_n 1) 1 12 := ⟨by decide +kernel, rfl⟩
theorem own_d17_12 : own_D jdk_68_method_9_code 12 (.iload_n 2) 1 13 := ⟨by decide +kernel, rfl⟩
theorem own_d17_13 : own_D jdk_68_method_9_code 13 (.isub) 1 14 := ⟨by decide +kernel, rfl⟩
theorem own_d17_14 : own_B jdk_68_method_9_code 14 (.ifCond .le 24) 24 17 38 := ⟨by decide +kernel, rfl, by decide, by decide⟩
theorem own_d17_38 : own_D jdk_68_method_9_code 38 (.return_) 1 39 := ⟨by decide +kernel, rfl⟩
theorem own_d18_0 : own_D jdk_68_method_68_code 0 (.getstatic 18) 3 3 := ⟨by decide +kernel, rfl⟩
theorem own_d18_3 : own_B jdk_68_method_68_code 3 (.ifCond .eq 14) 14 6 17 := ⟨by decide +kernel, rfl, by decide, by decide⟩
theorem own_d18_6 : own_D jdk_68_method_68_code 6 (.aload_n 0) 1 7 := ⟨by decide +kernel, rfl⟩
theorem own_d18_7 : own_D jdk_68_method_68_code 7 (.getfield 22) 3 10 := ⟨by decide +kernel, rfl⟩
theorem own_d18_10 : own_B jdk_68_method_68_code 10 (.ifCond .ne 7) 7 13 17 := ⟨by decide +kernel, rfl, by decide, by decide⟩
theorem own_d18_13 : own_D jdk_68_method_68_code 13 (.iconst 1) 1 14 := ⟨by decide +kernel, rfl⟩
theorem own_d18_14 : own_B jdk_68_method_68_code 14 (.goto 4) 4 17 18 := ⟨by decide +kernel, rfl, by decide, by decide⟩
theorem own_d18_18 : own_D jdk_68_method_68_code 18 (.ireturn) 1 19 := ⟨by decide +kernel, rfl⟩
theorem own_d19_0 : own_D jdk_42_method_54_code 0 (.aload_n 0) 1 1 := ⟨by decide +kernel, rfl⟩
theorem own_d19_1 : own_D jdk_42_method_54_code 1 (.getfield 9) 3 4 := ⟨by decide +kernel, rfl⟩
theorem own_d19_4 : own_D jdk_42_method_54_code 4 (.arraylength) 1 5 := ⟨by decide +kernel, rfl⟩
theorem own_d19_5 : own_D jdk_42_method_54_code 5 (.aload_n 0) 1 6 := ⟨by decide +kernel, rfl⟩
theorem own_d19_6 : own_D jdk_42_method_54_code 6 (.invokevirtual 335) 3 9 := ⟨by decide +kernel, rfl⟩
theorem own_d19_9 : own_D jdk_42_method_54_code 9 (.ishr) 1 10 := ⟨by decide +kernel, rfl⟩
theorem own_d19_10 : own_D jdk_42_method_54_code 10 (.ireturn) 1 11 := ⟨by decide +kernel, rfl⟩
theorem own_d20_0 : own_D jdk_68_method_71_code 0 (.getstatic 18) 3 3 := ⟨by decide +kernel, rfl⟩
theorem own_d20_3 : own_B jdk_68_method_71_code 3 (.ifCond .eq 18) 18 6 21 := ⟨by decide +kernel, rfl, by decide, by decide⟩
theorem own_d20_6 : own_D jdk_68_method_71_code 6 (.aload_n 0) 1 7 := ⟨by decide +kernel, rfl⟩
theorem own_d20_7 : own_D jdk_68_method_71_code 7 (.getfield 22) 3 10 := ⟨by decide +kernel, rfl⟩
theorem own_d20_10 : own_D jdk_68_method_71_code 10 (.aload_n 1) 1 11 := ⟨by decide +kernel, rfl⟩
theorem own_d20_11 : own_D jdk_68_method_71_code 11 (.invokevirtual 40) 3 14 := ⟨by decide +kernel, rfl⟩
theorem own_d20_14 : own_B jdk_68_method_71_code 14 (.if_icmp .eq 7) 7 17 21 := ⟨by decide +kernel, rfl, by decide, by decide⟩
theorem own_d20_21 : own_D jdk_68_method_71_code 21 (.return_) 1 22 := ⟨by decide +kernel, rfl⟩
theorem own_d21_0 : own_D jdk_42_method_147_code 0 (.aload_n 0) 1 1 := ⟨by decide +kernel, rfl⟩
theorem own_d21_1 : own_D jdk_42_method_147_code 1 (.invokevirtual 335) 3 4 := ⟨by decide +kernel, rfl⟩
theorem own_d21_4 : own_D jdk_42_method_147_code 4 (.iload_n 3) 1 5 := ⟨by decide +kernel, rfl⟩
theorem own_d21_5 : own_B jdk_42_method_147_code 5 (.if_icmp .ne 23) 23 8 28 := ⟨by decide +kernel, rfl, by decide, by decide⟩
theorem own_d21_8 : own_D jdk_42_method_147_code 8 (.aload_n 0) 1 9 := ⟨by decide +kernel, rfl⟩
theorem own_d21_9 : own_D jdk_42_method_147_code 9 (.getfield 9) 3 12 := ⟨by decide +kernel, rfl⟩
theorem own_d21_12 : own_D jdk_42_method_147_code 12 (.iconst 0) 1 13 := ⟨by decide +kernel, rfl⟩
theorem own_d21_13 : own_D jdk_42_method_147_code 13 (.aload_n 1) 1 14 := ⟨by decide +kernel, rfl⟩
theorem own_d21_14 : own_D jdk_42_method_147_code 14 (.iload_n 2) 1 15 := ⟨by decide +kernel, rfl⟩
theorem own_d21_15 : own_D jdk_42_method_147_code 15 (.iload_n 3) 1 16 := ⟨by decide +kernel, rfl⟩
theorem own_d21_16 : own_D jdk_42_method_147_code 16 (.ishl) 1 17 := ⟨by decide +kernel, rfl⟩
theorem own_d21_17 : own_D jdk_42_method_147_code 17 (.aload_n 0) 1 18 := ⟨by decide +kernel, rfl⟩
theorem own_d21_18 : own_D jdk_42_method_147_code 18 (.getfield 9) 3 21 := ⟨by decide +kernel, rfl⟩
theorem own_d21_21 : own_D jdk_42_method_147_code 21 (.arraylength) 1 22 := ⟨by decide +kernel, rfl⟩
theorem own_d21_22 : own_D jdk_42_method_147_code 22 (.invokestatic 212) 3 25 := ⟨by decide +kernel, rfl⟩
theorem own_d21_25 : own_B jdk_42_method_147_code 25 (.goto 18) 18 28 43 := ⟨by decide +kernel, rfl, by decide, by decide⟩
theorem own_d21_43 : own_D jdk_42_method_147_code 43 (.return_) 1 44 := ⟨by decide +kernel, rfl⟩
theorem own_d22_0 : own_D jdk_68_method_73_code 0 (.aload_n 0) 1 1 := ⟨by decide +kernel, rfl⟩
theorem own_d22_1 : own_D jdk_68_method_73_code 1 (.aload_n 2) 1 2 := ⟨by decide +kernel, rfl⟩
theorem own_d22_2 : own_D jdk_68_method_73_code 2 (.invokevirtual 397) 3 5 := ⟨by decide +kernel, rfl⟩
theorem own_d22_5 : own_D jdk_68_method_73_code 5 (.aload_n 2) 1 6 := ⟨by decide +kernel, rfl⟩
theorem own_d22_6 : own_D jdk_68_method_73_code 6 (.aload_n 0) 1 7 := ⟨by decide +kernel, rfl⟩
theorem own_d22_7 : own_D jdk_68_method_73_code 7 (.getfield 15) 3 10 := ⟨by decide +kernel, rfl⟩
theorem own_d22_10 : own_D jdk_68_method_73_code 10 (.iload_n 1) 1 11 := ⟨by decide +kernel, rfl⟩
theorem own_d22_11 : own_D jdk_68_method_73_code 11 (.aload_n 0) 1 12 := ⟨by decide +kernel, rfl⟩
theorem own_d22_12 : own_D jdk_68_method_73_code 12 (.getfield 22) 3 15 := ⟨by decide +kernel, rfl⟩
theorem own_d22_15 : own_D jdk_68_method_73_code 15 (.invokevirtual 399) 3 18 := ⟨by decide +kernel, rfl⟩
theorem own_d22_18 : own_D jdk_68_method_73_code 18 (.return_) 1 19 := ⟨by decide +kernel, rfl⟩
theorem own_d23_0 : own_D jdk_68_method_22_code 0 (.aload_n 1) 1 1 := ⟨by decide +kernel, rfl⟩
theorem own_d23_1 : own_B jdk_68_method_22_code 1 (.ifnonnull 8) 8 4 9 := ⟨by decide +kernel, rfl, by decide, by decide⟩
theorem own_d23_9 : own_D jdk_68_method_22_code 9 (.aload_n 1) 1 10 := ⟨by decide +kernel, rfl⟩
theorem own_d23_10 : own_D jdk_68_method_22_code 10 (.invokevirtual 32) 3 13 := ⟨by decide +kernel, rfl⟩
theorem own_d23_13 : own_D jdk_68_method_22_code 13 (.istore_n 2) 1 14 := ⟨by decide +kernel, rfl⟩
theorem own_d23_14 : own_D jdk_68_method_22_code 14 (.aload_n 0) 1 15 := ⟨by decide +kernel, rfl⟩
theorem own_d23_15 : own_D jdk_68_method_22_code 15 (.aload_n 0) 1 16 := ⟨by decide +kernel, rfl⟩
theorem own_d23_16 : own_D jdk_68_method_22_code 16 (.getfield 79) 3 19 := ⟨by decide +kernel, rfl⟩
theorem own_d23_19 : own_D jdk_68_method_22_code 19 (.iload_n 2) 1 20 := ⟨by decide +kernel, rfl⟩
theorem own_d23_20 : own_D jdk_68_method_22_code 20 (.iadd) 1 21 := ⟨by decide +kernel, rfl⟩
theorem own_d23_21 : own_D jdk_68_method_22_code 21 (.invokevirtual 100) 3 24 := ⟨by decide +kernel, rfl⟩
theorem own_d23_24 : own_D jdk_68_method_22_code 24 (.aload_n 0) 1 25 := ⟨by decide +kernel, rfl⟩
theorem own_d23_25 : own_D jdk_68_method_22_code 25 (.aload_n 0) 1 26 := ⟨by decide +kernel, rfl⟩
theorem own_d23_26 : own_D jdk_68_method_22_code 26 (.getfield 79) 3 29 := ⟨by decide +kernel, rfl⟩
theorem own_d23_29 : own_D jdk_68_method_22_code 29 (.aload_n 1) 1 30 := ⟨by decide +kernel, rfl⟩
theorem own_d23_30 : own_D jdk_68_method_22_code 30 (.invokevirtual 208) 3 33 := ⟨by decide +kernel, rfl⟩
theorem own_d23_33 : own_D jdk_68_method_22_code 33 (.aload_n 0) 1 34 := ⟨by decide +kernel, rfl⟩
theorem own_d23_34 : own_D jdk_68_method_22_code 34 (.dup) 1 35 := ⟨by decide +kernel, rfl⟩
theorem own_d23_35 : own_D jdk_68_method_22_code 35 (.getfield 79) 3 38 := ⟨by decide +kernel, rfl⟩
theorem own_d23_38 : own_D jdk_68_method_22_code 38 (.iload_n 2) 1 39 := ⟨by decide +kernel, rfl⟩
theorem own_d23_39 : own_D jdk_68_method_22_code 39 (.iadd) 1 40 := ⟨by decide +kernel, rfl⟩
theorem own_d23_40 : own_D jdk_68_method_22_code 40 (.putfield 79) 3 43 := ⟨by decide +kernel, rfl⟩
theorem own_d23_43 : own_D jdk_68_method_22_code 43 (.aload_n 0) 1 44 := ⟨by decide +kernel, rfl⟩
theorem own_d23_44 : own_D jdk_68_method_22_code 44 (.areturn) 1 45 := ⟨by decide +kernel, rfl⟩
theorem own_d24_0 : own_D jdk_67_method_7_code 0 (.aload_n 0) 1 1 := ⟨by decide +kernel, rfl⟩
theorem own_d24_1 : own_D jdk_67_method_7_code 1 (.aload_n 1) 1 2 := ⟨by decide +kernel, rfl⟩
theorem own_d24_2 : own_D jdk_67_method_7_code 2 (.invokespecial 29) 3 5 := ⟨by decide +kernel, rfl⟩
theorem own_d24_5 : own_D jdk_67_method_7_code 5 (.pop) 1 6 := ⟨by decide +kernel, rfl⟩
theorem own_d24_6 : own_D jdk_67_method_7_code 6 (.aload_n 0) 1 7 := ⟨by decide +kernel, rfl⟩
theorem own_d24_7 : own_D jdk_67_method_7_code 7 (.areturn) 1 8 := ⟨by decide +kernel, rfl⟩
theorem own_d25_0 : own_D jdk_33_method_13_code 0 (.iconst 1) 1 1 := ⟨by decide +kernel, rfl⟩
theorem own_d25_1 : own_D jdk_33_method_13_code 1 (.istore_n 1) 1 2 := ⟨by decide +kernel, rfl⟩
theorem own_d25_2 : own_D jdk_33_method_13_code 2 (.iload_n 0) 1 3 := ⟨by decide +kernel, rfl⟩
theorem own_d25_3 : own_B jdk_33_method_13_code 3 (.ifCond .lt 8) 8 6 11 := ⟨by decide +kernel, rfl, by decide, by decide⟩
theorem own_d25_6 : own_D jdk_33_method_13_code 6 (.iconst 0) 1 7 := ⟨by decide +kernel, rfl⟩
theorem own_d25_7 : own_D jdk_33_method_13_code 7 (.istore_n 1) 1 8 := ⟨by decide +kernel, rfl⟩
theorem own_d25_8 : own_D jdk_33_method_13_code 8 (.iload_n 0) 1 9 := ⟨by decide +kernel, rfl⟩
theorem own_d25_9 : own_D jdk_33_method_13_code 9 (.ineg) 1 10 := ⟨by decide +kernel, rfl⟩
theorem own_d25_10 : own_D jdk_33_method_13_code 10 (.istore_n 0) 1 11 := ⟨by decide +kernel, rfl⟩
theorem own_d25_11 : own_D jdk_33_method_13_code 11 (.bipush (-10)) 2 13 := ⟨by decide +kernel, rfl⟩
theorem own_d25_13 : own_D jdk_33_method_13_code 13 (.istore_n 2) 1 14 := ⟨by decide +kernel, rfl⟩
theorem own_d25_14 : own_D jdk_33_method_13_code 14 (.iconst 1) 1 15 := ⟨by decide +kernel, rfl⟩
theorem own_d25_15 : own_D jdk_33_method_13_code 15 (.istore_n 3) 1 16 := ⟨by decide +kernel, rfl⟩
theorem own_d25_16 : own_D jdk_33_method_13_code 16 (.iload_n 3) 1 17 := ⟨by decide +kernel, rfl⟩
theorem own_d25_17 : own_D jdk_33_method_13_code 17 (.bipush 10) 2 19 := ⟨by decide +kernel, rfl⟩
theorem own_d25_19 : own_B jdk_33_method_13_code 19 (.if_icmp .ge 23) 23 22 42 := ⟨by decide +kernel, rfl, by decide, by decide⟩
theorem own_d25_22 : own_D jdk_33_method_13_code 22 (.iload_n 0) 1 23 := ⟨by decide +kernel, rfl⟩
theorem own_d25_23 : own_D jdk_33_method_13_code 23 (.iload_n 2) 1 24 := ⟨by decide +kernel, rfl⟩
theorem own_d25_24 : own_B jdk_33_method_13_code 24 (.if_icmp .le 7) 7 27 31 := ⟨by decide +kernel, rfl, by decide, by decide⟩
theorem own_d25_27 : own_D jdk_33_method_13_code 27 (.iload_n 3) 1 28 := ⟨by decide +kernel, rfl⟩
theorem own_d25_28 : own_D jdk_33_method_13_code 28 (.iload_n 1) 1 29 := ⟨by decide +kernel, rfl⟩
theorem own_d25_29 : own_D jdk_33_method_13_code 29 (.iadd) 1 30 := ⟨by decide +kernel, rfl⟩
theorem own_d25_30 : own_D jdk_33_method_13_code 30 (.ireturn) 1 31 := ⟨by decide +kernel, rfl⟩
theorem own_d25_31 : own_D jdk_33_method_13_code 31 (.bipush 10) 2 33 := ⟨by decide +kernel, rfl⟩
theorem own_d25_33 : own_D jdk_33_method_13_code 33 (.iload_n 2) 1 34 := ⟨by decide +kernel, rfl⟩
theorem own_d25_34 : own_D jdk_33_method_13_code 34 (.imul) 1 35 := ⟨by decide +kernel, rfl⟩
theorem own_d25_35 : own_D jdk_33_method_13_code 35 (.istore_n 2) 1 36 := ⟨by decide +kernel, rfl⟩
theorem own_d25_36 : own_D jdk_33_method_13_code 36 (.iinc 3 1) 3 39 := ⟨by decide +kernel, rfl⟩
theorem own_d25_39 : own_B jdk_33_method_13_code 39 (.goto (-23)) (-23) 42 16 := ⟨by decide +kernel, rfl, by decide, by decide⟩
theorem own_d26_0 : own_D jdk_33_method_12_code 0 (.iload_n 1) 1 1 := ⟨by decide +kernel, rfl⟩
theorem own_d26_1 : own_D jdk_33_method_12_code 1 (.istore 5) 2 3 := ⟨by decide +kernel, rfl⟩
theorem own_d26_3 : own_D jdk_33_method_12_code 3 (.iload_n 0) 1 4 := ⟨by decide +kernel, rfl⟩
theorem own_d26_4 : own_B jdk_33_method_12_code 4 (.ifCond .ge 7) 7 7 11 := ⟨by decide +kernel, rfl, by decide, by decide⟩
theorem own_d26_11 : own_D jdk_33_method_12_code 11 (.iconst 0) 1 12 := ⟨by decide +kernel, rfl⟩
theorem own_d26_12 : own_D jdk_33_method_12_code 12 (.istore 6) 2 14 := ⟨by decide +kernel, rfl⟩
theorem own_d26_14 : own_D jdk_33_method_12_code 14 (.iload 6) 2 16 := ⟨by decide +kernel, rfl⟩
theorem own_d26_16 : own_B jdk_33_method_12_code 16 (.ifCond .ne 6) 6 19 22 := ⟨by decide +kernel, rfl, by decide, by decide⟩
theorem own_d26_19 : own_D jdk_33_method_12_code 19 (.iload_n 0) 1 20 := ⟨by decide +kernel, rfl⟩
theorem own_d26_20 : own_D jdk_33_method_12_code 20 (.ineg) 1 21 := ⟨by decide +kernel, rfl⟩
theorem own_d26_21 : own_D jdk_33_method_12_code 21 (.istore_n 0) 1 22 := ⟨by decide +kernel, rfl⟩
theorem own_d26_22 : own_D jdk_33_method_12_code 22 (.iload_n 0) 1 23 := ⟨by decide +kernel, rfl⟩
theorem own_d26_23 : own_D jdk_33_method_12_code 23 (.bipush (-100)) 2 25 := ⟨by decide +kernel, rfl⟩
theorem own_d26_25 : own_B jdk_33_method_12_code 25 (.if_icmp .gt 47) 47 28 72 := ⟨by decide +kernel, rfl, by decide, by decide⟩
theorem own_d26_72 : own_D jdk_33_method_12_code 72 (.aload_n 2) 1 73 := ⟨by decide +kernel, rfl⟩
theorem own_d26_73 : own_D jdk_33_method_12_code 73 (.iinc 5 (-1)) 3 76 := ⟨by decide +kernel, rfl⟩
theorem own_d26_76 : own_D jdk_33_method_12_code 76 (.iload 5) 2 78 := ⟨by decide +kernel, rfl⟩
theorem own_d26_78 : own_D jdk_33_method_12_code 78 (.getstatic 83) 3 81 := ⟨by decide +kernel, rfl⟩
theorem own_d26_81 : own_D jdk_33_method_12_code 81 (.iload_n 0) 1 82 := ⟨by decide +kernel, rfl⟩
theorem own_d26_82 : own_D jdk_33_method_12_code 82 (.ineg) 1 83 := ⟨by decide +kernel, rfl⟩
theorem own_d26_83 : own_D jdk_33_method_12_code 83 (.baload) 1 84 := ⟨by decide +kernel, rfl⟩
theorem own_d26_84 : own_D jdk_33_method_12_code 84 (.bastore) 1 85 := ⟨by decide +kernel, rfl⟩
theorem own_d26_85 : own_D jdk_33_method_12_code 85 (.iload_n 0) 1 86 := ⟨by decide +kernel, rfl⟩
theorem own_d26_86 : own_D jdk_33_method_12_code 86 (.bipush (-9)) 2 88 := ⟨by decide +kernel, rfl⟩
theorem own_d26_88 : own_B jdk_33_method_12_code 88 (.if_icmp .ge 16) 16 91 104 := ⟨by decide +kernel, rfl, by decide, by decide⟩
theorem own_d26_104 : own_D jdk_33_method_12_code 104 (.iload 6) 2 106 := ⟨by decide +kernel, rfl⟩
theorem own_d26_106 : own_B jdk_33_method_12_code 106 (.ifCond .eq 12) 12 109 118 := ⟨by decide +kernel, rfl, by decide, by decide⟩
theorem own_d26_118 : own_D jdk_33_method_12_code 118 (.iload 5) 2 120 := ⟨by decide +kernel, rfl⟩
theorem own_d26_120 : own_D jdk_33_method_12_code 120 (.ireturn) 1 121 := ⟨by decide +kernel, rfl⟩
theorem own_d26_91 : own_D jdk_33_method_12_code 91 (.aload_n 2) 1 92 := ⟨by decide +kernel, rfl⟩
theorem own_d26_92 : own_D jdk_33_method_12_code 92 (.iinc 5 (-1)) 3 95 := ⟨by decide +kernel, rfl⟩
theorem own_d26_95 : own_D jdk_33_method_12_code 95 (.iload 5) 2 97 := ⟨by decide +kernel, rfl⟩
theorem own_d26_97 : own_D jdk_33_method_12_code 97 (.getstatic 87) 3 100 := ⟨by decide +kernel, rfl⟩
theorem own_d26_100 : own_D jdk_33_method_12_code 100 (.iload_n 0) 1 101 := ⟨by decide +kernel, rfl⟩
theorem own_d26_101 : own_D jdk_33_method_12_code 101 (.ineg) 1 102 := ⟨by decide +kernel, rfl⟩
theorem own_d26_102 : own_D jdk_33_method_12_code 102 (.baload) 1 103 := ⟨by decide +kernel, rfl⟩
theorem own_d26_103 : own_D jdk_33_method_12_code 103 (.bastore) 1 104 := ⟨by decide +kernel, rfl⟩
theorem own_d26_28 : own_D jdk_33_method_12_code 28 (.iload_n 0) 1 29 := ⟨by decide +kernel, rfl⟩
theorem own_d26_29 : own_D jdk_33_method_12_code 29 (.bipush 100) 2 31 := ⟨by decide +kernel, rfl⟩
theorem own_d26_31 : own_D jdk_33_method_12_code 31 (.idiv) 1 32 := ⟨by decide +kernel, rfl⟩
theorem own_d26_32 : own_D jdk_33_method_12_code 32 (.istore_n 3) 1 33 := ⟨by decide +kernel, rfl⟩
theorem own_d26_33 : own_D jdk_33_method_12_code 33 (.iload_n 3) 1 34 := ⟨by decide +kernel, rfl⟩
theorem own_d26_34 : own_D jdk_33_method_12_code 34 (.bipush 100) 2 36 := ⟨by decide +kernel, rfl⟩
theorem own_d26_36 : own_D jdk_33_method_12_code 36 (.imul) 1 37 := ⟨by decide +kernel, rfl⟩
theorem own_d26_37 : own_D jdk_33_method_12_code 37 (.iload_n 0) 1 38 := ⟨by decide +kernel, rfl⟩
theorem own_d26_38 : own_D jdk_33_method_12_code 38 (.isub) 1 39 := ⟨by decide +kernel, rfl⟩
theorem own_d26_39 : own_D jdk_33_method_12_code 39 (.istore 4) 2 41 := ⟨by decide +kernel, rfl⟩
theorem own_d26_41 : own_D jdk_33_method_12_code 41 (.iload_n 3) 1 42 := ⟨by decide +kernel, rfl⟩
theorem own_d26_42 : own_D jdk_33_method_12_code 42 (.istore_n 0) 1 43 := ⟨by decide +kernel, rfl⟩
theorem own_d26_43 : own_D jdk_33_method_12_code 43 (.aload_n 2) 1 44 := ⟨by decide +kernel, rfl⟩
theorem own_d26_44 : own_D jdk_33_method_12_code 44 (.iinc 5 (-1)) 3 47 := ⟨by decide +kernel, rfl⟩
theorem own_d26_47 : own_D jdk_33_method_12_code 47 (.iload 5) 2 49 := ⟨by decide +kernel, rfl⟩
theorem own_d26_49 : own_D jdk_33_method_12_code 49 (.getstatic 83) 3 52 := ⟨by decide +kernel, rfl⟩
theorem own_d26_52 : own_D jdk_33_method_12_code 52 (.iload 4) 2 54 := ⟨by decide +kernel, rfl⟩
theorem own_d26_54 : own_D jdk_33_method_12_code 54 (.baload) 1 55 := ⟨by decide +kernel, rfl⟩
theorem own_d26_55 : own_D jdk_33_method_12_code 55 (.bastore) 1 56 := ⟨by decide +kernel, rfl⟩
theorem own_d26_56 : own_D jdk_33_method_12_code 56 (.aload_n 2) 1 57 := ⟨by decide +kernel, rfl⟩
theorem own_d26_57 : own_D jdk_33_method_12_code 57 (.iinc 5 (-1)) 3 60 := ⟨by decide +kernel, rfl⟩
theorem own_d26_60 : own_D jdk_33_method_12_code 60 (.iload 5) 2 62 := ⟨by decide +kernel, rfl⟩
theorem own_d26_62 : own_D jdk_33_method_12_code 62 (.getstatic 87) 3 65 := ⟨by decide +kernel, rfl⟩
theorem own_d26_65 : own_D jdk_33_method_12_code 65 (.iload 4) 2 67 := ⟨by decide +kernel, rfl⟩
theorem own_d26_67 : own_D jdk_33_method_12_code 67 (.baload) 1 68 := ⟨by decide +kernel, rfl⟩
theorem own_d26_68 : own_D jdk_33_method_12_code 68 (.bastore) 1 69 := ⟨by decide +kernel, rfl⟩
theorem own_d26_69 : own_B jdk_33_method_12_code 69 (.goto (-47)) (-47) 72 22 := ⟨by decide +kernel, rfl, by decide, by decide⟩
theorem own_d27_0 : own_D jdk_68_method_32_code 0 (.aload_n 0) 1 1 := ⟨by decide +kernel, rfl⟩
theorem own_d27_1 : own_D jdk_68_method_32_code 1 (.getfield 79) 3 4 := ⟨by decide +kernel, rfl⟩
theorem own_d27_4 : own_D jdk_68_method_32_code 4 (.istore_n 2) 1 5 := ⟨by decide +kernel, rfl⟩
theorem own_d27_5 : own_D jdk_68_method_32_code 5 (.iload_n 2) 1 6 := ⟨by decide +kernel, rfl⟩
theorem own_d27_6 : own_D jdk_68_method_32_code 6 (.iload_n 1) 1 7 := ⟨by decide +kernel, rfl⟩
theorem own_d27_7 : own_D jdk_68_method_32_code 7 (.invokestatic 245) 3 10 := ⟨by decide +kernel, rfl⟩
theorem own_d27_10 : own_D jdk_68_method_32_code 10 (.iadd) 1 11 := ⟨by decide +kernel, rfl⟩
theorem own_d27_11 : own_D jdk_68_method_32_code 11 (.istore_n 3) 1 12 := ⟨by decide +kernel, rfl⟩
theorem own_d27_12 : own_D jdk_68_method_32_code 12 (.aload_n 0) 1 13 := ⟨by decide +kernel, rfl⟩
theorem own_d27_13 : own_D jdk_68_method_32_code 13 (.iload_n 3) 1 14 := ⟨by decide +kernel, rfl⟩
theorem own_d27_14 : own_D jdk_68_method_32_code 14 (.invokevirtual 100) 3 17 := ⟨by decide +kernel, rfl⟩
theorem own_d27_17 : own_D jdk_68_method_32_code 17 (.aload_n 0) 1 18 := ⟨by decide +kernel, rfl⟩
theorem own_d27_18 : own_D jdk_68_method_32_code 18 (.invokevirtual 83) 3 21 := ⟨by decide +kernel, rfl⟩
theorem own_d27_21 : own_B jdk_68_method_32_code 21 (.ifCond .eq 16) 16 24 37 := ⟨by decide +kernel, rfl, by decide, by decide⟩
theorem own_d27_24 : own_D jdk_68_method_32_code 24 (.iload_n 1) 1 25 := ⟨by decide +kernel, rfl⟩
theorem own_d27_25 : own_D jdk_68_method_32_code 25 (.iload_n 3) 1 26 := ⟨by decide +kernel, rfl⟩
theorem own_d27_26 : own_D jdk_68_method_32_code 26 (.aload_n 0) 1 27 := ⟨by decide +kernel, rfl⟩
theorem own_d27_27 : own_D jdk_68_method_32_code 27 (.getfield 15) 3 30 := ⟨by decide +kernel, rfl⟩
theorem own_d27_30 : own_D jdk_68_method_32_code 30 (.invokestatic 248) 3 33 := ⟨by decide +kernel, rfl⟩
theorem own_d27_33 : own_D jdk_68_method_32_code 33 (.pop) 1 34 := ⟨by decide +kernel, rfl⟩
theorem own_d27_34 : own_B jdk_68_method_32_code 34 (.goto 14) 14 37 48 := ⟨by decide +kernel, rfl, by decide, by decide⟩
theorem own_d27_48 : own_D jdk_68_method_32_code 48 (.aload_n 0) 1 49 := ⟨by decide +kernel, rfl⟩
theorem own_d27_49 : own_D jdk_68_method_32_code 49 (.iload_n 3) 1 50 := ⟨by decide +kernel, rfl⟩
theorem own_d27_50 : own_D jdk_68_method_32_code 50 (.putfield 79) 3 53 := ⟨by decide +kernel, rfl⟩
theorem own_d27_53 : own_D jdk_68_method_32_code 53 (.aload_n 0) 1 54 := ⟨by decide +kernel, rfl⟩
theorem own_d27_54 : own_D jdk_68_method_32_code 54 (.areturn) 1 55 := ⟨by decide +kernel, rfl⟩
theorem own_d28_0 : own_D jdk_67_method_15_code 0 (.aload_n 0) 1 1 := ⟨by decide +kernel, rfl⟩
theorem own_d28_1 : own_D jdk_67_method_15_code 1 (.iload_n 1) 1 2 := ⟨by decide +kernel, rfl⟩
theorem own_d28_2 : own_D jdk_67_method_15_code 2 (.invokespecial 53) 3 5 := ⟨by decide +kernel, rfl⟩
theorem own_d28_5 : own_D jdk_67_method_15_code 5 (.pop) 1 6 := ⟨by decide +kernel, rfl⟩
theorem own_d28_6 : own_D jdk_67_method_15_code 6 (.aload_n 0) 1 7 := ⟨by decide +kernel, rfl⟩
theorem own_d28_7 : own_D jdk_67_method_15_code 7 (.areturn) 1 8 := ⟨by decide +kernel, rfl⟩
theorem own_d29_0 : own_D jdk_68_method_64_code 0 (.aload_n 0) 1 1 := ⟨by decide +kernel, rfl⟩
theorem own_d29_1 : own_D jdk_68_method_64_code 1 (.getfield 15) 3 4 := ⟨by decide +kernel, rfl⟩
theorem own_d29_4 : own_D jdk_68_method_64_code 4 (.areturn) 1 5 := ⟨by decide +kernel, rfl⟩
theorem own_d30_0 : own_D jdk_68_method_6_code 0 (.aload_n 0) 1 1 := ⟨by decide +kernel, rfl⟩
theorem own_d30_1 : own_D jdk_68_method_6_code 1 (.getfield 79) 3 4 := ⟨by decide +kernel, rfl⟩
theorem own_d30_4 : own_D jdk_68_method_6_code 4 (.ireturn) 1 5 := ⟨by decide +kernel, rfl⟩
theorem own_d31_0 : own_D jdk_67_method_93_code 0 (.aload_n 0) 1 1 := ⟨by decide +kernel, rfl⟩
theorem own_d31_1 : own_D jdk_67_method_93_code 1 (.invokespecial 343) 3 4 := ⟨by decide +kernel, rfl⟩
theorem own_d31_4 : own_D jdk_67_method_93_code 4 (.ireturn) 1 5 := ⟨by decide +kernel, rfl⟩
theorem own_d32_0 : own_D jdk_65_method_131_code 0 (.iload_n 1) 1 1 := ⟨by decide +kernel, rfl⟩
theorem own_d32_1 : own_D jdk_65_method_131_code 1 (.iload_n 0) 1 2 := ⟨by decide +kernel, rfl⟩
theorem own_d32_2 : own_B jdk_65_method_131_code 2 (.if_icmp .ge 35) 35 5 37 := ⟨by decide +kernel, rfl, by decide, by decide⟩
theorem own_d32_37 : own_D jdk_65_method_131_code 37 (.return_) 1 38 := ⟨by decide +kernel, rfl⟩
theorem own_d33_0 : own_D jdk_29_method_69_code 0 (.iload_n 0) 1 1 := ⟨by decide +kernel, rfl⟩
theorem own_d33_1 : own_D jdk_29_method_69_code 1 (.iload_n 1) 1 2 := ⟨by decide +kernel, rfl⟩
theorem own_d33_2 : own_B jdk_29_method_69_code 2 (.if_icmp .gt 7) 7 5 9 := ⟨by decide +kernel, rfl, by decide, by decide⟩
theorem own_d33_9 : own_D jdk_29_method_69_code 9 (.iload_n 1) 1 10 := ⟨by decide +kernel, rfl⟩
theorem own_d33_10 : own_D jdk_29_method_69_code 10 (.ireturn) 1 11 := ⟨by decide +kernel, rfl⟩
theorem own_d34_0 : own_D jdk_65_method_133_code 0 (.iload_n 1) 1 1 := ⟨by decide +kernel, rfl⟩
theorem own_d34_1 : own_D jdk_65_method_133_code 1 (.iload_n 2) 1 2 := ⟨by decide +kernel, rfl⟩
theorem own_d34_2 : own_D jdk_65_method_133_code 2 (.invokestatic 343) 3 5 := ⟨by decide +kernel, rfl⟩
theorem own_d34_5 : own_D jdk_65_method_133_code 5 (.iload_n 2) 1 6 := ⟨by decide +kernel, rfl⟩
theorem own_d34_6 : own_D jdk_65_method_133_code 6 (.iload_n 1) 1 7 := ⟨by decide +kernel, rfl⟩
theorem own_d34_7 : own_D jdk_65_method_133_code 7 (.isub) 1 8 := ⟨by decide +kernel, rfl⟩
theorem own_d34_8 : own_D jdk_65_method_133_code 8 (.istore_n 3) 1 9 := ⟨by decide +kernel, rfl⟩
theorem own_d34_9 : own_D jdk_65_method_133_code 9 (.iload_n 3) 1 10 := ⟨by decide +kernel, rfl⟩
theorem own_d34_10 : own_D jdk_65_method_133_code 10 (.newarray .byte) 2 12 := ⟨by decide +kernel, rfl⟩
theorem own_d34_12 : own_D jdk_65_method_133_code 12 (.astore 4) 2 14 := ⟨by decide +kernel, rfl⟩
theorem own_d34_14 : own_D jdk_65_method_133_code 14 (.aload_n 0) 1 15 := ⟨by decide +kernel, rfl⟩
theorem own_d34_15 : own_D jdk_65_method_133_code 15 (.iload_n 1) 1 16 := ⟨by decide +kernel, rfl⟩
theorem own_d34_16 : own_D jdk_65_method_133_code 16 (.aload 4) 2 18 := ⟨by decide +kernel, rfl⟩
theorem own_d34_18 : own_D jdk_65_method_133_code 18 (.iconst 0) 1 19 := ⟨by decide +kernel, rfl⟩
theorem own_d34_19 : own_D jdk_65_method_133_code 19 (.aload_n 0) 1 20 := ⟨by decide +kernel, rfl⟩
theorem own_d34_20 : own_D jdk_65_method_133_code 20 (.arraylength) 1 21 := ⟨by decide +kernel, rfl⟩
theorem own_d34_21 : own_D jdk_65_method_133_code 21 (.iload_n 1) 1 22 := ⟨by decide +kernel, rfl⟩
theorem own_d34_22 : own_D jdk_65_method_133_code 22 (.isub) 1 23 := ⟨by decide +kernel, rfl⟩
theorem own_d34_23 : own_D jdk_65_method_133_code 23 (.iload_n 3) 1 24 := ⟨by decide +kernel, rfl⟩
theorem own_d34_24 : own_D jdk_65_method_133_code 24 (.invokestatic 304) 3 27 := ⟨by decide +kernel, rfl⟩
theorem own_d34_27 : own_D jdk_65_method_133_code 27 (.invokestatic 150) 3 30 := ⟨by decide +kernel, rfl⟩
theorem own_d34_30 : own_D jdk_65_method_133_code 30 (.aload 4) 2 32 := ⟨by decide +kernel, rfl⟩
theorem own_d34_32 : own_D jdk_65_method_133_code 32 (.areturn) 1 33 := ⟨by decide +kernel, rfl⟩
theorem own_d35_0 : own_D jdk_65_method_132_code 0 (.iload_n 1) 1 1 := ⟨by decide +kernel, rfl⟩
theorem own_d35_1 : own_B jdk_65_method_132_code 1 (.ifCond .ne 9) 9 4 10 := ⟨by decide +kernel, rfl, by decide, by decide⟩
theorem own_d35_4 : own_D jdk_65_method_132_code 4 (.iload_n 2) 1 5 := ⟨by decide +kernel, rfl⟩
theorem own_d35_5 : own_D jdk_65_method_132_code 5 (.aload_n 0) 1 6 := ⟨by decide +kernel, rfl⟩
theorem own_d35_6 : own_D jdk_65_method_132_code 6 (.arraylength) 1 7 := ⟨by decide +kernel, rfl⟩
theorem own_d35_7 : own_B jdk_65_method_132_code 7 (.if_icmp .eq 10) 10 10 17 := ⟨by decide +kernel, rfl, by decide, by decide⟩
theorem own_d35_10 : own_D jdk_65_method_132_code 10 (.aload_n 0) 1 11 := ⟨by decide +kernel, rfl⟩
theorem own_d35_11 : own_D jdk_65_method_132_code 11 (.iload_n 1) 1 12 := ⟨by decide +kernel, rfl⟩
theorem own_d35_12 : own_D jdk_65_method_132_code 12 (.iload_n 2) 1 13 := ⟨by decide +kernel, rfl⟩
theorem own_d35_13 : own_D jdk_65_method_132_code 13 (.invokestatic 339) 3 16 := ⟨by decide +kernel, rfl⟩
theorem own_d35_16 : own_D jdk_65_method_132_code 16 (.areturn) 1 17 := ⟨by decide +kernel, rfl⟩
theorem own_d36_0 : own_D jdk_42_method_150_code 0 (.aload_n 0) 1 1 := ⟨by decide +kernel, rfl⟩
theorem own_d36_1 : own_D jdk_42_method_150_code 1 (.invokespecial 1) 3 4 := ⟨by decide +kernel, rfl⟩
theorem own_d36_4 : own_D jdk_42_method_150_code 4 (.aload_n 1) 1 5 := ⟨by decide +kernel, rfl⟩
theorem own_d36_5 : own_D jdk_42_method_150_code 5 (.invokevirtual 552) 3 8 := ⟨by decide +kernel, rfl⟩
theorem own_d36_8 : own_D jdk_42_method_150_code 8 (.astore_n 3) 1 9 := ⟨by decide +kernel, rfl⟩
theorem own_d36_9 : own_D jdk_42_method_150_code 9 (.aload_n 1) 1 10 := ⟨by decide +kernel, rfl⟩
theorem own_d36_10 : own_D jdk_42_method_150_code 10 (.invokevirtual 549) 3 13 := ⟨by decide +kernel, rfl⟩
theorem own_d36_13 : own_D jdk_42_method_150_code 13 (.istore 4) 2 15 := ⟨by decide +kernel, rfl⟩
theorem own_d36_15 : own_D jdk_42_method_150_code 15 (.aload_n 1) 1 16 := ⟨by decide +kernel, rfl⟩
theorem own_d36_16 : own_D jdk_42_method_150_code 16 (.invokevirtual 1047) 3 19 := ⟨by decide +kernel, rfl⟩
theorem own_d36_19 : own_B jdk_42_method_150_code 19 (.ifCond .eq 22) 22 22 41 := ⟨by decide +kernel, rfl, by decide, by decide⟩
theorem own_d36_22 : own_D jdk_42_method_150_code 22 (.aload_n 0) 1 23 := ⟨by decide +kernel, rfl⟩
theorem own_d36_23 : own_D jdk_42_method_150_code 23 (.iconst 0) 1 24 := ⟨by decide +kernel, rfl⟩
theorem own_d36_24 : own_D jdk_42_method_150_code 24 (.putfield 15) 3 27 := ⟨by decide +kernel, rfl⟩
theorem own_d36_27 : own_D jdk_42_method_150_code 27 (.aload_n 0) 1 28 := ⟨by decide +kernel, rfl⟩
theorem own_d36_28 : own_D jdk_42_method_150_code 28 (.aload_n 3) 1 29 := ⟨by decide +kernel, rfl⟩
theorem own_d36_29 : own_D jdk_42_method_150_code 29 (.iconst 0) 1 30 := ⟨by decide +kernel, rfl⟩
theorem own_d36_30 : own_D jdk_42_method_150_code 30 (.iload 4) 2 32 := ⟨by decide +kernel, rfl⟩
theorem own_d36_32 : own_D jdk_42_method_150_code 32 (.invokestatic 54) 3 35 := ⟨by decide +kernel, rfl⟩
theorem own_d36_35 : own_D jdk_42_method_150_code 35 (.putfield 9) 3 38 := ⟨by decide +kernel, rfl⟩
theorem own_d36_38 : own_B jdk_42_method_150_code 38 (.goto 59) 59 41 97 := ⟨by decide +kernel, rfl, by decide, by decide⟩
theorem own_d36_97 : own_D jdk_42_method_150_code 97 (.return_) 1 98 := ⟨by decide +kernel, rfl⟩
theorem own_d37_0 : own_D jdk_42_method_53_code 0 (.aload_n 0) 1 1 := ⟨by decide +kernel, rfl⟩
theorem own_d37_1 : own_D jdk_42_method_53_code 1 (.aload_n 1) 1 2 := ⟨by decide +kernel, rfl⟩
theorem own_d37_2 : own_D jdk_42_method_53_code 2 (.aconst_null) 1 3 := ⟨by decide +kernel, rfl⟩
theorem own_d37_3 : own_D jdk_42_method_53_code 3 (.invokespecial 489) 3 6 := ⟨by decide +kernel, rfl⟩
theorem own_d37_6 : own_D jdk_42_method_53_code 6 (.return_) 1 7 := ⟨by decide +kernel, rfl⟩
theorem own_d38_0 : own_D jdk_67_method_42_code 0 (.new 18) 3 3 := ⟨by decide +kernel, rfl⟩
theorem own_d38_3 : own_D jdk_67_method_42_code 3 (.dup) 1 4 := ⟨by decide +kernel, rfl⟩
theorem own_d38_4 : own_D jdk_67_method_42_code 4 (.aload_n 0) 1 5 := ⟨by decide +kernel, rfl⟩
theorem own_d38_5 : own_D jdk_67_method_42_code 5 (.invokespecial 137) 3 8 := ⟨by decide +kernel, rfl⟩
theorem own_d38_8 : own_D jdk_67_method_42_code 8 (.areturn) 1 9 := ⟨by decide +kernel, rfl⟩
theorem own_d39_0 : own_D prog_16_method_2_code 0 (.new 18) 3 3 := ⟨by decide +kernel, rfl⟩
theorem own_d39_3 : own_D prog_16_method_2_code 3 (.dup) 1 4 := ⟨by decide +kernel, rfl⟩
theorem own_d39_4 : own_D prog_16_method_2_code 4 (.invokespecial 20) 3 7 := ⟨by decide +kernel, rfl⟩
theorem own_d39_7 : own_D prog_16_method_2_code 7 (.aload_n 0) 1 8 := ⟨by decide +kernel, rfl⟩
theorem own_d39_8 : own_D prog_16_method_2_code 8 (.getfield 37) 3 11 := ⟨by decide +kernel, rfl⟩
theorem own_d39_11 : own_D prog_16_method_2_code 11 (.invokevirtual 23) 3 14 := ⟨by decide +kernel, rfl⟩
theorem own_d39_14 : own_D prog_16_method_2_code 14 (.ldc 46) 2 16 := ⟨by decide +kernel, rfl⟩
theorem own_d39_16 : own_D prog_16_method_2_code 16 (.invokevirtual 23) 3 19 := ⟨by decide +kernel, rfl⟩
theorem own_d39_19 : own_D prog_16_method_2_code 19 (.aload_n 0) 1 20 := ⟨by decide +kernel, rfl⟩
theorem own_d39_20 : own_D prog_16_method_2_code 20 (.getfield 42) 3 23 := ⟨by decide +kernel, rfl⟩
theorem own_d39_23 : own_D prog_16_method_2_code 23 (.invokevirtual 27) 3 26 := ⟨by decide +kernel, rfl⟩
theorem own_d39_26 : own_D prog_16_method_2_code 26 (.invokevirtual 30) 3 29 := ⟨by decide +kernel, rfl⟩
theorem own_d39_29 : own_D prog_16_method_2_code 29 (.areturn) 1 30 := ⟨by decide +kernel, rfl⟩
theorem own_d40_0 : own_D method_4_code 0 (.iload_n 1) 1 1 := ⟨by decide +kernel, rfl⟩
theorem own_d40_1 : own_B method_4_code 1 (.ifCond .ne 7) 7 4 8 := ⟨by decide +kernel, rfl, by decide, by decide⟩
theorem own_d40_8 : own_D method_4_code 8 (.iload_n 1) 1 9 := ⟨by decide +kernel, rfl⟩
theorem own_d40_9 : own_D method_4_code 9 (.iconst 1) 1 10 := ⟨by decide +kernel, rfl⟩
theorem own_d40_10 : own_B method_4_code 10 (.if_icmp .ne 8) 8 13 18 := ⟨by decide +kernel, rfl, by decide, by decide⟩
theorem own_d40_18 : own_D method_4_code 18 (.iload_n 1) 1 19 := ⟨by decide +kernel, rfl⟩
theorem own_d40_19 : own_D method_4_code 19 (.iconst 2) 1 20 := ⟨by decide +kernel, rfl⟩
theorem own_d40_20 : own_B method_4_code 20 (.if_icmp .ne 8) 8 23 28 := ⟨by decide +kernel, rfl, by decide, by decide⟩
theorem own_d40_28 : own_D method_4_code 28 (.iload_n 1) 1 29 := ⟨by decide +kernel, rfl⟩
theorem own_d40_29 : own_D method_4_code 29 (.iconst 3) 1 30 := ⟨by decide +kernel, rfl⟩
theorem own_d40_30 : own_B method_4_code 30 (.if_icmp .ne 9) 9 33 39 := ⟨by decide +kernel, rfl, by decide, by decide⟩
theorem own_d40_39 : own_D method_4_code 39 (.sipush 10000) 3 42 := ⟨by decide +kernel, rfl⟩
theorem own_d40_42 : own_D method_4_code 42 (.istore_n 2) 1 43 := ⟨by decide +kernel, rfl⟩
theorem own_d40_43 : own_D method_4_code 43 (.bipush 48) 2 45 := ⟨by decide +kernel, rfl⟩
theorem own_d40_45 : own_D method_4_code 45 (.iload_n 0) 1 46 := ⟨by decide +kernel, rfl⟩
theorem own_d40_46 : own_D method_4_code 46 (.iload_n 2) 1 47 := ⟨by decide +kernel, rfl⟩
theorem own_d40_47 : own_D method_4_code 47 (.idiv) 1 48 := ⟨by decide +kernel, rfl⟩
theorem own_d40_48 : own_D method_4_code 48 (.bipush 10) 2 50 := ⟨by decide +kernel, rfl⟩
theorem own_d40_50 : own_D method_4_code 50 (.irem) 1 51 := ⟨by decide +kernel, rfl⟩
theorem own_d40_51 : own_D method_4_code 51 (.iadd) 1 52 := ⟨by decide +kernel, rfl⟩
theorem own_d40_52 : own_D method_4_code 52 (.i2c) 1 53 := ⟨by decide +kernel, rfl⟩
theorem own_d40_53 : own_D method_4_code 53 (.ireturn) 1 54 := ⟨by decide +kernel, rfl⟩
theorem own_d40_33 : own_D method_4_code 33 (.sipush 1000) 3 36 := ⟨by decide +kernel, rfl⟩
theorem own_d40_36 : own_B method_4_code 36 (.goto 6) 6 39 42 := ⟨by decide +kernel, rfl, by decide, by decide⟩
theorem own_d40_23 : own_D method_4_code 23 (.bipush 100) 2 25 := ⟨by decide +kernel, rfl⟩
theorem own_d40_25 : own_B method_4_code 25 (.goto 17) 17 28 42 := ⟨by decide +kernel, rfl, by decide, by decide⟩
theorem own_d40_13 : own_D method_4_code 13 (.bipush 10) 2 15 := ⟨by decide +kernel, rfl⟩
theorem own_d40_15 : own_B method_4_code 15 (.goto 27) 27 18 42 := ⟨by decide +kernel, rfl, by decide, by decide⟩
theorem own_d40_4 : own_D method_4_code 4 (.iconst 1) 1 5 := ⟨by decide +kernel, rfl⟩
theorem own_d40_5 : own_B method_4_code 5 (.goto 37) 37 8 42 := ⟨by decide +kernel, rfl, by decide, by decide⟩
theorem own_d41_0 : own_D code 0 (.iload_n 1) 1 1 := ⟨by decide +kernel, rfl⟩
theorem own_d41_1 : own_D code 1 (.iconst 3) 1 2 := ⟨by decide +kernel, rfl⟩
theorem own_d41_2 : own_D code 2 (.iand) 1 3 := ⟨by decide +kernel, rfl⟩
theorem own_d41_3 : own_D code 3 (.istore_n 3) 1 4 := ⟨by decide +kernel, rfl⟩
theorem own_d41_4 : own_D code 4 (.iload_n 0) 1 5 := ⟨by decide +kernel, rfl⟩
theorem own_d41_5 : own_D code 5 (.sipush 255) 3 8 := ⟨by decide +kernel, rfl⟩
theorem own_d41_8 : own_D code 8 (.iand) 1 9 := ⟨by decide +kernel, rfl⟩
theorem own_d41_9 : own_D code 9 (.i2c) 1 10 := ⟨by decide +kernel, rfl⟩
theorem own_d41_10 : own_D code 10 (.istore 4) 2 12 := ⟨by decide +kernel, rfl⟩
theorem own_d41_12 : own_D code 12 (.iload_n 0) 1 13 := ⟨by decide +kernel, rfl⟩
theorem own_d41_13 : own_D code 13 (.bipush 8) 2 15 := ⟨by decide +kernel, rfl⟩
theorem own_d41_15 : own_D code 15 (.iushr) 1 16 := ⟨by decide +kernel, rfl⟩
theorem own_d41_16 : own_D code 16 (.sipush 255) 3 19 := ⟨by decide +kernel, rfl⟩
theorem own_d41_19 : own_D code 19 (.iand) 1 20 := ⟨by decide +kernel, rfl⟩
theorem own_d41_20 : own_D code 20 (.i2c) 1 21 := ⟨by decide +kernel, rfl⟩
theorem own_d41_21 : own_D code 21 (.istore 5) 2 23 := ⟨by decide +kernel, rfl⟩
theorem own_d41_23 : own_D code 23 (.iload_n 0) 1 24 := ⟨by decide +kernel, rfl⟩
theorem own_d41_24 : own_D code 24 (.bipush 16) 2 26 := ⟨by decide +kernel, rfl⟩
theorem own_d41_26 : own_D code 26 (.iushr) 1 27 := ⟨by decide +kernel, rfl⟩
theorem own_d41_27 : own_D code 27 (.sipush 255) 3 30 := ⟨by decide +kernel, rfl⟩
theorem own_d41_30 : own_D code 30 (.iand) 1 31 := ⟨by decide +kernel, rfl⟩
theorem own_d41_31 : own_D code 31 (.i2c) 1 32 := ⟨by decide +kernel, rfl⟩
theorem own_d41_32 : own_D code 32 (.istore 6) 2 34 := ⟨by decide +kernel, rfl⟩
theorem own_d41_34 : own_D code 34 (.iload_n 3) 1 35 := ⟨by decide +kernel, rfl⟩
theorem own_d41_35 : own_D code 35 (.iload 4) 2 37 := ⟨by decide +kernel, rfl⟩
theorem own_d41_37 : own_D code 37 (.iload 5) 2 39 := ⟨by decide +kernel, rfl⟩
theorem own_d41_39 : own_D code 39 (.iload 6) 2 41 := ⟨by decide +kernel, rfl⟩
theorem own_d41_41 : own_D code 41 (.invokestatic 7) 3 44 := ⟨by decide +kernel, rfl⟩
theorem own_d41_44 : own_D code 44 (.astore 7) 2 46 := ⟨by decide +kernel, rfl⟩
theorem own_d41_46 : own_D code 46 (.iconst 1) 1 47 := ⟨by decide +kernel, rfl⟩
theorem own_d41_47 : own_D code 47 (.iload_n 2) 1 48 := ⟨by decide +kernel, rfl⟩
theorem own_d41_48 : own_D code 48 (.ldc 13) 2 50 := ⟨by decide +kernel, rfl⟩
theorem own_d41_50 : own_D code 50 (.iand) 1 51 := ⟨by decide +kernel, rfl⟩
theorem own_d41_51 : own_D code 51 (.ldc 14) 2 53 := ⟨by decide +kernel, rfl⟩
theorem own_d41_53 : own_D code 53 (.irem) 1 54 := ⟨by decide +kernel, rfl⟩
theorem own_d41_54 : own_D code 54 (.iadd) 1 55 := ⟨by decide +kernel, rfl⟩
theorem own_d41_55 : own_D code 55 (.istore 8) 2 57 := ⟨by decide +kernel, rfl⟩
theorem own_d41_57 : own_D code 57 (.new 15) 3 60 := ⟨by decide +kernel, rfl⟩
theorem own_d41_60 : own_D code 60 (.dup) 1 61 := ⟨by decide +kernel, rfl⟩
theorem own_d41_61 : own_D code 61 (.aload 7) 2 63 := ⟨by decide +kernel, rfl⟩
theorem own_d41_63 : own_D code 63 (.iload 8) 2 65 := ⟨by decide +kernel, rfl⟩
theorem own_d41_65 : own_D code 65 (.invokespecial 17) 3 68 := ⟨by decide +kernel, rfl⟩
theorem own_d41_68 : own_D code 68 (.invokevirtual 20) 3 71 := ⟨by decide +kernel, rfl⟩
theorem own_d41_71 : own_D code 71 (.astore 9) 2 73 := ⟨by decide +kernel, rfl⟩
theorem own_d41_122 : own_D code 122 (.aload 9) 2 124 := ⟨by decide +kernel, rfl⟩
theorem own_d41_124 : own_D code 124 (.invokevirtual 24) 3 127 := ⟨by decide +kernel, rfl⟩
theorem own_d41_127 : own_D code 127 (.iload_n 3) 1 128 := ⟨by decide +kernel, rfl⟩
theorem own_d41_128 : own_D code 128 (.iconst 1) 1 129 := ⟨by decide +kernel, rfl⟩
theorem own_d41_129 : own_D code 129 (.iadd) 1 130 := ⟨by decide +kernel, rfl⟩
theorem own_d41_130 : own_D code 130 (.iload 10) 2 132 := ⟨by decide +kernel, rfl⟩
theorem own_d41_132 : own_D code 132 (.iadd) 1 133 := ⟨by decide +kernel, rfl⟩
theorem own_d41_133 : own_B code 133 (.if_icmp .eq 5) 5 136 138 := ⟨by decide +kernel, rfl, by decide, by decide⟩
theorem own_d41_191 : own_D code 191 (.aload 9) 2 193 := ⟨by decide +kernel, rfl⟩
theorem own_d41_193 : own_D code 193 (.iload_n 3) 1 194 := ⟨by decide +kernel, rfl⟩
theorem own_d41_194 : own_D code 194 (.invokevirtual 30) 3 197 := ⟨by decide +kernel, rfl⟩
theorem own_d41_197 : own_D code 197 (.bipush 58) 2 199 := ⟨by decide +kernel, rfl⟩
theorem own_d41_199 : own_B code 199 (.if_icmp .eq 5) 5 202 204 := ⟨by decide +kernel, rfl, by decide, by decide⟩
theorem own_d41_344 : own_D code 344 (.iconst 1) 1 345 := ⟨by decide +kernel, rfl⟩
theorem own_d41_345 : own_D code 345 (.ireturn) 1 346 := ⟨by decide +kernel, rfl⟩
theorem own_d41_316 : own_D code 316 (.iconst 4) 1 317 := ⟨by decide +kernel, rfl⟩
theorem own_d41_317 : own_D code 317 (.iload 10) 2 319 := ⟨by decide +kernel, rfl⟩
theorem own_d41_319 : own_B code 319 (.if_icmp .ge 25) 25 322 344 := ⟨by decide +kernel, rfl, by decide, by decide⟩
theorem own_d41_322 : own_D code 322 (.aload 9) 2 324 := ⟨by decide +kernel, rfl⟩
theorem own_d41_324 : own_D code 324 (.iload_n 3) 1 325 := ⟨by decide +kernel, rfl⟩
theorem own_d41_325 : own_D code 325 (.iconst 5) 1 326 := ⟨by decide +kernel, rfl⟩
theorem own_d41_326 : own_D code 326 (.iadd) 1 327 := ⟨by decide +kernel, rfl⟩
theorem own_d41_327 : own_D code 327 (.invokevirtual 30) 3 330 := ⟨by decide +kernel, rfl⟩
theorem own_d41_330 : own_D code 330 (.iload 8) 2 332 := ⟨by decide +kernel, rfl⟩
theorem own_d41_332 : own_D code 332 (.iload 10) 2 334 := ⟨by decide +kernel, rfl⟩
theorem own_d41_334 : own_D code 334 (.iconst 5) 1 335 := ⟨by decide +kernel, rfl⟩
theorem own_d41_335 : own_D code 335 (.isub) 1 336 := ⟨by decide +kernel, rfl⟩
theorem own_d41_336 : own_D code 336 (.invokestatic 34) 3 339 := ⟨by decide +kernel, rfl⟩
theorem own_d41_339 : own_B code 339 (.if_icmp .eq 5) 5 342 344 := ⟨by decide +kernel, rfl, by decide, by decide⟩
theorem own_d41_288 : own_D code 288 (.iconst 3) 1 289 := ⟨by decide +kernel, rfl⟩
theorem own_d41_289 : own_D code 289 (.iload 10) 2 291 := ⟨by decide +kernel, rfl⟩
theorem own_d41_291 : own_B code 291 (.if_icmp .ge 25) 25 294 316 := ⟨by decide +kernel, rfl, by decide, by decide⟩
theorem own_d41_294 : own_D code 294 (.aload 9) 2 296 := ⟨by decide +kernel, rfl⟩
theorem own_d41_296 : own_D code 296 (.iload_n 3) 1 297 := ⟨by decide +kernel, rfl⟩
theorem own_d41_297 : own_D code 297 (.iconst 4) 1 298 := ⟨by decide +kernel, rfl⟩
theorem own_d41_298 : own_D code 298 (.iadd) 1 299 := ⟨by decide +kernel, rfl⟩
theorem own_d41_299 : own_D code 299 (.invokevirtual 30) 3 302 := ⟨by decide +kernel, rfl⟩
theorem own_d41_302 : own_D code 302 (.iload 8) 2 304 := ⟨by decide +kernel, rfl⟩
theorem own_d41_304 : own_D code 304 (.iload 10) 2 306 := ⟨by decide +kernel, rfl⟩
theorem own_d41_306 : own_D code 306 (.iconst 4) 1 307 := ⟨by decide +kernel, rfl⟩
theorem own_d41_307 : own_D code 307 (.isub) 1 308 := ⟨by decide +kernel, rfl⟩
theorem own_d41_308 : own_D code 308 (.invokestatic 34) 3 311 := ⟨by decide +kernel, rfl⟩
theorem own_d41_311 : own_B code 311 (.if_icmp .eq 5) 5 314 316 := ⟨by decide +kernel, rfl, by decide, by decide⟩
theorem own_d41_260 : own_D code 260 (.iconst 2) 1 261 := ⟨by decide +kernel, rfl⟩
theorem own_d41_261 : own_D code 261 (.iload 10) 2 263 := ⟨by decide +kernel, rfl⟩
theorem own_d41_263 : own_B code 263 (.if_icmp .ge 25) 25 266 288 := ⟨by decide +kernel, rfl, by decide, by decide⟩
theorem own_d41_266 : own_D code 266 (.aload 9) 2 268 := ⟨by decide +kernel, rfl⟩
theorem own_d41_268 : own_D code 268 (.iload_n 3) 1 269 := ⟨by decide +kernel, rfl⟩
theorem own_d41_269 : own_D code 269 (.iconst 3) 1 270 := ⟨by decide +kernel, rfl⟩
theorem own_d41_270 : own_D code 270 (.iadd) 1 271 := ⟨by decide +kernel, rfl⟩
theorem own_d41_271 : own_D code 271 (.invokevirtual 30) 3 274 := ⟨by decide +kernel, rfl⟩
theorem own_d41_274 : own_D code 274 (.iload 8) 2 276 := ⟨by decide +kernel, rfl⟩
theorem own_d41_276 : own_D code 276 (.iload 10) 2 278 := ⟨by decide +kernel, rfl⟩
theorem own_d41_278 : own_D code 278 (.iconst 3) 1 279 := ⟨by decide +kernel, rfl⟩
theorem own_d41_279 : own_D code 279 (.isub) 1 280 := ⟨by decide +kernel, rfl⟩
theorem own_d41_280 : own_D code 280 (.invokestatic 34) 3 283 := ⟨by decide +kernel, rfl⟩
theorem own_d41_283 : own_B code 283 (.if_icmp .eq 5) 5 286 288 := ⟨by decide +kernel, rfl, by decide, by decide⟩
theorem own_d41_232 : own_D code 232 (.iconst 1) 1 233 := ⟨by decide +kernel, rfl⟩
theorem own_d41_233 : own_D code 233 (.iload 10) 2 235 := ⟨by decide +kernel, rfl⟩
theorem own_d41_235 : own_B code 235 (.if_icmp .ge 25) 25 238 260 := ⟨by decide +kernel, rfl, by decide, by decide⟩
theorem own_d41_238 : own_D code 238 (.aload 9) 2 240 := ⟨by decide +kernel, rfl⟩
theorem own_d41_240 : own_D code 240 (.iload_n 3) 1 241 := ⟨by decide +kernel, rfl⟩
theorem own_d41_241 : own_D code 241 (.iconst 2) 1 242 := ⟨by decide +kernel, rfl⟩
theorem own_d41_242 : own_D code 242 (.iadd) 1 243 := ⟨by decide +kernel, rfl⟩
theorem own_d41_243 : own_D code 243 (.invokevirtual 30) 3 246 := ⟨by decide +kernel, rfl⟩
theorem own_d41_246 : own_D code 246 (.iload 8) 2 248 := ⟨by decide +kernel, rfl⟩
theorem own_d41_248 : own_D code 248 (.iload 10) 2 250 := ⟨by decide +kernel, rfl⟩
theorem own_d41_250 : own_D code 250 (.iconst 2) 1 251 := ⟨by decide +kernel, rfl⟩
theorem own_d41_251 : own_D code 251 (.isub) 1 252 := ⟨by decide +kernel, rfl⟩
theorem own_d41_252 : own_D code 252 (.invokestatic 34) 3 255 := ⟨by decide +kernel, rfl⟩
theorem own_d41_255 : own_B code 255 (.if_icmp .eq 5) 5 258 260 := ⟨by decide +kernel, rfl, by decide, by decide⟩
theorem own_d41_204 : own_D code 204 (.iconst 0) 1 205 := ⟨by decide +kernel, rfl⟩
theorem own_d41_205 : own_D code 205 (.iload 10) 2 207 := ⟨by decide +kernel, rfl⟩
theorem own_d41_207 : own_B code 207 (.if_icmp .ge 25) 25 210 232 := ⟨by decide +kernel, rfl, by decide, by decide⟩
theorem own_d41_210 : own_D code 210 (.aload 9) 2 212 := ⟨by decide +kernel, rfl⟩
theorem own_d41_212 : own_D code 212 (.iload_n 3) 1 213 := ⟨by decide +kernel, rfl⟩
theorem own_d41_213 : own_D code 213 (.iconst 1) 1 214 := ⟨by decide +kernel, rfl⟩
theorem own_d41_214 : own_D code 214 (.iadd) 1 215 := ⟨by decide +kernel, rfl⟩
theorem own_d41_215 : own_D code 215 (.invokevirtual 30) 3 218 := ⟨by decide +kernel, rfl⟩
theorem own_d41_218 : own_D code 218 (.iload 8) 2 220 := ⟨by decide +kernel, rfl⟩
theorem own_d41_220 : own_D code 220 (.iload 10) 2 222 := ⟨by decide +kernel, rfl⟩
theorem own_d41_222 : own_D code 222 (.iconst 1) 1 223 := ⟨by decide +kernel, rfl⟩
theorem own_d41_223 : own_D code 223 (.isub) 1 224 := ⟨by decide +kernel, rfl⟩
theorem own_d41_224 : own_D code 224 (.invokestatic 34) 3 227 := ⟨by decide +kernel, rfl⟩
theorem own_d41_227 : own_B code 227 (.if_icmp .eq 5) 5 230 232 := ⟨by decide +kernel, rfl, by decide, by decide⟩
theorem own_d41_173 : own_D code 173 (.iload_n 3) 1 174 := ⟨by decide +kernel, rfl⟩
theorem own_d41_174 : own_D code 174 (.iconst 2) 1 175 := ⟨by decide +kernel, rfl⟩
theorem own_d41_175 : own_B code 175 (.if_icmp .le 16) 16 178 191 := ⟨by decide +kernel, rfl, by decide, by decide⟩
theorem own_d41_178 : own_D code 178 (.aload 9) 2 180 := ⟨by decide +kernel, rfl⟩
theorem own_d41_180 : own_D code 180 (.iconst 2) 1 181 := ⟨by decide +kernel, rfl⟩
theorem own_d41_181 : own_D code 181 (.invokevirtual 30) 3 184 := ⟨by decide +kernel, rfl⟩
theorem own_d41_184 : own_D code 184 (.iload 6) 2 186 := ⟨by decide +kernel, rfl⟩
theorem own_d41_186 : own_B code 186 (.if_icmp .eq 5) 5 189 191 := ⟨by decide +kernel, rfl, by decide, by decide⟩
theorem own_d41_155 : own_D code 155 (.iload_n 3) 1 156 := ⟨by decide +kernel, rfl⟩
theorem own_d41_156 : own_D code 156 (.iconst 1) 1 157 := ⟨by decide +kernel, rfl⟩
theorem own_d41_157 : own_B code 157 (.if_icmp .le 16) 16 160 173 := ⟨by decide +kernel, rfl, by decide, by decide⟩
theorem own_d41_160 : own_D code 160 (.aload 9) 2 162 := ⟨by decide +kernel, rfl⟩
theorem own_d41_162 : own_D code 162 (.iconst 1) 1 163 := ⟨by decide +kernel, rfl⟩
theorem own_d41_163 : own_D code 163 (.invokevirtual 30) 3 166 := ⟨by decide +kernel, rfl⟩
theorem own_d41_166 : own_D code 166 (.iload 5) 2 168 := ⟨by decide +kernel, rfl⟩
theorem own_d41_168 : own_B code 168 (.if_icmp .eq 5) 5 171 173 := ⟨by decide +kernel, rfl, by decide, by decide⟩
theorem own_d41_138 : own_D code 138 (.iload_n 3) 1 139 := ⟨by decide +kernel, rfl⟩
theorem own_d41_139 : own_B code 139 (.ifCond .le 16) 16 142 155 := ⟨by decide +kernel, rfl, by decide, by decide⟩
theorem own_d41_142 : own_D code 142 (.aload 9) 2 144 := ⟨by decide +kernel, rfl⟩
theorem own_d41_144 : own_D code 144 (.iconst 0) 1 145 := ⟨by decide +kernel, rfl⟩
theorem own_d41_145 : own_D code 145 (.invokevirtual 30) 3 148 := ⟨by decide +kernel, rfl⟩
theorem own_d41_148 : own_D code 148 (.iload 4) 2 150 := ⟨by decide +kernel, rfl⟩
theorem own_d41_150 : own_B code 150 (.if_icmp .eq 5) 5 153 155 := ⟨by decide +kernel, rfl, by decide, by decide⟩
theorem own_d41_73 : own_D code 73 (.iload 8) 2 75 := ⟨by decide +kernel, rfl⟩
theorem own_d41_75 : own_D code 75 (.sipush 10000) 3 78 := ⟨by decide +kernel, rfl⟩
theorem own_d41_78 : own_B code 78 (.if_icmp .lt 7) 7 81 85 := ⟨by decide +kernel, rfl, by decide, by decide⟩
theorem own_d41_85 : own_D code 85 (.iload 8) 2 87 := ⟨by decide +kernel, rfl⟩
theorem own_d41_87 : own_D code 87 (.sipush 1000) 3 90 := ⟨by decide +kernel, rfl⟩
theorem own_d41_90 : own_B code 90 (.if_icmp .lt 7) 7 93 97 := ⟨by decide +kernel, rfl, by decide, by decide⟩
theorem own_d41_97 : own_D code 97 (.iload 8) 2 99 := ⟨by decide +kernel, rfl⟩
theorem own_d41_99 : own_D code 99 (.bipush 100) 2 101 := ⟨by decide +kernel, rfl⟩
theorem own_d41_101 : own_B code 101 (.if_icmp .lt 7) 7 104 108 := ⟨by decide +kernel, rfl, by decide, by decide⟩
theorem own_d41_108 : own_D code 108 (.iload 8) 2 110 := ⟨by decide +kernel, rfl⟩
theorem own_d41_110 : own_D code 110 (.bipush 10) 2 112 := ⟨by decide +kernel, rfl⟩
theorem own_d41_112 : own_B code 112 (.if_icmp .lt 7) 7 115 119 := ⟨by decide +kernel, rfl, by decide, by decide⟩
theorem own_d41_119 : own_D code 119 (.iconst 1) 1 120 := ⟨by decide +kernel, rfl⟩
theorem own_d41_120 : own_D code 120 (.istore 10) 2 122 := ⟨by decide +kernel, rfl⟩
theorem own_d41_115 : own_D code 115 (.iconst 2) 1 116 := ⟨by decide +kernel, rfl⟩
theorem own_d41_116 : own_B code 116 (.goto 4) 4 119 120 := ⟨by decide +kernel, rfl, by decide, by decide⟩
theorem own_d41_104 : own_D code 104 (.iconst 3) 1 105 := ⟨by decide +kernel, rfl⟩
theorem own_d41_105 : own_B code 105 (.goto 15) 15 108 120 := ⟨by decide +kernel, rfl, by decide, by decide⟩
theorem own_d41_93 : own_D code 93 (.iconst 4) 1 94 := ⟨by decide +kernel, rfl⟩
theorem own_d41_94 : own_B code 94 (.goto 26) 26 97 120 := ⟨by decide +kernel, rfl, by decide, by decide⟩
theorem own_d41_81 : own_D code 81 (.iconst 5) 1 82 := ⟨by decide +kernel, rfl⟩
theorem own_d41_82 : own_B code 82 (.goto 38) 38 85 120 := ⟨by decide +kernel, rfl, by decide, by decide⟩
theorem own_pd0 : parseMethodDescriptor "([CIILjava/lang/Void;)V" = some ⟨[(.array .char), .int, .int, (.object "java/lang/Void")], none⟩ := by decide +kernel
theorem own_pd1 : parseMethodDescriptor "([CI[BII)I" = some ⟨[(.array .char), .int, (.array .byte), .int, .int], some .int⟩ := by decide +kernel
theorem own_pd2 : parseMethodDescriptor "([CII)[B" = some ⟨[(.array .char), .int, .int], some (.array .byte)⟩ := by decide +kernel
theorem own_pd3 : parseMethodDescriptor "([BI)B" = some ⟨[(.array .byte), .int], some .byte⟩ := by decide +kernel
theorem own_pd4 : parseMethodDescriptor "(IILjava/util/function/BiFunction;)I" = some ⟨[.int, .int, (.object "java/util/function/BiFunction")], some .int⟩ := by decide +kernel
theorem own_pd5 : parseMethodDescriptor "(II)V" = some ⟨[.int, .int], none⟩ := by decide +kernel
theorem own_pd6 : parseMethodDescriptor "()Z" = some ⟨[], some .boolean⟩ := by decide +kernel
theorem own_pd7 : parseMethodDescriptor "([BI)C" = some ⟨[(.array .byte), .int], some .char⟩ := by decide +kernel
theorem own_pd8 : parseMethodDescriptor "([C)V" = some ⟨[(.array .char)], none⟩ := by decide +kernel
theorem own_pd9 : parseMethodDescriptor "()V" = some ⟨[], none⟩ := by decide +kernel
theorem own_pd10 : parseMethodDescriptor "(Ljava/lang/Object;Ljava/lang/String;)Ljava/lang/Object;" = some ⟨[(.object "java/lang/Object"), (.object "java/lang/String")], some (.object "java/lang/Object")⟩ := by decide +kernel
theorem own_pd11 : parseMethodDescriptor "(I)V" = some ⟨[.int], none⟩ := by decide +kernel
theorem own_pd12 : parseMethodDescriptor "()B" = some ⟨[], some .byte⟩ := by decide +kernel
theorem own_pd13 : parseMethodDescriptor "(Ljava/lang/String;)V" = some ⟨[(.object "java/lang/String")], none⟩ := by decide +kernel
theorem own_pd14 : parseMethodDescriptor "([BIB)V" = some ⟨[(.array .byte), .int, .byte], none⟩ := by decide +kernel
theorem own_pd15 : parseMethodDescriptor "()I" = some ⟨[], some .int⟩ := by decide +kernel
theorem own_pd16 : parseMethodDescriptor "(ILjava/lang/String;)V" = some ⟨[.int, (.object "java/lang/String")], none⟩ := by decide +kernel
theorem own_pd17 : parseMethodDescriptor "(Ljava/lang/String;)Ljava/lang/AbstractStringBuilder;" = some ⟨[(.object "java/lang/String")], some (.object "java/lang/AbstractStringBuilder")⟩ := by decide +kernel
theorem own_pd18 : parseMethodDescriptor "(I)I" = some ⟨[.int], some .int⟩ := by decide +kernel
theorem own_pd19 : parseMethodDescriptor "(II[B)I" = some ⟨[.int, .int, (.array .byte)], some .int⟩ := by decide +kernel
theorem own_pd20 : parseMethodDescriptor "(I)Ljava/lang/AbstractStringBuilder;" = some ⟨[.int], some (.object "java/lang/AbstractStringBuilder")⟩ := by decide +kernel
theorem own_pd21 : parseMethodDescriptor "(II)I" = some ⟨[.int, .int], some .int⟩ := by decide +kernel
theorem own_pd22 : parseMethodDescriptor "([BII)[B" = some ⟨[(.array .byte), .int, .int], some (.array .byte)⟩ := by decide +kernel
theorem own_pd23 : parseMethodDescriptor "()[B" = some ⟨[], some (.array .byte)⟩ := by decide +kernel
theorem own_pd24 : parseMethodDescriptor "(Ljava/lang/AbstractStringBuilder;Ljava/lang/Void;)V" = some ⟨[(.object "java/lang/AbstractStringBuilder"), (.object "java/lang/Void")], none⟩ := by decide +kernel
theorem own_pd25 : parseMethodDescriptor "(Ljava/lang/StringBuilder;)V" = some ⟨[(.object "java/lang/StringBuilder")], none⟩ := by decide +kernel
theorem own_pd26 : parseMethodDescriptor "(Ljava/lang/String;)Ljava/lang/StringBuilder;" = some ⟨[(.object "java/lang/String")], some (.object "java/lang/StringBuilder")⟩ := by decide +kernel
theorem own_pd27 : parseMethodDescriptor "(I)Ljava/lang/StringBuilder;" = some ⟨[.int], some (.object "java/lang/StringBuilder")⟩ := by decide +kernel
theorem own_pd28 : parseMethodDescriptor "()Ljava/lang/String;" = some ⟨[], some (.object "java/lang/String")⟩ := by decide +kernel
theorem own_pd29 : parseMethodDescriptor "(ICCC)Ljava/lang/String;" = some ⟨[.int, .char, .char, .char], some (.object "java/lang/String")⟩ := by decide +kernel
theorem own_pd30 : parseMethodDescriptor "(Ljava/lang/String;I)V" = some ⟨[(.object "java/lang/String"), .int], none⟩ := by decide +kernel
theorem own_pd31 : parseMethodDescriptor "(I)C" = some ⟨[.int], some .char⟩ := by decide +kernel
theorem own_pd32 : parseMethodDescriptor "(II)C" = some ⟨[.int, .int], some .char⟩ := by decide +kernel
abbrev own_ST (a : Addr) (f0 f1 : Value) : own_O := (a, "java/lang/String", [("java/lang/String", "value", "[B", f0), ("java/lang/String", "coder", "B", f1)])
theorem own_ST_F {Z : State} {a0 : Array Value} (hw : own_Z Z a0) : ∀ f ∈ ([("java/lang/String", "value", "[B", .null), ("java/lang/String", "coder", "B", (.int (0 : Int32)))] : List (String × String × String × Value)), Laid Z a0 "java/lang/String" f.1 f.2.1 f.2.2.1 ∧ ∃ ty, parseFieldDescriptor f.2.2.1 = some ty ∧ f.2.2.2 = defaultValue ty := by
  intro f hf
  simp only [List.mem_cons, List.not_mem_nil, or_false] at hf
  rcases hf with rfl | rfl
  · exact ⟨Or.inr (own_w33 hw), (.array .byte), by decide +kernel, rfl⟩
  · exact ⟨Or.inr (own_w31 hw), .byte, by decide +kernel, rfl⟩
theorem own_ST_P {Z : State} {a0 : Array Value} (hw : own_Z Z a0) : ([("java/lang/String", "value", "[B", .null), ("java/lang/String", "coder", "B", (.int (0 : Int32)))] : List (String × String × String × Value)).Pairwise (fun f g => Jvm.RoadKit.slotOf Z f.1 f.2.1 f.2.2.1 ≠ Jvm.RoadKit.slotOf Z g.1 g.2.1 g.2.2.1) := by
  simp only [List.pairwise_cons, List.mem_cons, List.not_mem_nil, or_false, forall_eq_or_imp, forall_eq, List.Pairwise.nil, and_true, false_implies, implies_true]
  exact slot_ne (C := "java/lang/String") (Or.inr (own_w33 hw)) (Or.inr (own_w31 hw)) (by decide) (t := (.array .byte)) (by decide +kernel) (t' := .byte) (by decide +kernel)

abbrev own_EP (a : Addr) (f0 f1 : Value) : own_O := (a, "com/example/farcall/farcall/Endpoint", [("com/example/farcall/farcall/Endpoint", "host", "Ljava/lang/String;", f0), ("com/example/farcall/farcall/Endpoint", "port", "I", f1)])
theorem own_EP_F {Z : State} {a0 : Array Value} (hw : own_Z Z a0) : ∀ f ∈ ([("com/example/farcall/farcall/Endpoint", "host", "Ljava/lang/String;", .null), ("com/example/farcall/farcall/Endpoint", "port", "I", (.int (0 : Int32)))] : List (String × String × String × Value)), Laid Z a0 "com/example/farcall/farcall/Endpoint" f.1 f.2.1 f.2.2.1 ∧ ∃ ty, parseFieldDescriptor f.2.2.1 = some ty ∧ f.2.2.2 = defaultValue ty := by
  intro f hf
  simp only [List.mem_cons, List.not_mem_nil, or_false] at hf
  rcases hf with rfl | rfl
  · exact ⟨Or.inr (own_w57 hw), (.object "java/lang/String"), by decide +kernel, rfl⟩
  · exact ⟨Or.inr (own_w59 hw), .int, by decide +kernel, rfl⟩
theorem own_EP_P {Z : State} {a0 : Array Value} (hw : own_Z Z a0) : ([("com/example/farcall/farcall/Endpoint", "host", "Ljava/lang/String;", .null), ("com/example/farcall/farcall/Endpoint", "port", "I", (.int (0 : Int32)))] : List (String × String × String × Value)).Pairwise (fun f g => Jvm.RoadKit.slotOf Z f.1 f.2.1 f.2.2.1 ≠ Jvm.RoadKit.slotOf Z g.1 g.2.1 g.2.2.1) := by
  simp only [List.pairwise_cons, List.mem_cons, List.not_mem_nil, or_false, forall_eq_or_imp, forall_eq, List.Pairwise.nil, and_true, false_implies, implies_true]
  exact slot_ne (C := "com/example/farcall/farcall/Endpoint") (Or.inr (own_w57 hw)) (Or.inr (own_w59 hw)) (by decide) (t := (.object "java/lang/String")) (by decide +kernel) (t' := .int) (by decide +kernel)

abbrev own_SB (a : Addr) (f0 f1 f2 : Value) : own_O := (a, "java/lang/StringBuilder", [("java/lang/AbstractStringBuilder", "value", "[B", f0), ("java/lang/AbstractStringBuilder", "coder", "B", f1), ("java/lang/AbstractStringBuilder", "count", "I", f2)])
theorem own_SB_F {Z : State} {a0 : Array Value} (hw : own_Z Z a0) : ∀ f ∈ ([("java/lang/AbstractStringBuilder", "value", "[B", .null), ("java/lang/AbstractStringBuilder", "coder", "B", (.int (0 : Int32))), ("java/lang/AbstractStringBuilder", "count", "I", (.int (0 : Int32)))] : List (String × String × String × Value)), Laid Z a0 "java/lang/StringBuilder" f.1 f.2.1 f.2.2.1 ∧ ∃ ty, parseFieldDescriptor f.2.2.1 = some ty ∧ f.2.2.2 = defaultValue ty := by
  intro f hf
  simp only [List.mem_cons, List.not_mem_nil, or_false] at hf
  rcases hf with rfl | rfl | rfl
  · exact ⟨Or.inl (own_w80 hw), (.array .byte), by decide +kernel, rfl⟩
  · exact ⟨Or.inl (own_w82 hw), .byte, by decide +kernel, rfl⟩
  · exact ⟨Or.inl (own_w104 hw), .int, by decide +kernel, rfl⟩
theorem own_SB_P {Z : State} {a0 : Array Value} (hw : own_Z Z a0) : ([("java/lang/AbstractStringBuilder", "value", "[B", .null), ("java/lang/AbstractStringBuilder", "coder", "B", (.int (0 : Int32))), ("java/lang/AbstractStringBuilder", "count", "I", (.int (0 : Int32)))] : List (String × String × String × Value)).Pairwise (fun f g => Jvm.RoadKit.slotOf Z f.1 f.2.1 f.2.2.1 ≠ Jvm.RoadKit.slotOf Z g.1 g.2.1 g.2.2.1) := by
  simp only [List.pairwise_cons, List.mem_cons, List.not_mem_nil, or_false, forall_eq_or_imp, forall_eq, List.Pairwise.nil, and_true, false_implies, implies_true]
  exact ⟨⟨slot_ne (C := "java/lang/StringBuilder") (Or.inl (own_w80 hw)) (Or.inl (own_w82 hw)) (by decide) (t := (.array .byte)) (by decide +kernel) (t' := .byte) (by decide +kernel), slot_ne (C := "java/lang/StringBuilder") (Or.inl (own_w80 hw)) (Or.inl (own_w104 hw)) (by decide) (t := (.array .byte)) (by decide +kernel) (t' := .int) (by decide +kernel)⟩, slot_ne (C := "java/lang/StringBuilder") (Or.inl (own_w82 hw)) (Or.inl (own_w104 hw)) (by decide) (t := .byte) (by decide +kernel) (t' := .int) (by decide +kernel)⟩

theorem own_and3 (k : Int32) : k &&& 3 = 0 ∨ k &&& 3 = 1 ∨ k &&& 3 = 2 ∨ k &&& 3 = 3 := by
  have h : ∀ b : BitVec 32, b &&& 3#32 = 0#32 ∨ b &&& 3#32 = 1#32 ∨ b &&& 3#32 = 2#32 ∨ b &&& 3#32 = 3#32 := by
    intro b
    have q : (b &&& 3#32).toNat ≤ 3 := by rw [BitVec.toNat_and]; exact Nat.and_le_right
    bv_omega
  rcases h k.toBitVec with q | q | q | q
  · exact Or.inl (Int32.toBitVec_inj.mp q)
  · exact Or.inr (Or.inl (Int32.toBitVec_inj.mp q))
  · exact Or.inr (Or.inr (Or.inl (Int32.toBitVec_inj.mp q)))
  · exact Or.inr (Or.inr (Or.inr (Int32.toBitVec_inj.mp q)))
theorem own_and_bound (a b : Int32) (hb : 0 ≤ b.toInt) : 0 ≤ (a &&& b).toInt ∧ (a &&& b).toInt ≤ b.toInt := by
  have q : (a &&& b).toBitVec.toNat ≤ b.toBitVec.toNat := by
    show (a.toBitVec &&& b.toBitVec).toNat ≤ _
    rw [BitVec.toNat_and]; exact Nat.and_le_right
  have hb' : b.toInt = (b.toBitVec.toNat : Int) := by
    have : b.toInt = b.toBitVec.toInt := rfl
    rw [this] at hb ⊢
    rw [BitVec.toInt_eq_toNat_cond] at hb ⊢
    have := b.toBitVec.isLt
    split at hb <;> split <;> omega
  have hlt : 2 * b.toBitVec.toNat < 2 ^ 32 := by have := Int32.toInt_lt b; omega
  have : (a &&& b).toInt = (a &&& b).toBitVec.toInt := rfl
  rw [this, BitVec.toInt_eq_toNat_cond]
  split <;> omega
theorem own_add32 {a b : Int32} (h1 : -2147483648 ≤ a.toInt + b.toInt) (h2 : a.toInt + b.toInt ≤ 2147483647) : (a + b).toInt = a.toInt + b.toInt := by
  rw [Int32.toInt_add]; exact Int.bmod_eq_of_le (by omega) (by omega)
theorem own_sub32 {a b : Int32} (h1 : -2147483648 ≤ a.toInt - b.toInt) (h2 : a.toInt - b.toInt ≤ 2147483647) : (a - b).toInt = a.toInt - b.toInt := by
  rw [Int32.toInt_sub]; exact Int.bmod_eq_of_le (by omega) (by omega)
theorem own_mul32 {a b : Int32} (h1 : -2147483648 ≤ a.toInt * b.toInt) (h2 : a.toInt * b.toInt ≤ 2147483647) : (a * b).toInt = a.toInt * b.toInt := by
  rw [Int32.toInt_mul]; exact Int.bmod_eq_of_le (by omega) (by omega)
theorem own_rem32 {a b : Int32} (ha : 0 ≤ a.toInt) (hb : 0 < b.toInt) : 0 ≤ (a % b).toInt ∧ (a % b).toInt < b.toInt := by
  rw [Int32.toInt_mod]
  have h1 := Int.tmod_nonneg b.toInt ha
  have h2 := Int.tmod_lt_of_pos a.toInt hb
  omega
theorem own_i64 (a : Int32) : a.toInt64.toInt = a.toInt := by simp

def own_by (z : Int32) : Int32 := z.toInt8.toInt32
theorem own_k256 {z : Int32} (h0 : 0 ≤ z.toInt) (h1 : z.toInt ≤ 255) : ∃ i : Fin 256, z = Int32.ofNat i.val := by
  refine ⟨⟨z.toInt.toNat, by omega⟩, ?_⟩
  apply Int32.toInt_inj.mp
  show z.toInt = (Int32.ofNat z.toInt.toNat).toInt
  rw [Int32.toInt_ofNat_of_lt (by omega)]; omega
theorem own_byc {z : Int32} (h0 : 0 ≤ z.toInt) (h1 : z.toInt ≤ 255) : (own_by z &&& (255 : Int32)).toUInt32.toUInt16.toUInt32.toInt32 = z := by
  obtain ⟨i, rfl⟩ := own_k256 h0 h1
  clear h0 h1; revert i; unfold own_by; decide +kernel
theorem own_byc' {z : Int32} (h0 : 0 ≤ z.toInt) (h1 : z.toInt ≤ 255) : (own_by z &&& (255 : Int32)) = z := by
  obtain ⟨i, rfl⟩ := own_k256 h0 h1
  clear h0 h1; revert i; unfold own_by; decide +kernel
theorem own_i2cc {z : Int32} (h0 : 0 ≤ z.toInt) (h1 : z.toInt ≤ 255) : z.toUInt32.toUInt16.toUInt32.toInt32 = z := by
  obtain ⟨i, rfl⟩ := own_k256 h0 h1
  clear h0 h1; revert i; decide +kernel
theorem own_nch {z : Int32} (h0 : 0 ≤ z.toInt) (h1 : z.toInt ≤ 255) : nar .char z = z := own_i2cc h0 h1
theorem own_nrc {z : Int32} (h0 : 0 ≤ z.toInt) (h1 : z.toInt ≤ 255) : narrow .char (.int z) = .int z := congrArg Value.int (own_i2cc h0 h1)
theorem own_nby (z : Int32) : nar .byte (own_by z) = own_by z := by
  show (z.toInt8.toInt32).toInt8.toInt32 = z.toInt8.toInt32
  simp
theorem own_m8 (z : Int32) : ∃ y : Int32, (z &&& (255 : Int32)).toUInt32.toUInt16.toUInt32.toInt32 = y ∧ 0 ≤ y.toInt ∧ y.toInt ≤ 255 := by
  have h := own_and_bound z 255 (by decide)
  have e : (255 : Int32).toInt = 255 := rfl
  exact ⟨z &&& 255, own_i2cc h.1 (by omega), h.1, by omega⟩
theorem own_le255 {z : Int32} (h1 : z.toInt ≤ 255) : z.toInt ≤ (255 : Int32).toInt := h1

def own_p10 (t : Nat) : Nat := [1, 10, 100, 1000, 10000, 100000].getD t 0
def own_dg (m t : Nat) : Int32 := Int32.ofNat (48 + m / own_p10 t % 10)
def own_DD (m d : Nat) : Prop := (1 ≤ d ∧ d ≤ 5) ∧ own_p10 (d - 1) ≤ m ∧ m < own_p10 d
theorem own_on {j : Nat} (h : j ≤ 100000) : (Int32.ofNat j).toInt = (j : Int) := Int32.toInt_ofNat_of_lt (by omega)
theorem own_oni {i j : Nat} (hi : i ≤ 100000) (hj : j ≤ 100000) (h : Int32.ofNat i = Int32.ofNat j) : i = j := by
  have := congrArg Int32.toInt h
  rw [own_on hi, own_on hj] at this; omega
theorem own_oa {i j : Nat} (hi : i ≤ 1000) (hj : j ≤ 1000) : Int32.ofNat i + Int32.ofNat j = Int32.ofNat (i + j) := by
  apply Int32.toInt_inj.mp
  have e1 := own_on (j := i) (by omega)
  have e2 := own_on (j := j) (by omega)
  rw [own_add32 (by omega) (by omega), e1, e2, own_on (by omega)]; omega
theorem own_os {i j : Nat} (hi : i ≤ 1000) (hj : j ≤ i) : Int32.ofNat i - Int32.ofNat j = Int32.ofNat (i - j) := by
  apply Int32.toInt_inj.mp
  have e1 := own_on (j := i) (by omega)
  have e2 := own_on (j := j) (by omega)
  rw [own_sub32 (by omega) (by omega), e1, e2, own_on (by omega)]; omega
theorem own_dec {a b : Nat} (h : a = b + 1) (hb : b ≤ 1000) : Int32.ofNat a + (-1 : Int32) = Int32.ofNat b := by
  apply Int32.toInt_inj.mp
  have e1 := own_on (j := a) (by omega)
  have e2 : (-1 : Int32).toInt = -1 := rfl
  rw [own_add32 (by omega) (by omega), e1, e2, own_on (by omega)]; omega
theorem own_sh0 {j : Nat} (h : j ≤ 16) : Int32.ofNat j >>> ((0 : Int32) &&& 31) = Int32.ofNat j := by
  have : ∀ i : Fin 17, Int32.ofNat i.val >>> ((0 : Int32) &&& 31) = Int32.ofNat i.val := by decide
  exact this ⟨j, by omega⟩
theorem own_shl0 {j : Nat} (h : j ≤ 16) : Int32.ofNat j <<< ((0 : Int32) &&& 31) = Int32.ofNat j := by
  have : ∀ i : Fin 17, Int32.ofNat i.val <<< ((0 : Int32) &&& 31) = Int32.ofNat i.val := by decide
  exact this ⟨j, by omega⟩
theorem own_sle {j : Nat} (h : j ≤ 16) : (Int32.ofNat j - (16 : Int32)).toInt ≤ 0 := by
  have e1 := own_on (j := j) (by omega)
  have e2 : (16 : Int32).toInt = 16 := rfl
  rw [own_sub32 (by omega) (by omega)]; omega
def own_ng (m : Nat) : Int32 := -(Int32.ofNat m)
theorem own_ngt {m : Nat} (h : m ≤ 100000) : (own_ng m).toInt = -(m : Int) := by
  unfold own_ng
  have e1 := own_on (j := m) h
  rw [Int32.toInt_neg, e1]
  exact Int.bmod_eq_of_le (by omega) (by omega)
theorem own_ngn {m : Nat} (h : m ≤ 100000) : -(own_ng m) = Int32.ofNat m := by
  apply Int32.toInt_inj.mp
  rw [Int32.toInt_neg, own_ngt h, own_on h, Int.neg_neg]
  exact Int.bmod_eq_of_le (by omega) (by omega)
theorem own_ngd {m : Nat} (h : m ≤ 100000) : own_ng m / (100 : Int32) = own_ng (m / 100) := by
  apply Int32.toInt_inj.mp
  have e2 : (100 : Int32).toInt = 100 := rfl
  rw [Int32.toInt_div, own_ngt h, own_ngt (by omega), e2, Int.neg_tdiv, Int.tdiv_eq_ediv_of_nonneg (by omega)]
  rw [Int.bmod_eq_of_le (by omega) (by omega)]
  omega
theorem own_ngr {m : Nat} (h : m ≤ 100000) : own_ng (m / 100) * (100 : Int32) - own_ng m = Int32.ofNat (m % 100) := by
  apply Int32.toInt_inj.mp
  have e2 : (100 : Int32).toInt = 100 := rfl
  have e3 := own_ngt (m := m / 100) (by omega)
  have e4 := own_ngt h
  have e5 : (own_ng (m / 100) * (100 : Int32)).toInt = -((m / 100 : Nat) : Int) * 100 := by rw [own_mul32 (by rw [e3, e2]; omega) (by rw [e3, e2]; omega), e3, e2]
  rw [own_sub32 (by rw [e5, e4]; omega) (by rw [e5, e4]; omega), e5, e4, own_on (by omega)]; omega
theorem own_dgE {m w : Nat} {pw : Int32} (hm : m ≤ 100000) (hw : pw.toInt = (w : Int)) (w0 : 1 ≤ w) (w1 : w ≤ 10000) : (48 : Int32) + Int32.ofNat m / pw % (10 : Int32) = Int32.ofNat (48 + m / w % 10) := by
  apply Int32.toInt_inj.mp
  have e0 : (48 : Int32).toInt = 48 := rfl
  have e1 : (10 : Int32).toInt = 10 := rfl
  have hq : m / w ≤ m := Nat.div_le_self m w
  have e2 : (Int32.ofNat m / pw).toInt = ((m / w : Nat) : Int) := by
    rw [Int32.toInt_div, own_on hm, hw, ← Int.ofNat_tdiv]
    generalize m / w = q at hq ⊢
    exact Int.bmod_eq_of_le (by omega) (by omega)
  have e3 : (Int32.ofNat m / pw % (10 : Int32)).toInt = ((m / w % 10 : Nat) : Int) := by
    rw [Int32.toInt_mod, e2, e1]
    exact (Int.ofNat_tmod (m / w) 10).symm
  rw [own_add32 (by rw [e0, e3]; omega) (by rw [e0, e3]; omega), e0, e3, own_on (by omega)]; omega
theorem own_dgb (m t : Nat) : 0 ≤ (own_dg m t).toInt ∧ (own_dg m t).toInt ≤ 255 := by
  unfold own_dg; rw [own_on (by omega)]; omega
def own_z16 : List Value := [.int (0 : Int32), .int (0 : Int32), .int (0 : Int32), .int (0 : Int32), .int (0 : Int32), .int (0 : Int32), .int (0 : Int32), .int (0 : Int32), .int (0 : Int32), .int (0 : Int32), .int (0 : Int32), .int (0 : Int32), .int (0 : Int32), .int (0 : Int32), .int (0 : Int32), .int (0 : Int32)]
def own_v3 (k : Nat) (c0 c1 c2 : Int32) : List Value := ([.int (own_by c0), .int (own_by c1), .int (own_by c2)] : List Value).take k
theorem own_v3l {k : Nat} {c0 c1 c2 : Int32} (h : k ≤ 3) : (own_v3 k c0 c1 c2).length = k := by unfold own_v3; rw [List.length_take]; exact Nat.min_eq_left h
def own_cp (vs ws : List Value) (c L : Nat) : List Value := vs.take c ++ (ws.drop 0).take L ++ vs.drop (c + L)
theorem own_cpl {vs ws : List Value} {c L : Nat} (hv : vs.length = 16) (hw : ws.length = L) (h : c + L ≤ 16) : (own_cp vs ws c L).length = 16 := by
  unfold own_cp; simp [hv, hw]; omega
theorem own_l1 {k : Nat} {c0 c1 c2 : Int32} (hk : k ≤ 3) : (own_cp own_z16 (own_v3 k c0 c1 c2) 0 k).length = 16 := own_cpl rfl (own_v3l hk) (by omega)
theorem own_l2 {k : Nat} {c0 c1 c2 : Int32} (hk : k ≤ 3) : (own_cp (own_cp own_z16 (own_v3 k c0 c1 c2) 0 k) [.int (58 : Int32)] k 1).length = 16 := own_cpl (own_l1 hk) rfl (by omega)
def own_gc : Nat → List Value → Nat → Nat → List Value
  | 0, vs, _, _ => vs
  | d + 1, vs, q, m => (own_gc d vs q m).set (q - 1 - d) (.int (own_by (own_dg m d)))
theorem own_gcl (d : Nat) (vs : List Value) (q m : Nat) : (own_gc d vs q m).length = vs.length := by
  induction d with
  | zero => rfl
  | succ d ih => show ((own_gc d vs q m).set _ _).length = _; rw [List.length_set]; exact ih
def own_ds : Nat → Nat → List Value
  | 0, _ => []
  | d + 1, m => .int (own_by (own_dg m d)) :: own_ds d m
def own_us (k d m : Nat) (c0 c1 c2 : Int32) : List Value := own_v3 k c0 c1 c2 ++ .int (own_by 58) :: own_ds d m
theorem own_k4 {k : Nat} (h : k ≤ 3) : k = 0 ∨ k = 1 ∨ k = 2 ∨ k = 3 := by omega
theorem own_d5 {d : Nat} (h : 1 ≤ d ∧ d ≤ 5) : d = 1 ∨ d = 2 ∨ d = 3 ∨ d = 4 ∨ d = 5 := by omega
set_option maxRecDepth 65536 in
theorem own_buf {k d m : Nat} {c0 c1 c2 : Int32} (hk : k ≤ 3) (hd : 1 ≤ d ∧ d ≤ 5) : (own_gc d (own_cp (own_cp own_z16 (own_v3 k c0 c1 c2) 0 k) [.int (58 : Int32)] k 1) (k + 1 + d) m).take (k + 1 + d) = own_us k d m c0 c1 c2 := by
  rcases own_k4 hk with rfl | rfl | rfl | rfl <;> rcases own_d5 hd with rfl | rfl | rfl | rfl | rfl <;> rfl
theorem own_usl {k d m : Nat} {c0 c1 c2 : Int32} (hk : k ≤ 3) (hd : 1 ≤ d ∧ d ≤ 5) : (own_us k d m c0 c1 c2).length = k + 1 + d := by
  rcases own_k4 hk with rfl | rfl | rfl | rfl <;> rcases own_d5 hd with rfl | rfl | rfl | rfl | rfl <;> rfl
theorem own_u0 {k d m : Nat} {c0 c1 c2 : Int32} (hk : k ≤ 3) (h : 0 < k) : (own_us k d m c0 c1 c2)[0]? = some (.int (own_by c0)) := by
  rcases own_k4 hk with rfl | rfl | rfl | rfl
  · omega
  all_goals rfl
theorem own_u1 {k d m : Nat} {c0 c1 c2 : Int32} (hk : k ≤ 3) (h : 1 < k) : (own_us k d m c0 c1 c2)[1]? = some (.int (own_by c1)) := by
  rcases own_k4 hk with rfl | rfl | rfl | rfl
  · omega
  · omega
  all_goals rfl
theorem own_u2 {k d m : Nat} {c0 c1 c2 : Int32} (hk : k ≤ 3) (h : 2 < k) : (own_us k d m c0 c1 c2)[2]? = some (.int (own_by c2)) := by
  rcases own_k4 hk with rfl | rfl | rfl | rfl
  · omega
  · omega
  · omega
  all_goals rfl
theorem own_uk {k d m : Nat} {c0 c1 c2 : Int32} (hk : k ≤ 3) : (own_us k d m c0 c1 c2)[k]? = some (.int (own_by 58)) := by
  rcases own_k4 hk with rfl | rfl | rfl | rfl <;> rfl
theorem own_dsg (d m : Nat) : ∀ i, i < d → (own_ds d m)[i]? = some (.int (own_by (own_dg m (d - (i + 1))))) := by
  induction d with
  | zero => intro i h; omega
  | succ d ih =>
    intro i h
    cases i with
    | zero => rfl
    | succ i =>
      have := ih i (by omega)
      show (own_ds d m)[i]? = _
      rw [this, show d - (i + 1) = d + 1 - (i + 1 + 1) by omega]
theorem own_ud {k d m i : Nat} {c0 c1 c2 : Int32} (hk : k ≤ 3) (h : i < d) : (own_us k d m c0 c1 c2)[k + (i + 1)]? = some (.int (own_by (own_dg m (d - (i + 1))))) := by
  rw [← own_dsg d m i h]
  rcases own_k4 hk with rfl | rfl | rfl | rfl
  · rw [show 0 + (i + 1) = i + 1 by omega]; rfl
  · rw [show 1 + (i + 1) = i + 2 by omega]; rfl
  · rw [show 2 + (i + 1) = i + 3 by omega]; rfl
  · rw [show 3 + (i + 1) = i + 4 by omega]; rfl
theorem own_cpz {vs zs : List Value} {c : Nat} (hz : zs.length = c) : zs.take 0 ++ (vs.drop 0).take c ++ zs.drop (0 + c) = vs.take c := by
  rw [List.take_zero, List.nil_append, List.drop_zero, Nat.zero_add, List.drop_of_length_le (Nat.le_of_eq hz), List.append_nil]
theorem own_n4 (z : Int32) : ∃ k : Nat, k ≤ 3 ∧ z &&& (3 : Int32) = Int32.ofNat k := by
  rcases own_and3 z with q | q | q | q
  · exact ⟨0, by omega, q⟩
  · exact ⟨1, by omega, q⟩
  · exact ⟨2, by omega, q⟩
  · exact ⟨3, by omega, q⟩
theorem own_pt (z : Int32) : ∃ m : Nat, (1 ≤ m ∧ m ≤ 65535) ∧ (1 : Int32) + (z &&& (2147483647 : Int32)) % (65535 : Int32) = Int32.ofNat m := by
  have h := own_and_bound z 2147483647 (by decide)
  have e0 : (65535 : Int32).toInt = 65535 := rfl
  have e1 : (1 : Int32).toInt = 1 := rfl
  have r := own_rem32 (a := z &&& (2147483647 : Int32)) (b := 65535) h.1 (by rw [e0]; omega)
  rw [e0] at r
  refine ⟨(1 + ((z &&& (2147483647 : Int32)) % (65535 : Int32)).toInt).toNat, by omega, ?_⟩
  apply Int32.toInt_inj.mp
  rw [own_add32 (by omega) (by omega), own_on (by omega), e1]; omega
theorem own_mb (z : Int32) : 0 ≤ (z &&& (255 : Int32)).toInt ∧ (z &&& (255 : Int32)).toInt ≤ 255 := own_and_bound z 255 (by decide)
theorem own_DDe {m : Nat} (h : 1 ≤ m ∧ m ≤ 65535) : ∃ d, own_DD m d := by
  unfold own_DD
  have t0 : own_p10 0 = 1 := rfl
  have t1 : own_p10 1 = 10 := rfl
  have t2 : own_p10 2 = 100 := rfl
  have t3 : own_p10 3 = 1000 := rfl
  have t4 : own_p10 4 = 10000 := rfl
  have t5 : own_p10 5 = 100000 := rfl
  by_cases h1 : m < 10
  · exact ⟨1, ⟨by omega, by omega⟩, by show own_p10 0 ≤ m; omega, by omega⟩
  by_cases h2 : m < 100
  · exact ⟨2, ⟨by omega, by omega⟩, by show own_p10 1 ≤ m; omega, by omega⟩
  by_cases h3 : m < 1000
  · exact ⟨3, ⟨by omega, by omega⟩, by show own_p10 2 ≤ m; omega, by omega⟩
  by_cases h4 : m < 10000
  · exact ⟨4, ⟨by omega, by omega⟩, by show own_p10 3 ≤ m; omega, by omega⟩
  · exact ⟨5, ⟨by omega, by omega⟩, by show own_p10 4 ≤ m; omega, by omega⟩
theorem own_DDl {m d : Nat} (h : own_DD m d) : (d = 1 ∧ 1 ≤ m ∧ m < 10) ∨ (d = 2 ∧ 10 ≤ m ∧ m < 100) ∨ (d = 3 ∧ 100 ≤ m ∧ m < 1000) ∨ (d = 4 ∧ 1000 ≤ m ∧ m < 10000) ∨ (d = 5 ∧ 10000 ≤ m ∧ m < 100000) := by
  obtain ⟨hd, h1, h2⟩ := h
  rcases own_d5 hd with rfl | rfl | rfl | rfl | rfl
  · exact Or.inl ⟨rfl, h1, h2⟩
  · exact Or.inr (Or.inl ⟨rfl, h1, h2⟩)
  · exact Or.inr (Or.inr (Or.inl ⟨rfl, h1, h2⟩))
  · exact Or.inr (Or.inr (Or.inr (Or.inl ⟨rfl, h1, h2⟩)))
  · exact Or.inr (Or.inr (Or.inr (Or.inr ⟨rfl, h1, h2⟩)))

def own_Dg (Z : State) (o1 o2 : Addr) (cl1 cl2 : Cell) : Prop :=
  (Sta Z Z.heap "java/lang/Integer" "DigitOnes" "[B" (.ref o1) ∧ Arr Z Z.heap o1 cl1 .byte ∧ ∀ i : Nat, i < 100 → cl1.slots[i]? = some (.int (Int32.ofNat (48 + i % 10)))) ∧
  (Sta Z Z.heap "java/lang/Integer" "DigitTens" "[B" (.ref o2) ∧ Arr Z Z.heap o2 cl2 .byte ∧ ∀ i : Nat, i < 100 → cl2.slots[i]? = some (.int (Int32.ofNat (48 + i / 10))))
theorem own_t1 {Z : State} {o1 o2 : Addr} {cl1 cl2 : Cell} (hD : own_Dg Z o1 o2 cl1 cl2) {r m t : Nat} (hr : r < 100) (hx : r % 10 = m / own_p10 t % 10) : cl1.slots[r]? = some (.int (own_dg m t)) := by
  rw [hD.1.2.2 r hr, hx]; rfl
theorem own_t2 {Z : State} {o1 o2 : Addr} {cl1 cl2 : Cell} (hD : own_Dg Z o1 o2 cl1 cl2) {r m t : Nat} (hr : r < 100) (hx : r / 10 = m / own_p10 t % 10) : cl2.slots[r]? = some (.int (own_dg m t)) := by
  rw [hD.2.2.2 r hr, hx]; rfl
theorem own_sa {Z : State} {a0 : Array Value} (hw : own_Z Z a0) : ∀ a ∈ Bundle.stringAtoms, a.before a0 Z = true := by
  intro a ha
  simp only [Bundle.stringAtoms, List.mem_cons, List.not_mem_nil, or_false] at ha
  rcases ha with rfl | rfl | rfl | rfl | rfl | rfl | rfl
  · exact own_w6 hw
  · exact own_w5 hw
  · exact own_w23 hw
  · exact own_w33 hw
  · exact own_w31 hw
  · exact own_w49 hw
  · exact own_w50 hw
theorem own_hP {Z : State} {a0 : Array Value} (hw : own_Z Z a0) : Jvm.RoadKit.slotOf Z "java/lang/String" "coder" "B" ≠ Jvm.RoadKit.slotOf Z "java/lang/String" "value" "[B" := Ne.symm ((List.pairwise_cons.mp (own_ST_P hw)).1 _ (List.mem_singleton.mpr rfl))
set_option maxRecDepth 65536 in
set_option maxHeartbeats 40000000 in
theorem own_initD0_ef (m : MethodId) (x0 : Addr) (x1 : Addr) (x2 : Int32) (x3 : Int32) : entryFrame m #[(.ref x0), (.ref x1), (.int x2), (.int x3), .null] 6 = mkF m 0 #[.val (.ref x0), .val (.ref x1), .val (.int x2), .val (.int x3), .val .null, .unset] [] := by first | (simp [entryFrame, mkF, argsToLocals, Value.category]; done) | rfl
set_option maxRecDepth 65536 in
set_option maxHeartbeats 40000000 in
theorem own_initD0 {l : Launch} {Z : State} {a0 : Array Value} (hw : own_Z Z a0) {h : Heap} {os : List own_O} {as : List own_A} {a x : Addr} (hL : Jvm.Lit.constHeld Z "java/lang/String" 7) (hcw : Jvm.Lit.compactW.before a0 Z = true) (H : own_H Z h (own_ST a .null (.int (0 : Int32)) :: os) ((x, .char, "[C", []) :: as)) : own_Met (some ([], [""])) l Z (⟨"java/lang/String", "<init>", "([CIILjava/lang/Void;)V"⟩ : MethodName) jdk_42_method_149_code 6 none [] ({ frames := 1, cells := 2, slots := 4, locals := 12 } : Room) #[(.ref a), (.ref x), (.int (0 : Int32)), (.int (0 : Int32)), .null] h (fun v h' => v = none ∧ ∃ y, own_H Z h' (own_ST a (.ref y) (.int (0 : Int32)) :: os) ((y, .byte, "", []) :: (x, .char, "[C", []) :: as)) := by
  refine own_metW (by first | exact plainFor_of_name (by decide +kernel) | decide +kernel) ?_
  intro p_ e_ s_ m_ below_ meth_ c_ K hI
  replace hI : IB Z s_.vm [] := hI
  refine own_cast (own_initD0_ef m_ _ _ _ _) ?_
  refine own_aloadN K own_d0_0 rfl rfl ?_
  refine own_initO K own_d0_1 (own_w15 hw) (own_w16 hw) (own_w17 hw) rfl (by decide) (W := 0) (Nat.le_of_eq rfl) (by decide) ?_
  refine own_iloadN K own_d0_4 rfl ?_
  refine own_ifne K own_d0_5 (fun q => absurd q (by decide)) (fun _ => ?_)
  refine own_aloadN K own_d0_8 rfl rfl ?_
  refine own_ldcL K own_d0_9 (own_w220 hw) (own_sa hw) (fun vm q => own_IB (congrArg Vm.interned (show vm = s_.vm from q)) hI) (by decide) hL hcw (vs := []) ⟨by decide, by rfl⟩ (own_hP hw) H (nn := 0) (by decide) (by decide) (by decide) (by decide) ?_
  intro h1 a3 b4 H2
  replace H2 : own_H Z h1 (own_SR a3 (.int (0 : Int32)) (.ref b4) :: own_ST a .null (.int (0 : Int32)) :: os) ((b4, .byte, "", []) :: (x, .char, "[C", []) :: as) := H2
  refine own_getfield K own_d0_11 (host := "") (Or.inl (own_w32 hw)) Via.refl H2 (j := 0) rfl (q := 1) rfl ?_
  refine own_putfield K own_d0_14 (host := "") (Or.inl (own_w32 hw)) Via.refl H2 (j := 1) rfl (q := 0) rfl (Or.inr ⟨(own_w33 hw), rfl, rfl⟩) (own_w5 hw) (ty := (.array .byte)) (by decide +kernel) (rfl) (rfl) ?_
  intro h5 H6
  replace H6 : own_H Z h5 (own_SR a3 (.int (0 : Int32)) (.ref b4) :: own_ST a (.ref b4) (.int (0 : Int32)) :: os) ((b4, .byte, "", []) :: (x, .char, "[C", []) :: as) := H6
  refine own_aloadN K own_d0_17 rfl rfl ?_
  refine own_ldcA K own_d0_18 (own_w220 hw) (a := a3) (fun _ q => q.2) ?_
  refine own_getfield K own_d0_20 (host := "") (Or.inl (own_w30 hw)) Via.refl H6 (j := 0) rfl (q := 0) rfl ?_
  refine own_putfield K own_d0_23 (host := "") (Or.inl (own_w30 hw)) Via.refl H6 (j := 1) rfl (q := 1) rfl (Or.inr ⟨(own_w31 hw), rfl, rfl⟩) (own_w5 hw) (ty := .byte) (by decide +kernel) (rfl) (rfl) ?_
  intro h7 H8
  replace H8 : own_H Z h7 (own_SR a3 (.int (0 : Int32)) (.ref b4) :: own_ST a (.ref b4) (.int (0 : Int32)) :: os) ((b4, .byte, "", []) :: (x, .char, "[C", []) :: as) := H8
  refine own_weak (J' := fun vm => IB Z vm [""]) ?_ ?_
  · intro vm q; exact q.1
  exact own_retV K (fun _ q => q) own_d0_26 (by decide) (by decide) (⟨rfl, _, H8.tailO⟩)
set_option maxRecDepth 65536 in
set_option maxHeartbeats 40000000 in
theorem own_initS0_ef (m : MethodId) (x0 : Addr) (x1 : Addr) : entryFrame m #[(.ref x0), (.ref x1)] 2 = mkF m 0 #[.val (.ref x0), .val (.ref x1)] [] := by first | (simp [entryFrame, mkF, argsToLocals, Value.category]; done) | rfl
set_option maxRecDepth 65536 in
set_option maxHeartbeats 40000000 in
theorem own_initS0 {l : Launch} {Z : State} {a0 : Array Value} (hw : own_Z Z a0) {h : Heap} {os : List own_O} {as : List own_A} {a x : Addr} (hL : Jvm.Lit.constHeld Z "java/lang/String" 7) (hcw : Jvm.Lit.compactW.before a0 Z = true) (H : own_H Z h (own_ST a .null (.int (0 : Int32)) :: os) ((x, .char, "[C", []) :: as)) : own_Met (some ([], [""])) l Z (⟨"java/lang/String", "<init>", "([C)V"⟩ : MethodName) jdk_42_method_3_code 2 none [] ({ frames := 2, cells := 2, slots := 4, locals := 29 } : Room) #[(.ref a), (.ref x)] h (fun v h' => v = none ∧ ∃ y, own_H Z h' (own_ST a (.ref y) (.int (0 : Int32)) :: os) ((y, .byte, "", []) :: (x, .char, "[C", []) :: as)) := by
  refine own_metW (by first | exact plainFor_of_name (by decide +kernel) | decide +kernel) ?_
  intro p_ e_ s_ m_ below_ meth_ c_ K hI
  replace hI : IB Z s_.vm [] := hI
  refine own_cast (own_initS0_ef m_ _ _) ?_
  refine own_aloadN K own_d1_0 rfl rfl ?_
  refine own_aloadN K own_d1_1 rfl rfl ?_
  refine own_iconst K own_d1_2 (v := (0 : Int32)) rfl ?_
  refine own_aloadN K own_d1_3 rfl rfl ?_
  refine own_arraylength K own_d1_4 H (i := 0) rfl (N := (0 : Int32)) (rfl) ?_
  refine own_aconstNull K own_d1_5 ?_
  refine own_specialW K (fun vm q => own_IB (congrArg Vm.interned (show vm = s_.vm from q)) hI) own_d1_6 rfl (own_w11 hw) (own_w12 hw) (own_w6 hw) (own_w14 hw) (a := a) (argsL := [(.ref x), (.int (0 : Int32)), (.int (0 : Int32)), .null]) (rest := []) (own_initD0 hw hL hcw H) own_pd0 rfl rfl rfl (by decide) (W := 0) (Nat.le_of_eq rfl) (by decide) (by decide) (by decide) (by decide) ?_
  intro v3 h1 q2
  obtain ⟨rfl, y5, H4⟩ := q2
  replace H4 : own_H Z h1 (own_ST a (.ref y5) (.int (0 : Int32)) :: os) ((y5, .byte, "", []) :: (x, .char, "[C", []) :: as) := H4
  exact own_retV K (fun _ q => q) own_d1_9 (by decide) (by decide) (⟨rfl, _, H4⟩)
set_option maxRecDepth 65536 in
set_option maxHeartbeats 40000000 in
theorem own_cmpB1_ef (m : MethodId) (x0 : Addr) (x1 : Int32) (x2 : Addr) (x3 : Int32) (x4 : Int32) : entryFrame m #[(.ref x0), (.int x1), (.ref x2), (.int x3), (.int x4)] 7 = mkF m 0 #[.val (.ref x0), .val (.int x1), .val (.ref x2), .val (.int x3), .val (.int x4), .unset, .unset] [] := by first | (simp [entryFrame, mkF, argsToLocals, Value.category]; done) | rfl
set_option maxRecDepth 65536 in
set_option maxHeartbeats 40000000 in
theorem own_cmpB1 {l : Launch} {Z : State} {a0 : Array Value} (hw : own_Z Z a0) {h : Heap} {os : List own_O} {as : List own_A} {x y : Addr} {c0 : Int32} (H : own_H Z h os ((y, .byte, "[B", [(.int (0 : Int32))]) :: (x, .char, "[C", [(.int c0)]) :: as)) (l0 : 0 ≤ c0.toInt) (u0 : c0.toInt ≤ 255) : own_Met none l Z (⟨"java/lang/StringUTF16", "compress", "([CI[BII)I"⟩ : MethodName) jdk_52_method_21_code 7 (some .int) [] ({ frames := 0, cells := 0, slots := 0, locals := 0 } : Room) #[(.ref x), (.int (0 : Int32)), (.ref y), (.int (0 : Int32)), (.int (1 : Int32))] h (fun v h' => v = some (.int (1 : Int32)) ∧ own_H Z h' os ((y, .byte, "[B", [(.int (own_by c0))]) :: (x, .char, "[C", [(.int c0)]) :: as)) := by
  refine own_met (by first | exact plainFor_of_name (by decide +kernel) | decide +kernel) ?_
  intro p_ e_ s_ m_ below_ meth_ c_ K
  refine own_cast (own_cmpB1_ef m_ _ _ _ _ _) ?_
  refine own_iconst K own_d2_0 (v := (0 : Int32)) rfl ?_
  refine own_istore K own_d2_1 (Ls' := #[.val (.ref x), .val (.int (0 : Int32)), .val (.ref y), .val (.int (0 : Int32)), .val (.int (1 : Int32)), .val (.int (0 : Int32)), .unset]) rfl ?_
  refine own_iload K own_d2_3 rfl ?_
  refine own_iload K own_d2_5 rfl ?_
  refine own_icmpge K own_d2_7 (fun q => absurd q (by decide)) (fun _ => ?_)
  refine own_aloadN K own_d2_10 rfl rfl ?_
  refine own_iloadN K own_d2_11 rfl ?_
  refine own_caload K own_d2_12 H (i := 1) rfl (q := 0) (by decide) (rfl) ?_
  refine own_istore K own_d2_13 (Ls' := #[.val (.ref x), .val (.int (0 : Int32)), .val (.ref y), .val (.int (0 : Int32)), .val (.int (1 : Int32)), .val (.int (0 : Int32)), .val (.int c0)]) rfl ?_
  refine own_iload K own_d2_15 rfl ?_
  refine own_sipush K own_d2_17 (v := (255 : Int32)) rfl ?_
  refine own_icmple K own_d2_20 (fun _ => ?_) (fun q => absurd (own_le255 u0) q)
  refine own_aloadN K own_d2_26 rfl rfl ?_
  refine own_iloadN K own_d2_27 rfl ?_
  refine own_iload K own_d2_28 rfl ?_
  refine own_i2b K own_d2_30 ?_
  refine own_topI (x' := (own_by c0)) (rfl) ?_
  refine own_bastore K own_d2_31 H (i := 0) rfl (q := 0) (by decide) (own_le rfl) ?_
  intro h1 H2
  rw [own_nby] at H2
  replace H2 : own_H Z h1 (os) ((y, .byte, "[B", [(.int (own_by c0))]) :: (x, .char, "[C", [(.int c0)]) :: as) := H2
  refine own_iinc K own_d2_32 rfl (y := (1 : Int32)) (by decide) (Ls' := #[.val (.ref x), .val (.int (1 : Int32)), .val (.ref y), .val (.int (0 : Int32)), .val (.int (1 : Int32)), .val (.int (0 : Int32)), .val (.int c0)]) rfl ?_
  refine own_iinc K own_d2_35 rfl (y := (1 : Int32)) (by decide) (Ls' := #[.val (.ref x), .val (.int (1 : Int32)), .val (.ref y), .val (.int (1 : Int32)), .val (.int (1 : Int32)), .val (.int (0 : Int32)), .val (.int c0)]) rfl ?_
  refine own_iinc K own_d2_38 rfl (y := (1 : Int32)) (by decide) (Ls' := #[.val (.ref x), .val (.int (1 : Int32)), .val (.ref y), .val (.int (1 : Int32)), .val (.int (1 : Int32)), .val (.int (1 : Int32)), .val (.int c0)]) rfl ?_
  refine own_goto K own_d2_41 ?_
  refine own_iload K own_d2_3 rfl ?_
  refine own_iload K own_d2_5 rfl ?_
  refine own_icmpge K own_d2_7 (fun _ => ?_) (fun q => absurd (by decide) q)
  refine own_iload K own_d2_44 rfl ?_
  exact own_retI K (fun _ q => q) own_d2_46 (by decide) (by decide) (⟨rfl, H2⟩)
set_option maxRecDepth 65536 in
set_option maxHeartbeats 40000000 in
theorem own_cmpA1_ef (m : MethodId) (x0 : Addr) (x1 : Int32) (x2 : Int32) : entryFrame m #[(.ref x0), (.int x1), (.int x2)] 6 = mkF m 0 #[.val (.ref x0), .val (.int x1), .val (.int x2), .unset, .unset, .unset] [] := by first | (simp [entryFrame, mkF, argsToLocals, Value.category]; done) | rfl
set_option maxRecDepth 65536 in
set_option maxHeartbeats 40000000 in
theorem own_cmpA1 {l : Launch} {Z : State} {a0 : Array Value} (hw : own_Z Z a0) {h : Heap} {os : List own_O} {as : List own_A} {x : Addr} {c0 : Int32} (H : own_H Z h os ((x, .char, "[C", [(.int c0)]) :: as)) (l0 : 0 ≤ c0.toInt) (u0 : c0.toInt ≤ 255) : own_Met none l Z (⟨"java/lang/StringUTF16", "compress", "([CII)[B"⟩ : MethodName) jdk_52_method_16_code 6 (some (.array .byte)) [] ({ frames := 1, cells := 1, slots := 1, locals := 18 } : Room) #[(.ref x), (.int (0 : Int32)), (.int (1 : Int32))] h (fun v h' => ∃ y, v = some (.ref y) ∧ own_H Z h' os ((y, .byte, "[B", [(.int (own_by c0))]) :: (x, .char, "[C", [(.int c0)]) :: as)) := by
  refine own_met (by first | exact plainFor_of_name (by decide +kernel) | decide +kernel) ?_
  intro p_ e_ s_ m_ below_ meth_ c_ K
  refine own_cast (own_cmpA1_ef m_ _ _ _) ?_
  refine own_iloadN K own_d3_0 rfl ?_
  refine own_newarray K own_d3_1 (ty := .byte) rfl (own_w23 hw) H (q := 1) (by decide) (ad := "[B") (by decide +kernel) (vs := [(.int (0 : Int32))]) rfl (by decide) (by decide) (by decide) ?_
  intro h1 a3 H2
  replace H2 : own_H Z h1 (os) ((a3, .byte, "[B", [(.int (0 : Int32))]) :: (x, .char, "[C", [(.int c0)]) :: as) := H2
  refine own_astoreN K own_d3_3 rfl (Ls' := #[.val (.ref x), .val (.int (0 : Int32)), .val (.int (1 : Int32)), .val (.ref a3), .unset, .unset]) rfl ?_
  refine own_aloadN K own_d3_4 rfl rfl ?_
  refine own_iloadN K own_d3_5 rfl ?_
  refine own_aloadN K own_d3_6 rfl rfl ?_
  refine own_iconst K own_d3_7 (v := (0 : Int32)) rfl ?_
  refine own_iloadN K own_d3_8 rfl ?_
  refine own_static K own_d3_9 (own_w24 hw) (own_w25 hw) (own_w21 hw) (own_w26 hw) (argsL := [(.ref x), (.int (0 : Int32)), (.ref a3), (.int (0 : Int32)), (.int (1 : Int32))]) (rest := []) (own_cmpB1 hw H2 l0 u0) own_pd1 rfl rfl rfl (by decide) (W := 0) (Nat.le_of_eq rfl) (by decide) (by decide) (by decide) (by decide) ?_
  intro v6 h4 q5
  obtain ⟨rfl, H7⟩ := q5
  replace H7 : own_H Z h4 (os) ((a3, .byte, "[B", [(.int (own_by c0))]) :: (x, .char, "[C", [(.int c0)]) :: as) := H7
  refine own_istore K own_d3_12 (Ls' := #[.val (.ref x), .val (.int (0 : Int32)), .val (.int (1 : Int32)), .val (.ref a3), .val (.int (1 : Int32)), .unset]) rfl ?_
  refine own_iload K own_d3_14 rfl ?_
  refine own_iloadN K own_d3_16 rfl ?_
  refine own_icmpeq K own_d3_17 (fun _ => ?_) (fun q => absurd (by decide) q)
  refine own_aloadN K own_d3_57 rfl rfl ?_
  exact own_retA K (fun _ q => q) rfl rfl own_d3_58 (by decide) (by decide) (⟨_, rfl, H7⟩)
set_option maxRecDepth 65536 in
set_option maxHeartbeats 40000000 in
theorem own_cfa1_ef (m : MethodId) (x0 : Addr) (x1 : Int32) : entryFrame m #[(.ref x0), (.int x1)] 2 = mkF m 0 #[.val (.ref x0), .val (.int x1)] [] := by first | (simp [entryFrame, mkF, argsToLocals, Value.category]; done) | rfl
set_option maxRecDepth 65536 in
set_option maxHeartbeats 40000000 in
theorem own_cfa1 {l : Launch} {Z : State} {a0 : Array Value} (hw : own_Z Z a0) {h : Heap} {os : List own_O} {as : List own_A} {y : Addr} {c0 : Int32} (H : own_H Z h os ((y, .byte, "[B", [(.int (own_by c0))]) :: as)) : own_Met none l Z (⟨"java/lang/StringUTF16", "coderFromArrayLen", "([BI)B"⟩ : MethodName) jdk_52_method_15_code 2 (some .byte) [] ({ frames := 0, cells := 0, slots := 0, locals := 0 } : Room) #[(.ref y), (.int (1 : Int32))] h (fun v h' => v = some (.int (0 : Int32)) ∧ h = h') := by
  refine own_met (by first | exact plainFor_of_name (by decide +kernel) | decide +kernel) ?_
  intro p_ e_ s_ m_ below_ meth_ c_ K
  refine own_cast (own_cfa1_ef m_ _ _) ?_
  refine own_iloadN K own_d4_0 rfl ?_
  refine own_aloadN K own_d4_1 rfl rfl ?_
  refine own_arraylength K own_d4_2 H (i := 0) rfl (N := (1 : Int32)) (rfl) ?_
  refine own_isub K own_d4_3 ?_
  refine own_topI (x' := (0 : Int32)) (by decide) ?_
  refine own_bipush K own_d4_4 (v := (31 : Int32)) rfl ?_
  refine own_iushr K own_d4_6 ?_
  refine own_topI (x' := (0 : Int32)) (by decide) ?_
  refine own_i2b K own_d4_7 ?_
  refine own_topI (x' := (0 : Int32)) (by decide) ?_
  exact own_retBy K (fun _ q => q) (rfl) own_d4_8 (by decide) (by decide) (⟨rfl, rfl⟩)
set_option maxRecDepth 65536 in
set_option maxHeartbeats 40000000 in
theorem own_initD1_ef (m : MethodId) (x0 : Addr) (x1 : Addr) (x2 : Int32) (x3 : Int32) : entryFrame m #[(.ref x0), (.ref x1), (.int x2), (.int x3), .null] 6 = mkF m 0 #[.val (.ref x0), .val (.ref x1), .val (.int x2), .val (.int x3), .val .null, .unset] [] := by first | (simp [entryFrame, mkF, argsToLocals, Value.category]; done) | rfl
set_option maxRecDepth 65536 in
set_option maxHeartbeats 40000000 in
theorem own_initD1 {l : Launch} {Z : State} {a0 : Array Value} (hw : own_Z Z a0) {h : Heap} {os : List own_O} {as : List own_A} {a x : Addr} {cs : Int32} {c0 : Int32} (hC : cs ≠ 0 ∧ Sta Z Z.heap "java/lang/String" "COMPACT_STRINGS" "Z" (.int cs)) (H : own_H Z h (own_ST a .null (.int (0 : Int32)) :: os) ((x, .char, "[C", [(.int c0)]) :: as)) (l0 : 0 ≤ c0.toInt) (u0 : c0.toInt ≤ 255) : own_Met none l Z (⟨"java/lang/String", "<init>", "([CIILjava/lang/Void;)V"⟩ : MethodName) jdk_42_method_149_code 6 none [] ({ frames := 2, cells := 1, slots := 1, locals := 35 } : Room) #[(.ref a), (.ref x), (.int (0 : Int32)), (.int (1 : Int32)), .null] h (fun v h' => v = none ∧ ∃ y, own_H Z h' (own_ST a (.ref y) (.int (0 : Int32)) :: os) ((y, .byte, "[B", [(.int (own_by c0))]) :: (x, .char, "[C", [(.int c0)]) :: as)) := by
  refine own_met (by first | exact plainFor_of_name (by decide +kernel) | decide +kernel) ?_
  intro p_ e_ s_ m_ below_ meth_ c_ K
  refine own_cast (own_initD1_ef m_ _ _ _ _) ?_
  refine own_aloadN K own_d0_0 rfl rfl ?_
  refine own_initO K own_d0_1 (own_w15 hw) (own_w16 hw) (own_w17 hw) rfl (by decide) (W := 0) (Nat.le_of_eq rfl) (by decide) ?_
  refine own_iloadN K own_d0_4 rfl ?_
  refine own_ifne K own_d0_5 (fun _ => ?_) (fun q => absurd (by decide) q)
  refine own_getstatic K own_d0_27 (own_w18 hw) Via.refl (v := (.int cs)) (Sta.ext H.1 hC.2) ?_
  refine own_ifeq K own_d0_30 (fun q => absurd q (hC.1)) (fun _ => ?_)
  refine own_aloadN K own_d0_33 rfl rfl ?_
  refine own_iloadN K own_d0_34 rfl ?_
  refine own_iloadN K own_d0_35 rfl ?_
  refine own_static K own_d0_36 (own_w19 hw) (own_w20 hw) (own_w21 hw) (own_w22 hw) (argsL := [(.ref x), (.int (0 : Int32)), (.int (1 : Int32))]) (rest := []) (own_cmpA1 hw H l0 u0) own_pd2 rfl rfl rfl (by decide) (W := 0) (Nat.le_of_eq rfl) (by decide) (by decide) (by decide) (by decide) ?_
  intro v3 h1 q2
  obtain ⟨y5, rfl, H4⟩ := q2
  replace H4 : own_H Z h1 (own_ST a .null (.int (0 : Int32)) :: os) ((y5, .byte, "[B", [(.int (own_by c0))]) :: (x, .char, "[C", [(.int c0)]) :: as) := H4
  refine own_astore K own_d0_39 rfl (Ls' := #[.val (.ref a), .val (.ref x), .val (.int (0 : Int32)), .val (.int (1 : Int32)), .val .null, .val (.ref y5)]) rfl ?_
  refine own_aloadN K own_d0_41 rfl rfl ?_
  refine own_aload K own_d0_42 rfl rfl ?_
  refine own_iloadN K own_d0_44 rfl ?_
  refine own_static K own_d0_45 (own_w27 hw) (own_w28 hw) (own_w21 hw) (own_w29 hw) (argsL := [(.ref y5), (.int (1 : Int32))]) (rest := [(.ref a)]) (own_cfa1 hw H4) own_pd3 rfl rfl rfl (by decide) (W := 1) (Nat.le_of_eq rfl) (by decide) (by decide) (by decide) (by decide) ?_
  intro v8 h6 q7
  obtain ⟨rfl, rfl⟩ := q7
  refine own_putfield K own_d0_48 (host := "") (Or.inl (own_w30 hw)) Via.refl H4 (j := 0) rfl (q := 1) rfl (Or.inr ⟨(own_w31 hw), rfl, rfl⟩) (own_w5 hw) (ty := .byte) (by decide +kernel) (rfl) (rfl) ?_
  intro h9 H10
  replace H10 : own_H Z h9 (own_ST a .null (.int (0 : Int32)) :: os) ((y5, .byte, "[B", [(.int (own_by c0))]) :: (x, .char, "[C", [(.int c0)]) :: as) := H10
  refine own_aloadN K own_d0_51 rfl rfl ?_
  refine own_aload K own_d0_52 rfl rfl ?_
  refine own_putfield K own_d0_54 (host := "") (Or.inl (own_w32 hw)) Via.refl H10 (j := 0) rfl (q := 0) rfl (Or.inr ⟨(own_w33 hw), rfl, rfl⟩) (own_w5 hw) (ty := (.array .byte)) (by decide +kernel) (rfl) (rfl) ?_
  intro h11 H12
  replace H12 : own_H Z h11 (own_ST a (.ref y5) (.int (0 : Int32)) :: os) ((y5, .byte, "[B", [(.int (own_by c0))]) :: (x, .char, "[C", [(.int c0)]) :: as) := H12
  exact own_retV K (fun _ q => q) own_d0_57 (by decide) (by decide) (⟨rfl, _, H12⟩)
set_option maxRecDepth 65536 in
set_option maxHeartbeats 40000000 in
theorem own_initS1_ef (m : MethodId) (x0 : Addr) (x1 : Addr) : entryFrame m #[(.ref x0), (.ref x1)] 2 = mkF m 0 #[.val (.ref x0), .val (.ref x1)] [] := by first | (simp [entryFrame, mkF, argsToLocals, Value.category]; done) | rfl
set_option maxRecDepth 65536 in
set_option maxHeartbeats 40000000 in
theorem own_initS1 {l : Launch} {Z : State} {a0 : Array Value} (hw : own_Z Z a0) {h : Heap} {os : List own_O} {as : List own_A} {a x : Addr} {cs : Int32} {c0 : Int32} (hC : cs ≠ 0 ∧ Sta Z Z.heap "java/lang/String" "COMPACT_STRINGS" "Z" (.int cs)) (H : own_H Z h (own_ST a .null (.int (0 : Int32)) :: os) ((x, .char, "[C", [(.int c0)]) :: as)) (l0 : 0 ≤ c0.toInt) (u0 : c0.toInt ≤ 255) : own_Met none l Z (⟨"java/lang/String", "<init>", "([C)V"⟩ : MethodName) jdk_42_method_3_code 2 none [] ({ frames := 3, cells := 1, slots := 1, locals := 52 } : Room) #[(.ref a), (.ref x)] h (fun v h' => v = none ∧ ∃ y, own_H Z h' (own_ST a (.ref y) (.int (0 : Int32)) :: os) ((y, .byte, "[B", [(.int (own_by c0))]) :: (x, .char, "[C", [(.int c0)]) :: as)) := by
  refine own_met (by first | exact plainFor_of_name (by decide +kernel) | decide +kernel) ?_
  intro p_ e_ s_ m_ below_ meth_ c_ K
  refine own_cast (own_initS1_ef m_ _ _) ?_
  refine own_aloadN K own_d1_0 rfl rfl ?_
  refine own_aloadN K own_d1_1 rfl rfl ?_
  refine own_iconst K own_d1_2 (v := (0 : Int32)) rfl ?_
  refine own_aloadN K own_d1_3 rfl rfl ?_
  refine own_arraylength K own_d1_4 H (i := 0) rfl (N := (1 : Int32)) (rfl) ?_
  refine own_aconstNull K own_d1_5 ?_
  refine own_special K own_d1_6 rfl (own_w11 hw) (own_w12 hw) (own_w6 hw) (own_w14 hw) (a := a) (argsL := [(.ref x), (.int (0 : Int32)), (.int (1 : Int32)), .null]) (rest := []) (own_initD1 hw hC H l0 u0) own_pd0 rfl rfl rfl (by decide) (W := 0) (Nat.le_of_eq rfl) (by decide) (by decide) (by decide) (by decide) ?_
  intro v3 h1 q2
  obtain ⟨rfl, y5, H4⟩ := q2
  replace H4 : own_H Z h1 (own_ST a (.ref y5) (.int (0 : Int32)) :: os) ((y5, .byte, "[B", [(.int (own_by c0))]) :: (x, .char, "[C", [(.int c0)]) :: as) := H4
  exact own_retV K (fun _ q => q) own_d1_9 (by decide) (by decide) (⟨rfl, _, H4⟩)
set_option maxRecDepth 65536 in
set_option maxHeartbeats 40000000 in
theorem own_cmpB2_ef (m : MethodId) (x0 : Addr) (x1 : Int32) (x2 : Addr) (x3 : Int32) (x4 : Int32) : entryFrame m #[(.ref x0), (.int x1), (.ref x2), (.int x3), (.int x4)] 7 = mkF m 0 #[.val (.ref x0), .val (.int x1), .val (.ref x2), .val (.int x3), .val (.int x4), .unset, .unset] [] := by first | (simp [entryFrame, mkF, argsToLocals, Value.category]; done) | rfl
set_option maxRecDepth 65536 in
set_option maxHeartbeats 40000000 in
theorem own_cmpB2 {l : Launch} {Z : State} {a0 : Array Value} (hw : own_Z Z a0) {h : Heap} {os : List own_O} {as : List own_A} {x y : Addr} {c0 c1 : Int32} (H : own_H Z h os ((y, .byte, "[B", [(.int (0 : Int32)), (.int (0 : Int32))]) :: (x, .char, "[C", [(.int c0), (.int c1)]) :: as)) (l0 : 0 ≤ c0.toInt) (u0 : c0.toInt ≤ 255) (l1 : 0 ≤ c1.toInt) (u1 : c1.toInt ≤ 255) : own_Met none l Z (⟨"java/lang/StringUTF16", "compress", "([CI[BII)I"⟩ : MethodName) jdk_52_method_21_code 7 (some .int) [] ({ frames := 0, cells := 0, slots := 0, locals := 0 } : Room) #[(.ref x), (.int (0 : Int32)), (.ref y), (.int (0 : Int32)), (.int (2 : Int32))] h (fun v h' => v = some (.int (2 : Int32)) ∧ own_H Z h' os ((y, .byte, "[B", [(.int (own_by c0)), (.int (own_by c1))]) :: (x, .char, "[C", [(.int c0), (.int c1)]) :: as)) := by
  refine own_met (by first | exact plainFor_of_name (by decide +kernel) | decide +kernel) ?_
  intro p_ e_ s_ m_ below_ meth_ c_ K
  refine own_cast (own_cmpB2_ef m_ _ _ _ _ _) ?_
  refine own_iconst K own_d2_0 (v := (0 : Int32)) rfl ?_
  refine own_istore K own_d2_1 (Ls' := #[.val (.ref x), .val (.int (0 : Int32)), .val (.ref y), .val (.int (0 : Int32)), .val (.int (2 : Int32)), .val (.int (0 : Int32)), .unset]) rfl ?_
  refine own_iload K own_d2_3 rfl ?_
  refine own_iload K own_d2_5 rfl ?_
  refine own_icmpge K own_d2_7 (fun q => absurd q (by decide)) (fun _ => ?_)
  refine own_aloadN K own_d2_10 rfl rfl ?_
  refine own_iloadN K own_d2_11 rfl ?_
  refine own_caload K own_d2_12 H (i := 1) rfl (q := 0) (by decide) (rfl) ?_
  refine own_istore K own_d2_13 (Ls' := #[.val (.ref x), .val (.int (0 : Int32)), .val (.ref y), .val (.int (0 : Int32)), .val (.int (2 : Int32)), .val (.int (0 : Int32)), .val (.int c0)]) rfl ?_
  refine own_iload K own_d2_15 rfl ?_
  refine own_sipush K own_d2_17 (v := (255 : Int32)) rfl ?_
  refine own_icmple K own_d2_20 (fun _ => ?_) (fun q => absurd (own_le255 u0) q)
  refine own_aloadN K own_d2_26 rfl rfl ?_
  refine own_iloadN K own_d2_27 rfl ?_
  refine own_iload K own_d2_28 rfl ?_
  refine own_i2b K own_d2_30 ?_
  refine own_topI (x' := (own_by c0)) (rfl) ?_
  refine own_bastore K own_d2_31 H (i := 0) rfl (q := 0) (by decide) (own_le rfl) ?_
  intro h1 H2
  rw [own_nby] at H2
  replace H2 : own_H Z h1 (os) ((y, .byte, "[B", [(.int (own_by c0)), (.int (0 : Int32))]) :: (x, .char, "[C", [(.int c0), (.int c1)]) :: as) := H2
  refine own_iinc K own_d2_32 rfl (y := (1 : Int32)) (by decide) (Ls' := #[.val (.ref x), .val (.int (1 : Int32)), .val (.ref y), .val (.int (0 : Int32)), .val (.int (2 : Int32)), .val (.int (0 : Int32)), .val (.int c0)]) rfl ?_
  refine own_iinc K own_d2_35 rfl (y := (1 : Int32)) (by decide) (Ls' := #[.val (.ref x), .val (.int (1 : Int32)), .val (.ref y), .val (.int (1 : Int32)), .val (.int (2 : Int32)), .val (.int (0 : Int32)), .val (.int c0)]) rfl ?_
  refine own_iinc K own_d2_38 rfl (y := (1 : Int32)) (by decide) (Ls' := #[.val (.ref x), .val (.int (1 : Int32)), .val (.ref y), .val (.int (1 : Int32)), .val (.int (2 : Int32)), .val (.int (1 : Int32)), .val (.int c0)]) rfl ?_
  refine own_goto K own_d2_41 ?_
  refine own_iload K own_d2_3 rfl ?_
  refine own_iload K own_d2_5 rfl ?_
  refine own_icmpge K own_d2_7 (fun q => absurd q (by decide)) (fun _ => ?_)
  refine own_aloadN K own_d2_10 rfl rfl ?_
  refine own_iloadN K own_d2_11 rfl ?_
  refine own_caload K own_d2_12 H2 (i := 1) rfl (q := 1) (by decide) (rfl) ?_
  refine own_istore K own_d2_13 (Ls' := #[.val (.ref x), .val (.int (1 : Int32)), .val (.ref y), .val (.int (1 : Int32)), .val (.int (2 : Int32)), .val (.int (1 : Int32)), .val (.int c1)]) rfl ?_
  refine own_iload K own_d2_15 rfl ?_
  refine own_sipush K own_d2_17 (v := (255 : Int32)) rfl ?_
  refine own_icmple K own_d2_20 (fun _ => ?_) (fun q => absurd (own_le255 u1) q)
  refine own_aloadN K own_d2_26 rfl rfl ?_
  refine own_iloadN K own_d2_27 rfl ?_
  refine own_iload K own_d2_28 rfl ?_
  refine own_i2b K own_d2_30 ?_
  refine own_topI (x' := (own_by c1)) (rfl) ?_
  refine own_bastore K own_d2_31 H2 (i := 0) rfl (q := 1) (by decide) (own_le rfl) ?_
  intro h3 H4
  rw [own_nby] at H4
  replace H4 : own_H Z h3 (os) ((y, .byte, "[B", [(.int (own_by c0)), (.int (own_by c1))]) :: (x, .char, "[C", [(.int c0), (.int c1)]) :: as) := H4
  refine own_iinc K own_d2_32 rfl (y := (2 : Int32)) (by decide) (Ls' := #[.val (.ref x), .val (.int (2 : Int32)), .val (.ref y), .val (.int (1 : Int32)), .val (.int (2 : Int32)), .val (.int (1 : Int32)), .val (.int c1)]) rfl ?_
  refine own_iinc K own_d2_35 rfl (y := (2 : Int32)) (by decide) (Ls' := #[.val (.ref x), .val (.int (2 : Int32)), .val (.ref y), .val (.int (2 : Int32)), .val (.int (2 : Int32)), .val (.int (1 : Int32)), .val (.int c1)]) rfl ?_
  refine own_iinc K own_d2_38 rfl (y := (2 : Int32)) (by decide) (Ls' := #[.val (.ref x), .val (.int (2 : Int32)), .val (.ref y), .val (.int (2 : Int32)), .val (.int (2 : Int32)), .val (.int (2 : Int32)), .val (.int c1)]) rfl ?_
  refine own_goto K own_d2_41 ?_
  refine own_iload K own_d2_3 rfl ?_
  refine own_iload K own_d2_5 rfl ?_
  refine own_icmpge K own_d2_7 (fun _ => ?_) (fun q => absurd (by decide) q)
  refine own_iload K own_d2_44 rfl ?_
  exact own_retI K (fun _ q => q) own_d2_46 (by decide) (by decide) (⟨rfl, H4⟩)
set_option maxRecDepth 65536 in
set_option maxHeartbeats 40000000 in
theorem own_cmpA2_ef (m : MethodId) (x0 : Addr) (x1 : Int32) (x2 : Int32) : entryFrame m #[(.ref x0), (.int x1), (.int x2)] 6 = mkF m 0 #[.val (.ref x0), .val (.int x1), .val (.int x2), .unset, .unset, .unset] [] := by first | (simp [entryFrame, mkF, argsToLocals, Value.category]; done) | rfl
set_option maxRecDepth 65536 in
set_option maxHeartbeats 40000000 in
theorem own_cmpA2 {l : Launch} {Z : State} {a0 : Array Value} (hw : own_Z Z a0) {h : Heap} {os : List own_O} {as : List own_A} {x : Addr} {c0 c1 : Int32} (H : own_H Z h os ((x, .char, "[C", [(.int c0), (.int c1)]) :: as)) (l0 : 0 ≤ c0.toInt) (u0 : c0.toInt ≤ 255) (l1 : 0 ≤ c1.toInt) (u1 : c1.toInt ≤ 255) : own_Met none l Z (⟨"java/lang/StringUTF16", "compress", "([CII)[B"⟩ : MethodName) jdk_52_method_16_code 6 (some (.array .byte)) [] ({ frames := 1, cells := 1, slots := 2, locals := 18 } : Room) #[(.ref x), (.int (0 : Int32)), (.int (2 : Int32))] h (fun v h' => ∃ y, v = some (.ref y) ∧ own_H Z h' os ((y, .byte, "[B", [(.int (own_by c0)), (.int (own_by c1))]) :: (x, .char, "[C", [(.int c0), (.int c1)]) :: as)) := by
  refine own_met (by first | exact plainFor_of_name (by decide +kernel) | decide +kernel) ?_
  intro p_ e_ s_ m_ below_ meth_ c_ K
  refine own_cast (own_cmpA2_ef m_ _ _ _) ?_
  refine own_iloadN K own_d3_0 rfl ?_
  refine own_newarray K own_d3_1 (ty := .byte) rfl (own_w23 hw) H (q := 2) (by decide) (ad := "[B") (by decide +kernel) (vs := [(.int (0 : Int32)), (.int (0 : Int32))]) rfl (by decide) (by decide) (by decide) ?_
  intro h1 a3 H2
  replace H2 : own_H Z h1 (os) ((a3, .byte, "[B", [(.int (0 : Int32)), (.int (0 : Int32))]) :: (x, .char, "[C", [(.int c0), (.int c1)]) :: as) := H2
  refine own_astoreN K own_d3_3 rfl (Ls' := #[.val (.ref x), .val (.int (0 : Int32)), .val (.int (2 : Int32)), .val (.ref a3), .unset, .unset]) rfl ?_
  refine own_aloadN K own_d3_4 rfl rfl ?_
  refine own_iloadN K own_d3_5 rfl ?_
  refine own_aloadN K own_d3_6 rfl rfl ?_
  refine own_iconst K own_d3_7 (v := (0 : Int32)) rfl ?_
  refine own_iloadN K own_d3_8 rfl ?_
  refine own_static K own_d3_9 (own_w24 hw) (own_w25 hw) (own_w21 hw) (own_w26 hw) (argsL := [(.ref x), (.int (0 : Int32)), (.ref a3), (.int (0 : Int32)), (.int (2 : Int32))]) (rest := []) (own_cmpB2 hw H2 l0 u0 l1 u1) own_pd1 rfl rfl rfl (by decide) (W := 0) (Nat.le_of_eq rfl) (by decide) (by decide) (by decide) (by decide) ?_
  intro v6 h4 q5
  obtain ⟨rfl, H7⟩ := q5
  replace H7 : own_H Z h4 (os) ((a3, .byte, "[B", [(.int (own_by c0)), (.int (own_by c1))]) :: (x, .char, "[C", [(.int c0), (.int c1)]) :: as) := H7
  refine own_istore K own_d3_12 (Ls' := #[.val (.ref x), .val (.int (0 : Int32)), .val (.int (2 : Int32)), .val (.ref a3), .val (.int (2 : Int32)), .unset]) rfl ?_
  refine own_iload K own_d3_14 rfl ?_
  refine own_iloadN K own_d3_16 rfl ?_
  refine own_icmpeq K own_d3_17 (fun _ => ?_) (fun q => absurd (by decide) q)
  refine own_aloadN K own_d3_57 rfl rfl ?_
  exact own_retA K (fun _ q => q) rfl rfl own_d3_58 (by decide) (by decide) (⟨_, rfl, H7⟩)
set_option maxRecDepth 65536 in
set_option maxHeartbeats 40000000 in
theorem own_cfa2_ef (m : MethodId) (x0 : Addr) (x1 : Int32) : entryFrame m #[(.ref x0), (.int x1)] 2 = mkF m 0 #[.val (.ref x0), .val (.int x1)] [] := by first | (simp [entryFrame, mkF, argsToLocals, Value.category]; done) | rfl
set_option maxRecDepth 65536 in
set_option maxHeartbeats 40000000 in
theorem own_cfa2 {l : Launch} {Z : State} {a0 : Array Value} (hw : own_Z Z a0) {h : Heap} {os : List own_O} {as : List own_A} {y : Addr} {c0 c1 : Int32} (H : own_H Z h os ((y, .byte, "[B", [(.int (own_by c0)), (.int (own_by c1))]) :: as)) : own_Met none l Z (⟨"java/lang/StringUTF16", "coderFromArrayLen", "([BI)B"⟩ : MethodName) jdk_52_method_15_code 2 (some .byte) [] ({ frames := 0, cells := 0, slots := 0, locals := 0 } : Room) #[(.ref y), (.int (2 : Int32))] h (fun v h' => v = some (.int (0 : Int32)) ∧ h = h') := by
  refine own_met (by first | exact plainFor_of_name (by decide +kernel) | decide +kernel) ?_
  intro p_ e_ s_ m_ below_ meth_ c_ K
  refine own_cast (own_cfa2_ef m_ _ _) ?_
  refine own_iloadN K own_d4_0 rfl ?_
  refine own_aloadN K own_d4_1 rfl rfl ?_
  refine own_arraylength K own_d4_2 H (i := 0) rfl (N := (2 : Int32)) (rfl) ?_
  refine own_isub K own_d4_3 ?_
  refine own_topI (x' := (0 : Int32)) (by decide) ?_
  refine own_bipush K own_d4_4 (v := (31 : Int32)) rfl ?_
  refine own_iushr K own_d4_6 ?_
  refine own_topI (x' := (0 : Int32)) (by decide) ?_
  refine own_i2b K own_d4_7 ?_
  refine own_topI (x' := (0 : Int32)) (by decide) ?_
  exact own_retBy K (fun _ q => q) (rfl) own_d4_8 (by decide) (by decide) (⟨rfl, rfl⟩)
set_option maxRecDepth 65536 in
set_option maxHeartbeats 40000000 in
theorem own_initD2_ef (m : MethodId) (x0 : Addr) (x1 : Addr) (x2 : Int32) (x3 : Int32) : entryFrame m #[(.ref x0), (.ref x1), (.int x2), (.int x3), .null] 6 = mkF m 0 #[.val (.ref x0), .val (.ref x1), .val (.int x2), .val (.int x3), .val .null, .unset] [] := by first | (simp [entryFrame, mkF, argsToLocals, Value.category]; done) | rfl
set_option maxRecDepth 65536 in
set_option maxHeartbeats 40000000 in
theorem own_initD2 {l : Launch} {Z : State} {a0 : Array Value} (hw : own_Z Z a0) {h : Heap} {os : List own_O} {as : List own_A} {a x : Addr} {cs : Int32} {c0 c1 : Int32} (hC : cs ≠ 0 ∧ Sta Z Z.heap "java/lang/String" "COMPACT_STRINGS" "Z" (.int cs)) (H : own_H Z h (own_ST a .null (.int (0 : Int32)) :: os) ((x, .char, "[C", [(.int c0), (.int c1)]) :: as)) (l0 : 0 ≤ c0.toInt) (u0 : c0.toInt ≤ 255) (l1 : 0 ≤ c1.toInt) (u1 : c1.toInt ≤ 255) : own_Met none l Z (⟨"java/lang/String", "<init>", "([CIILjava/lang/Void;)V"⟩ : MethodName) jdk_42_method_149_code 6 none [] ({ frames := 2, cells := 1, slots := 2, locals := 35 } : Room) #[(.ref a), (.ref x), (.int (0 : Int32)), (.int (2 : Int32)), .null] h (fun v h' => v = none ∧ ∃ y, own_H Z h' (own_ST a (.ref y) (.int (0 : Int32)) :: os) ((y, .byte, "[B", [(.int (own_by c0)), (.int (own_by c1))]) :: (x, .char, "[C", [(.int c0), (.int c1)]) :: as)) := by
  refine own_met (by first | exact plainFor_of_name (by decide +kernel) | decide +kernel) ?_
  intro p_ e_ s_ m_ below_ meth_ c_ K
  refine own_cast (own_initD2_ef m_ _ _ _ _) ?_
  refine own_aloadN K own_d0_0 rfl rfl ?_
  refine own_initO K own_d0_1 (own_w15 hw) (own_w16 hw) (own_w17 hw) rfl (by decide) (W := 0) (Nat.le_of_eq rfl) (by decide) ?_
  refine own_iloadN K own_d0_4 rfl ?_
  refine own_ifne K own_d0_5 (fun _ => ?_) (fun q => absurd (by decide) q)
  refine own_getstatic K own_d0_27 (own_w18 hw) Via.refl (v := (.int cs)) (Sta.ext H.1 hC.2) ?_
  refine own_ifeq K own_d0_30 (fun q => absurd q (hC.1)) (fun _ => ?_)
  refine own_aloadN K own_d0_33 rfl rfl ?_
  refine own_iloadN K own_d0_34 rfl ?_
  refine own_iloadN K own_d0_35 rfl ?_
  refine own_static K own_d0_36 (own_w19 hw) (own_w20 hw) (own_w21 hw) (own_w22 hw) (argsL := [(.ref x), (.int (0 : Int32)), (.int (2 : Int32))]) (rest := []) (own_cmpA2 hw H l0 u0 l1 u1) own_pd2 rfl rfl rfl (by decide) (W := 0) (Nat.le_of_eq rfl) (by decide) (by decide) (by decide) (by decide) ?_
  intro v3 h1 q2
  obtain ⟨y5, rfl, H4⟩ := q2
  replace H4 : own_H Z h1 (own_ST a .null (.int (0 : Int32)) :: os) ((y5, .byte, "[B", [(.int (own_by c0)), (.int (own_by c1))]) :: (x, .char, "[C", [(.int c0), (.int c1)]) :: as) := H4
  refine own_astore K own_d0_39 rfl (Ls' := #[.val (.ref a), .val (.ref x), .val (.int (0 : Int32)), .val (.int (2 : Int32)), .val .null, .val (.ref y5)]) rfl ?_
  refine own_aloadN K own_d0_41 rfl rfl ?_
  refine own_aload K own_d0_42 rfl rfl ?_
  refine own_iloadN K own_d0_44 rfl ?_
  refine own_static K own_d0_45 (own_w27 hw) (own_w28 hw) (own_w21 hw) (own_w29 hw) (argsL := [(.ref y5), (.int (2 : Int32))]) (rest := [(.ref a)]) (own_cfa2 hw H4) own_pd3 rfl rfl rfl (by decide) (W := 1) (Nat.le_of_eq rfl) (by decide) (by decide) (by decide) (by decide) ?_
  intro v8 h6 q7
  obtain ⟨rfl, rfl⟩ := q7
  refine own_putfield K own_d0_48 (host := "") (Or.inl (own_w30 hw)) Via.refl H4 (j := 0) rfl (q := 1) rfl (Or.inr ⟨(own_w31 hw), rfl, rfl⟩) (own_w5 hw) (ty := .byte) (by decide +kernel) (rfl) (rfl) ?_
  intro h9 H10
  replace H10 : own_H Z h9 (own_ST a .null (.int (0 : Int32)) :: os) ((y5, .byte, "[B", [(.int (own_by c0)), (.int (own_by c1))]) :: (x, .char, "[C", [(.int c0), (.int c1)]) :: as) := H10
  refine own_aloadN K own_d0_51 rfl rfl ?_
  refine own_aload K own_d0_52 rfl rfl ?_
  refine own_putfield K own_d0_54 (host := "") (Or.inl (own_w32 hw)) Via.refl H10 (j := 0) rfl (q := 0) rfl (Or.inr ⟨(own_w33 hw), rfl, rfl⟩) (own_w5 hw) (ty := (.array .byte)) (by decide +kernel) (rfl) (rfl) ?_
  intro h11 H12
  replace H12 : own_H Z h11 (own_ST a (.ref y5) (.int (0 : Int32)) :: os) ((y5, .byte, "[B", [(.int (own_by c0)), (.int (own_by c1))]) :: (x, .char, "[C", [(.int c0), (.int c1)]) :: as) := H12
  exact own_retV K (fun _ q => q) own_d0_57 (by decide) (by decide) (⟨rfl, _, H12⟩)
set_option maxRecDepth 65536 in
set_option maxHeartbeats 40000000 in
theorem own_initS2_ef (m : MethodId) (x0 : Addr) (x1 : Addr) : entryFrame m #[(.ref x0), (.ref x1)] 2 = mkF m 0 #[.val (.ref x0), .val (.ref x1)] [] := by first | (simp [entryFrame, mkF, argsToLocals, Value.category]; done) | rfl
set_option maxRecDepth 65536 in
set_option maxHeartbeats 40000000 in
theorem own_initS2 {l : Launch} {Z : State} {a0 : Array Value} (hw : own_Z Z a0) {h : Heap} {os : List own_O} {as : List own_A} {a x : Addr} {cs : Int32} {c0 c1 : Int32} (hC : cs ≠ 0 ∧ Sta Z Z.heap "java/lang/String" "COMPACT_STRINGS" "Z" (.int cs)) (H : own_H Z h (own_ST a .null (.int (0 : Int32)) :: os) ((x, .char, "[C", [(.int c0), (.int c1)]) :: as)) (l0 : 0 ≤ c0.toInt) (u0 : c0.toInt ≤ 255) (l1 : 0 ≤ c1.toInt) (u1 : c1.toInt ≤ 255) : own_Met none l Z (⟨"java/lang/String", "<init>", "([C)V"⟩ : MethodName) jdk_42_method_3_code 2 none [] ({ frames := 3, cells := 1, slots := 2, locals := 52 } : Room) #[(.ref a), (.ref x)] h (fun v h' => v = none ∧ ∃ y, own_H Z h' (own_ST a (.ref y) (.int (0 : Int32)) :: os) ((y, .byte, "[B", [(.int (own_by c0)), (.int (own_by c1))]) :: (x, .char, "[C", [(.int c0), (.int c1)]) :: as)) := by
  refine own_met (by first | exact plainFor_of_name (by decide +kernel) | decide +kernel) ?_
  intro p_ e_ s_ m_ below_ meth_ c_ K
  refine own_cast (own_initS2_ef m_ _ _) ?_
  refine own_aloadN K own_d1_0 rfl rfl ?_
  refine own_aloadN K own_d1_1 rfl rfl ?_
  refine own_iconst K own_d1_2 (v := (0 : Int32)) rfl ?_
  refine own_aloadN K own_d1_3 rfl rfl ?_
  refine own_arraylength K own_d1_4 H (i := 0) rfl (N := (2 : Int32)) (rfl) ?_
  refine own_aconstNull K own_d1_5 ?_
  refine own_special K own_d1_6 rfl (own_w11 hw) (own_w12 hw) (own_w6 hw) (own_w14 hw) (a := a) (argsL := [(.ref x), (.int (0 : Int32)), (.int (2 : Int32)), .null]) (rest := []) (own_initD2 hw hC H l0 u0 l1 u1) own_pd0 rfl rfl rfl (by decide) (W := 0) (Nat.le_of_eq rfl) (by decide) (by decide) (by decide) (by decide) ?_
  intro v3 h1 q2
  obtain ⟨rfl, y5, H4⟩ := q2
  replace H4 : own_H Z h1 (own_ST a (.ref y5) (.int (0 : Int32)) :: os) ((y5, .byte, "[B", [(.int (own_by c0)), (.int (own_by c1))]) :: (x, .char, "[C", [(.int c0), (.int c1)]) :: as) := H4
  exact own_retV K (fun _ q => q) own_d1_9 (by decide) (by decide) (⟨rfl, _, H4⟩)
set_option maxRecDepth 65536 in
set_option maxHeartbeats 40000000 in
theorem own_cmpB3_ef (m : MethodId) (x0 : Addr) (x1 : Int32) (x2 : Addr) (x3 : Int32) (x4 : Int32) : entryFrame m #[(.ref x0), (.int x1), (.ref x2), (.int x3), (.int x4)] 7 = mkF m 0 #[.val (.ref x0), .val (.int x1), .val (.ref x2), .val (.int x3), .val (.int x4), .unset, .unset] [] := by first | (simp [entryFrame, mkF, argsToLocals, Value.category]; done) | rfl
set_option maxRecDepth 65536 in
set_option maxHeartbeats 40000000 in
theorem own_cmpB3 {l : Launch} {Z : State} {a0 : Array Value} (hw : own_Z Z a0) {h : Heap} {os : List own_O} {as : List own_A} {x y : Addr} {c0 c1 c2 : Int32} (H : own_H Z h os ((y, .byte, "[B", [(.int (0 : Int32)), (.int (0 : Int32)), (.int (0 : Int32))]) :: (x, .char, "[C", [(.int c0), (.int c1), (.int c2)]) :: as)) (l0 : 0 ≤ c0.toInt) (u0 : c0.toInt ≤ 255) (l1 : 0 ≤ c1.toInt) (u1 : c1.toInt ≤ 255) (l2 : 0 ≤ c2.toInt) (u2 : c2.toInt ≤ 255) : own_Met none l Z (⟨"java/lang/StringUTF16", "compress", "([CI[BII)I"⟩ : MethodName) jdk_52_method_21_code 7 (some .int) [] ({ frames := 0, cells := 0, slots := 0, locals := 0 } : Room) #[(.ref x), (.int (0 : Int32)), (.ref y), (.int (0 : Int32)), (.int (3 : Int32))] h (fun v h' => v = some (.int (3 : Int32)) ∧ own_H Z h' os ((y, .byte, "[B", [(.int (own_by c0)), (.int (own_by c1)), (.int (own_by c2))]) :: (x, .char, "[C", [(.int c0), (.int c1), (.int c2)]) :: as)) := by
  refine own_met (by first | exact plainFor_of_name (by decide +kernel) | decide +kernel) ?_
  intro p_ e_ s_ m_ below_ meth_ c_ K
  refine own_cast (own_cmpB3_ef m_ _ _ _ _ _) ?_
  refine own_iconst K own_d2_0 (v := (0 : Int32)) rfl ?_
  refine own_istore K own_d2_1 (Ls' := #[.val (.ref x), .val (.int (0 : Int32)), .val (.ref y), .val (.int (0 : Int32)), .val (.int (3 : Int32)), .val (.int (0 : Int32)), .unset]) rfl ?_
  refine own_iload K own_d2_3 rfl ?_
  refine own_iload K own_d2_5 rfl ?_
  refine own_icmpge K own_d2_7 (fun q => absurd q (by decide)) (fun _ => ?_)
  refine own_aloadN K own_d2_10 rfl rfl ?_
  refine own_iloadN K own_d2_11 rfl ?_
  refine own_caload K own_d2_12 H (i := 1) rfl (q := 0) (by decide) (rfl) ?_
  refine own_istore K own_d2_13 (Ls' := #[.val (.ref x), .val (.int (0 : Int32)), .val (.ref y), .val (.int (0 : Int32)), .val (.int (3 : Int32)), .val (.int (0 : Int32)), .val (.int c0)]) rfl ?_
  refine own_iload K own_d2_15 rfl ?_
  refine own_sipush K own_d2_17 (v := (255 : Int32)) rfl ?_
  refine own_icmple K own_d2_20 (fun _ => ?_) (fun q => absurd (own_le255 u0) q)
  refine own_aloadN K own_d2_26 rfl rfl ?_
  refine own_iloadN K own_d2_27 rfl ?_
  refine own_iload K own_d2_28 rfl ?_
  refine own_i2b K own_d2_30 ?_
  refine own_topI (x' := (own_by c0)) (rfl) ?_
  refine own_bastore K own_d2_31 H (i := 0) rfl (q := 0) (by decide) (own_le rfl) ?_
  intro h1 H2
  rw [own_nby] at H2
  replace H2 : own_H Z h1 (os) ((y, .byte, "[B", [(.int (own_by c0)), (.int (0 : Int32)), (.int (0 : Int32))]) :: (x, .char, "[C", [(.int c0), (.int c1), (.int c2)]) :: as) := H2
  refine own_iinc K own_d2_32 rfl (y := (1 : Int32)) (by decide) (Ls' := #[.val (.ref x), .val (.int (1 : Int32)), .val (.ref y), .val (.int (0 : Int32)), .val (.int (3 : Int32)), .val (.int (0 : Int32)), .val (.int c0)]) rfl ?_
  refine own_iinc K own_d2_35 rfl (y := (1 : Int32)) (by decide) (Ls' := #[.val (.ref x), .val (.int (1 : Int32)), .val (.ref y), .val (.int (1 : Int32)), .val (.int (3 : Int32)), .val (.int (0 : Int32)), .val (.int c0)]) rfl ?_
  refine own_iinc K own_d2_38 rfl (y := (1 : Int32)) (by decide) (Ls' := #[.val (.ref x), .val (.int (1 : Int32)), .val (.ref y), .val (.int (1 : Int32)), .val (.int (3 : Int32)), .val (.int (1 : Int32)), .val (.int c0)]) rfl ?_
  refine own_goto K own_d2_41 ?_
  refine own_iload K own_d2_3 rfl ?_
  refine own_iload K own_d2_5 rfl ?_
  refine own_icmpge K own_d2_7 (fun q => absurd q (by decide)) (fun _ => ?_)
  refine own_aloadN K own_d2_10 rfl rfl ?_
  refine own_iloadN K own_d2_11 rfl ?_
  refine own_caload K own_d2_12 H2 (i := 1) rfl (q := 1) (by decide) (rfl) ?_
  refine own_istore K own_d2_13 (Ls' := #[.val (.ref x), .val (.int (1 : Int32)), .val (.ref y), .val (.int (1 : Int32)), .val (.int (3 : Int32)), .val (.int (1 : Int32)), .val (.int c1)]) rfl ?_
  refine own_iload K own_d2_15 rfl ?_
  refine own_sipush K own_d2_17 (v := (255 : Int32)) rfl ?_
  refine own_icmple K own_d2_20 (fun _ => ?_) (fun q => absurd (own_le255 u1) q)
  refine own_aloadN K own_d2_26 rfl rfl ?_
  refine own_iloadN K own_d2_27 rfl ?_
  refine own_iload K own_d2_28 rfl ?_
  refine own_i2b K own_d2_30 ?_
  refine own_topI (x' := (own_by c1)) (rfl) ?_
  refine own_bastore K own_d2_31 H2 (i := 0) rfl (q := 1) (by decide) (own_le rfl) ?_
  intro h3 H4
  rw [own_nby] at H4
  replace H4 : own_H Z h3 (os) ((y, .byte, "[B", [(.int (own_by c0)), (.int (own_by c1)), (.int (0 : Int32))]) :: (x, .char, "[C", [(.int c0), (.int c1), (.int c2)]) :: as) := H4
  refine own_iinc K own_d2_32 rfl (y := (2 : Int32)) (by decide) (Ls' := #[.val (.ref x), .val (.int (2 : Int32)), .val (.ref y), .val (.int (1 : Int32)), .val (.int (3 : Int32)), .val (.int (1 : Int32)), .val (.int c1)]) rfl ?_
  refine own_iinc K own_d2_35 rfl (y := (2 : Int32)) (by decide) (Ls' := #[.val (.ref x), .val (.int (2 : Int32)), .val (.ref y), .val (.int (2 : Int32)), .val (.int (3 : Int32)), .val (.int (1 : Int32)), .val (.int c1)]) rfl ?_
  refine own_iinc K own_d2_38 rfl (y := (2 : Int32)) (by decide) (Ls' := #[.val (.ref x), .val (.int (2 : Int32)), .val (.ref y), .val (.int (2 : Int32)), .val (.int (3 : Int32)), .val (.int (2 : Int32)), .val (.int c1)]) rfl ?_
  refine own_goto K own_d2_41 ?_
  refine own_iload K own_d2_3 rfl ?_
  refine own_iload K own_d2_5 rfl ?_
  refine own_icmpge K own_d2_7 (fun q => absurd q (by decide)) (fun _ => ?_)
  refine own_aloadN K own_d2_10 rfl rfl ?_
  refine own_iloadN K own_d2_11 rfl ?_
  refine own_caload K own_d2_12 H4 (i := 1) rfl (q := 2) (by decide) (rfl) ?_
  refine own_istore K own_d2_13 (Ls' := #[.val (.ref x), .val (.int (2 : Int32)), .val (.ref y), .val (.int (2 : Int32)), .val (.int (3 : Int32)), .val (.int (2 : Int32)), .val (.int c2)]) rfl ?_
  refine own_iload K own_d2_15 rfl ?_
  refine own_sipush K own_d2_17 (v := (255 : Int32)) rfl ?_
  refine own_icmple K own_d2_20 (fun _ => ?_) (fun q => absurd (own_le255 u2) q)
  refine own_aloadN K own_d2_26 rfl rfl ?_
  refine own_iloadN K own_d2_27 rfl ?_
  refine own_iload K own_d2_28 rfl ?_
  refine own_i2b K own_d2_30 ?_
  refine own_topI (x' := (own_by c2)) (rfl) ?_
  refine own_bastore K own_d2_31 H4 (i := 0) rfl (q := 2) (by decide) (own_le rfl) ?_
  intro h5 H6
  rw [own_nby] at H6
  replace H6 : own_H Z h5 (os) ((y, .byte, "[B", [(.int (own_by c0)), (.int (own_by c1)), (.int (own_by c2))]) :: (x, .char, "[C", [(.int c0), (.int c1), (.int c2)]) :: as) := H6
  refine own_iinc K own_d2_32 rfl (y := (3 : Int32)) (by decide) (Ls' := #[.val (.ref x), .val (.int (3 : Int32)), .val (.ref y), .val (.int (2 : Int32)), .val (.int (3 : Int32)), .val (.int (2 : Int32)), .val (.int c2)]) rfl ?_
  refine own_iinc K own_d2_35 rfl (y := (3 : Int32)) (by decide) (Ls' := #[.val (.ref x), .val (.int (3 : Int32)), .val (.ref y), .val (.int (3 : Int32)), .val (.int (3 : Int32)), .val (.int (2 : Int32)), .val (.int c2)]) rfl ?_
  refine own_iinc K own_d2_38 rfl (y := (3 : Int32)) (by decide) (Ls' := #[.val (.ref x), .val (.int (3 : Int32)), .val (.ref y), .val (.int (3 : Int32)), .val (.int (3 : Int32)), .val (.int (3 : Int32)), .val (.int c2)]) rfl ?_
  refine own_goto K own_d2_41 ?_
  refine own_iload K own_d2_3 rfl ?_
  refine own_iload K own_d2_5 rfl ?_
  refine own_icmpge K own_d2_7 (fun _ => ?_) (fun q => absurd (by decide) q)
  refine own_iload K own_d2_44 rfl ?_
  exact own_retI K (fun _ q => q) own_d2_46 (by decide) (by decide) (⟨rfl, H6⟩)
set_option maxRecDepth 65536 in
set_option maxHeartbeats 40000000 in
theorem own_cmpA3_ef (m : MethodId) (x0 : Addr) (x1 : Int32) (x2 : Int32) : entryFrame m #[(.ref x0), (.int x1), (.int x2)] 6 = mkF m 0 #[.val (.ref x0), .val (.int x1), .val (.int x2), .unset, .unset, .unset] [] := by first | (simp [entryFrame, mkF, argsToLocals, Value.category]; done) | rfl
set_option maxRecDepth 65536 in
set_option maxHeartbeats 40000000 in
theorem own_cmpA3 {l : Launch} {Z : State} {a0 : Array Value} (hw : own_Z Z a0) {h : Heap} {os : List own_O} {as : List own_A} {x : Addr} {c0 c1 c2 : Int32} (H : own_H Z h os ((x, .char, "[C", [(.int c0), (.int c1), (.int c2)]) :: as)) (l0 : 0 ≤ c0.toInt) (u0 : c0.toInt ≤ 255) (l1 : 0 ≤ c1.toInt) (u1 : c1.toInt ≤ 255) (l2 : 0 ≤ c2.toInt) (u2 : c2.toInt ≤ 255) : own_Met none l Z (⟨"java/lang/StringUTF16", "compress", "([CII)[B"⟩ : MethodName) jdk_52_method_16_code 6 (some (.array .byte)) [] ({ frames := 1, cells := 1, slots := 3, locals := 18 } : Room) #[(.ref x), (.int (0 : Int32)), (.int (3 : Int32))] h (fun v h' => ∃ y, v = some (.ref y) ∧ own_H Z h' os ((y, .byte, "[B", [(.int (own_by c0)), (.int (own_by c1)), (.int (own_by c2))]) :: (x, .char, "[C", [(.int c0), (.int c1), (.int c2)]) :: as)) := by
  refine own_met (by first | exact plainFor_of_name (by decide +kernel) | decide +kernel) ?_
  intro p_ e_ s_ m_ below_ meth_ c_ K
  refine own_cast (own_cmpA3_ef m_ _ _ _) ?_
  refine own_iloadN K own_d3_0 rfl ?_
  refine own_newarray K own_d3_1 (ty := .byte) rfl (own_w23 hw) H (q := 3) (by decide) (ad := "[B") (by decide +kernel) (vs := [(.int (0 : Int32)), (.int (0 : Int32)), (.int (0 : Int32))]) rfl (by decide) (by decide) (by decide) ?_
  intro h1 a3 H2
  replace H2 : own_H Z h1 (os) ((a3, .byte, "[B", [(.int (0 : Int32)), (.int (0 : Int32)), (.int (0 : Int32))]) :: (x, .char, "[C", [(.int c0), (.int c1), (.int c2)]) :: as) := H2
  refine own_astoreN K own_d3_3 rfl (Ls' := #[.val (.ref x), .val (.int (0 : Int32)), .val (.int (3 : Int32)), .val (.ref a3), .unset, .unset]) rfl ?_
  refine own_aloadN K own_d3_4 rfl rfl ?_
  refine own_iloadN K own_d3_5 rfl ?_
  refine own_aloadN K own_d3_6 rfl rfl ?_
  refine own_iconst K own_d3_7 (v := (0 : Int32)) rfl ?_
  refine own_iloadN K own_d3_8 rfl ?_
  refine own_static K own_d3_9 (own_w24 hw) (own_w25 hw) (own_w21 hw) (own_w26 hw) (argsL := [(.ref x), (.int (0 : Int32)), (.ref a3), (.int (0 : Int32)), (.int (3 : Int32))]) (rest := []) (own_cmpB3 hw H2 l0 u0 l1 u1 l2 u2) own_pd1 rfl rfl rfl (by decide) (W := 0) (Nat.le_of_eq rfl) (by decide) (by decide) (by decide) (by decide) ?_
  intro v6 h4 q5
  obtain ⟨rfl, H7⟩ := q5
  replace H7 : own_H Z h4 (os) ((a3, .byte, "[B", [(.int (own_by c0)), (.int (own_by c1)), (.int (own_by c2))]) :: (x, .char, "[C", [(.int c0), (.int c1), (.int c2)]) :: as) := H7
  refine own_istore K own_d3_12 (Ls' := #[.val (.ref x), .val (.int (0 : Int32)), .val (.int (3 : Int32)), .val (.ref a3), .val (.int (3 : Int32)), .unset]) rfl ?_
  refine own_iload K own_d3_14 rfl ?_
  refine own_iloadN K own_d3_16 rfl ?_
  refine own_icmpeq K own_d3_17 (fun _ => ?_) (fun q => absurd (by decide) q)
  refine own_aloadN K own_d3_57 rfl rfl ?_
  exact own_retA K (fun _ q => q) rfl rfl own_d3_58 (by decide) (by decide) (⟨_, rfl, H7⟩)
set_option maxRecDepth 65536 in
set_option maxHeartbeats 40000000 in
theorem own_cfa3_ef (m : MethodId) (x0 : Addr) (x1 : Int32) : entryFrame m #[(.ref x0), (.int x1)] 2 = mkF m 0 #[.val (.ref x0), .val (.int x1)] [] := by first | (simp [entryFrame, mkF, argsToLocals, Value.category]; done) | rfl
set_option maxRecDepth 65536 in
set_option maxHeartbeats 40000000 in
theorem own_cfa3 {l : Launch} {Z : State} {a0 : Array Value} (hw : own_Z Z a0) {h : Heap} {os : List own_O} {as : List own_A} {y : Addr} {c0 c1 c2 : Int32} (H : own_H Z h os ((y, .byte, "[B", [(.int (own_by c0)), (.int (own_by c1)), (.int (own_by c2))]) :: as)) : own_Met none l Z (⟨"java/lang/StringUTF16", "coderFromArrayLen", "([BI)B"⟩ : MethodName) jdk_52_method_15_code 2 (some .byte) [] ({ frames := 0, cells := 0, slots := 0, locals := 0 } : Room) #[(.ref y), (.int (3 : Int32))] h (fun v h' => v = some (.int (0 : Int32)) ∧ h = h') := by
  refine own_met (by first | exact plainFor_of_name (by decide +kernel) | decide +kernel) ?_
  intro p_ e_ s_ m_ below_ meth_ c_ K
  refine own_cast (own_cfa3_ef m_ _ _) ?_
  refine own_iloadN K own_d4_0 rfl ?_
  refine own_aloadN K own_d4_1 rfl rfl ?_
  refine own_arraylength K own_d4_2 H (i := 0) rfl (N := (3 : Int32)) (rfl) ?_
  refine own_isub K own_d4_3 ?_
  refine own_topI (x' := (0 : Int32)) (by decide) ?_
  refine own_bipush K own_d4_4 (v := (31 : Int32)) rfl ?_
  refine own_iushr K own_d4_6 ?_
  refine own_topI (x' := (0 : Int32)) (by decide) ?_
  refine own_i2b K own_d4_7 ?_
  refine own_topI (x' := (0 : Int32)) (by decide) ?_
  exact own_retBy K (fun _ q => q) (rfl) own_d4_8 (by decide) (by decide) (⟨rfl, rfl⟩)
set_option maxRecDepth 65536 in
set_option maxHeartbeats 40000000 in
theorem own_initD3_ef (m : MethodId) (x0 : Addr) (x1 : Addr) (x2 : Int32) (x3 : Int32) : entryFrame m #[(.ref x0), (.ref x1), (.int x2), (.int x3), .null] 6 = mkF m 0 #[.val (.ref x0), .val (.ref x1), .val (.int x2), .val (.int x3), .val .null, .unset] [] := by first | (simp [entryFrame, mkF, argsToLocals, Value.category]; done) | rfl
set_option maxRecDepth 65536 in
set_option maxHeartbeats 40000000 in
theorem own_initD3 {l : Launch} {Z : State} {a0 : Array Value} (hw : own_Z Z a0) {h : Heap} {os : List own_O} {as : List own_A} {a x : Addr} {cs : Int32} {c0 c1 c2 : Int32} (hC : cs ≠ 0 ∧ Sta Z Z.heap "java/lang/String" "COMPACT_STRINGS" "Z" (.int cs)) (H : own_H Z h (own_ST a .null (.int (0 : Int32)) :: os) ((x, .char, "[C", [(.int c0), (.int c1), (.int c2)]) :: as)) (l0 : 0 ≤ c0.toInt) (u0 : c0.toInt ≤ 255) (l1 : 0 ≤ c1.toInt) (u1 : c1.toInt ≤ 255) (l2 : 0 ≤ c2.toInt) (u2 : c2.toInt ≤ 255) : own_Met none l Z (⟨"java/lang/String", "<init>", "([CIILjava/lang/Void;)V"⟩ : MethodName) jdk_42_method_149_code 6 none [] ({ frames := 2, cells := 1, slots := 3, locals := 35 } : Room) #[(.ref a), (.ref x), (.int (0 : Int32)), (.int (3 : Int32)), .null] h (fun v h' => v = none ∧ ∃ y, own_H Z h' (own_ST a (.ref y) (.int (0 : Int32)) :: os) ((y, .byte, "[B", [(.int (own_by c0)), (.int (own_by c1)), (.int (own_by c2))]) :: (x, .char, "[C", [(.int c0), (.int c1), (.int c2)]) :: as)) := by
  refine own_met (by first | exact plainFor_of_name (by decide +kernel) | decide +kernel) ?_
  intro p_ e_ s_ m_ below_ meth_ c_ K
  refine own_cast (own_initD3_ef m_ _ _ _ _) ?_
  refine own_aloadN K own_d0_0 rfl rfl ?_
  refine own_initO K own_d0_1 (own_w15 hw) (own_w16 hw) (own_w17 hw) rfl (by decide) (W := 0) (Nat.le_of_eq rfl) (by decide) ?_
  refine own_iloadN K own_d0_4 rfl ?_
  refine own_ifne K own_d0_5 (fun _ => ?_) (fun q => absurd (by decide) q)
  refine own_getstatic K own_d0_27 (own_w18 hw) Via.refl (v := (.int cs)) (Sta.ext H.1 hC.2) ?_
  refine own_ifeq K own_d0_30 (fun q => absurd q (hC.1)) (fun _ => ?_)
  refine own_aloadN K own_d0_33 rfl rfl ?_
  refine own_iloadN K own_d0_34 rfl ?_
  refine own_iloadN K own_d0_35 rfl ?_
  refine own_static K own_d0_36 (own_w19 hw) (own_w20 hw) (own_w21 hw) (own_w22 hw) (argsL := [(.ref x), (.int (0 : Int32)), (.int (3 : Int32))]) (rest := []) (own_cmpA3 hw H l0 u0 l1 u1 l2 u2) own_pd2 rfl rfl rfl (by decide) (W := 0) (Nat.le_of_eq rfl) (by decide) (by decide) (by decide) (by decide) ?_
  intro v3 h1 q2
  obtain ⟨y5, rfl, H4⟩ := q2
  replace H4 : own_H Z h1 (own_ST a .null (.int (0 : Int32)) :: os) ((y5, .byte, "[B", [(.int (own_by c0)), (.int (own_by c1)), (.int (own_by c2))]) :: (x, .char, "[C", [(.int c0), (.int c1), (.int c2)]) :: as) := H4
  refine own_astore K own_d0_39 rfl (Ls' := #[.val (.ref a), .val (.ref x), .val (.int (0 : Int32)), .val (.int (3 : Int32)), .val .null, .val (.ref y5)]) rfl ?_
  refine own_aloadN K own_d0_41 rfl rfl ?_
  refine own_aload K own_d0_42 rfl rfl ?_
  refine own_iloadN K own_d0_44 rfl ?_
  refine own_static K own_d0_45 (own_w27 hw) (own_w28 hw) (own_w21 hw) (own_w29 hw) (argsL := [(.ref y5), (.int (3 : Int32))]) (rest := [(.ref a)]) (own_cfa3 hw H4) own_pd3 rfl rfl rfl (by decide) (W := 1) (Nat.le_of_eq rfl) (by decide) (by decide) (by decide) (by decide) ?_
  intro v8 h6 q7
  obtain ⟨rfl, rfl⟩ := q7
  refine own_putfield K own_d0_48 (host := "") (Or.inl (own_w30 hw)) Via.refl H4 (j := 0) rfl (q := 1) rfl (Or.inr ⟨(own_w31 hw), rfl, rfl⟩) (own_w5 hw) (ty := .byte) (by decide +kernel) (rfl) (rfl) ?_
  intro h9 H10
  replace H10 : own_H Z h9 (own_ST a .null (.int (0 : Int32)) :: os) ((y5, .byte, "[B", [(.int (own_by c0)), (.int (own_by c1)), (.int (own_by c2))]) :: (x, .char, "[C", [(.int c0), (.int c1), (.int c2)]) :: as) := H10
  refine own_aloadN K own_d0_51 rfl rfl ?_
  refine own_aload K own_d0_52 rfl rfl ?_
  refine own_putfield K own_d0_54 (host := "") (Or.inl (own_w32 hw)) Via.refl H10 (j := 0) rfl (q := 0) rfl (Or.inr ⟨(own_w33 hw), rfl, rfl⟩) (own_w5 hw) (ty := (.array .byte)) (by decide +kernel) (rfl) (rfl) ?_
  intro h11 H12
  replace H12 : own_H Z h11 (own_ST a (.ref y5) (.int (0 : Int32)) :: os) ((y5, .byte, "[B", [(.int (own_by c0)), (.int (own_by c1)), (.int (own_by c2))]) :: (x, .char, "[C", [(.int c0), (.int c1), (.int c2)]) :: as) := H12
  exact own_retV K (fun _ q => q) own_d0_57 (by decide) (by decide) (⟨rfl, _, H12⟩)
set_option maxRecDepth 65536 in
set_option maxHeartbeats 40000000 in
theorem own_initS3_ef (m : MethodId) (x0 : Addr) (x1 : Addr) : entryFrame m #[(.ref x0), (.ref x1)] 2 = mkF m 0 #[.val (.ref x0), .val (.ref x1)] [] := by first | (simp [entryFrame, mkF, argsToLocals, Value.category]; done) | rfl
set_option maxRecDepth 65536 in
set_option maxHeartbeats 40000000 in
theorem own_initS3 {l : Launch} {Z : State} {a0 : Array Value} (hw : own_Z Z a0) {h : Heap} {os : List own_O} {as : List own_A} {a x : Addr} {cs : Int32} {c0 c1 c2 : Int32} (hC : cs ≠ 0 ∧ Sta Z Z.heap "java/lang/String" "COMPACT_STRINGS" "Z" (.int cs)) (H : own_H Z h (own_ST a .null (.int (0 : Int32)) :: os) ((x, .char, "[C", [(.int c0), (.int c1), (.int c2)]) :: as)) (l0 : 0 ≤ c0.toInt) (u0 : c0.toInt ≤ 255) (l1 : 0 ≤ c1.toInt) (u1 : c1.toInt ≤ 255) (l2 : 0 ≤ c2.toInt) (u2 : c2.toInt ≤ 255) : own_Met none l Z (⟨"java/lang/String", "<init>", "([C)V"⟩ : MethodName) jdk_42_method_3_code 2 none [] ({ frames := 3, cells := 1, slots := 3, locals := 52 } : Room) #[(.ref a), (.ref x)] h (fun v h' => v = none ∧ ∃ y, own_H Z h' (own_ST a (.ref y) (.int (0 : Int32)) :: os) ((y, .byte, "[B", [(.int (own_by c0)), (.int (own_by c1)), (.int (own_by c2))]) :: (x, .char, "[C", [(.int c0), (.int c1), (.int c2)]) :: as)) := by
  refine own_met (by first | exact plainFor_of_name (by decide +kernel) | decide +kernel) ?_
  intro p_ e_ s_ m_ below_ meth_ c_ K
  refine own_cast (own_initS3_ef m_ _ _) ?_
  refine own_aloadN K own_d1_0 rfl rfl ?_
  refine own_aloadN K own_d1_1 rfl rfl ?_
  refine own_iconst K own_d1_2 (v := (0 : Int32)) rfl ?_
  refine own_aloadN K own_d1_3 rfl rfl ?_
  refine own_arraylength K own_d1_4 H (i := 0) rfl (N := (3 : Int32)) (rfl) ?_
  refine own_aconstNull K own_d1_5 ?_
  refine own_special K own_d1_6 rfl (own_w11 hw) (own_w12 hw) (own_w6 hw) (own_w14 hw) (a := a) (argsL := [(.ref x), (.int (0 : Int32)), (.int (3 : Int32)), .null]) (rest := []) (own_initD3 hw hC H l0 u0 l1 u1 l2 u2) own_pd0 rfl rfl rfl (by decide) (W := 0) (Nat.le_of_eq rfl) (by decide) (by decide) (by decide) (by decide) ?_
  intro v3 h1 q2
  obtain ⟨rfl, y5, H4⟩ := q2
  replace H4 : own_H Z h1 (own_ST a (.ref y5) (.int (0 : Int32)) :: os) ((y5, .byte, "[B", [(.int (own_by c0)), (.int (own_by c1)), (.int (own_by c2))]) :: (x, .char, "[C", [(.int c0), (.int c1), (.int c2)]) :: as) := H4
  exact own_retV K (fun _ q => q) own_d1_9 (by decide) (by decide) (⟨rfl, _, H4⟩)
set_option maxRecDepth 65536 in
set_option maxHeartbeats 40000000 in
theorem own_isl_ef (m : MethodId) (x0 : Addr) : entryFrame m #[(.ref x0)] 1 = mkF m 0 #[.val (.ref x0)] [] := by first | (simp [entryFrame, mkF, argsToLocals, Value.category]; done) | rfl
set_option maxRecDepth 65536 in
set_option maxHeartbeats 40000000 in
theorem own_isl {l : Launch} {Z : State} {a0 : Array Value} (hw : own_Z Z a0) {h : Heap} {os : List own_O} {as : List own_A} {a y : Addr} {cs : Int32} (hC : cs ≠ 0 ∧ Sta Z Z.heap "java/lang/String" "COMPACT_STRINGS" "Z" (.int cs)) (H : own_H Z h (own_ST a (.ref y) (.int (0 : Int32)) :: os) as) : own_Met none l Z (⟨"java/lang/String", "isLatin1", "()Z"⟩ : MethodName) jdk_42_method_154_code 1 (some .boolean) [] ({ frames := 0, cells := 0, slots := 0, locals := 0 } : Room) #[(.ref a)] h (fun v h' => v = some (.int (1 : Int32)) ∧ h = h') := by
  refine own_met (by first | exact plainFor_of_name (by decide +kernel) | decide +kernel) ?_
  intro p_ e_ s_ m_ below_ meth_ c_ K
  refine own_cast (own_isl_ef m_ _) ?_
  refine own_getstatic K own_d5_0 (own_w18 hw) Via.refl (v := (.int cs)) (Sta.ext H.1 hC.2) ?_
  refine own_ifeq K own_d5_3 (fun q => absurd q (hC.1)) (fun _ => ?_)
  refine own_aloadN K own_d5_6 rfl rfl ?_
  refine own_getfield K own_d5_7 (host := "") (Or.inl (own_w30 hw)) Via.refl H (j := 0) rfl (q := 1) rfl ?_
  refine own_ifne K own_d5_10 (fun q => absurd q (by decide)) (fun _ => ?_)
  refine own_iconst K own_d5_13 (v := (1 : Int32)) rfl ?_
  refine own_goto K own_d5_14 ?_
  exact own_retZ K (fun _ q => q) (by first | exact Or.inl rfl | exact Or.inr rfl | decide) own_d5_18 (by decide) (by decide) (⟨rfl, rfl⟩)
set_option maxRecDepth 65536 in
set_option maxHeartbeats 40000000 in
theorem own_cod_ef (m : MethodId) (x0 : Addr) : entryFrame m #[(.ref x0)] 1 = mkF m 0 #[.val (.ref x0)] [] := by first | (simp [entryFrame, mkF, argsToLocals, Value.category]; done) | rfl
set_option maxRecDepth 65536 in
set_option maxHeartbeats 40000000 in
theorem own_cod {l : Launch} {Z : State} {a0 : Array Value} (hw : own_Z Z a0) {h : Heap} {os : List own_O} {as : List own_A} {a y : Addr} {cs : Int32} (hC : cs ≠ 0 ∧ Sta Z Z.heap "java/lang/String" "COMPACT_STRINGS" "Z" (.int cs)) (H : own_H Z h (own_ST a (.ref y) (.int (0 : Int32)) :: os) as) : own_Met none l Z (⟨"java/lang/String", "coder", "()B"⟩ : MethodName) jdk_42_method_152_code 1 (some .byte) [] ({ frames := 0, cells := 0, slots := 0, locals := 0 } : Room) #[(.ref a)] h (fun v h' => v = some (.int (0 : Int32)) ∧ h = h') := by
  refine own_met (by first | exact plainFor_of_name (by decide +kernel) | decide +kernel) ?_
  intro p_ e_ s_ m_ below_ meth_ c_ K
  refine own_cast (own_cod_ef m_ _) ?_
  refine own_getstatic K own_d6_0 (own_w18 hw) Via.refl (v := (.int cs)) (Sta.ext H.1 hC.2) ?_
  refine own_ifeq K own_d6_3 (fun q => absurd q (hC.1)) (fun _ => ?_)
  refine own_aloadN K own_d6_6 rfl rfl ?_
  refine own_getfield K own_d6_7 (host := "") (Or.inl (own_w30 hw)) Via.refl H (j := 0) rfl (q := 1) rfl ?_
  refine own_goto K own_d6_10 ?_
  exact own_retBy K (fun _ q => q) (rfl) own_d6_14 (by decide) (by decide) (⟨rfl, rfl⟩)
set_option maxRecDepth 65536 in
set_option maxHeartbeats 40000000 in
theorem own_pciN_ef (m : MethodId) (x0 : Int32) (x1 : Int32) : entryFrame m #[(.int x0), (.int x1), .null] 3 = mkF m 0 #[.val (.int x0), .val (.int x1), .val .null] [] := by first | (simp [entryFrame, mkF, argsToLocals, Value.category]; done) | rfl
set_option maxRecDepth 65536 in
set_option maxHeartbeats 40000000 in
theorem own_pciN {l : Launch} {Z : State} {a0 : Array Value} (hw : own_Z Z a0) {h : Heap} {i N : Int32} (h0 : 0 ≤ i.toInt) (h1 : i.toInt < N.toInt) : own_Met none l Z (⟨"jdk/internal/util/Preconditions", "checkIndex", "(IILjava/util/function/BiFunction;)I"⟩ : MethodName) jdk_41_method_11_code 3 (some .int) [] ({ frames := 0, cells := 0, slots := 0, locals := 0 } : Room) #[(.int i), (.int N), .null] h (fun v h' => v = some (.int i) ∧ h = h') := by
  refine own_met (by first | exact plainFor_of_name (by decide +kernel) | decide +kernel) ?_
  intro p_ e_ s_ m_ below_ meth_ c_ K
  refine own_cast (own_pciN_ef m_ _ _) ?_
  refine own_iloadN K own_d7_0 rfl ?_
  refine own_iflt K own_d7_1 (fun q => absurd q (Int.not_lt.mpr h0)) (fun _ => ?_)
  refine own_iloadN K own_d7_4 rfl ?_
  refine own_iloadN K own_d7_5 rfl ?_
  refine own_icmplt K own_d7_6 (fun _ => ?_) (fun q => absurd (h1) q)
  refine own_iloadN K own_d7_16 rfl ?_
  exact own_retI K (fun _ q => q) own_d7_17 (by decide) (by decide) (⟨rfl, rfl⟩)
set_option maxRecDepth 65536 in
set_option maxHeartbeats 40000000 in
theorem own_pciR_ef (m : MethodId) (x0 : Int32) (x1 : Int32) (x2 : Addr) : entryFrame m #[(.int x0), (.int x1), (.ref x2)] 3 = mkF m 0 #[.val (.int x0), .val (.int x1), .val (.ref x2)] [] := by first | (simp [entryFrame, mkF, argsToLocals, Value.category]; done) | rfl
set_option maxRecDepth 65536 in
set_option maxHeartbeats 40000000 in
theorem own_pciR {l : Launch} {Z : State} {a0 : Array Value} (hw : own_Z Z a0) {h : Heap} {i N : Int32} {fa : Addr} (h0 : 0 ≤ i.toInt) (h1 : i.toInt < N.toInt) : own_Met none l Z (⟨"jdk/internal/util/Preconditions", "checkIndex", "(IILjava/util/function/BiFunction;)I"⟩ : MethodName) jdk_41_method_11_code 3 (some .int) [] ({ frames := 0, cells := 0, slots := 0, locals := 0 } : Room) #[(.int i), (.int N), (.ref fa)] h (fun v h' => v = some (.int i) ∧ h = h') := by
  refine own_met (by first | exact plainFor_of_name (by decide +kernel) | decide +kernel) ?_
  intro p_ e_ s_ m_ below_ meth_ c_ K
  refine own_cast (own_pciR_ef m_ _ _ _) ?_
  refine own_iloadN K own_d7_0 rfl ?_
  refine own_iflt K own_d7_1 (fun q => absurd q (Int.not_lt.mpr h0)) (fun _ => ?_)
  refine own_iloadN K own_d7_4 rfl ?_
  refine own_iloadN K own_d7_5 rfl ?_
  refine own_icmplt K own_d7_6 (fun _ => ?_) (fun q => absurd (h1) q)
  refine own_iloadN K own_d7_16 rfl ?_
  exact own_retI K (fun _ q => q) own_d7_17 (by decide) (by decide) (⟨rfl, rfl⟩)
set_option maxRecDepth 65536 in
set_option maxHeartbeats 40000000 in
theorem own_sci_ef (m : MethodId) (x0 : Int32) (x1 : Int32) : entryFrame m #[(.int x0), (.int x1)] 2 = mkF m 0 #[.val (.int x0), .val (.int x1)] [] := by first | (simp [entryFrame, mkF, argsToLocals, Value.category]; done) | rfl
set_option maxRecDepth 65536 in
set_option maxHeartbeats 40000000 in
theorem own_sci {l : Launch} {Z : State} {a0 : Array Value} (hw : own_Z Z a0) {h : Heap} {os : List own_O} {as : List own_A} {i N : Int32} (hF : Sta Z Z.heap "jdk/internal/util/Preconditions" "SIOOBE_FORMATTER" "Ljava/util/function/BiFunction;" .null ∨ ∃ fa, Sta Z Z.heap "jdk/internal/util/Preconditions" "SIOOBE_FORMATTER" "Ljava/util/function/BiFunction;" (.ref fa)) (H : own_H Z h os as) (h0 : 0 ≤ i.toInt) (h1 : i.toInt < N.toInt) : own_Met none l Z (⟨"java/lang/String", "checkIndex", "(II)V"⟩ : MethodName) jdk_42_method_155_code 2 none [] ({ frames := 1, cells := 0, slots := 0, locals := 14 } : Room) #[(.int i), (.int N)] h (fun v h' => v = none ∧ h = h') := by
  refine own_met (by first | exact plainFor_of_name (by decide +kernel) | decide +kernel) ?_
  intro p_ e_ s_ m_ below_ meth_ c_ K
  refine own_cast (own_sci_ef m_ _ _) ?_
  rcases hF with hF | ⟨fa, hF⟩
  · refine own_iloadN K own_d8_0 rfl ?_
    refine own_iloadN K own_d8_1 rfl ?_
    refine own_getstatic K own_d8_2 (own_w212 hw) Via.refl (v := .null) (Sta.ext H.1 hF) ?_
    refine own_static K own_d8_5 (own_w214 hw) (own_w215 hw) (own_w213 hw) (own_w216 hw) (argsL := [(.int i), (.int N), .null]) (rest := []) (own_pciN hw h0 h1) own_pd4 rfl rfl rfl (by decide) (W := 0) (Nat.le_of_eq rfl) (by decide) (by decide) (by decide) (by decide) ?_
    intro v3 h1 q2
    obtain ⟨rfl, rfl⟩ := q2
    refine own_pop K own_d8_8 rfl ?_
    exact own_retV K (fun _ q => q) own_d8_9 (by decide) (by decide) (⟨rfl, rfl⟩)
  · refine own_iloadN K own_d8_0 rfl ?_
    refine own_iloadN K own_d8_1 rfl ?_
    refine own_getstatic K own_d8_2 (own_w212 hw) Via.refl (v := (.ref fa)) (Sta.ext H.1 hF) ?_
    refine own_static K own_d8_5 (own_w214 hw) (own_w215 hw) (own_w213 hw) (own_w216 hw) (argsL := [(.int i), (.int N), (.ref fa)]) (rest := []) (own_pciR hw h0 h1) own_pd4 rfl rfl rfl (by decide) (W := 0) (Nat.le_of_eq rfl) (by decide) (by decide) (by decide) (by decide) ?_
    intro v3 h1 q2
    obtain ⟨rfl, rfl⟩ := q2
    refine own_pop K own_d8_8 rfl ?_
    exact own_retV K (fun _ q => q) own_d8_9 (by decide) (by decide) (⟨rfl, rfl⟩)
set_option maxRecDepth 65536 in
set_option maxHeartbeats 40000000 in
theorem own_l1c_ef (m : MethodId) (x0 : Addr) (x1 : Int32) : entryFrame m #[(.ref x0), (.int x1)] 2 = mkF m 0 #[.val (.ref x0), .val (.int x1)] [] := by first | (simp [entryFrame, mkF, argsToLocals, Value.category]; done) | rfl
set_option maxRecDepth 65536 in
set_option maxHeartbeats 40000000 in
theorem own_l1c {l : Launch} {Z : State} {a0 : Array Value} (hw : own_Z Z a0) {h : Heap} {os : List own_O} {as : List own_A} {ad : String} {y : Addr} {i N z : Int32} {q : Nat} {vs : List Value} (hF : Sta Z Z.heap "jdk/internal/util/Preconditions" "SIOOBE_FORMATTER" "Ljava/util/function/BiFunction;" .null ∨ ∃ fa, Sta Z Z.heap "jdk/internal/util/Preconditions" "SIOOBE_FORMATTER" "Ljava/util/function/BiFunction;" (.ref fa)) (H : own_H Z h os ((y, .byte, ad, vs) :: as)) (hN : N.toInt = (vs.length : Int)) (hi : i.toInt = (q : Int)) (hv : vs[q]? = some (.int (own_by z))) (l0 : 0 ≤ z.toInt) (u0 : z.toInt ≤ 255) : own_Met none l Z (⟨"java/lang/StringLatin1", "charAt", "([BI)C"⟩ : MethodName) jdk_43_method_2_code 2 (some .char) [] ({ frames := 2, cells := 0, slots := 0, locals := 27 } : Room) #[(.ref y), (.int i)] h (fun v h' => v = some (.int z) ∧ h = h') := by
  refine own_met (by first | exact plainFor_of_name (by decide +kernel) | decide +kernel) ?_
  intro p_ e_ s_ m_ below_ meth_ c_ K
  refine own_cast (own_l1c_ef m_ _ _) ?_
  refine own_iloadN K own_d9_0 rfl ?_
  refine own_aloadN K own_d9_1 rfl rfl ?_
  refine own_arraylength K own_d9_2 H (i := 0) rfl (N := N) (hN) ?_
  refine own_static K own_d9_3 (own_w209 hw) (own_w210 hw) (own_w6 hw) (own_w211 hw) (argsL := [(.int i), (.int N)]) (rest := []) (own_sci hw hF H (by omega) (by have := (List.getElem?_eq_some_iff.mp hv).1; omega)) own_pd5 rfl rfl rfl (by decide) (W := 0) (Nat.le_of_eq rfl) (by decide) (by decide) (by decide) (by decide) ?_
  intro v3 h1 q2
  obtain ⟨rfl, rfl⟩ := q2
  refine own_aloadN K own_d9_6 rfl rfl ?_
  refine own_iloadN K own_d9_7 rfl ?_
  refine own_baload K own_d9_8 H (i := 0) rfl (q := q) (hi) (hv) ?_
  refine own_sipush K own_d9_9 (v := (255 : Int32)) rfl ?_
  refine own_iand K own_d9_12 ?_
  refine own_i2c K own_d9_13 ?_
  refine own_topI (x' := z) (own_byc l0 u0) ?_
  exact own_retC K (fun _ q => q) (own_nrc l0 u0) own_d9_14 (by decide) (by decide) (⟨rfl, rfl⟩)
set_option maxRecDepth 65536 in
set_option maxHeartbeats 40000000 in
theorem own_cat_ef (m : MethodId) (x0 : Addr) (x1 : Int32) : entryFrame m #[(.ref x0), (.int x1)] 2 = mkF m 0 #[.val (.ref x0), .val (.int x1)] [] := by first | (simp [entryFrame, mkF, argsToLocals, Value.category]; done) | rfl
set_option maxRecDepth 65536 in
set_option maxHeartbeats 40000000 in
theorem own_cat {l : Launch} {Z : State} {a0 : Array Value} (hw : own_Z Z a0) {h : Heap} {os : List own_O} {as : List own_A} {ad : String} {a y : Addr} {cs i N z : Int32} {q : Nat} {vs : List Value} (hC : cs ≠ 0 ∧ Sta Z Z.heap "java/lang/String" "COMPACT_STRINGS" "Z" (.int cs)) (hF : Sta Z Z.heap "jdk/internal/util/Preconditions" "SIOOBE_FORMATTER" "Ljava/util/function/BiFunction;" .null ∨ ∃ fa, Sta Z Z.heap "jdk/internal/util/Preconditions" "SIOOBE_FORMATTER" "Ljava/util/function/BiFunction;" (.ref fa)) (H : own_H Z h (own_ST a (.ref y) (.int (0 : Int32)) :: os) ((y, .byte, ad, vs) :: as)) (hN : N.toInt = (vs.length : Int)) (hi : i.toInt = (q : Int)) (hv : vs[q]? = some (.int (own_by z))) (l0 : 0 ≤ z.toInt) (u0 : z.toInt ≤ 255) : own_Met none l Z (⟨"java/lang/String", "charAt", "(I)C"⟩ : MethodName) jdk_42_method_56_code 2 (some .char) [] ({ frames := 3, cells := 0, slots := 0, locals := 40 } : Room) #[(.ref a), (.int i)] h (fun v h' => v = some (.int z) ∧ h = h') := by
  refine own_met (by first | exact plainFor_of_name (by decide +kernel) | decide +kernel) ?_
  intro p_ e_ s_ m_ below_ meth_ c_ K
  refine own_cast (own_cat_ef m_ _ _) ?_
  refine own_aloadN K own_d10_0 rfl rfl ?_
  refine own_virtual K own_d10_1 (own_w200 hw) (own_w201 hw) (own_w203 hw) (own_w202 hw) (own_w6 hw) (own_w204 hw) (H.atO (i := 0) rfl) (a := a) (argsL := []) (rest := []) (own_isl hw hC H) own_pd6 rfl rfl rfl (by decide) (W := 0) (Nat.le_of_eq rfl) (by decide) (by decide) (by decide) (by decide) ?_
  intro v3 h1 q2
  obtain ⟨rfl, rfl⟩ := q2
  refine own_ifeq K own_d10_4 (fun q => absurd q (by decide)) (fun _ => ?_)
  refine own_aloadN K own_d10_7 rfl rfl ?_
  refine own_getfield K own_d10_8 (host := "") (Or.inl (own_w32 hw)) Via.refl H (j := 0) rfl (q := 0) rfl ?_
  refine own_iloadN K own_d10_11 rfl ?_
  refine own_static K own_d10_12 (own_w205 hw) (own_w206 hw) (own_w207 hw) (own_w208 hw) (argsL := [(.ref y), (.int i)]) (rest := []) (own_l1c hw hF H hN hi hv l0 u0) own_pd7 rfl rfl rfl (by decide) (W := 0) (Nat.le_of_eq rfl) (by decide) (by decide) (by decide) (by decide) ?_
  intro v6 h4 q5
  obtain ⟨rfl, rfl⟩ := q5
  exact own_retC K (fun _ q => q) (own_nrc l0 u0) own_d10_15 (by decide) (by decide) (⟨rfl, rfl⟩)
set_option maxRecDepth 65536 in
set_option maxHeartbeats 40000000 in
theorem own_mk0_ef (m : MethodId) (x0 : Int32) (x1 : Int32) (x2 : Int32) (x3 : Int32) : entryFrame m #[(.int x0), (.int x1), (.int x2), (.int x3)] 4 = mkF m 0 #[.val (.int x0), .val (.int x1), .val (.int x2), .val (.int x3)] [] := by first | (simp [entryFrame, mkF, argsToLocals, Value.category]; done) | rfl
set_option maxRecDepth 65536 in
set_option maxHeartbeats 40000000 in
theorem own_mk0 {l : Launch} {Z : State} {a0 : Array Value} (hw : own_Z Z a0) {h : Heap} {os : List own_O} {as : List own_A} {cs c0 c1 c2 : Int32} (hC : cs ≠ 0 ∧ Sta Z Z.heap "java/lang/String" "COMPACT_STRINGS" "Z" (.int cs)) (hL : Jvm.Lit.constHeld Z "java/lang/String" 7) (hcw : Jvm.Lit.compactW.before a0 Z = true) (H : own_H Z h os as) (l0 : 0 ≤ c0.toInt) (u0 : c0.toInt ≤ 255) (l1 : 0 ≤ c1.toInt) (u1 : c1.toInt ≤ 255) (l2 : 0 ≤ c2.toInt) (u2 : c2.toInt ≤ 255) : own_Met (some ([], [""])) l Z (⟨"com/example/farcall/farcall/EndpointToStringPinLaw", "makeHost", "(ICCC)Ljava/lang/String;"⟩ : MethodName) method_3_code 4 (some (.object "java/lang/String")) [] ({ frames := 4, cells := 4, slots := 12, locals := 66 } : Room) #[(.int (0 : Int32)), (.int c0), (.int c1), (.int c2)] h (fun v h' => ∃ a y z ad zs, v = some (.ref a) ∧ own_H Z h' (own_ST a (.ref y) (.int (0 : Int32)) :: os) ((y, .byte, ad, own_v3 0 c0 c1 c2) :: (z, .char, "[C", zs) :: as)) := by
  refine own_metW (by first | exact plainFor_of_name (by decide +kernel) | decide +kernel) ?_
  intro p_ e_ s_ m_ below_ meth_ c_ K hI
  replace hI : IB Z s_.vm [] := hI
  refine own_cast (own_mk0_ef m_ _ _ _ _) ?_
  refine own_iloadN K own_d11_0 rfl ?_
  refine own_ifne K own_d11_1 (fun q => absurd q (by decide)) (fun _ => ?_)
  refine own_new K own_d11_4 (own_w4 hw) (own_w5 hw) (own_w6 hw) H (own_ST_F hw) (own_ST_P hw) (by decide) (by decide) ?_
  intro h1 a3 H2
  replace H2 : own_H Z h1 (own_ST a3 .null (.int (0 : Int32)) :: os) (as) := H2
  refine own_dup K own_d11_7 rfl ?_
  refine own_iconst K own_d11_8 (v := (0 : Int32)) rfl ?_
  refine own_newarray K own_d11_9 (ty := .char) rfl (own_w7 hw) H2 (q := 0) (by decide) (ad := "[C") (by decide +kernel) (vs := []) rfl (by decide) (by decide) (by decide) ?_
  intro h4 a6 H5
  replace H5 : own_H Z h4 (own_ST a3 .null (.int (0 : Int32)) :: os) ((a6, .char, "[C", []) :: as) := H5
  refine own_specialW K (fun vm q => own_IB (congrArg Vm.interned (show vm = s_.vm from q)) hI) own_d11_11 rfl (own_w8 hw) (own_w9 hw) (own_w6 hw) (own_w10 hw) (a := a3) (argsL := [(.ref a6)]) (rest := [(.ref a3)]) (own_initS0 hw hL hcw H5 ) own_pd8 rfl rfl rfl (by decide) (W := 1) (Nat.le_of_eq rfl) (by decide) (by decide) (by decide) (by decide) ?_
  intro v9 h7 q8
  obtain ⟨rfl, y11, H10⟩ := q8
  replace H10 : own_H Z h7 (own_ST a3 (.ref y11) (.int (0 : Int32)) :: os) ((y11, .byte, "", []) :: (a6, .char, "[C", []) :: as) := H10
  exact own_retA K (fun _ q => q) rfl rfl own_d11_14 (by decide) (by decide) (⟨_, _, _, _, _, rfl, H10⟩)
set_option maxRecDepth 65536 in
set_option maxHeartbeats 40000000 in
theorem own_mk1_ef (m : MethodId) (x0 : Int32) (x1 : Int32) (x2 : Int32) (x3 : Int32) : entryFrame m #[(.int x0), (.int x1), (.int x2), (.int x3)] 4 = mkF m 0 #[.val (.int x0), .val (.int x1), .val (.int x2), .val (.int x3)] [] := by first | (simp [entryFrame, mkF, argsToLocals, Value.category]; done) | rfl
set_option maxRecDepth 65536 in
set_option maxHeartbeats 40000000 in
theorem own_mk1 {l : Launch} {Z : State} {a0 : Array Value} (hw : own_Z Z a0) {h : Heap} {os : List own_O} {as : List own_A} {cs c0 c1 c2 : Int32} (hC : cs ≠ 0 ∧ Sta Z Z.heap "java/lang/String" "COMPACT_STRINGS" "Z" (.int cs)) (hL : Jvm.Lit.constHeld Z "java/lang/String" 7) (hcw : Jvm.Lit.compactW.before a0 Z = true) (H : own_H Z h os as) (l0 : 0 ≤ c0.toInt) (u0 : c0.toInt ≤ 255) (l1 : 0 ≤ c1.toInt) (u1 : c1.toInt ≤ 255) (l2 : 0 ≤ c2.toInt) (u2 : c2.toInt ≤ 255) : own_Met (some ([], [""])) l Z (⟨"com/example/farcall/farcall/EndpointToStringPinLaw", "makeHost", "(ICCC)Ljava/lang/String;"⟩ : MethodName) method_3_code 4 (some (.object "java/lang/String")) [] ({ frames := 4, cells := 4, slots := 12, locals := 66 } : Room) #[(.int (1 : Int32)), (.int c0), (.int c1), (.int c2)] h (fun v h' => ∃ a y z ad zs, v = some (.ref a) ∧ own_H Z h' (own_ST a (.ref y) (.int (0 : Int32)) :: os) ((y, .byte, ad, own_v3 1 c0 c1 c2) :: (z, .char, "[C", zs) :: as)) := by
  refine own_metW (by first | exact plainFor_of_name (by decide +kernel) | decide +kernel) ?_
  intro p_ e_ s_ m_ below_ meth_ c_ K hI
  replace hI : IB Z s_.vm [] := hI
  refine own_cast (own_mk1_ef m_ _ _ _ _) ?_
  refine own_iloadN K own_d11_0 rfl ?_
  refine own_ifne K own_d11_1 (fun _ => ?_) (fun q => absurd (by decide) q)
  refine own_iloadN K own_d11_15 rfl ?_
  refine own_iconst K own_d11_16 (v := (1 : Int32)) rfl ?_
  refine own_icmpne K own_d11_17 (fun q => absurd q (by decide)) (fun _ => ?_)
  refine own_new K own_d11_20 (own_w4 hw) (own_w5 hw) (own_w6 hw) H (own_ST_F hw) (own_ST_P hw) (by decide) (by decide) ?_
  intro h1 a3 H2
  replace H2 : own_H Z h1 (own_ST a3 .null (.int (0 : Int32)) :: os) (as) := H2
  refine own_dup K own_d11_23 rfl ?_
  refine own_iconst K own_d11_24 (v := (1 : Int32)) rfl ?_
  refine own_newarray K own_d11_25 (ty := .char) rfl (own_w7 hw) H2 (q := 1) (by decide) (ad := "[C") (by decide +kernel) (vs := [(.int (0 : Int32))]) rfl (by decide) (by decide) (by decide) ?_
  intro h4 a6 H5
  replace H5 : own_H Z h4 (own_ST a3 .null (.int (0 : Int32)) :: os) ((a6, .char, "[C", [(.int (0 : Int32))]) :: as) := H5
  refine own_dup K own_d11_27 rfl ?_
  refine own_iconst K own_d11_28 (v := (0 : Int32)) rfl ?_
  refine own_iloadN K own_d11_29 rfl ?_
  refine own_castore K own_d11_30 H5 (i := 0) rfl (q := 0) (by decide) (own_le rfl) ?_
  intro h7 H8
  rw [own_nch l0 u0] at H8
  replace H8 : own_H Z h7 (own_ST a3 .null (.int (0 : Int32)) :: os) ((a6, .char, "[C", [(.int c0)]) :: as) := H8
  refine own_special K own_d11_31 rfl (own_w8 hw) (own_w9 hw) (own_w6 hw) (own_w10 hw) (a := a3) (argsL := [(.ref a6)]) (rest := [(.ref a3)]) (own_initS1 hw hC H8 l0 u0) own_pd8 rfl rfl rfl (by decide) (W := 1) (Nat.le_of_eq rfl) (by decide) (by decide) (by decide) (by decide) ?_
  intro v11 h9 q10
  obtain ⟨rfl, y13, H12⟩ := q10
  replace H12 : own_H Z h9 (own_ST a3 (.ref y13) (.int (0 : Int32)) :: os) ((y13, .byte, "[B", [(.int (own_by c0))]) :: (a6, .char, "[C", [(.int c0)]) :: as) := H12
  exact own_retA K (fun vm q => own_IBm (own_IB (congrArg Vm.interned (show vm = s_.vm from q)) hI)) rfl rfl own_d11_34 (by decide) (by decide) (⟨_, _, _, _, _, rfl, H12⟩)
set_option maxRecDepth 65536 in
set_option maxHeartbeats 40000000 in
theorem own_mk2_ef (m : MethodId) (x0 : Int32) (x1 : Int32) (x2 : Int32) (x3 : Int32) : entryFrame m #[(.int x0), (.int x1), (.int x2), (.int x3)] 4 = mkF m 0 #[.val (.int x0), .val (.int x1), .val (.int x2), .val (.int x3)] [] := by first | (simp [entryFrame, mkF, argsToLocals, Value.category]; done) | rfl
set_option maxRecDepth 65536 in
set_option maxHeartbeats 40000000 in
theorem own_mk2 {l : Launch} {Z : State} {a0 : Array Value} (hw : own_Z Z a0) {h : Heap} {os : List own_O} {as : List own_A} {cs c0 c1 c2 : Int32} (hC : cs ≠ 0 ∧ Sta Z Z.heap "java/lang/String" "COMPACT_STRINGS" "Z" (.int cs)) (hL : Jvm.Lit.constHeld Z "java/lang/String" 7) (hcw : Jvm.Lit.compactW.before a0 Z = true) (H : own_H Z h os as) (l0 : 0 ≤ c0.toInt) (u0 : c0.toInt ≤ 255) (l1 : 0 ≤ c1.toInt) (u1 : c1.toInt ≤ 255) (l2 : 0 ≤ c2.toInt) (u2 : c2.toInt ≤ 255) : own_Met (some ([], [""])) l Z (⟨"com/example/farcall/farcall/EndpointToStringPinLaw", "makeHost", "(ICCC)Ljava/lang/String;"⟩ : MethodName) method_3_code 4 (some (.object "java/lang/String")) [] ({ frames := 4, cells := 4, slots := 12, locals := 66 } : Room) #[(.int (2 : Int32)), (.int c0), (.int c1), (.int c2)] h (fun v h' => ∃ a y z ad zs, v = some (.ref a) ∧ own_H Z h' (own_ST a (.ref y) (.int (0 : Int32)) :: os) ((y, .byte, ad, own_v3 2 c0 c1 c2) :: (z, .char, "[C", zs) :: as)) := by
  refine own_metW (by first | exact plainFor_of_name (by decide +kernel) | decide +kernel) ?_
  intro p_ e_ s_ m_ below_ meth_ c_ K hI
  replace hI : IB Z s_.vm [] := hI
  refine own_cast (own_mk2_ef m_ _ _ _ _) ?_
  refine own_iloadN K own_d11_0 rfl ?_
  refine own_ifne K own_d11_1 (fun _ => ?_) (fun q => absurd (by decide) q)
  refine own_iloadN K own_d11_15 rfl ?_
  refine own_iconst K own_d11_16 (v := (1 : Int32)) rfl ?_
  refine own_icmpne K own_d11_17 (fun _ => ?_) (fun q => absurd (by decide) q)
  refine own_iloadN K own_d11_35 rfl ?_
  refine own_iconst K own_d11_36 (v := (2 : Int32)) rfl ?_
  refine own_icmpne K own_d11_37 (fun q => absurd q (by decide)) (fun _ => ?_)
  refine own_new K own_d11_40 (own_w4 hw) (own_w5 hw) (own_w6 hw) H (own_ST_F hw) (own_ST_P hw) (by decide) (by decide) ?_
  intro h1 a3 H2
  replace H2 : own_H Z h1 (own_ST a3 .null (.int (0 : Int32)) :: os) (as) := H2
  refine own_dup K own_d11_43 rfl ?_
  refine own_iconst K own_d11_44 (v := (2 : Int32)) rfl ?_
  refine own_newarray K own_d11_45 (ty := .char) rfl (own_w7 hw) H2 (q := 2) (by decide) (ad := "[C") (by decide +kernel) (vs := [(.int (0 : Int32)), (.int (0 : Int32))]) rfl (by decide) (by decide) (by decide) ?_
  intro h4 a6 H5
  replace H5 : own_H Z h4 (own_ST a3 .null (.int (0 : Int32)) :: os) ((a6, .char, "[C", [(.int (0 : Int32)), (.int (0 : Int32))]) :: as) := H5
  refine own_dup K own_d11_47 rfl ?_
  refine own_iconst K own_d11_48 (v := (0 : Int32)) rfl ?_
  refine own_iloadN K own_d11_49 rfl ?_
  refine own_castore K own_d11_50 H5 (i := 0) rfl (q := 0) (by decide) (own_le rfl) ?_
  intro h7 H8
  rw [own_nch l0 u0] at H8
  replace H8 : own_H Z h7 (own_ST a3 .null (.int (0 : Int32)) :: os) ((a6, .char, "[C", [(.int c0), (.int (0 : Int32))]) :: as) := H8
  refine own_dup K own_d11_51 rfl ?_
  refine own_iconst K own_d11_52 (v := (1 : Int32)) rfl ?_
  refine own_iloadN K own_d11_53 rfl ?_
  refine own_castore K own_d11_54 H8 (i := 0) rfl (q := 1) (by decide) (own_le rfl) ?_
  intro h9 H10
  rw [own_nch l1 u1] at H10
  replace H10 : own_H Z h9 (own_ST a3 .null (.int (0 : Int32)) :: os) ((a6, .char, "[C", [(.int c0), (.int c1)]) :: as) := H10
  refine own_special K own_d11_55 rfl (own_w8 hw) (own_w9 hw) (own_w6 hw) (own_w10 hw) (a := a3) (argsL := [(.ref a6)]) (rest := [(.ref a3)]) (own_initS2 hw hC H10 l0 u0 l1 u1) own_pd8 rfl rfl rfl (by decide) (W := 1) (Nat.le_of_eq rfl) (by decide) (by decide) (by decide) (by decide) ?_
  intro v13 h11 q12
  obtain ⟨rfl, y15, H14⟩ := q12
  replace H14 : own_H Z h11 (own_ST a3 (.ref y15) (.int (0 : Int32)) :: os) ((y15, .byte, "[B", [(.int (own_by c0)), (.int (own_by c1))]) :: (a6, .char, "[C", [(.int c0), (.int c1)]) :: as) := H14
  exact own_retA K (fun vm q => own_IBm (own_IB (congrArg Vm.interned (show vm = s_.vm from q)) hI)) rfl rfl own_d11_58 (by decide) (by decide) (⟨_, _, _, _, _, rfl, H14⟩)
set_option maxRecDepth 65536 in
set_option maxHeartbeats 40000000 in
theorem own_mk3_ef (m : MethodId) (x0 : Int32) (x1 : Int32) (x2 : Int32) (x3 : Int32) : entryFrame m #[(.int x0), (.int x1), (.int x2), (.int x3)] 4 = mkF m 0 #[.val (.int x0), .val (.int x1), .val (.int x2), .val (.int x3)] [] := by first | (simp [entryFrame, mkF, argsToLocals, Value.category]; done) | rfl
set_option maxRecDepth 65536 in
set_option maxHeartbeats 40000000 in
theorem own_mk3 {l : Launch} {Z : State} {a0 : Array Value} (hw : own_Z Z a0) {h : Heap} {os : List own_O} {as : List own_A} {cs c0 c1 c2 : Int32} (hC : cs ≠ 0 ∧ Sta Z Z.heap "java/lang/String" "COMPACT_STRINGS" "Z" (.int cs)) (hL : Jvm.Lit.constHeld Z "java/lang/String" 7) (hcw : Jvm.Lit.compactW.before a0 Z = true) (H : own_H Z h os as) (l0 : 0 ≤ c0.toInt) (u0 : c0.toInt ≤ 255) (l1 : 0 ≤ c1.toInt) (u1 : c1.toInt ≤ 255) (l2 : 0 ≤ c2.toInt) (u2 : c2.toInt ≤ 255) : own_Met (some ([], [""])) l Z (⟨"com/example/farcall/farcall/EndpointToStringPinLaw", "makeHost", "(ICCC)Ljava/lang/String;"⟩ : MethodName) method_3_code 4 (some (.object "java/lang/String")) [] ({ frames := 4, cells := 4, slots := 12, locals := 66 } : Room) #[(.int (3 : Int32)), (.int c0), (.int c1), (.int c2)] h (fun v h' => ∃ a y z ad zs, v = some (.ref a) ∧ own_H Z h' (own_ST a (.ref y) (.int (0 : Int32)) :: os) ((y, .byte, ad, own_v3 3 c0 c1 c2) :: (z, .char, "[C", zs) :: as)) := by
  refine own_metW (by first | exact plainFor_of_name (by decide +kernel) | decide +kernel) ?_
  intro p_ e_ s_ m_ below_ meth_ c_ K hI
  replace hI : IB Z s_.vm [] := hI
  refine own_cast (own_mk3_ef m_ _ _ _ _) ?_
  refine own_iloadN K own_d11_0 rfl ?_
  refine own_ifne K own_d11_1 (fun _ => ?_) (fun q => absurd (by decide) q)
  refine own_iloadN K own_d11_15 rfl ?_
  refine own_iconst K own_d11_16 (v := (1 : Int32)) rfl ?_
  refine own_icmpne K own_d11_17 (fun _ => ?_) (fun q => absurd (by decide) q)
  refine own_iloadN K own_d11_35 rfl ?_
  refine own_iconst K own_d11_36 (v := (2 : Int32)) rfl ?_
  refine own_icmpne K own_d11_37 (fun _ => ?_) (fun q => absurd (by decide) q)
  refine own_new K own_d11_59 (own_w4 hw) (own_w5 hw) (own_w6 hw) H (own_ST_F hw) (own_ST_P hw) (by decide) (by decide) ?_
  intro h1 a3 H2
  replace H2 : own_H Z h1 (own_ST a3 .null (.int (0 : Int32)) :: os) (as) := H2
  refine own_dup K own_d11_62 rfl ?_
  refine own_iconst K own_d11_63 (v := (3 : Int32)) rfl ?_
  refine own_newarray K own_d11_64 (ty := .char) rfl (own_w7 hw) H2 (q := 3) (by decide) (ad := "[C") (by decide +kernel) (vs := [(.int (0 : Int32)), (.int (0 : Int32)), (.int (0 : Int32))]) rfl (by decide) (by decide) (by decide) ?_
  intro h4 a6 H5
  replace H5 : own_H Z h4 (own_ST a3 .null (.int (0 : Int32)) :: os) ((a6, .char, "[C", [(.int (0 : Int32)), (.int (0 : Int32)), (.int (0 : Int32))]) :: as) := H5
  refine own_dup K own_d11_66 rfl ?_
  refine own_iconst K own_d11_67 (v := (0 : Int32)) rfl ?_
  refine own_iloadN K own_d11_68 rfl ?_
  refine own_castore K own_d11_69 H5 (i := 0) rfl (q := 0) (by decide) (own_le rfl) ?_
  intro h7 H8
  rw [own_nch l0 u0] at H8
  replace H8 : own_H Z h7 (own_ST a3 .null (.int (0 : Int32)) :: os) ((a6, .char, "[C", [(.int c0), (.int (0 : Int32)), (.int (0 : Int32))]) :: as) := H8
  refine own_dup K own_d11_70 rfl ?_
  refine own_iconst K own_d11_71 (v := (1 : Int32)) rfl ?_
  refine own_iloadN K own_d11_72 rfl ?_
  refine own_castore K own_d11_73 H8 (i := 0) rfl (q := 1) (by decide) (own_le rfl) ?_
  intro h9 H10
  rw [own_nch l1 u1] at H10
  replace H10 : own_H Z h9 (own_ST a3 .null (.int (0 : Int32)) :: os) ((a6, .char, "[C", [(.int c0), (.int c1), (.int (0 : Int32))]) :: as) := H10
  refine own_dup K own_d11_74 rfl ?_
  refine own_iconst K own_d11_75 (v := (2 : Int32)) rfl ?_
  refine own_iloadN K own_d11_76 rfl ?_
  refine own_castore K own_d11_77 H10 (i := 0) rfl (q := 2) (by decide) (own_le rfl) ?_
  intro h11 H12
  rw [own_nch l2 u2] at H12
  replace H12 : own_H Z h11 (own_ST a3 .null (.int (0 : Int32)) :: os) ((a6, .char, "[C", [(.int c0), (.int c1), (.int c2)]) :: as) := H12
  refine own_special K own_d11_78 rfl (own_w8 hw) (own_w9 hw) (own_w6 hw) (own_w10 hw) (a := a3) (argsL := [(.ref a6)]) (rest := [(.ref a3)]) (own_initS3 hw hC H12 l0 u0 l1 u1 l2 u2) own_pd8 rfl rfl rfl (by decide) (W := 1) (Nat.le_of_eq rfl) (by decide) (by decide) (by decide) (by decide) ?_
  intro v15 h13 q14
  obtain ⟨rfl, y17, H16⟩ := q14
  replace H16 : own_H Z h13 (own_ST a3 (.ref y17) (.int (0 : Int32)) :: os) ((y17, .byte, "[B", [(.int (own_by c0)), (.int (own_by c1)), (.int (own_by c2))]) :: (a6, .char, "[C", [(.int c0), (.int c1), (.int c2)]) :: as) := H16
  exact own_retA K (fun vm q => own_IBm (own_IB (congrArg Vm.interned (show vm = s_.vm from q)) hI)) rfl rfl own_d11_81 (by decide) (by decide) (⟨_, _, _, _, _, rfl, H16⟩)
theorem own_mk {l : Launch} {Z : State} {a0 : Array Value} (hw : own_Z Z a0) {h : Heap} {os : List own_O} {as : List own_A} {cs c0 c1 c2 : Int32} {k : Nat} (hk : k ≤ 3) (hC : cs ≠ 0 ∧ Sta Z Z.heap "java/lang/String" "COMPACT_STRINGS" "Z" (.int cs)) (hL : Jvm.Lit.constHeld Z "java/lang/String" 7) (hcw : Jvm.Lit.compactW.before a0 Z = true) (H : own_H Z h os as) (l0 : 0 ≤ c0.toInt) (u0 : c0.toInt ≤ 255) (l1 : 0 ≤ c1.toInt) (u1 : c1.toInt ≤ 255) (l2 : 0 ≤ c2.toInt) (u2 : c2.toInt ≤ 255) : own_Met (some ([], [""])) l Z (⟨"com/example/farcall/farcall/EndpointToStringPinLaw", "makeHost", "(ICCC)Ljava/lang/String;"⟩ : MethodName) method_3_code 4 (some (.object "java/lang/String")) [] ({ frames := 4, cells := 4, slots := 12, locals := 66 } : Room) #[(.int (Int32.ofNat k)), (.int c0), (.int c1), (.int c2)] h (fun v h' => ∃ a y z ad zs, v = some (.ref a) ∧ own_H Z h' (own_ST a (.ref y) (.int (0 : Int32)) :: os) ((y, .byte, ad, own_v3 k c0 c1 c2) :: (z, .char, "[C", zs) :: as)) := by
  rcases own_k4 hk with rfl | rfl | rfl | rfl
  · exact own_mk0 hw hC hL hcw H l0 u0 l1 u1 l2 u2
  · exact own_mk1 hw hC hL hcw H l0 u0 l1 u1 l2 u2
  · exact own_mk2 hw hC hL hcw H l0 u0 l1 u1 l2 u2
  · exact own_mk3 hw hC hL hcw H l0 u0 l1 u1 l2 u2
set_option maxRecDepth 65536 in
set_option maxHeartbeats 40000000 in
theorem own_rcd_ef (m : MethodId) (x0 : Addr) : entryFrame m #[(.ref x0)] 1 = mkF m 0 #[.val (.ref x0)] [] := by first | (simp [entryFrame, mkF, argsToLocals, Value.category]; done) | rfl
set_option maxRecDepth 65536 in
set_option maxHeartbeats 40000000 in
theorem own_rcd {l : Launch} {Z : State} {a0 : Array Value} (hw : own_Z Z a0) {h : Heap} {a : Addr} : own_Met none l Z (⟨"java/lang/Record", "<init>", "()V"⟩ : MethodName) jdk_30_method_1_code 1 none [] ({ frames := 1, cells := 0, slots := 0, locals := 12 } : Room) #[(.ref a)] h (fun v h' => v = none ∧ h = h') := by
  refine own_met (by first | exact plainFor_of_name (by decide +kernel) | decide +kernel) ?_
  intro p_ e_ s_ m_ below_ meth_ c_ K
  refine own_cast (own_rcd_ef m_ _) ?_
  refine own_aloadN K own_d12_0 rfl rfl ?_
  refine own_initO K own_d12_1 (own_w47 hw) (own_w16 hw) (own_w17 hw) rfl (by decide) (W := 0) (Nat.le_of_eq rfl) (by decide) ?_
  exact own_retV K (fun _ q => q) own_d12_4 (by decide) (by decide) (⟨rfl, rfl⟩)
set_option maxRecDepth 65536 in
set_option maxHeartbeats 40000000 in
theorem own_rnn_ef (m : MethodId) (x0 : Addr) (x1 : Addr) : entryFrame m #[(.ref x0), (.ref x1)] 2 = mkF m 0 #[.val (.ref x0), .val (.ref x1)] [] := by first | (simp [entryFrame, mkF, argsToLocals, Value.category]; done) | rfl
set_option maxRecDepth 65536 in
set_option maxHeartbeats 40000000 in
theorem own_rnn {l : Launch} {Z : State} {a0 : Array Value} (hw : own_Z Z a0) {h : Heap} {a b : Addr} : own_Met none l Z (⟨"java/util/Objects", "requireNonNull", "(Ljava/lang/Object;Ljava/lang/String;)Ljava/lang/Object;"⟩ : MethodName) jdk_31_method_11_code 2 (some (.object "java/lang/Object")) [] ({ frames := 0, cells := 0, slots := 0, locals := 0 } : Room) #[(.ref a), (.ref b)] h (fun v h' => v = some (.ref a) ∧ h = h') := by
  refine own_met (by first | exact plainFor_of_name (by decide +kernel) | decide +kernel) ?_
  intro p_ e_ s_ m_ below_ meth_ c_ K
  refine own_cast (own_rnn_ef m_ _ _) ?_
  refine own_aloadN K own_d13_0 rfl rfl ?_
  refine own_ifnonnullR K own_d13_1 ?_
  refine own_aloadN K own_d13_13 rfl rfl ?_
  exact own_retA K (fun _ q => q) rfl rfl own_d13_14 (by decide) (by decide) (⟨rfl, rfl⟩)
set_option maxRecDepth 65536 in
set_option maxHeartbeats 40000000 in
theorem own_ei_ef (m : MethodId) (x0 : Addr) (x1 : Addr) (x2 : Int32) : entryFrame m #[(.ref x0), (.ref x1), (.int x2)] 3 = mkF m 0 #[.val (.ref x0), .val (.ref x1), .val (.int x2)] [] := by first | (simp [entryFrame, mkF, argsToLocals, Value.category]; done) | rfl
set_option maxRecDepth 65536 in
set_option maxHeartbeats 40000000 in
theorem own_ei {l : Launch} {Z : State} {a0 : Array Value} (hw : own_Z Z a0) {h : Heap} {os : List own_O} {as : List own_A} {e1 a : Addr} {m : Nat} (hm : 1 ≤ m ∧ m ≤ 65535) (H : own_H Z h (own_EP e1 .null (.int (0 : Int32)) :: os) as) : own_Met (some ([""], ["host", ""])) l Z (⟨"com/example/farcall/farcall/Endpoint", "<init>", "(Ljava/lang/String;I)V"⟩ : MethodName) prog_16_method_1_code 3 none [] ({ frames := 2, cells := 2, slots := 20, locals := 24 } : Room) #[(.ref e1), (.ref a), (.int (Int32.ofNat m))] h (fun v h' => v = none ∧ own_H Z h' (own_EP e1 (.ref a) (.int (Int32.ofNat m)) :: os) as) := by
  refine own_metW (by first | exact plainFor_of_name (by decide +kernel) | decide +kernel) ?_
  intro p_ e_ s_ m_ below_ meth_ c_ K hI
  replace hI : IB Z s_.vm [""] := hI
  refine own_cast (own_ei_ef m_ _ _ _) ?_
  refine own_aloadN K own_d14_0 rfl rfl ?_
  refine own_special K own_d14_1 rfl (own_w42 hw) (own_w43 hw) (own_w45 hw) (own_w46 hw) (a := e1) (argsL := []) (rest := []) (own_rcd hw) own_pd9 rfl rfl rfl (by decide) (W := 0) (Nat.le_of_eq rfl) (by decide) (by decide) (by decide) (by decide) ?_
  intro v3 h1 q2
  obtain ⟨rfl, rfl⟩ := q2
  refine own_aloadN K own_d14_4 rfl rfl ?_
  refine own_ldcO K own_d14_5 (own_w48 hw) (own_sa hw) (fun vm q => own_IB (congrArg Vm.interned (show vm = s_.vm from q)) hI) H (nn := 16) (by decide) (by decide) (by decide) (by decide) ?_
  intro h4 a6 H5
  replace H5 : own_H Z h4 (own_EP e1 .null (.int (0 : Int32)) :: os) (as) := H5
  refine own_static K own_d14_7 (own_w51 hw) (own_w52 hw) (own_w53 hw) (own_w54 hw) (argsL := [(.ref a), (.ref a6)]) (rest := []) (own_rnn hw) own_pd10 rfl rfl rfl (by decide) (W := 0) (Nat.le_of_eq rfl) (by decide) (by decide) (by decide) (by decide) ?_
  intro v9 h7 q8
  obtain ⟨rfl, rfl⟩ := q8
  refine own_pop K own_d14_10 rfl ?_
  refine own_iloadN K own_d14_11 rfl ?_
  refine own_iconst K own_d14_12 (v := (1 : Int32)) rfl ?_
  refine own_icmplt K own_d14_13 (fun q => absurd q (by have z0 := own_on (show m ≤ 100000 by omega); have z1 : (1 : Int32).toInt = 1 := rfl; omega)) (fun _ => ?_)
  refine own_iloadN K own_d14_16 rfl ?_
  refine own_ldcI K own_d14_17 (v := (65535 : Int32)) (own_w55 hw) ?_
  refine own_icmple K own_d14_19 (fun _ => ?_) (fun q => absurd (by have z0 := own_on (show m ≤ 100000 by omega); have z65535 : (65535 : Int32).toInt = 65535 := rfl; omega) q)
  refine own_aloadN K own_d14_49 rfl rfl ?_
  refine own_aloadN K own_d14_50 rfl rfl ?_
  refine own_putfield K own_d14_51 (host := "") (Or.inl (own_w56 hw)) Via.refl H5 (j := 0) rfl (q := 0) rfl (Or.inr ⟨(own_w57 hw), rfl, rfl⟩) (own_w37 hw) (ty := (.object "java/lang/String")) (by decide +kernel) (rfl) (rfl) ?_
  intro h10 H11
  replace H11 : own_H Z h10 (own_EP e1 (.ref a) (.int (0 : Int32)) :: os) (as) := H11
  refine own_aloadN K own_d14_54 rfl rfl ?_
  refine own_iloadN K own_d14_55 rfl ?_
  refine own_putfield K own_d14_56 (host := "") (Or.inl (own_w58 hw)) Via.refl H11 (j := 0) rfl (q := 1) rfl (Or.inr ⟨(own_w59 hw), rfl, rfl⟩) (own_w37 hw) (ty := .int) (by decide +kernel) (rfl) (rfl) ?_
  intro h12 H13
  replace H13 : own_H Z h12 (own_EP e1 (.ref a) (.int (Int32.ofNat m)) :: os) (as) := H13
  exact own_retV K (fun _ q => q) own_d14_59 (by decide) (by decide) (⟨rfl, H13⟩)
set_option maxRecDepth 65536 in
set_option maxHeartbeats 40000000 in
theorem own_ai_ef (m : MethodId) (x0 : Addr) (x1 : Int32) : entryFrame m #[(.ref x0), (.int x1)] 2 = mkF m 0 #[.val (.ref x0), .val (.int x1)] [] := by first | (simp [entryFrame, mkF, argsToLocals, Value.category]; done) | rfl
set_option maxRecDepth 65536 in
set_option maxHeartbeats 40000000 in
theorem own_ai {l : Launch} {Z : State} {a0 : Array Value} (hw : own_Z Z a0) {h : Heap} {os : List own_O} {as : List own_A} {b : Addr} {cs : Int32} (hC : cs ≠ 0 ∧ Sta Z Z.heap "java/lang/String" "COMPACT_STRINGS" "Z" (.int cs)) (H : own_H Z h (own_SB b .null (.int (0 : Int32)) (.int (0 : Int32)) :: os) as) : own_Met none l Z (⟨"java/lang/AbstractStringBuilder", "<init>", "(I)V"⟩ : MethodName) jdk_68_method_2_code 2 none [] ({ frames := 1, cells := 1, slots := 16, locals := 13 } : Room) #[(.ref b), (.int (16 : Int32))] h (fun v h' => v = none ∧ ∃ y, own_H Z h' (own_SB b (.ref y) (.int (0 : Int32)) (.int (0 : Int32)) :: os) ((y, .byte, "[B", own_z16) :: as)) := by
  refine own_met (by first | exact plainFor_of_name (by decide +kernel) | decide +kernel) ?_
  intro p_ e_ s_ m_ below_ meth_ c_ K
  refine own_cast (own_ai_ef m_ _ _) ?_
  refine own_aloadN K own_d15_0 rfl rfl ?_
  refine own_initO K own_d15_1 (own_w77 hw) (own_w16 hw) (own_w17 hw) rfl (by decide) (W := 0) (Nat.le_of_eq rfl) (by decide) ?_
  refine own_getstatic K own_d15_4 (own_w78 hw) Via.refl (v := (.int cs)) (Sta.ext H.1 hC.2) ?_
  refine own_ifeq K own_d15_7 (fun q => absurd q (hC.1)) (fun _ => ?_)
  refine own_aloadN K own_d15_10 rfl rfl ?_
  refine own_iloadN K own_d15_11 rfl ?_
  refine own_newarray K own_d15_12 (ty := .byte) rfl (own_w23 hw) H (q := 16) (by decide) (ad := "[B") (by decide +kernel) (vs := [(.int (0 : Int32)), (.int (0 : Int32)), (.int (0 : Int32)), (.int (0 : Int32)), (.int (0 : Int32)), (.int (0 : Int32)), (.int (0 : Int32)), (.int (0 : Int32)), (.int (0 : Int32)), (.int (0 : Int32)), (.int (0 : Int32)), (.int (0 : Int32)), (.int (0 : Int32)), (.int (0 : Int32)), (.int (0 : Int32)), (.int (0 : Int32))]) rfl (by decide) (by decide) (by decide) ?_
  intro h1 a3 H2
  replace H2 : own_H Z h1 (own_SB b .null (.int (0 : Int32)) (.int (0 : Int32)) :: os) ((a3, .byte, "[B", [(.int (0 : Int32)), (.int (0 : Int32)), (.int (0 : Int32)), (.int (0 : Int32)), (.int (0 : Int32)), (.int (0 : Int32)), (.int (0 : Int32)), (.int (0 : Int32)), (.int (0 : Int32)), (.int (0 : Int32)), (.int (0 : Int32)), (.int (0 : Int32)), (.int (0 : Int32)), (.int (0 : Int32)), (.int (0 : Int32)), (.int (0 : Int32))]) :: as) := H2
  refine own_putfield K own_d15_14 (host := "") (Or.inl (own_w79 hw)) Via.refl H2 (j := 0) rfl (q := 0) rfl (Or.inl (own_w80 hw)) (own_w66 hw) (ty := (.array .byte)) (by decide +kernel) (rfl) (rfl) ?_
  intro h4 H5
  replace H5 : own_H Z h4 (own_SB b (.ref a3) (.int (0 : Int32)) (.int (0 : Int32)) :: os) ((a3, .byte, "[B", [(.int (0 : Int32)), (.int (0 : Int32)), (.int (0 : Int32)), (.int (0 : Int32)), (.int (0 : Int32)), (.int (0 : Int32)), (.int (0 : Int32)), (.int (0 : Int32)), (.int (0 : Int32)), (.int (0 : Int32)), (.int (0 : Int32)), (.int (0 : Int32)), (.int (0 : Int32)), (.int (0 : Int32)), (.int (0 : Int32)), (.int (0 : Int32))]) :: as) := H5
  refine own_aloadN K own_d15_17 rfl rfl ?_
  refine own_iconst K own_d15_18 (v := (0 : Int32)) rfl ?_
  refine own_putfield K own_d15_19 (host := "") (Or.inl (own_w81 hw)) Via.refl H5 (j := 0) rfl (q := 1) rfl (Or.inl (own_w82 hw)) (own_w66 hw) (ty := .byte) (by decide +kernel) (rfl) (rfl) ?_
  intro h6 H7
  replace H7 : own_H Z h6 (own_SB b (.ref a3) (.int (0 : Int32)) (.int (0 : Int32)) :: os) ((a3, .byte, "[B", [(.int (0 : Int32)), (.int (0 : Int32)), (.int (0 : Int32)), (.int (0 : Int32)), (.int (0 : Int32)), (.int (0 : Int32)), (.int (0 : Int32)), (.int (0 : Int32)), (.int (0 : Int32)), (.int (0 : Int32)), (.int (0 : Int32)), (.int (0 : Int32)), (.int (0 : Int32)), (.int (0 : Int32)), (.int (0 : Int32)), (.int (0 : Int32))]) :: as) := H7
  refine own_goto K own_d15_22 ?_
  exact own_retV K (fun _ q => q) own_d15_38 (by decide) (by decide) (⟨rfl, _, H7⟩)
set_option maxRecDepth 65536 in
set_option maxHeartbeats 40000000 in
theorem own_si_ef (m : MethodId) (x0 : Addr) : entryFrame m #[(.ref x0)] 1 = mkF m 0 #[.val (.ref x0)] [] := by first | (simp [entryFrame, mkF, argsToLocals, Value.category]; done) | rfl
set_option maxRecDepth 65536 in
set_option maxHeartbeats 40000000 in
theorem own_si {l : Launch} {Z : State} {a0 : Array Value} (hw : own_Z Z a0) {h : Heap} {os : List own_O} {as : List own_A} {b : Addr} {cs : Int32} (hC : cs ≠ 0 ∧ Sta Z Z.heap "java/lang/String" "COMPACT_STRINGS" "Z" (.int cs)) (H : own_H Z h (own_SB b .null (.int (0 : Int32)) (.int (0 : Int32)) :: os) as) : own_Met none l Z (⟨"java/lang/StringBuilder", "<init>", "()V"⟩ : MethodName) jdk_67_method_1_code 1 none [] ({ frames := 2, cells := 1, slots := 16, locals := 26 } : Room) #[(.ref b)] h (fun v h' => v = none ∧ ∃ y, own_H Z h' (own_SB b (.ref y) (.int (0 : Int32)) (.int (0 : Int32)) :: os) ((y, .byte, "[B", own_z16) :: as)) := by
  refine own_met (by first | exact plainFor_of_name (by decide +kernel) | decide +kernel) ?_
  intro p_ e_ s_ m_ below_ meth_ c_ K
  refine own_cast (own_si_ef m_ _) ?_
  refine own_aloadN K own_d16_0 rfl rfl ?_
  refine own_bipush K own_d16_1 (v := (16 : Int32)) rfl ?_
  refine own_special K own_d16_3 rfl (own_w71 hw) (own_w72 hw) (own_w75 hw) (own_w76 hw) (a := b) (argsL := [(.int (16 : Int32))]) (rest := []) (own_ai hw hC H) own_pd11 rfl rfl rfl (by decide) (W := 0) (Nat.le_of_eq rfl) (by decide) (by decide) (by decide) (by decide) ?_
  intro v3 h1 q2
  obtain ⟨rfl, y5, H4⟩ := q2
  replace H4 : own_H Z h1 (own_SB b (.ref y5) (.int (0 : Int32)) (.int (0 : Int32)) :: os) ((y5, .byte, "[B", own_z16) :: as) := H4
  exact own_retV K (fun _ q => q) own_d16_6 (by decide) (by decide) (⟨rfl, _, H4⟩)
set_option maxRecDepth 65536 in
set_option maxHeartbeats 40000000 in
theorem own_ec_ef (m : MethodId) (x0 : Addr) (x1 : Int32) : entryFrame m #[(.ref x0), (.int x1)] 3 = mkF m 0 #[.val (.ref x0), .val (.int x1), .unset] [] := by first | (simp [entryFrame, mkF, argsToLocals, Value.category]; done) | rfl
set_option maxRecDepth 65536 in
set_option maxHeartbeats 40000000 in
theorem own_ec {l : Launch} {Z : State} {a0 : Array Value} (hw : own_Z Z a0) {h : Heap} {os : List own_O} {as : List own_A} {b y : Addr} {cnt : Int32} {vs : List Value} {m : Nat} (hv : vs.length = 16) (hm : m ≤ 16) (H : own_H Z h (own_SB b (.ref y) (.int (0 : Int32)) (.int cnt) :: os) ((y, .byte, "[B", vs) :: as)) : own_Met none l Z (⟨"java/lang/AbstractStringBuilder", "ensureCapacityInternal", "(I)V"⟩ : MethodName) jdk_68_method_9_code 3 none [] ({ frames := 0, cells := 0, slots := 0, locals := 0 } : Room) #[(.ref b), (.int (Int32.ofNat m))] h (fun v h' => v = none ∧ h = h') := by
  refine own_met (by first | exact plainFor_of_name (by decide +kernel) | decide +kernel) ?_
  intro p_ e_ s_ m_ below_ meth_ c_ K
  refine own_cast (own_ec_ef m_ _ _) ?_
  refine own_aloadN K own_d17_0 rfl rfl ?_
  refine own_getfield K own_d17_1 (host := "") (Or.inl (own_w79 hw)) Via.refl H (j := 0) rfl (q := 0) rfl ?_
  refine own_arraylength K own_d17_4 H (i := 0) rfl (N := (16 : Int32)) (by rw [hv]; rfl) ?_
  refine own_aloadN K own_d17_5 rfl rfl ?_
  refine own_getfield K own_d17_6 (host := "") (Or.inl (own_w81 hw)) Via.refl H (j := 0) rfl (q := 1) rfl ?_
  refine own_ishr K own_d17_9 ?_
  refine own_topI (x' := (16 : Int32)) (by decide) ?_
  refine own_istoreN K own_d17_10 (Ls' := #[.val (.ref b), .val (.int (Int32.ofNat m)), .val (.int (16 : Int32))]) rfl ?_
  refine own_iloadN K own_d17_11 rfl ?_
  refine own_iloadN K own_d17_12 rfl ?_
  refine own_isub K own_d17_13 ?_
  refine own_ifle K own_d17_14 (fun _ => ?_) (fun q => absurd (own_sle hm) q)
  exact own_retV K (fun _ q => q) own_d17_38 (by decide) (by decide) (⟨rfl, rfl⟩)
set_option maxRecDepth 65536 in
set_option maxHeartbeats 40000000 in
theorem own_il_ef (m : MethodId) (x0 : Addr) : entryFrame m #[(.ref x0)] 1 = mkF m 0 #[.val (.ref x0)] [] := by first | (simp [entryFrame, mkF, argsToLocals, Value.category]; done) | rfl
set_option maxRecDepth 65536 in
set_option maxHeartbeats 40000000 in
theorem own_il {l : Launch} {Z : State} {a0 : Array Value} (hw : own_Z Z a0) {h : Heap} {os : List own_O} {as : List own_A} {b y : Addr} {cnt cs : Int32} (hC : cs ≠ 0 ∧ Sta Z Z.heap "java/lang/String" "COMPACT_STRINGS" "Z" (.int cs)) (H : own_H Z h (own_SB b (.ref y) (.int (0 : Int32)) (.int cnt) :: os) as) : own_Met none l Z (⟨"java/lang/AbstractStringBuilder", "isLatin1", "()Z"⟩ : MethodName) jdk_68_method_68_code 1 (some .boolean) [] ({ frames := 0, cells := 0, slots := 0, locals := 0 } : Room) #[(.ref b)] h (fun v h' => v = some (.int (1 : Int32)) ∧ h = h') := by
  refine own_met (by first | exact plainFor_of_name (by decide +kernel) | decide +kernel) ?_
  intro p_ e_ s_ m_ below_ meth_ c_ K
  refine own_cast (own_il_ef m_ _) ?_
  refine own_getstatic K own_d18_0 (own_w78 hw) Via.refl (v := (.int cs)) (Sta.ext H.1 hC.2) ?_
  refine own_ifeq K own_d18_3 (fun q => absurd q (hC.1)) (fun _ => ?_)
  refine own_aloadN K own_d18_6 rfl rfl ?_
  refine own_getfield K own_d18_7 (host := "") (Or.inl (own_w81 hw)) Via.refl H (j := 0) rfl (q := 1) rfl ?_
  refine own_ifne K own_d18_10 (fun q => absurd q (by decide)) (fun _ => ?_)
  refine own_iconst K own_d18_13 (v := (1 : Int32)) rfl ?_
  refine own_goto K own_d18_14 ?_
  exact own_retZ K (fun _ q => q) (by first | exact Or.inl rfl | exact Or.inr rfl | decide) own_d18_18 (by decide) (by decide) (⟨rfl, rfl⟩)
set_option maxRecDepth 65536 in
set_option maxHeartbeats 40000000 in
theorem own_codS_ef (m : MethodId) (x0 : Addr) : entryFrame m #[(.ref x0)] 1 = mkF m 0 #[.val (.ref x0)] [] := by first | (simp [entryFrame, mkF, argsToLocals, Value.category]; done) | rfl
set_option maxRecDepth 65536 in
set_option maxHeartbeats 40000000 in
theorem own_codS {l : Launch} {Z : State} {a0 : Array Value} (hw : own_Z Z a0) {h : Heap} {os : List own_O} {as : List own_A} {a yw : Addr} {cs : Int32} (hC : cs ≠ 0 ∧ Sta Z Z.heap "java/lang/String" "COMPACT_STRINGS" "Z" (.int cs)) (H : own_H Z h (own_ST a (.ref yw) (.int (0 : Int32)) :: os) as) : own_Met none l Z (⟨"java/lang/String", "coder", "()B"⟩ : MethodName) jdk_42_method_152_code 1 (some .byte) [] ({ frames := 0, cells := 0, slots := 0, locals := 0 } : Room) #[(.ref a)] h (fun v h' => v = some (.int (0 : Int32)) ∧ h = h') := by
  refine own_met (by first | exact plainFor_of_name (by decide +kernel) | decide +kernel) ?_
  intro p_ e_ s_ m_ below_ meth_ c_ K
  refine own_cast (own_codS_ef m_ _) ?_
  refine own_getstatic K own_d6_0 (own_w18 hw) Via.refl (v := (.int cs)) (Sta.ext H.1 hC.2) ?_
  refine own_ifeq K own_d6_3 (fun q => absurd q (hC.1)) (fun _ => ?_)
  refine own_aloadN K own_d6_6 rfl rfl ?_
  refine own_getfield K own_d6_7 (host := "") (Or.inl (own_w30 hw)) Via.refl H (j := 0) rfl (q := 1) rfl ?_
  refine own_goto K own_d6_10 ?_
  exact own_retBy K (fun _ q => q) (rfl) own_d6_14 (by decide) (by decide) (⟨rfl, rfl⟩)
set_option maxRecDepth 65536 in
set_option maxHeartbeats 40000000 in
theorem own_lenS_ef (m : MethodId) (x0 : Addr) : entryFrame m #[(.ref x0)] 1 = mkF m 0 #[.val (.ref x0)] [] := by first | (simp [entryFrame, mkF, argsToLocals, Value.category]; done) | rfl
set_option maxRecDepth 65536 in
set_option maxHeartbeats 40000000 in
theorem own_lenS {l : Launch} {Z : State} {a0 : Array Value} (hw : own_Z Z a0) {h : Heap} {os : List own_O} {as : List own_A} {a yw : Addr} {ad : String} {cs : Int32} {ws : List Value} {L : Nat} (hC : cs ≠ 0 ∧ Sta Z Z.heap "java/lang/String" "COMPACT_STRINGS" "Z" (.int cs)) (hw1 : ws.length = L) (hL : L ≤ 16) (H : own_H Z h (own_ST a (.ref yw) (.int (0 : Int32)) :: os) ((yw, .byte, ad, ws) :: as)) : own_Met none l Z (⟨"java/lang/String", "length", "()I"⟩ : MethodName) jdk_42_method_54_code 1 (some .int) [] ({ frames := 1, cells := 0, slots := 0, locals := 13 } : Room) #[(.ref a)] h (fun v h' => v = some (.int (Int32.ofNat L)) ∧ h = h') := by
  refine own_met (by first | exact plainFor_of_name (by decide +kernel) | decide +kernel) ?_
  intro p_ e_ s_ m_ below_ meth_ c_ K
  refine own_cast (own_lenS_ef m_ _) ?_
  refine own_aloadN K own_d19_0 rfl rfl ?_
  refine own_getfield K own_d19_1 (host := "") (Or.inl (own_w32 hw)) Via.refl H (j := 0) rfl (q := 0) rfl ?_
  refine own_arraylength K own_d19_4 H (i := 0) rfl (N := (Int32.ofNat L)) (by rw [hw1]; exact own_on (by omega)) ?_
  refine own_aloadN K own_d19_5 rfl rfl ?_
  refine own_virtual K own_d19_6 (own_w98 hw) (own_w99 hw) (own_w101 hw) (own_w100 hw) (own_w6 hw) (own_w102 hw) (H.atO (i := 0) rfl) (a := a) (argsL := []) (rest := [(.int (Int32.ofNat L))]) (own_codS hw hC H) own_pd12 rfl rfl rfl (by decide) (W := 1) (Nat.le_of_eq rfl) (by decide) (by decide) (by decide) (by decide) ?_
  intro v3 h1 q2
  obtain ⟨rfl, rfl⟩ := q2
  refine own_ishr K own_d19_9 ?_
  refine own_topI (x' := (Int32.ofNat L)) (own_sh0 hL) ?_
  exact own_retI K (fun _ q => q) own_d19_10 (by decide) (by decide) (⟨rfl, rfl⟩)
set_option maxRecDepth 65536 in
set_option maxHeartbeats 40000000 in
theorem own_infS_ef (m : MethodId) (x0 : Addr) (x1 : Addr) : entryFrame m #[(.ref x0), (.ref x1)] 2 = mkF m 0 #[.val (.ref x0), .val (.ref x1)] [] := by first | (simp [entryFrame, mkF, argsToLocals, Value.category]; done) | rfl
set_option maxRecDepth 65536 in
set_option maxHeartbeats 40000000 in
theorem own_infS {l : Launch} {Z : State} {a0 : Array Value} (hw : own_Z Z a0) {h : Heap} {os : List own_O} {as : List own_A} {a b yw y : Addr} {ad : String} {cs : Int32} {vs ws : List Value} {c L : Nat} (hC : cs ≠ 0 ∧ Sta Z Z.heap "java/lang/String" "COMPACT_STRINGS" "Z" (.int cs)) (H : own_H Z h (own_ST a (.ref yw) (.int (0 : Int32)) :: own_SB b (.ref y) (.int (0 : Int32)) (.int (Int32.ofNat c)) :: os) ((yw, .byte, ad, ws) :: (y, .byte, "[B", vs) :: as)) : own_Met none l Z (⟨"java/lang/AbstractStringBuilder", "inflateIfNeededFor", "(Ljava/lang/String;)V"⟩ : MethodName) jdk_68_method_71_code 2 none [] ({ frames := 1, cells := 0, slots := 0, locals := 13 } : Room) #[(.ref b), (.ref a)] h (fun v h' => v = none ∧ h = h') := by
  refine own_met (by first | exact plainFor_of_name (by decide +kernel) | decide +kernel) ?_
  intro p_ e_ s_ m_ below_ meth_ c_ K
  refine own_cast (own_infS_ef m_ _ _) ?_
  refine own_getstatic K own_d20_0 (own_w78 hw) Via.refl (v := (.int cs)) (Sta.ext H.1 hC.2) ?_
  refine own_ifeq K own_d20_3 (fun q => absurd q (hC.1)) (fun _ => ?_)
  refine own_aloadN K own_d20_6 rfl rfl ?_
  refine own_getfield K own_d20_7 (host := "") (Or.inl (own_w81 hw)) Via.refl H (j := 1) rfl (q := 1) rfl ?_
  refine own_aloadN K own_d20_10 rfl rfl ?_
  refine own_virtual K own_d20_11 (own_w120 hw) (own_w99 hw) (own_w101 hw) (own_w100 hw) (own_w6 hw) (own_w102 hw) (H.atO (i := 0) rfl) (a := a) (argsL := []) (rest := [(.int (0 : Int32))]) (own_codS hw hC H) own_pd12 rfl rfl rfl (by decide) (W := 1) (Nat.le_of_eq rfl) (by decide) (by decide) (by decide) (by decide) ?_
  intro v3 h1 q2
  obtain ⟨rfl, rfl⟩ := q2
  refine own_icmpeq K own_d20_14 (fun _ => ?_) (fun q => absurd (by decide) q)
  exact own_retV K (fun _ q => q) own_d20_21 (by decide) (by decide) (⟨rfl, rfl⟩)
set_option maxRecDepth 65536 in
set_option maxHeartbeats 40000000 in
theorem own_gbS_ef (m : MethodId) (x0 : Addr) (x1 : Addr) (x2 : Int32) (x3 : Int32) : entryFrame m #[(.ref x0), (.ref x1), (.int x2), (.int x3)] 4 = mkF m 0 #[.val (.ref x0), .val (.ref x1), .val (.int x2), .val (.int x3)] [] := by first | (simp [entryFrame, mkF, argsToLocals, Value.category]; done) | rfl
set_option maxRecDepth 65536 in
set_option maxHeartbeats 40000000 in
theorem own_gbS {l : Launch} {Z : State} {a0 : Array Value} (hw : own_Z Z a0) {h : Heap} {os : List own_O} {as : List own_A} {a b yw y : Addr} {ad : String} {cs : Int32} {vs ws : List Value} {c L : Nat} (hC : cs ≠ 0 ∧ Sta Z Z.heap "java/lang/String" "COMPACT_STRINGS" "Z" (.int cs)) (hv : vs.length = 16) (hw1 : ws.length = L) (hL16 : c + L ≤ 16) (H : own_H Z h (own_ST a (.ref yw) (.int (0 : Int32)) :: os) ((yw, .byte, ad, ws) :: (y, .byte, "[B", vs) :: as)) : own_Met none l Z (⟨"java/lang/String", "getBytes", "([BIB)V"⟩ : MethodName) jdk_42_method_147_code 4 none [] ({ frames := 1, cells := 0, slots := 0, locals := 30 } : Room) #[(.ref a), (.ref y), (.int (Int32.ofNat c)), (.int (0 : Int32))] h (fun v h' => v = none ∧ own_H Z h' (own_ST a (.ref yw) (.int (0 : Int32)) :: os) ((yw, .byte, ad, ws) :: (y, .byte, "[B", (own_cp vs ws c L)) :: as)) := by
  refine own_met (by first | exact plainFor_of_name (by decide +kernel) | decide +kernel) ?_
  intro p_ e_ s_ m_ below_ meth_ c_ K
  refine own_cast (own_gbS_ef m_ _ _ _ _) ?_
  refine own_aloadN K own_d21_0 rfl rfl ?_
  refine own_virtual K own_d21_1 (own_w98 hw) (own_w99 hw) (own_w101 hw) (own_w100 hw) (own_w6 hw) (own_w102 hw) (H.atO (i := 0) rfl) (a := a) (argsL := []) (rest := []) (own_codS hw hC H) own_pd12 rfl rfl rfl (by decide) (W := 0) (Nat.le_of_eq rfl) (by decide) (by decide) (by decide) (by decide) ?_
  intro v3 h1 q2
  obtain ⟨rfl, rfl⟩ := q2
  refine own_iloadN K own_d21_4 rfl ?_
  refine own_icmpne K own_d21_5 (fun q => absurd q (by decide)) (fun _ => ?_)
  refine own_aloadN K own_d21_8 rfl rfl ?_
  refine own_getfield K own_d21_9 (host := "") (Or.inl (own_w32 hw)) Via.refl H (j := 0) rfl (q := 0) rfl ?_
  refine own_iconst K own_d21_12 (v := (0 : Int32)) rfl ?_
  refine own_aloadN K own_d21_13 rfl rfl ?_
  refine own_iloadN K own_d21_14 rfl ?_
  refine own_iloadN K own_d21_15 rfl ?_
  refine own_ishl K own_d21_16 ?_
  refine own_topI (x' := (Int32.ofNat c)) (own_shl0 (by omega)) ?_
  refine own_aloadN K own_d21_17 rfl rfl ?_
  refine own_getfield K own_d21_18 (host := "") (Or.inl (own_w32 hw)) Via.refl H (j := 0) rfl (q := 0) rfl ?_
  refine own_arraylength K own_d21_21 H (i := 0) rfl (N := (Int32.ofNat L)) (by rw [hw1]; exact own_on (by omega)) ?_
  refine own_arraycopy K own_d21_22 (own_w126 hw) (own_w129 hw) (own_w127 hw) (own_w128 hw) H (ia := 0) rfl (ib := 1) rfl rfl (by intro C q; cases q) (sq := 0) (by decide) (dq := c) (own_on (by omega)) (nq := L) (own_on (by omega)) (by omega) (by omega) (by omega) (by omega) rfl (by decide) (W := 0) (Nat.le_of_eq rfl) (by decide) ?_
  intro h4 H5
  replace H5 : own_H Z h4 (own_ST a (.ref yw) (.int (0 : Int32)) :: os) ((yw, .byte, ad, ws) :: (y, .byte, "[B", (own_cp vs ws c L)) :: as) := H5
  refine own_goto K own_d21_25 ?_
  exact own_retV K (fun _ q => q) own_d21_43 (by decide) (by decide) (⟨rfl, H5⟩)
set_option maxRecDepth 65536 in
set_option maxHeartbeats 40000000 in
theorem own_paS_ef (m : MethodId) (x0 : Addr) (x1 : Int32) (x2 : Addr) : entryFrame m #[(.ref x0), (.int x1), (.ref x2)] 3 = mkF m 0 #[.val (.ref x0), .val (.int x1), .val (.ref x2)] [] := by first | (simp [entryFrame, mkF, argsToLocals, Value.category]; done) | rfl
set_option maxRecDepth 65536 in
set_option maxHeartbeats 40000000 in
theorem own_paS {l : Launch} {Z : State} {a0 : Array Value} (hw : own_Z Z a0) {h : Heap} {os : List own_O} {as : List own_A} {a b yw y : Addr} {ad : String} {cs : Int32} {vs ws : List Value} {c L : Nat} (hC : cs ≠ 0 ∧ Sta Z Z.heap "java/lang/String" "COMPACT_STRINGS" "Z" (.int cs)) (hv : vs.length = 16) (hw1 : ws.length = L) (hL16 : c + L ≤ 16) (H : own_H Z h (own_ST a (.ref yw) (.int (0 : Int32)) :: own_SB b (.ref y) (.int (0 : Int32)) (.int (Int32.ofNat c)) :: os) ((yw, .byte, ad, ws) :: (y, .byte, "[B", vs) :: as)) : own_Met none l Z (⟨"java/lang/AbstractStringBuilder", "putStringAt", "(ILjava/lang/String;)V"⟩ : MethodName) jdk_68_method_73_code 3 none [] ({ frames := 2, cells := 0, slots := 0, locals := 45 } : Room) #[(.ref b), (.int (Int32.ofNat c)), (.ref a)] h (fun v h' => v = none ∧ own_H Z h' (own_ST a (.ref yw) (.int (0 : Int32)) :: own_SB b (.ref y) (.int (0 : Int32)) (.int (Int32.ofNat c)) :: os) ((yw, .byte, ad, ws) :: (y, .byte, "[B", (own_cp vs ws c L)) :: as)) := by
  refine own_met (by first | exact plainFor_of_name (by decide +kernel) | decide +kernel) ?_
  intro p_ e_ s_ m_ below_ meth_ c_ K
  refine own_cast (own_paS_ef m_ _ _ _) ?_
  refine own_aloadN K own_d22_0 rfl rfl ?_
  refine own_aloadN K own_d22_1 rfl rfl ?_
  refine own_private K own_d22_2 (own_w115 hw) (own_w117 hw) (own_selp0 hw) (own_w116 hw) (own_w75 hw) (own_w119 hw) (H.atO (i := 1) rfl) (a := b) (argsL := [(.ref a)]) (rest := []) (own_infS hw hC (L := L) H) own_pd13 rfl rfl rfl (by decide) (W := 0) (Nat.le_of_eq rfl) (by decide) (by decide) (by decide) (by decide) ?_
  intro v3 h1 q2
  obtain ⟨rfl, rfl⟩ := q2
  refine own_aloadN K own_d22_5 rfl rfl ?_
  refine own_aloadN K own_d22_6 rfl rfl ?_
  refine own_getfield K own_d22_7 (host := "") (Or.inl (own_w79 hw)) Via.refl H (j := 1) rfl (q := 0) rfl ?_
  refine own_iloadN K own_d22_10 rfl ?_
  refine own_aloadN K own_d22_11 rfl rfl ?_
  refine own_getfield K own_d22_12 (host := "") (Or.inl (own_w81 hw)) Via.refl H (j := 1) rfl (q := 1) rfl ?_
  refine own_virtual K own_d22_15 (own_w121 hw) (own_w122 hw) (own_w124 hw) (own_w123 hw) (own_w6 hw) (own_w125 hw) (H.atO (i := 0) rfl) (a := a) (argsL := [(.ref y), (.int (Int32.ofNat c)), (.int (0 : Int32))]) (rest := []) (own_gbS hw hC (b := b) hv hw1 hL16 H) own_pd14 rfl rfl rfl (by decide) (W := 0) (Nat.le_of_eq rfl) (by decide) (by decide) (by decide) (by decide) ?_
  intro v6 h4 q5
  obtain ⟨rfl, H7⟩ := q5
  replace H7 : own_H Z h4 (own_ST a (.ref yw) (.int (0 : Int32)) :: own_SB b (.ref y) (.int (0 : Int32)) (.int (Int32.ofNat c)) :: os) ((yw, .byte, ad, ws) :: (y, .byte, "[B", (own_cp vs ws c L)) :: as) := H7
  exact own_retV K (fun _ q => q) own_d22_18 (by decide) (by decide) (⟨rfl, H7⟩)
set_option maxRecDepth 65536 in
set_option maxHeartbeats 40000000 in
theorem own_asS_ef (m : MethodId) (x0 : Addr) (x1 : Addr) : entryFrame m #[(.ref x0), (.ref x1)] 3 = mkF m 0 #[.val (.ref x0), .val (.ref x1), .unset] [] := by first | (simp [entryFrame, mkF, argsToLocals, Value.category]; done) | rfl
set_option maxRecDepth 65536 in
set_option maxHeartbeats 40000000 in
theorem own_asS {l : Launch} {Z : State} {a0 : Array Value} (hw : own_Z Z a0) {h : Heap} {os : List own_O} {as : List own_A} {a b yw y : Addr} {ad : String} {cs : Int32} {vs ws : List Value} {c L : Nat} (hC : cs ≠ 0 ∧ Sta Z Z.heap "java/lang/String" "COMPACT_STRINGS" "Z" (.int cs)) (hv : vs.length = 16) (hw1 : ws.length = L) (hL16 : c + L ≤ 16) (H : own_H Z h (own_ST a (.ref yw) (.int (0 : Int32)) :: own_SB b (.ref y) (.int (0 : Int32)) (.int (Int32.ofNat c)) :: os) ((yw, .byte, ad, ws) :: (y, .byte, "[B", vs) :: as)) : own_Met none l Z (⟨"java/lang/AbstractStringBuilder", "append", "(Ljava/lang/String;)Ljava/lang/AbstractStringBuilder;"⟩ : MethodName) jdk_68_method_22_code 3 (some (.object "java/lang/AbstractStringBuilder")) [] ({ frames := 3, cells := 0, slots := 0, locals := 60 } : Room) #[(.ref b), (.ref a)] h (fun v h' => v = some (.ref b) ∧ own_H Z h' (own_ST a (.ref yw) (.int (0 : Int32)) :: own_SB b (.ref y) (.int (0 : Int32)) (.int (Int32.ofNat (c + L))) :: os) ((yw, .byte, ad, ws) :: (y, .byte, "[B", (own_cp vs ws c L)) :: as)) := by
  refine own_met (by first | exact plainFor_of_name (by decide +kernel) | decide +kernel) ?_
  intro p_ e_ s_ m_ below_ meth_ c_ K
  refine own_cast (own_asS_ef m_ _ _) ?_
  refine own_aloadN K own_d23_0 rfl rfl ?_
  refine own_ifnonnullR K own_d23_1 ?_
  refine own_aloadN K own_d23_9 rfl rfl ?_
  refine own_virtual K own_d23_10 (own_w93 hw) (own_w94 hw) (own_w96 hw) (own_w95 hw) (own_w6 hw) (own_w97 hw) (H.atO (i := 0) rfl) (a := a) (argsL := []) (rest := []) (own_lenS hw hC hw1 (by omega) H) own_pd15 rfl rfl rfl (by decide) (W := 0) (Nat.le_of_eq rfl) (by decide) (by decide) (by decide) (by decide) ?_
  intro v3 h1 q2
  obtain ⟨rfl, rfl⟩ := q2
  refine own_istoreN K own_d23_13 (Ls' := #[.val (.ref b), .val (.ref a), .val (.int (Int32.ofNat L))]) rfl ?_
  refine own_aloadN K own_d23_14 rfl rfl ?_
  refine own_aloadN K own_d23_15 rfl rfl ?_
  refine own_getfield K own_d23_16 (host := "") (Or.inl (own_w103 hw)) Via.refl H (j := 1) rfl (q := 2) rfl ?_
  refine own_iloadN K own_d23_19 rfl ?_
  refine own_iadd K own_d23_20 ?_
  refine own_topI (x' := (Int32.ofNat (c + L))) (own_oa (by omega) (by omega)) ?_
  have H4 := H.frontO 1 rfl
  have H5 := H4.frontA 1 rfl
  refine own_private K own_d23_21 (own_w105 hw) (own_w107 hw) (own_selp1 hw) (own_w106 hw) (own_w75 hw) (own_w109 hw) (H.atO (i := 1) rfl) (a := b) (argsL := [(.int (Int32.ofNat (c + L)))]) (rest := []) (own_ec hw hv (m := c + L) hL16 H5) own_pd11 rfl rfl rfl (by decide) (W := 0) (Nat.le_of_eq rfl) (by decide) (by decide) (by decide) (by decide) ?_
  intro v8 h6 q7
  obtain ⟨rfl, rfl⟩ := q7
  refine own_aloadN K own_d23_24 rfl rfl ?_
  refine own_aloadN K own_d23_25 rfl rfl ?_
  refine own_getfield K own_d23_26 (host := "") (Or.inl (own_w103 hw)) Via.refl H (j := 1) rfl (q := 2) rfl ?_
  refine own_aloadN K own_d23_29 rfl rfl ?_
  refine own_private K own_d23_30 (own_w110 hw) (own_w112 hw) (own_selp2 hw) (own_w111 hw) (own_w75 hw) (own_w114 hw) (H.atO (i := 1) rfl) (a := b) (argsL := [(.int (Int32.ofNat c)), (.ref a)]) (rest := []) (own_paS hw hC hv hw1 hL16 H) own_pd16 rfl rfl rfl (by decide) (W := 0) (Nat.le_of_eq rfl) (by decide) (by decide) (by decide) (by decide) ?_
  intro v11 h9 q10
  obtain ⟨rfl, H12⟩ := q10
  replace H12 : own_H Z h9 (own_ST a (.ref yw) (.int (0 : Int32)) :: own_SB b (.ref y) (.int (0 : Int32)) (.int (Int32.ofNat c)) :: os) ((yw, .byte, ad, ws) :: (y, .byte, "[B", (own_cp vs ws c L)) :: as) := H12
  refine own_aloadN K own_d23_33 rfl rfl ?_
  refine own_dup K own_d23_34 rfl ?_
  refine own_getfield K own_d23_35 (host := "") (Or.inl (own_w103 hw)) Via.refl H12 (j := 1) rfl (q := 2) rfl ?_
  refine own_iloadN K own_d23_38 rfl ?_
  refine own_iadd K own_d23_39 ?_
  refine own_topI (x' := (Int32.ofNat (c + L))) (own_oa (by omega) (by omega)) ?_
  refine own_putfield K own_d23_40 (host := "") (Or.inl (own_w103 hw)) Via.refl H12 (j := 1) rfl (q := 2) rfl (Or.inl (own_w104 hw)) (own_w66 hw) (ty := .int) (by decide +kernel) (rfl) (rfl) ?_
  intro h13 H14
  replace H14 : own_H Z h13 (own_ST a (.ref yw) (.int (0 : Int32)) :: own_SB b (.ref y) (.int (0 : Int32)) (.int (Int32.ofNat (c + L))) :: os) ((yw, .byte, ad, ws) :: (y, .byte, "[B", (own_cp vs ws c L)) :: as) := H14
  refine own_aloadN K own_d23_43 rfl rfl ?_
  exact own_retA K (fun _ q => q) rfl rfl own_d23_44 (by decide) (by decide) (⟨rfl, H14⟩)
set_option maxRecDepth 65536 in
set_option maxHeartbeats 40000000 in
theorem own_ssS_ef (m : MethodId) (x0 : Addr) (x1 : Addr) : entryFrame m #[(.ref x0), (.ref x1)] 2 = mkF m 0 #[.val (.ref x0), .val (.ref x1)] [] := by first | (simp [entryFrame, mkF, argsToLocals, Value.category]; done) | rfl
set_option maxRecDepth 65536 in
set_option maxHeartbeats 40000000 in
theorem own_ssS {l : Launch} {Z : State} {a0 : Array Value} (hw : own_Z Z a0) {h : Heap} {os : List own_O} {as : List own_A} {a b yw y : Addr} {ad : String} {cs : Int32} {vs ws : List Value} {c L : Nat} (hC : cs ≠ 0 ∧ Sta Z Z.heap "java/lang/String" "COMPACT_STRINGS" "Z" (.int cs)) (hv : vs.length = 16) (hw1 : ws.length = L) (hL16 : c + L ≤ 16) (H : own_H Z h (own_ST a (.ref yw) (.int (0 : Int32)) :: own_SB b (.ref y) (.int (0 : Int32)) (.int (Int32.ofNat c)) :: os) ((yw, .byte, ad, ws) :: (y, .byte, "[B", vs) :: as)) : own_Met none l Z (⟨"java/lang/StringBuilder", "append", "(Ljava/lang/String;)Ljava/lang/StringBuilder;"⟩ : MethodName) jdk_67_method_7_code 2 (some (.object "java/lang/StringBuilder")) [] ({ frames := 4, cells := 0, slots := 0, locals := 75 } : Room) #[(.ref b), (.ref a)] h (fun v h' => v = some (.ref b) ∧ own_H Z h' (own_ST a (.ref yw) (.int (0 : Int32)) :: own_SB b (.ref y) (.int (0 : Int32)) (.int (Int32.ofNat (c + L))) :: os) ((yw, .byte, ad, ws) :: (y, .byte, "[B", (own_cp vs ws c L)) :: as)) := by
  refine own_met (by first | exact plainFor_of_name (by decide +kernel) | decide +kernel) ?_
  intro p_ e_ s_ m_ below_ meth_ c_ K
  refine own_cast (own_ssS_ef m_ _ _) ?_
  refine own_aloadN K own_d24_0 rfl rfl ?_
  refine own_aloadN K own_d24_1 rfl rfl ?_
  refine own_super K own_d24_2 (own_w88 hw) (own_same (y := ({ cls := "java/lang/AbstractStringBuilder", name := "append", desc := "(Ljava/lang/String;)Ljava/lang/AbstractStringBuilder;" } : Jvm.MethodName)) (own_w89 hw) (own_w108 hw) rfl (by decide)) (own_w89 hw) (own_w90 hw) (own_w75 hw) (own_w92 hw) (by decide) (Ins.self (H.atO (i := 1) rfl)) (a := b) (argsL := [(.ref a)]) (rest := []) (own_asS hw hC hv hw1 hL16 H) own_pd17 rfl rfl rfl (W := 0) (Nat.le_of_eq rfl) (by decide) (by decide) (by decide) (by decide) ?_
  intro v3 h1 q2
  obtain ⟨rfl, H4⟩ := q2
  replace H4 : own_H Z h1 (own_ST a (.ref yw) (.int (0 : Int32)) :: own_SB b (.ref y) (.int (0 : Int32)) (.int (Int32.ofNat (c + L))) :: os) ((yw, .byte, ad, ws) :: (y, .byte, "[B", (own_cp vs ws c L)) :: as) := H4
  refine own_pop K own_d24_5 rfl ?_
  refine own_aloadN K own_d24_6 rfl rfl ?_
  exact own_retA K (fun _ q => q) rfl rfl own_d24_7 (by decide) (by decide) (⟨rfl, H4⟩)
set_option maxRecDepth 65536 in
set_option maxHeartbeats 40000000 in
theorem own_codR_ef (m : MethodId) (x0 : Addr) : entryFrame m #[(.ref x0)] 1 = mkF m 0 #[.val (.ref x0)] [] := by first | (simp [entryFrame, mkF, argsToLocals, Value.category]; done) | rfl
set_option maxRecDepth 65536 in
set_option maxHeartbeats 40000000 in
theorem own_codR {l : Launch} {Z : State} {a0 : Array Value} (hw : own_Z Z a0) {h : Heap} {os : List own_O} {as : List own_A} {a yw : Addr} {cs : Int32} (hC : cs ≠ 0 ∧ Sta Z Z.heap "java/lang/String" "COMPACT_STRINGS" "Z" (.int cs)) (H : own_H Z h (own_SR a (.int (0 : Int32)) (.ref yw) :: os) as) : own_Met none l Z (⟨"java/lang/String", "coder", "()B"⟩ : MethodName) jdk_42_method_152_code 1 (some .byte) [] ({ frames := 0, cells := 0, slots := 0, locals := 0 } : Room) #[(.ref a)] h (fun v h' => v = some (.int (0 : Int32)) ∧ h = h') := by
  refine own_met (by first | exact plainFor_of_name (by decide +kernel) | decide +kernel) ?_
  intro p_ e_ s_ m_ below_ meth_ c_ K
  refine own_cast (own_codR_ef m_ _) ?_
  refine own_getstatic K own_d6_0 (own_w18 hw) Via.refl (v := (.int cs)) (Sta.ext H.1 hC.2) ?_
  refine own_ifeq K own_d6_3 (fun q => absurd q (hC.1)) (fun _ => ?_)
  refine own_aloadN K own_d6_6 rfl rfl ?_
  refine own_getfield K own_d6_7 (host := "") (Or.inl (own_w30 hw)) Via.refl H (j := 0) rfl (q := 0) rfl ?_
  refine own_goto K own_d6_10 ?_
  exact own_retBy K (fun _ q => q) (rfl) own_d6_14 (by decide) (by decide) (⟨rfl, rfl⟩)
set_option maxRecDepth 65536 in
set_option maxHeartbeats 40000000 in
theorem own_lenR_ef (m : MethodId) (x0 : Addr) : entryFrame m #[(.ref x0)] 1 = mkF m 0 #[.val (.ref x0)] [] := by first | (simp [entryFrame, mkF, argsToLocals, Value.category]; done) | rfl
set_option maxRecDepth 65536 in
set_option maxHeartbeats 40000000 in
theorem own_lenR {l : Launch} {Z : State} {a0 : Array Value} (hw : own_Z Z a0) {h : Heap} {os : List own_O} {as : List own_A} {a yw : Addr} {ad : String} {cs : Int32} {ws : List Value} {L : Nat} (hC : cs ≠ 0 ∧ Sta Z Z.heap "java/lang/String" "COMPACT_STRINGS" "Z" (.int cs)) (hw1 : ws.length = L) (hL : L ≤ 16) (H : own_H Z h (own_SR a (.int (0 : Int32)) (.ref yw) :: os) ((yw, .byte, ad, ws) :: as)) : own_Met none l Z (⟨"java/lang/String", "length", "()I"⟩ : MethodName) jdk_42_method_54_code 1 (some .int) [] ({ frames := 1, cells := 0, slots := 0, locals := 13 } : Room) #[(.ref a)] h (fun v h' => v = some (.int (Int32.ofNat L)) ∧ h = h') := by
  refine own_met (by first | exact plainFor_of_name (by decide +kernel) | decide +kernel) ?_
  intro p_ e_ s_ m_ below_ meth_ c_ K
  refine own_cast (own_lenR_ef m_ _) ?_
  refine own_aloadN K own_d19_0 rfl rfl ?_
  refine own_getfield K own_d19_1 (host := "") (Or.inl (own_w32 hw)) Via.refl H (j := 0) rfl (q := 1) rfl ?_
  refine own_arraylength K own_d19_4 H (i := 0) rfl (N := (Int32.ofNat L)) (by rw [hw1]; exact own_on (by omega)) ?_
  refine own_aloadN K own_d19_5 rfl rfl ?_
  refine own_virtual K own_d19_6 (own_w98 hw) (own_w99 hw) (own_w101 hw) (own_w100 hw) (own_w6 hw) (own_w102 hw) (H.atO (i := 0) rfl) (a := a) (argsL := []) (rest := [(.int (Int32.ofNat L))]) (own_codR hw hC H) own_pd12 rfl rfl rfl (by decide) (W := 1) (Nat.le_of_eq rfl) (by decide) (by decide) (by decide) (by decide) ?_
  intro v3 h1 q2
  obtain ⟨rfl, rfl⟩ := q2
  refine own_ishr K own_d19_9 ?_
  refine own_topI (x' := (Int32.ofNat L)) (own_sh0 hL) ?_
  exact own_retI K (fun _ q => q) own_d19_10 (by decide) (by decide) (⟨rfl, rfl⟩)
set_option maxRecDepth 65536 in
set_option maxHeartbeats 40000000 in
theorem own_infR_ef (m : MethodId) (x0 : Addr) (x1 : Addr) : entryFrame m #[(.ref x0), (.ref x1)] 2 = mkF m 0 #[.val (.ref x0), .val (.ref x1)] [] := by first | (simp [entryFrame, mkF, argsToLocals, Value.category]; done) | rfl
set_option maxRecDepth 65536 in
set_option maxHeartbeats 40000000 in
theorem own_infR {l : Launch} {Z : State} {a0 : Array Value} (hw : own_Z Z a0) {h : Heap} {os : List own_O} {as : List own_A} {a b yw y : Addr} {ad : String} {cs : Int32} {vs ws : List Value} {c L : Nat} (hC : cs ≠ 0 ∧ Sta Z Z.heap "java/lang/String" "COMPACT_STRINGS" "Z" (.int cs)) (H : own_H Z h (own_SR a (.int (0 : Int32)) (.ref yw) :: own_SB b (.ref y) (.int (0 : Int32)) (.int (Int32.ofNat c)) :: os) ((yw, .byte, ad, ws) :: (y, .byte, "[B", vs) :: as)) : own_Met none l Z (⟨"java/lang/AbstractStringBuilder", "inflateIfNeededFor", "(Ljava/lang/String;)V"⟩ : MethodName) jdk_68_method_71_code 2 none [] ({ frames := 1, cells := 0, slots := 0, locals := 13 } : Room) #[(.ref b), (.ref a)] h (fun v h' => v = none ∧ h = h') := by
  refine own_met (by first | exact plainFor_of_name (by decide +kernel) | decide +kernel) ?_
  intro p_ e_ s_ m_ below_ meth_ c_ K
  refine own_cast (own_infR_ef m_ _ _) ?_
  refine own_getstatic K own_d20_0 (own_w78 hw) Via.refl (v := (.int cs)) (Sta.ext H.1 hC.2) ?_
  refine own_ifeq K own_d20_3 (fun q => absurd q (hC.1)) (fun _ => ?_)
  refine own_aloadN K own_d20_6 rfl rfl ?_
  refine own_getfield K own_d20_7 (host := "") (Or.inl (own_w81 hw)) Via.refl H (j := 1) rfl (q := 1) rfl ?_
  refine own_aloadN K own_d20_10 rfl rfl ?_
  refine own_virtual K own_d20_11 (own_w120 hw) (own_w99 hw) (own_w101 hw) (own_w100 hw) (own_w6 hw) (own_w102 hw) (H.atO (i := 0) rfl) (a := a) (argsL := []) (rest := [(.int (0 : Int32))]) (own_codR hw hC H) own_pd12 rfl rfl rfl (by decide) (W := 1) (Nat.le_of_eq rfl) (by decide) (by decide) (by decide) (by decide) ?_
  intro v3 h1 q2
  obtain ⟨rfl, rfl⟩ := q2
  refine own_icmpeq K own_d20_14 (fun _ => ?_) (fun q => absurd (by decide) q)
  exact own_retV K (fun _ q => q) own_d20_21 (by decide) (by decide) (⟨rfl, rfl⟩)
set_option maxRecDepth 65536 in
set_option maxHeartbeats 40000000 in
theorem own_gbR_ef (m : MethodId) (x0 : Addr) (x1 : Addr) (x2 : Int32) (x3 : Int32) : entryFrame m #[(.ref x0), (.ref x1), (.int x2), (.int x3)] 4 = mkF m 0 #[.val (.ref x0), .val (.ref x1), .val (.int x2), .val (.int x3)] [] := by first | (simp [entryFrame, mkF, argsToLocals, Value.category]; done) | rfl
set_option maxRecDepth 65536 in
set_option maxHeartbeats 40000000 in
theorem own_gbR {l : Launch} {Z : State} {a0 : Array Value} (hw : own_Z Z a0) {h : Heap} {os : List own_O} {as : List own_A} {a b yw y : Addr} {ad : String} {cs : Int32} {vs ws : List Value} {c L : Nat} (hC : cs ≠ 0 ∧ Sta Z Z.heap "java/lang/String" "COMPACT_STRINGS" "Z" (.int cs)) (hv : vs.length = 16) (hw1 : ws.length = L) (hL16 : c + L ≤ 16) (H : own_H Z h (own_SR a (.int (0 : Int32)) (.ref yw) :: os) ((yw, .byte, ad, ws) :: (y, .byte, "[B", vs) :: as)) : own_Met none l Z (⟨"java/lang/String", "getBytes", "([BIB)V"⟩ : MethodName) jdk_42_method_147_code 4 none [] ({ frames := 1, cells := 0, slots := 0, locals := 30 } : Room) #[(.ref a), (.ref y), (.int (Int32.ofNat c)), (.int (0 : Int32))] h (fun v h' => v = none ∧ own_H Z h' (own_SR a (.int (0 : Int32)) (.ref yw) :: os) ((yw, .byte, ad, ws) :: (y, .byte, "[B", (own_cp vs ws c L)) :: as)) := by
  refine own_met (by first | exact plainFor_of_name (by decide +kernel) | decide +kernel) ?_
  intro p_ e_ s_ m_ below_ meth_ c_ K
  refine own_cast (own_gbR_ef m_ _ _ _ _) ?_
  refine own_aloadN K own_d21_0 rfl rfl ?_
  refine own_virtual K own_d21_1 (own_w98 hw) (own_w99 hw) (own_w101 hw) (own_w100 hw) (own_w6 hw) (own_w102 hw) (H.atO (i := 0) rfl) (a := a) (argsL := []) (rest := []) (own_codR hw hC H) own_pd12 rfl rfl rfl (by decide) (W := 0) (Nat.le_of_eq rfl) (by decide) (by decide) (by decide) (by decide) ?_
  intro v3 h1 q2
  obtain ⟨rfl, rfl⟩ := q2
  refine own_iloadN K own_d21_4 rfl ?_
  refine own_icmpne K own_d21_5 (fun q => absurd q (by decide)) (fun _ => ?_)
  refine own_aloadN K own_d21_8 rfl rfl ?_
  refine own_getfield K own_d21_9 (host := "") (Or.inl (own_w32 hw)) Via.refl H (j := 0) rfl (q := 1) rfl ?_
  refine own_iconst K own_d21_12 (v := (0 : Int32)) rfl ?_
  refine own_aloadN K own_d21_13 rfl rfl ?_
  refine own_iloadN K own_d21_14 rfl ?_
  refine own_iloadN K own_d21_15 rfl ?_
  refine own_ishl K own_d21_16 ?_
  refine own_topI (x' := (Int32.ofNat c)) (own_shl0 (by omega)) ?_
  refine own_aloadN K own_d21_17 rfl rfl ?_
  refine own_getfield K own_d21_18 (host := "") (Or.inl (own_w32 hw)) Via.refl H (j := 0) rfl (q := 1) rfl ?_
  refine own_arraylength K own_d21_21 H (i := 0) rfl (N := (Int32.ofNat L)) (by rw [hw1]; exact own_on (by omega)) ?_
  refine own_arraycopy K own_d21_22 (own_w126 hw) (own_w129 hw) (own_w127 hw) (own_w128 hw) H (ia := 0) rfl (ib := 1) rfl rfl (by intro C q; cases q) (sq := 0) (by decide) (dq := c) (own_on (by omega)) (nq := L) (own_on (by omega)) (by omega) (by omega) (by omega) (by omega) rfl (by decide) (W := 0) (Nat.le_of_eq rfl) (by decide) ?_
  intro h4 H5
  replace H5 : own_H Z h4 (own_SR a (.int (0 : Int32)) (.ref yw) :: os) ((yw, .byte, ad, ws) :: (y, .byte, "[B", (own_cp vs ws c L)) :: as) := H5
  refine own_goto K own_d21_25 ?_
  exact own_retV K (fun _ q => q) own_d21_43 (by decide) (by decide) (⟨rfl, H5⟩)
set_option maxRecDepth 65536 in
set_option maxHeartbeats 40000000 in
theorem own_paR_ef (m : MethodId) (x0 : Addr) (x1 : Int32) (x2 : Addr) : entryFrame m #[(.ref x0), (.int x1), (.ref x2)] 3 = mkF m 0 #[.val (.ref x0), .val (.int x1), .val (.ref x2)] [] := by first | (simp [entryFrame, mkF, argsToLocals, Value.category]; done) | rfl
set_option maxRecDepth 65536 in
set_option maxHeartbeats 40000000 in
theorem own_paR {l : Launch} {Z : State} {a0 : Array Value} (hw : own_Z Z a0) {h : Heap} {os : List own_O} {as : List own_A} {a b yw y : Addr} {ad : String} {cs : Int32} {vs ws : List Value} {c L : Nat} (hC : cs ≠ 0 ∧ Sta Z Z.heap "java/lang/String" "COMPACT_STRINGS" "Z" (.int cs)) (hv : vs.length = 16) (hw1 : ws.length = L) (hL16 : c + L ≤ 16) (H : own_H Z h (own_SR a (.int (0 : Int32)) (.ref yw) :: own_SB b (.ref y) (.int (0 : Int32)) (.int (Int32.ofNat c)) :: os) ((yw, .byte, ad, ws) :: (y, .byte, "[B", vs) :: as)) : own_Met none l Z (⟨"java/lang/AbstractStringBuilder", "putStringAt", "(ILjava/lang/String;)V"⟩ : MethodName) jdk_68_method_73_code 3 none [] ({ frames := 2, cells := 0, slots := 0, locals := 45 } : Room) #[(.ref b), (.int (Int32.ofNat c)), (.ref a)] h (fun v h' => v = none ∧ own_H Z h' (own_SR a (.int (0 : Int32)) (.ref yw) :: own_SB b (.ref y) (.int (0 : Int32)) (.int (Int32.ofNat c)) :: os) ((yw, .byte, ad, ws) :: (y, .byte, "[B", (own_cp vs ws c L)) :: as)) := by
  refine own_met (by first | exact plainFor_of_name (by decide +kernel) | decide +kernel) ?_
  intro p_ e_ s_ m_ below_ meth_ c_ K
  refine own_cast (own_paR_ef m_ _ _ _) ?_
  refine own_aloadN K own_d22_0 rfl rfl ?_
  refine own_aloadN K own_d22_1 rfl rfl ?_
  refine own_private K own_d22_2 (own_w115 hw) (own_w117 hw) (own_selp0 hw) (own_w116 hw) (own_w75 hw) (own_w119 hw) (H.atO (i := 1) rfl) (a := b) (argsL := [(.ref a)]) (rest := []) (own_infR hw hC (L := L) H) own_pd13 rfl rfl rfl (by decide) (W := 0) (Nat.le_of_eq rfl) (by decide) (by decide) (by decide) (by decide) ?_
  intro v3 h1 q2
  obtain ⟨rfl, rfl⟩ := q2
  refine own_aloadN K own_d22_5 rfl rfl ?_
  refine own_aloadN K own_d22_6 rfl rfl ?_
  refine own_getfield K own_d22_7 (host := "") (Or.inl (own_w79 hw)) Via.refl H (j := 1) rfl (q := 0) rfl ?_
  refine own_iloadN K own_d22_10 rfl ?_
  refine own_aloadN K own_d22_11 rfl rfl ?_
  refine own_getfield K own_d22_12 (host := "") (Or.inl (own_w81 hw)) Via.refl H (j := 1) rfl (q := 1) rfl ?_
  refine own_virtual K own_d22_15 (own_w121 hw) (own_w122 hw) (own_w124 hw) (own_w123 hw) (own_w6 hw) (own_w125 hw) (H.atO (i := 0) rfl) (a := a) (argsL := [(.ref y), (.int (Int32.ofNat c)), (.int (0 : Int32))]) (rest := []) (own_gbR hw hC (b := b) hv hw1 hL16 H) own_pd14 rfl rfl rfl (by decide) (W := 0) (Nat.le_of_eq rfl) (by decide) (by decide) (by decide) (by decide) ?_
  intro v6 h4 q5
  obtain ⟨rfl, H7⟩ := q5
  replace H7 : own_H Z h4 (own_SR a (.int (0 : Int32)) (.ref yw) :: own_SB b (.ref y) (.int (0 : Int32)) (.int (Int32.ofNat c)) :: os) ((yw, .byte, ad, ws) :: (y, .byte, "[B", (own_cp vs ws c L)) :: as) := H7
  exact own_retV K (fun _ q => q) own_d22_18 (by decide) (by decide) (⟨rfl, H7⟩)
set_option maxRecDepth 65536 in
set_option maxHeartbeats 40000000 in
theorem own_asR_ef (m : MethodId) (x0 : Addr) (x1 : Addr) : entryFrame m #[(.ref x0), (.ref x1)] 3 = mkF m 0 #[.val (.ref x0), .val (.ref x1), .unset] [] := by first | (simp [entryFrame, mkF, argsToLocals, Value.category]; done) | rfl
set_option maxRecDepth 65536 in
set_option maxHeartbeats 40000000 in
theorem own_asR {l : Launch} {Z : State} {a0 : Array Value} (hw : own_Z Z a0) {h : Heap} {os : List own_O} {as : List own_A} {a b yw y : Addr} {ad : String} {cs : Int32} {vs ws : List Value} {c L : Nat} (hC : cs ≠ 0 ∧ Sta Z Z.heap "java/lang/String" "COMPACT_STRINGS" "Z" (.int cs)) (hv : vs.length = 16) (hw1 : ws.length = L) (hL16 : c + L ≤ 16) (H : own_H Z h (own_SR a (.int (0 : Int32)) (.ref yw) :: own_SB b (.ref y) (.int (0 : Int32)) (.int (Int32.ofNat c)) :: os) ((yw, .byte, ad, ws) :: (y, .byte, "[B", vs) :: as)) : own_Met none l Z (⟨"java/lang/AbstractStringBuilder", "append", "(Ljava/lang/String;)Ljava/lang/AbstractStringBuilder;"⟩ : MethodName) jdk_68_method_22_code 3 (some (.object "java/lang/AbstractStringBuilder")) [] ({ frames := 3, cells := 0, slots := 0, locals := 60 } : Room) #[(.ref b), (.ref a)] h (fun v h' => v = some (.ref b) ∧ own_H Z h' (own_SR a (.int (0 : Int32)) (.ref yw) :: own_SB b (.ref y) (.int (0 : Int32)) (.int (Int32.ofNat (c + L))) :: os) ((yw, .byte, ad, ws) :: (y, .byte, "[B", (own_cp vs ws c L)) :: as)) := by
  refine own_met (by first | exact plainFor_of_name (by decide +kernel) | decide +kernel) ?_
  intro p_ e_ s_ m_ below_ meth_ c_ K
  refine own_cast (own_asR_ef m_ _ _) ?_
  refine own_aloadN K own_d23_0 rfl rfl ?_
  refine own_ifnonnullR K own_d23_1 ?_
  refine own_aloadN K own_d23_9 rfl rfl ?_
  refine own_virtual K own_d23_10 (own_w93 hw) (own_w94 hw) (own_w96 hw) (own_w95 hw) (own_w6 hw) (own_w97 hw) (H.atO (i := 0) rfl) (a := a) (argsL := []) (rest := []) (own_lenR hw hC hw1 (by omega) H) own_pd15 rfl rfl rfl (by decide) (W := 0) (Nat.le_of_eq rfl) (by decide) (by decide) (by decide) (by decide) ?_
  intro v3 h1 q2
  obtain ⟨rfl, rfl⟩ := q2
  refine own_istoreN K own_d23_13 (Ls' := #[.val (.ref b), .val (.ref a), .val (.int (Int32.ofNat L))]) rfl ?_
  refine own_aloadN K own_d23_14 rfl rfl ?_
  refine own_aloadN K own_d23_15 rfl rfl ?_
  refine own_getfield K own_d23_16 (host := "") (Or.inl (own_w103 hw)) Via.refl H (j := 1) rfl (q := 2) rfl ?_
  refine own_iloadN K own_d23_19 rfl ?_
  refine own_iadd K own_d23_20 ?_
  refine own_topI (x' := (Int32.ofNat (c + L))) (own_oa (by omega) (by omega)) ?_
  have H4 := H.frontO 1 rfl
  have H5 := H4.frontA 1 rfl
  refine own_private K own_d23_21 (own_w105 hw) (own_w107 hw) (own_selp1 hw) (own_w106 hw) (own_w75 hw) (own_w109 hw) (H.atO (i := 1) rfl) (a := b) (argsL := [(.int (Int32.ofNat (c + L)))]) (rest := []) (own_ec hw hv (m := c + L) hL16 H5) own_pd11 rfl rfl rfl (by decide) (W := 0) (Nat.le_of_eq rfl) (by decide) (by decide) (by decide) (by decide) ?_
  intro v8 h6 q7
  obtain ⟨rfl, rfl⟩ := q7
  refine own_aloadN K own_d23_24 rfl rfl ?_
  refine own_aloadN K own_d23_25 rfl rfl ?_
  refine own_getfield K own_d23_26 (host := "") (Or.inl (own_w103 hw)) Via.refl H (j := 1) rfl (q := 2) rfl ?_
  refine own_aloadN K own_d23_29 rfl rfl ?_
  refine own_private K own_d23_30 (own_w110 hw) (own_w112 hw) (own_selp2 hw) (own_w111 hw) (own_w75 hw) (own_w114 hw) (H.atO (i := 1) rfl) (a := b) (argsL := [(.int (Int32.ofNat c)), (.ref a)]) (rest := []) (own_paR hw hC hv hw1 hL16 H) own_pd16 rfl rfl rfl (by decide) (W := 0) (Nat.le_of_eq rfl) (by decide) (by decide) (by decide) (by decide) ?_
  intro v11 h9 q10
  obtain ⟨rfl, H12⟩ := q10
  replace H12 : own_H Z h9 (own_SR a (.int (0 : Int32)) (.ref yw) :: own_SB b (.ref y) (.int (0 : Int32)) (.int (Int32.ofNat c)) :: os) ((yw, .byte, ad, ws) :: (y, .byte, "[B", (own_cp vs ws c L)) :: as) := H12
  refine own_aloadN K own_d23_33 rfl rfl ?_
  refine own_dup K own_d23_34 rfl ?_
  refine own_getfield K own_d23_35 (host := "") (Or.inl (own_w103 hw)) Via.refl H12 (j := 1) rfl (q := 2) rfl ?_
  refine own_iloadN K own_d23_38 rfl ?_
  refine own_iadd K own_d23_39 ?_
  refine own_topI (x' := (Int32.ofNat (c + L))) (own_oa (by omega) (by omega)) ?_
  refine own_putfield K own_d23_40 (host := "") (Or.inl (own_w103 hw)) Via.refl H12 (j := 1) rfl (q := 2) rfl (Or.inl (own_w104 hw)) (own_w66 hw) (ty := .int) (by decide +kernel) (rfl) (rfl) ?_
  intro h13 H14
  replace H14 : own_H Z h13 (own_SR a (.int (0 : Int32)) (.ref yw) :: own_SB b (.ref y) (.int (0 : Int32)) (.int (Int32.ofNat (c + L))) :: os) ((yw, .byte, ad, ws) :: (y, .byte, "[B", (own_cp vs ws c L)) :: as) := H14
  refine own_aloadN K own_d23_43 rfl rfl ?_
  exact own_retA K (fun _ q => q) rfl rfl own_d23_44 (by decide) (by decide) (⟨rfl, H14⟩)
set_option maxRecDepth 65536 in
set_option maxHeartbeats 40000000 in
theorem own_ssR_ef (m : MethodId) (x0 : Addr) (x1 : Addr) : entryFrame m #[(.ref x0), (.ref x1)] 2 = mkF m 0 #[.val (.ref x0), .val (.ref x1)] [] := by first | (simp [entryFrame, mkF, argsToLocals, Value.category]; done) | rfl
set_option maxRecDepth 65536 in
set_option maxHeartbeats 40000000 in
theorem own_ssR {l : Launch} {Z : State} {a0 : Array Value} (hw : own_Z Z a0) {h : Heap} {os : List own_O} {as : List own_A} {a b yw y : Addr} {ad : String} {cs : Int32} {vs ws : List Value} {c L : Nat} (hC : cs ≠ 0 ∧ Sta Z Z.heap "java/lang/String" "COMPACT_STRINGS" "Z" (.int cs)) (hv : vs.length = 16) (hw1 : ws.length = L) (hL16 : c + L ≤ 16) (H : own_H Z h (own_SR a (.int (0 : Int32)) (.ref yw) :: own_SB b (.ref y) (.int (0 : Int32)) (.int (Int32.ofNat c)) :: os) ((yw, .byte, ad, ws) :: (y, .byte, "[B", vs) :: as)) : own_Met none l Z (⟨"java/lang/StringBuilder", "append", "(Ljava/lang/String;)Ljava/lang/StringBuilder;"⟩ : MethodName) jdk_67_method_7_code 2 (some (.object "java/lang/StringBuilder")) [] ({ frames := 4, cells := 0, slots := 0, locals := 75 } : Room) #[(.ref b), (.ref a)] h (fun v h' => v = some (.ref b) ∧ own_H Z h' (own_SR a (.int (0 : Int32)) (.ref yw) :: own_SB b (.ref y) (.int (0 : Int32)) (.int (Int32.ofNat (c + L))) :: os) ((yw, .byte, ad, ws) :: (y, .byte, "[B", (own_cp vs ws c L)) :: as)) := by
  refine own_met (by first | exact plainFor_of_name (by decide +kernel) | decide +kernel) ?_
  intro p_ e_ s_ m_ below_ meth_ c_ K
  refine own_cast (own_ssR_ef m_ _ _) ?_
  refine own_aloadN K own_d24_0 rfl rfl ?_
  refine own_aloadN K own_d24_1 rfl rfl ?_
  refine own_super K own_d24_2 (own_w88 hw) (own_same (y := ({ cls := "java/lang/AbstractStringBuilder", name := "append", desc := "(Ljava/lang/String;)Ljava/lang/AbstractStringBuilder;" } : Jvm.MethodName)) (own_w89 hw) (own_w108 hw) rfl (by decide)) (own_w89 hw) (own_w90 hw) (own_w75 hw) (own_w92 hw) (by decide) (Ins.self (H.atO (i := 1) rfl)) (a := b) (argsL := [(.ref a)]) (rest := []) (own_asR hw hC hv hw1 hL16 H) own_pd17 rfl rfl rfl (W := 0) (Nat.le_of_eq rfl) (by decide) (by decide) (by decide) (by decide) ?_
  intro v3 h1 q2
  obtain ⟨rfl, H4⟩ := q2
  replace H4 : own_H Z h1 (own_SR a (.int (0 : Int32)) (.ref yw) :: own_SB b (.ref y) (.int (0 : Int32)) (.int (Int32.ofNat (c + L))) :: os) ((yw, .byte, ad, ws) :: (y, .byte, "[B", (own_cp vs ws c L)) :: as) := H4
  refine own_pop K own_d24_5 rfl ?_
  refine own_aloadN K own_d24_6 rfl rfl ?_
  exact own_retA K (fun _ q => q) rfl rfl own_d24_7 (by decide) (by decide) (⟨rfl, H4⟩)
set_option maxRecDepth 65536 in
set_option maxHeartbeats 40000000 in
theorem own_sz1_ef (m : MethodId) (x0 : Int32) : entryFrame m #[(.int x0)] 4 = mkF m 0 #[.val (.int x0), .unset, .unset, .unset] [] := by first | (simp [entryFrame, mkF, argsToLocals, Value.category]; done) | rfl
set_option maxRecDepth 65536 in
set_option maxHeartbeats 40000000 in
theorem own_sz1 {l : Launch} {Z : State} {a0 : Array Value} (hw : own_Z Z a0) {h : Heap} {m : Nat} (h1 : 1 ≤ m) (h2 : m < 10) : own_Met none l Z (⟨"java/lang/Integer", "stringSize", "(I)I"⟩ : MethodName) jdk_33_method_13_code 4 (some .int) [] ({ frames := 0, cells := 0, slots := 0, locals := 0 } : Room) #[(.int (Int32.ofNat m))] h (fun v h' => v = some (.int (1 : Int32)) ∧ h = h') := by
  refine own_met (by first | exact plainFor_of_name (by decide +kernel) | decide +kernel) ?_
  intro p_ e_ s_ m_ below_ meth_ c_ K
  refine own_cast (own_sz1_ef m_ _) ?_
  refine own_iconst K own_d25_0 (v := (1 : Int32)) rfl ?_
  refine own_istoreN K own_d25_1 (Ls' := #[.val (.int (Int32.ofNat m)), .val (.int (1 : Int32)), .unset, .unset]) rfl ?_
  refine own_iloadN K own_d25_2 rfl ?_
  refine own_iflt K own_d25_3 (fun q => absurd q (by have z0 := own_on (show m ≤ 100000 by omega); omega)) (fun _ => ?_)
  refine own_iconst K own_d25_6 (v := (0 : Int32)) rfl ?_
  refine own_istoreN K own_d25_7 (Ls' := #[.val (.int (Int32.ofNat m)), .val (.int (0 : Int32)), .unset, .unset]) rfl ?_
  refine own_iloadN K own_d25_8 rfl ?_
  refine own_ineg K own_d25_9 ?_
  refine own_topI (x' := (own_ng m)) (rfl) ?_
  refine own_istoreN K own_d25_10 (Ls' := #[.val (.int (own_ng m)), .val (.int (0 : Int32)), .unset, .unset]) rfl ?_
  refine own_bipush K own_d25_11 (v := (-10 : Int32)) rfl ?_
  refine own_istoreN K own_d25_13 (Ls' := #[.val (.int (own_ng m)), .val (.int (0 : Int32)), .val (.int (-10 : Int32)), .unset]) rfl ?_
  refine own_iconst K own_d25_14 (v := (1 : Int32)) rfl ?_
  refine own_istoreN K own_d25_15 (Ls' := #[.val (.int (own_ng m)), .val (.int (0 : Int32)), .val (.int (-10 : Int32)), .val (.int (1 : Int32))]) rfl ?_
  refine own_iloadN K own_d25_16 rfl ?_
  refine own_bipush K own_d25_17 (v := (10 : Int32)) rfl ?_
  refine own_icmpge K own_d25_19 (fun q => absurd q (by decide)) (fun _ => ?_)
  refine own_iloadN K own_d25_22 rfl ?_
  refine own_iloadN K own_d25_23 rfl ?_
  refine own_icmple K own_d25_24 (fun q => absurd q (by have z0 := own_ngt (show m ≤ 100000 by omega); have zn10 : (-10 : Int32).toInt = -10 := rfl; omega)) (fun _ => ?_)
  refine own_iloadN K own_d25_27 rfl ?_
  refine own_iloadN K own_d25_28 rfl ?_
  refine own_iadd K own_d25_29 ?_
  refine own_topI (x' := (1 : Int32)) (by decide) ?_
  exact own_retI K (fun _ q => q) own_d25_30 (by decide) (by decide) (⟨rfl, rfl⟩)
set_option maxRecDepth 65536 in
set_option maxHeartbeats 40000000 in
theorem own_sz2_ef (m : MethodId) (x0 : Int32) : entryFrame m #[(.int x0)] 4 = mkF m 0 #[.val (.int x0), .unset, .unset, .unset] [] := by first | (simp [entryFrame, mkF, argsToLocals, Value.category]; done) | rfl
set_option maxRecDepth 65536 in
set_option maxHeartbeats 40000000 in
theorem own_sz2 {l : Launch} {Z : State} {a0 : Array Value} (hw : own_Z Z a0) {h : Heap} {m : Nat} (h1 : 10 ≤ m) (h2 : m < 100) : own_Met none l Z (⟨"java/lang/Integer", "stringSize", "(I)I"⟩ : MethodName) jdk_33_method_13_code 4 (some .int) [] ({ frames := 0, cells := 0, slots := 0, locals := 0 } : Room) #[(.int (Int32.ofNat m))] h (fun v h' => v = some (.int (2 : Int32)) ∧ h = h') := by
  refine own_met (by first | exact plainFor_of_name (by decide +kernel) | decide +kernel) ?_
  intro p_ e_ s_ m_ below_ meth_ c_ K
  refine own_cast (own_sz2_ef m_ _) ?_
  refine own_iconst K own_d25_0 (v := (1 : Int32)) rfl ?_
  refine own_istoreN K own_d25_1 (Ls' := #[.val (.int (Int32.ofNat m)), .val (.int (1 : Int32)), .unset, .unset]) rfl ?_
  refine own_iloadN K own_d25_2 rfl ?_
  refine own_iflt K own_d25_3 (fun q => absurd q (by have z0 := own_on (show m ≤ 100000 by omega); omega)) (fun _ => ?_)
  refine own_iconst K own_d25_6 (v := (0 : Int32)) rfl ?_
  refine own_istoreN K own_d25_7 (Ls' := #[.val (.int (Int32.ofNat m)), .val (.int (0 : Int32)), .unset, .unset]) rfl ?_
  refine own_iloadN K own_d25_8 rfl ?_
  refine own_ineg K own_d25_9 ?_
  refine own_topI (x' := (own_ng m)) (rfl) ?_
  refine own_istoreN K own_d25_10 (Ls' := #[.val (.int (own_ng m)), .val (.int (0 : Int32)), .unset, .unset]) rfl ?_
  refine own_bipush K own_d25_11 (v := (-10 : Int32)) rfl ?_
  refine own_istoreN K own_d25_13 (Ls' := #[.val (.int (own_ng m)), .val (.int (0 : Int32)), .val (.int (-10 : Int32)), .unset]) rfl ?_
  refine own_iconst K own_d25_14 (v := (1 : Int32)) rfl ?_
  refine own_istoreN K own_d25_15 (Ls' := #[.val (.int (own_ng m)), .val (.int (0 : Int32)), .val (.int (-10 : Int32)), .val (.int (1 : Int32))]) rfl ?_
  refine own_iloadN K own_d25_16 rfl ?_
  refine own_bipush K own_d25_17 (v := (10 : Int32)) rfl ?_
  refine own_icmpge K own_d25_19 (fun q => absurd q (by decide)) (fun _ => ?_)
  refine own_iloadN K own_d25_22 rfl ?_
  refine own_iloadN K own_d25_23 rfl ?_
  refine own_icmple K own_d25_24 (fun _ => ?_) (fun q => absurd (by have z0 := own_ngt (show m ≤ 100000 by omega); have zn10 : (-10 : Int32).toInt = -10 := rfl; omega) q)
  refine own_bipush K own_d25_31 (v := (10 : Int32)) rfl ?_
  refine own_iloadN K own_d25_33 rfl ?_
  refine own_imul K own_d25_34 ?_
  refine own_topI (x' := (-100 : Int32)) (by decide) ?_
  refine own_istoreN K own_d25_35 (Ls' := #[.val (.int (own_ng m)), .val (.int (0 : Int32)), .val (.int (-100 : Int32)), .val (.int (1 : Int32))]) rfl ?_
  refine own_iinc K own_d25_36 rfl (y := (2 : Int32)) (by decide) (Ls' := #[.val (.int (own_ng m)), .val (.int (0 : Int32)), .val (.int (-100 : Int32)), .val (.int (2 : Int32))]) rfl ?_
  refine own_goto K own_d25_39 ?_
  refine own_iloadN K own_d25_16 rfl ?_
  refine own_bipush K own_d25_17 (v := (10 : Int32)) rfl ?_
  refine own_icmpge K own_d25_19 (fun q => absurd q (by decide)) (fun _ => ?_)
  refine own_iloadN K own_d25_22 rfl ?_
  refine own_iloadN K own_d25_23 rfl ?_
  refine own_icmple K own_d25_24 (fun q => absurd q (by have z0 := own_ngt (show m ≤ 100000 by omega); have zn100 : (-100 : Int32).toInt = -100 := rfl; omega)) (fun _ => ?_)
  refine own_iloadN K own_d25_27 rfl ?_
  refine own_iloadN K own_d25_28 rfl ?_
  refine own_iadd K own_d25_29 ?_
  refine own_topI (x' := (2 : Int32)) (by decide) ?_
  exact own_retI K (fun _ q => q) own_d25_30 (by decide) (by decide) (⟨rfl, rfl⟩)
set_option maxRecDepth 65536 in
set_option maxHeartbeats 40000000 in
theorem own_sz3_ef (m : MethodId) (x0 : Int32) : entryFrame m #[(.int x0)] 4 = mkF m 0 #[.val (.int x0), .unset, .unset, .unset] [] := by first | (simp [entryFrame, mkF, argsToLocals, Value.category]; done) | rfl
set_option maxRecDepth 65536 in
set_option maxHeartbeats 40000000 in
theorem own_sz3 {l : Launch} {Z : State} {a0 : Array Value} (hw : own_Z Z a0) {h : Heap} {m : Nat} (h1 : 100 ≤ m) (h2 : m < 1000) : own_Met none l Z (⟨"java/lang/Integer", "stringSize", "(I)I"⟩ : MethodName) jdk_33_method_13_code 4 (some .int) [] ({ frames := 0, cells := 0, slots := 0, locals := 0 } : Room) #[(.int (Int32.ofNat m))] h (fun v h' => v = some (.int (3 : Int32)) ∧ h = h') := by
  refine own_met (by first | exact plainFor_of_name (by decide +kernel) | decide +kernel) ?_
  intro p_ e_ s_ m_ below_ meth_ c_ K
  refine own_cast (own_sz3_ef m_ _) ?_
  refine own_iconst K own_d25_0 (v := (1 : Int32)) rfl ?_
  refine own_istoreN K own_d25_1 (Ls' := #[.val (.int (Int32.ofNat m)), .val (.int (1 : Int32)), .unset, .unset]) rfl ?_
  refine own_iloadN K own_d25_2 rfl ?_
  refine own_iflt K own_d25_3 (fun q => absurd q (by have z0 := own_on (show m ≤ 100000 by omega); omega)) (fun _ => ?_)
  refine own_iconst K own_d25_6 (v := (0 : Int32)) rfl ?_
  refine own_istoreN K own_d25_7 (Ls' := #[.val (.int (Int32.ofNat m)), .val (.int (0 : Int32)), .unset, .unset]) rfl ?_
  refine own_iloadN K own_d25_8 rfl ?_
  refine own_ineg K own_d25_9 ?_
  refine own_topI (x' := (own_ng m)) (rfl) ?_
  refine own_istoreN K own_d25_10 (Ls' := #[.val (.int (own_ng m)), .val (.int (0 : Int32)), .unset, .unset]) rfl ?_
  refine own_bipush K own_d25_11 (v := (-10 : Int32)) rfl ?_
  refine own_istoreN K own_d25_13 (Ls' := #[.val (.int (own_ng m)), .val (.int (0 : Int32)), .val (.int (-10 : Int32)), .unset]) rfl ?_
  refine own_iconst K own_d25_14 (v := (1 : Int32)) rfl ?_
  refine own_istoreN K own_d25_15 (Ls' := #[.val (.int (own_ng m)), .val (.int (0 : Int32)), .val (.int (-10 : Int32)), .val (.int (1 : Int32))]) rfl ?_
  refine own_iloadN K own_d25_16 rfl ?_
  refine own_bipush K own_d25_17 (v := (10 : Int32)) rfl ?_
  refine own_icmpge K own_d25_19 (fun q => absurd q (by decide)) (fun _ => ?_)
  refine own_iloadN K own_d25_22 rfl ?_
  refine own_iloadN K own_d25_23 rfl ?_
  refine own_icmple K own_d25_24 (fun _ => ?_) (fun q => absurd (by have z0 := own_ngt (show m ≤ 100000 by omega); have zn10 : (-10 : Int32).toInt = -10 := rfl; omega) q)
  refine own_bipush K own_d25_31 (v := (10 : Int32)) rfl ?_
  refine own_iloadN K own_d25_33 rfl ?_
  refine own_imul K own_d25_34 ?_
  refine own_topI (x' := (-100 : Int32)) (by decide) ?_
  refine own_istoreN K own_d25_35 (Ls' := #[.val (.int (own_ng m)), .val (.int (0 : Int32)), .val (.int (-100 : Int32)), .val (.int (1 : Int32))]) rfl ?_
  refine own_iinc K own_d25_36 rfl (y := (2 : Int32)) (by decide) (Ls' := #[.val (.int (own_ng m)), .val (.int (0 : Int32)), .val (.int (-100 : Int32)), .val (.int (2 : Int32))]) rfl ?_
  refine own_goto K own_d25_39 ?_
  refine own_iloadN K own_d25_16 rfl ?_
  refine own_bipush K own_d25_17 (v := (10 : Int32)) rfl ?_
  refine own_icmpge K own_d25_19 (fun q => absurd q (by decide)) (fun _ => ?_)
  refine own_iloadN K own_d25_22 rfl ?_
  refine own_iloadN K own_d25_23 rfl ?_
  refine own_icmple K own_d25_24 (fun _ => ?_) (fun q => absurd (by have z0 := own_ngt (show m ≤ 100000 by omega); have zn100 : (-100 : Int32).toInt = -100 := rfl; omega) q)
  refine own_bipush K own_d25_31 (v := (10 : Int32)) rfl ?_
  refine own_iloadN K own_d25_33 rfl ?_
  refine own_imul K own_d25_34 ?_
  refine own_topI (x' := (-1000 : Int32)) (by decide) ?_
  refine own_istoreN K own_d25_35 (Ls' := #[.val (.int (own_ng m)), .val (.int (0 : Int32)), .val (.int (-1000 : Int32)), .val (.int (2 : Int32))]) rfl ?_
  refine own_iinc K own_d25_36 rfl (y := (3 : Int32)) (by decide) (Ls' := #[.val (.int (own_ng m)), .val (.int (0 : Int32)), .val (.int (-1000 : Int32)), .val (.int (3 : Int32))]) rfl ?_
  refine own_goto K own_d25_39 ?_
  refine own_iloadN K own_d25_16 rfl ?_
  refine own_bipush K own_d25_17 (v := (10 : Int32)) rfl ?_
  refine own_icmpge K own_d25_19 (fun q => absurd q (by decide)) (fun _ => ?_)
  refine own_iloadN K own_d25_22 rfl ?_
  refine own_iloadN K own_d25_23 rfl ?_
  refine own_icmple K own_d25_24 (fun q => absurd q (by have z0 := own_ngt (show m ≤ 100000 by omega); have zn1000 : (-1000 : Int32).toInt = -1000 := rfl; omega)) (fun _ => ?_)
  refine own_iloadN K own_d25_27 rfl ?_
  refine own_iloadN K own_d25_28 rfl ?_
  refine own_iadd K own_d25_29 ?_
  refine own_topI (x' := (3 : Int32)) (by decide) ?_
  exact own_retI K (fun _ q => q) own_d25_30 (by decide) (by decide) (⟨rfl, rfl⟩)
set_option maxRecDepth 65536 in
set_option maxHeartbeats 40000000 in
theorem own_sz4_ef (m : MethodId) (x0 : Int32) : entryFrame m #[(.int x0)] 4 = mkF m 0 #[.val (.int x0), .unset, .unset, .unset] [] := by first | (simp [entryFrame, mkF, argsToLocals, Value.category]; done) | rfl
set_option maxRecDepth 65536 in
set_option maxHeartbeats 40000000 in
theorem own_sz4 {l : Launch} {Z : State} {a0 : Array Value} (hw : own_Z Z a0) {h : Heap} {m : Nat} (h1 : 1000 ≤ m) (h2 : m < 10000) : own_Met none l Z (⟨"java/lang/Integer", "stringSize", "(I)I"⟩ : MethodName) jdk_33_method_13_code 4 (some .int) [] ({ frames := 0, cells := 0, slots := 0, locals := 0 } : Room) #[(.int (Int32.ofNat m))] h (fun v h' => v = some (.int (4 : Int32)) ∧ h = h') := by
  refine own_met (by first | exact plainFor_of_name (by decide +kernel) | decide +kernel) ?_
  intro p_ e_ s_ m_ below_ meth_ c_ K
  refine own_cast (own_sz4_ef m_ _) ?_
  refine own_iconst K own_d25_0 (v := (1 : Int32)) rfl ?_
  refine own_istoreN K own_d25_1 (Ls' := #[.val (.int (Int32.ofNat m)), .val (.int (1 : Int32)), .unset, .unset]) rfl ?_
  refine own_iloadN K own_d25_2 rfl ?_
  refine own_iflt K own_d25_3 (fun q => absurd q (by have z0 := own_on (show m ≤ 100000 by omega); omega)) (fun _ => ?_)
  refine own_iconst K own_d25_6 (v := (0 : Int32)) rfl ?_
  refine own_istoreN K own_d25_7 (Ls' := #[.val (.int (Int32.ofNat m)), .val (.int (0 : Int32)), .unset, .unset]) rfl ?_
  refine own_iloadN K own_d25_8 rfl ?_
  refine own_ineg K own_d25_9 ?_
  refine own_topI (x' := (own_ng m)) (rfl) ?_
  refine own_istoreN K own_d25_10 (Ls' := #[.val (.int (own_ng m)), .val (.int (0 : Int32)), .unset, .unset]) rfl ?_
  refine own_bipush K own_d25_11 (v := (-10 : Int32)) rfl ?_
  refine own_istoreN K own_d25_13 (Ls' := #[.val (.int (own_ng m)), .val (.int (0 : Int32)), .val (.int (-10 : Int32)), .unset]) rfl ?_
  refine own_iconst K own_d25_14 (v := (1 : Int32)) rfl ?_
  refine own_istoreN K own_d25_15 (Ls' := #[.val (.int (own_ng m)), .val (.int (0 : Int32)), .val (.int (-10 : Int32)), .val (.int (1 : Int32))]) rfl ?_
  refine own_iloadN K own_d25_16 rfl ?_
  refine own_bipush K own_d25_17 (v := (10 : Int32)) rfl ?_
  refine own_icmpge K own_d25_19 (fun q => absurd q (by decide)) (fun _ => ?_)
  refine own_iloadN K own_d25_22 rfl ?_
  refine own_iloadN K own_d25_23 rfl ?_
  refine own_icmple K own_d25_24 (fun _ => ?_) (fun q => absurd (by have z0 := own_ngt (show m ≤ 100000 by omega); have zn10 : (-10 : Int32).toInt = -10 := rfl; omega) q)
  refine own_bipush K own_d25_31 (v := (10 : Int32)) rfl ?_
  refine own_iloadN K own_d25_33 rfl ?_
  refine own_imul K own_d25_34 ?_
  refine own_topI (x' := (-100 : Int32)) (by decide) ?_
  refine own_istoreN K own_d25_35 (Ls' := #[.val (.int (own_ng m)), .val (.int (0 : Int32)), .val (.int (-100 : Int32)), .val (.int (1 : Int32))]) rfl ?_
  refine own_iinc K own_d25_36 rfl (y := (2 : Int32)) (by decide) (Ls' := #[.val (.int (own_ng m)), .val (.int (0 : Int32)), .val (.int (-100 : Int32)), .val (.int (2 : Int32))]) rfl ?_
  refine own_goto K own_d25_39 ?_
  refine own_iloadN K own_d25_16 rfl ?_
  refine own_bipush K own_d25_17 (v := (10 : Int32)) rfl ?_
  refine own_icmpge K own_d25_19 (fun q => absurd q (by decide)) (fun _ => ?_)
  refine own_iloadN K own_d25_22 rfl ?_
  refine own_iloadN K own_d25_23 rfl ?_
  refine own_icmple K own_d25_24 (fun _ => ?_) (fun q => absurd (by have z0 := own_ngt (show m ≤ 100000 by omega); have zn100 : (-100 : Int32).toInt = -100 := rfl; omega) q)
  refine own_bipush K own_d25_31 (v := (10 : Int32)) rfl ?_
  refine own_iloadN K own_d25_33 rfl ?_
  refine own_imul K own_d25_34 ?_
  refine own_topI (x' := (-1000 : Int32)) (by decide) ?_
  refine own_istoreN K own_d25_35 (Ls' := #[.val (.int (own_ng m)), .val (.int (0 : Int32)), .val (.int (-1000 : Int32)), .val (.int (2 : Int32))]) rfl ?_
  refine own_iinc K own_d25_36 rfl (y := (3 : Int32)) (by decide) (Ls' := #[.val (.int (own_ng m)), .val (.int (0 : Int32)), .val (.int (-1000 : Int32)), .val (.int (3 : Int32))]) rfl ?_
  refine own_goto K own_d25_39 ?_
  refine own_iloadN K own_d25_16 rfl ?_
  refine own_bipush K own_d25_17 (v := (10 : Int32)) rfl ?_
  refine own_icmpge K own_d25_19 (fun q => absurd q (by decide)) (fun _ => ?_)
  refine own_iloadN K own_d25_22 rfl ?_
  refine own_iloadN K own_d25_23 rfl ?_
  refine own_icmple K own_d25_24 (fun _ => ?_) (fun q => absurd (by have z0 := own_ngt (show m ≤ 100000 by omega); have zn1000 : (-1000 : Int32).toInt = -1000 := rfl; omega) q)
  refine own_bipush K own_d25_31 (v := (10 : Int32)) rfl ?_
  refine own_iloadN K own_d25_33 rfl ?_
  refine own_imul K own_d25_34 ?_
  refine own_topI (x' := (-10000 : Int32)) (by decide) ?_
  refine own_istoreN K own_d25_35 (Ls' := #[.val (.int (own_ng m)), .val (.int (0 : Int32)), .val (.int (-10000 : Int32)), .val (.int (3 : Int32))]) rfl ?_
  refine own_iinc K own_d25_36 rfl (y := (4 : Int32)) (by decide) (Ls' := #[.val (.int (own_ng m)), .val (.int (0 : Int32)), .val (.int (-10000 : Int32)), .val (.int (4 : Int32))]) rfl ?_
  refine own_goto K own_d25_39 ?_
  refine own_iloadN K own_d25_16 rfl ?_
  refine own_bipush K own_d25_17 (v := (10 : Int32)) rfl ?_
  refine own_icmpge K own_d25_19 (fun q => absurd q (by decide)) (fun _ => ?_)
  refine own_iloadN K own_d25_22 rfl ?_
  refine own_iloadN K own_d25_23 rfl ?_
  refine own_icmple K own_d25_24 (fun q => absurd q (by have z0 := own_ngt (show m ≤ 100000 by omega); have zn10000 : (-10000 : Int32).toInt = -10000 := rfl; omega)) (fun _ => ?_)
  refine own_iloadN K own_d25_27 rfl ?_
  refine own_iloadN K own_d25_28 rfl ?_
  refine own_iadd K own_d25_29 ?_
  refine own_topI (x' := (4 : Int32)) (by decide) ?_
  exact own_retI K (fun _ q => q) own_d25_30 (by decide) (by decide) (⟨rfl, rfl⟩)
set_option maxRecDepth 65536 in
set_option maxHeartbeats 40000000 in
theorem own_sz5_ef (m : MethodId) (x0 : Int32) : entryFrame m #[(.int x0)] 4 = mkF m 0 #[.val (.int x0), .unset, .unset, .unset] [] := by first | (simp [entryFrame, mkF, argsToLocals, Value.category]; done) | rfl
set_option maxRecDepth 65536 in
set_option maxHeartbeats 40000000 in
theorem own_sz5 {l : Launch} {Z : State} {a0 : Array Value} (hw : own_Z Z a0) {h : Heap} {m : Nat} (h1 : 10000 ≤ m) (h2 : m < 100000) : own_Met none l Z (⟨"java/lang/Integer", "stringSize", "(I)I"⟩ : MethodName) jdk_33_method_13_code 4 (some .int) [] ({ frames := 0, cells := 0, slots := 0, locals := 0 } : Room) #[(.int (Int32.ofNat m))] h (fun v h' => v = some (.int (5 : Int32)) ∧ h = h') := by
  refine own_met (by first | exact plainFor_of_name (by decide +kernel) | decide +kernel) ?_
  intro p_ e_ s_ m_ below_ meth_ c_ K
  refine own_cast (own_sz5_ef m_ _) ?_
  refine own_iconst K own_d25_0 (v := (1 : Int32)) rfl ?_
  refine own_istoreN K own_d25_1 (Ls' := #[.val (.int (Int32.ofNat m)), .val (.int (1 : Int32)), .unset, .unset]) rfl ?_
  refine own_iloadN K own_d25_2 rfl ?_
  refine own_iflt K own_d25_3 (fun q => absurd q (by have z0 := own_on (show m ≤ 100000 by omega); omega)) (fun _ => ?_)
  refine own_iconst K own_d25_6 (v := (0 : Int32)) rfl ?_
  refine own_istoreN K own_d25_7 (Ls' := #[.val (.int (Int32.ofNat m)), .val (.int (0 : Int32)), .unset, .unset]) rfl ?_
  refine own_iloadN K own_d25_8 rfl ?_
  refine own_ineg K own_d25_9 ?_
  refine own_topI (x' := (own_ng m)) (rfl) ?_
  refine own_istoreN K own_d25_10 (Ls' := #[.val (.int (own_ng m)), .val (.int (0 : Int32)), .unset, .unset]) rfl ?_
  refine own_bipush K own_d25_11 (v := (-10 : Int32)) rfl ?_
  refine own_istoreN K own_d25_13 (Ls' := #[.val (.int (own_ng m)), .val (.int (0 : Int32)), .val (.int (-10 : Int32)), .unset]) rfl ?_
  refine own_iconst K own_d25_14 (v := (1 : Int32)) rfl ?_
  refine own_istoreN K own_d25_15 (Ls' := #[.val (.int (own_ng m)), .val (.int (0 : Int32)), .val (.int (-10 : Int32)), .val (.int (1 : Int32))]) rfl ?_
  refine own_iloadN K own_d25_16 rfl ?_
  refine own_bipush K own_d25_17 (v := (10 : Int32)) rfl ?_
  refine own_icmpge K own_d25_19 (fun q => absurd q (by decide)) (fun _ => ?_)
  refine own_iloadN K own_d25_22 rfl ?_
  refine own_iloadN K own_d25_23 rfl ?_
  refine own_icmple K own_d25_24 (fun _ => ?_) (fun q => absurd (by have z0 := own_ngt (show m ≤ 100000 by omega); have zn10 : (-10 : Int32).toInt = -10 := rfl; omega) q)
  refine own_bipush K own_d25_31 (v := (10 : Int32)) rfl ?_
  refine own_iloadN K own_d25_33 rfl ?_
  refine own_imul K own_d25_34 ?_
  refine own_topI (x' := (-100 : Int32)) (by decide) ?_
  refine own_istoreN K own_d25_35 (Ls' := #[.val (.int (own_ng m)), .val (.int (0 : Int32)), .val (.int (-100 : Int32)), .val (.int (1 : Int32))]) rfl ?_
  refine own_iinc K own_d25_36 rfl (y := (2 : Int32)) (by decide) (Ls' := #[.val (.int (own_ng m)), .val (.int (0 : Int32)), .val (.int (-100 : Int32)), .val (.int (2 : Int32))]) rfl ?_
  refine own_goto K own_d25_39 ?_
  refine own_iloadN K own_d25_16 rfl ?_
  refine own_bipush K own_d25_17 (v := (10 : Int32)) rfl ?_
  refine own_icmpge K own_d25_19 (fun q => absurd q (by decide)) (fun _ => ?_)
  refine own_iloadN K own_d25_22 rfl ?_
  refine own_iloadN K own_d25_23 rfl ?_
  refine own_icmple K own_d25_24 (fun _ => ?_) (fun q => absurd (by have z0 := own_ngt (show m ≤ 100000 by omega); have zn100 : (-100 : Int32).toInt = -100 := rfl; omega) q)
  refine own_bipush K own_d25_31 (v := (10 : Int32)) rfl ?_
  refine own_iloadN K own_d25_33 rfl ?_
  refine own_imul K own_d25_34 ?_
  refine own_topI (x' := (-1000 : Int32)) (by decide) ?_
  refine own_istoreN K own_d25_35 (Ls' := #[.val (.int (own_ng m)), .val (.int (0 : Int32)), .val (.int (-1000 : Int32)), .val (.int (2 : Int32))]) rfl ?_
  refine own_iinc K own_d25_36 rfl (y := (3 : Int32)) (by decide) (Ls' := #[.val (.int (own_ng m)), .val (.int (0 : Int32)), .val (.int (-1000 : Int32)), .val (.int (3 : Int32))]) rfl ?_
  refine own_goto K own_d25_39 ?_
  refine own_iloadN K own_d25_16 rfl ?_
  refine own_bipush K own_d25_17 (v := (10 : Int32)) rfl ?_
  refine own_icmpge K own_d25_19 (fun q => absurd q (by decide)) (fun _ => ?_)
  refine own_iloadN K own_d25_22 rfl ?_
  refine own_iloadN K own_d25_23 rfl ?_
  refine own_icmple K own_d25_24 (fun _ => ?_) (fun q => absurd (by have z0 := own_ngt (show m ≤ 100000 by omega); have zn1000 : (-1000 : Int32).toInt = -1000 := rfl; omega) q)
  refine own_bipush K own_d25_31 (v := (10 : Int32)) rfl ?_
  refine own_iloadN K own_d25_33 rfl ?_
  refine own_imul K own_d25_34 ?_
  refine own_topI (x' := (-10000 : Int32)) (by decide) ?_
  refine own_istoreN K own_d25_35 (Ls' := #[.val (.int (own_ng m)), .val (.int (0 : Int32)), .val (.int (-10000 : Int32)), .val (.int (3 : Int32))]) rfl ?_
  refine own_iinc K own_d25_36 rfl (y := (4 : Int32)) (by decide) (Ls' := #[.val (.int (own_ng m)), .val (.int (0 : Int32)), .val (.int (-10000 : Int32)), .val (.int (4 : Int32))]) rfl ?_
  refine own_goto K own_d25_39 ?_
  refine own_iloadN K own_d25_16 rfl ?_
  refine own_bipush K own_d25_17 (v := (10 : Int32)) rfl ?_
  refine own_icmpge K own_d25_19 (fun q => absurd q (by decide)) (fun _ => ?_)
  refine own_iloadN K own_d25_22 rfl ?_
  refine own_iloadN K own_d25_23 rfl ?_
  refine own_icmple K own_d25_24 (fun _ => ?_) (fun q => absurd (by have z0 := own_ngt (show m ≤ 100000 by omega); have zn10000 : (-10000 : Int32).toInt = -10000 := rfl; omega) q)
  refine own_bipush K own_d25_31 (v := (10 : Int32)) rfl ?_
  refine own_iloadN K own_d25_33 rfl ?_
  refine own_imul K own_d25_34 ?_
  refine own_topI (x' := (-100000 : Int32)) (by decide) ?_
  refine own_istoreN K own_d25_35 (Ls' := #[.val (.int (own_ng m)), .val (.int (0 : Int32)), .val (.int (-100000 : Int32)), .val (.int (4 : Int32))]) rfl ?_
  refine own_iinc K own_d25_36 rfl (y := (5 : Int32)) (by decide) (Ls' := #[.val (.int (own_ng m)), .val (.int (0 : Int32)), .val (.int (-100000 : Int32)), .val (.int (5 : Int32))]) rfl ?_
  refine own_goto K own_d25_39 ?_
  refine own_iloadN K own_d25_16 rfl ?_
  refine own_bipush K own_d25_17 (v := (10 : Int32)) rfl ?_
  refine own_icmpge K own_d25_19 (fun q => absurd q (by decide)) (fun _ => ?_)
  refine own_iloadN K own_d25_22 rfl ?_
  refine own_iloadN K own_d25_23 rfl ?_
  refine own_icmple K own_d25_24 (fun q => absurd q (by have z0 := own_ngt (show m ≤ 100000 by omega); have zn100000 : (-100000 : Int32).toInt = -100000 := rfl; omega)) (fun _ => ?_)
  refine own_iloadN K own_d25_27 rfl ?_
  refine own_iloadN K own_d25_28 rfl ?_
  refine own_iadd K own_d25_29 ?_
  refine own_topI (x' := (5 : Int32)) (by decide) ?_
  exact own_retI K (fun _ q => q) own_d25_30 (by decide) (by decide) (⟨rfl, rfl⟩)
theorem own_sz {l : Launch} {Z : State} {a0 : Array Value} (hw : own_Z Z a0) {h : Heap} {m d : Nat} (hd : own_DD m d) : own_Met none l Z (⟨"java/lang/Integer", "stringSize", "(I)I"⟩ : MethodName) jdk_33_method_13_code 4 (some .int) [] ({ frames := 0, cells := 0, slots := 0, locals := 0 } : Room) #[(.int (Int32.ofNat m))] h (fun v h' => v = some (.int (Int32.ofNat d)) ∧ h = h') := by
  rcases own_DDl hd with ⟨rfl, h1, h2⟩ | ⟨rfl, h1, h2⟩ | ⟨rfl, h1, h2⟩ | ⟨rfl, h1, h2⟩ | ⟨rfl, h1, h2⟩
  · exact own_sz1 hw h1 h2
  · exact own_sz2 hw h1 h2
  · exact own_sz3 hw h1 h2
  · exact own_sz4 hw h1 h2
  · exact own_sz5 hw h1 h2
set_option maxRecDepth 65536 in
set_option maxHeartbeats 40000000 in
theorem own_gc1_ef (m : MethodId) (x0 : Int32) (x1 : Int32) (x2 : Addr) : entryFrame m #[(.int x0), (.int x1), (.ref x2)] 7 = mkF m 0 #[.val (.int x0), .val (.int x1), .val (.ref x2), .unset, .unset, .unset, .unset] [] := by first | (simp [entryFrame, mkF, argsToLocals, Value.category]; done) | rfl
set_option maxRecDepth 65536 in
set_option maxHeartbeats 40000000 in
theorem own_gc1 {l : Launch} {Z : State} {a0 : Array Value} (hw : own_Z Z a0) {h : Heap} {os : List own_O} {as : List own_A} {y o1 o2 : Addr} {cl1 cl2 : Cell} {vs : List Value} {m q : Nat} (hD : own_Dg Z o1 o2 cl1 cl2) (hv : vs.length = 16) (H : own_H Z h os ((y, .byte, "[B", vs) :: as)) (h1 : 1 ≤ m) (h2 : m < 10) (hq : 1 ≤ q) (hq6 : q ≤ 16) : own_Met none l Z (⟨"java/lang/Integer", "getChars", "(II[B)I"⟩ : MethodName) jdk_33_method_12_code 7 (some .int) [] ({ frames := 0, cells := 0, slots := 0, locals := 0 } : Room) #[(.int (Int32.ofNat m)), (.int (Int32.ofNat q)), (.ref y)] h (fun v h' => ∃ z, v = some (.int z) ∧ own_H Z h' os ((y, .byte, "[B", own_gc 1 vs q m) :: as)) := by
  refine own_met (by first | exact plainFor_of_name (by decide +kernel) | decide +kernel) ?_
  intro p_ e_ s_ m_ below_ meth_ c_ K
  refine own_cast (own_gc1_ef m_ _ _ _) ?_
  replace H : own_H Z h os ((y, .byte, "[B", (own_gc 0 vs q m)) :: as) := H
  refine own_iloadN K own_d26_0 rfl ?_
  refine own_istore K own_d26_1 (Ls' := #[.val (.int (Int32.ofNat m)), .val (.int (Int32.ofNat q)), .val (.ref y), .unset, .unset, .val (.int (Int32.ofNat q)), .unset]) rfl ?_
  refine own_iloadN K own_d26_3 rfl ?_
  refine own_ifge K own_d26_4 (fun _ => ?_) (fun q => absurd (by have z0 := own_on (show m ≤ 100000 by omega); omega) q)
  refine own_iconst K own_d26_11 (v := (0 : Int32)) rfl ?_
  refine own_istore K own_d26_12 (Ls' := #[.val (.int (Int32.ofNat m)), .val (.int (Int32.ofNat q)), .val (.ref y), .unset, .unset, .val (.int (Int32.ofNat q)), .val (.int (0 : Int32))]) rfl ?_
  refine own_iload K own_d26_14 rfl ?_
  refine own_ifne K own_d26_16 (fun q => absurd q (by decide)) (fun _ => ?_)
  refine own_iloadN K own_d26_19 rfl ?_
  refine own_ineg K own_d26_20 ?_
  refine own_topI (x' := (own_ng m)) (rfl) ?_
  refine own_istoreN K own_d26_21 (Ls' := #[.val (.int (own_ng m)), .val (.int (Int32.ofNat q)), .val (.ref y), .unset, .unset, .val (.int (Int32.ofNat q)), .val (.int (0 : Int32))]) rfl ?_
  refine own_iloadN K own_d26_22 rfl ?_
  refine own_bipush K own_d26_23 (v := (-100 : Int32)) rfl ?_
  refine own_icmpgt K own_d26_25 (fun _ => ?_) (fun q => absurd (by have z0 := own_ngt (show m ≤ 100000 by omega); have zn100 : (-100 : Int32).toInt = -100 := rfl; omega) q)
  refine own_aloadN K own_d26_72 rfl rfl ?_
  refine own_iinc K own_d26_73 rfl (y := (Int32.ofNat (q - 1 - 0))) (own_dec (by omega) (by omega)) (Ls' := #[.val (.int (own_ng m)), .val (.int (Int32.ofNat q)), .val (.ref y), .unset, .unset, .val (.int (Int32.ofNat (q - 1 - 0))), .val (.int (0 : Int32))]) rfl ?_
  refine own_iload K own_d26_76 rfl ?_
  refine own_getstatic K own_d26_78 (own_w152 hw) Via.refl (v := (.ref o1)) (Sta.ext H.1 hD.1.1) ?_
  refine own_iloadN K own_d26_81 rfl ?_
  refine own_ineg K own_d26_82 ?_
  refine own_topI (x' := (Int32.ofNat m)) (own_ngn (by omega)) ?_
  refine own_baloadZ K own_d26_83 (Arr.ext H.1 hD.1.2.1) (q := m) (own_on (by omega)) (own_t1 hD (m := m) (t := 0) (by omega) (by have z0 : own_p10 0 = 1 := rfl; rw [z0] <;> omega)) ?_
  refine own_bastore K own_d26_84 H (i := 0) rfl (q := (q - 1 - 0)) (own_on (by omega)) (by rw [own_gcl, hv]; omega) ?_
  intro h1 H2
  replace H2 : own_H Z h1 (os) ((y, .byte, "[B", (own_gc 1 vs q m)) :: as) := H2
  refine own_iloadN K own_d26_85 rfl ?_
  refine own_bipush K own_d26_86 (v := (-9 : Int32)) rfl ?_
  refine own_icmpge K own_d26_88 (fun _ => ?_) (fun q => absurd (by have z0 := own_ngt (show m ≤ 100000 by omega); have zn9 : (-9 : Int32).toInt = -9 := rfl; omega) q)
  refine own_iload K own_d26_104 rfl ?_
  refine own_ifeq K own_d26_106 (fun _ => ?_) (fun q => absurd (by decide) q)
  refine own_iload K own_d26_118 rfl ?_
  exact own_retI K (fun _ q => q) own_d26_120 (by decide) (by decide) (⟨_, rfl, H2⟩)
set_option maxRecDepth 65536 in
set_option maxHeartbeats 40000000 in
theorem own_gc2_ef (m : MethodId) (x0 : Int32) (x1 : Int32) (x2 : Addr) : entryFrame m #[(.int x0), (.int x1), (.ref x2)] 7 = mkF m 0 #[.val (.int x0), .val (.int x1), .val (.ref x2), .unset, .unset, .unset, .unset] [] := by first | (simp [entryFrame, mkF, argsToLocals, Value.category]; done) | rfl
set_option maxRecDepth 65536 in
set_option maxHeartbeats 40000000 in
theorem own_gc2 {l : Launch} {Z : State} {a0 : Array Value} (hw : own_Z Z a0) {h : Heap} {os : List own_O} {as : List own_A} {y o1 o2 : Addr} {cl1 cl2 : Cell} {vs : List Value} {m q : Nat} (hD : own_Dg Z o1 o2 cl1 cl2) (hv : vs.length = 16) (H : own_H Z h os ((y, .byte, "[B", vs) :: as)) (h1 : 10 ≤ m) (h2 : m < 100) (hq : 2 ≤ q) (hq6 : q ≤ 16) : own_Met none l Z (⟨"java/lang/Integer", "getChars", "(II[B)I"⟩ : MethodName) jdk_33_method_12_code 7 (some .int) [] ({ frames := 0, cells := 0, slots := 0, locals := 0 } : Room) #[(.int (Int32.ofNat m)), (.int (Int32.ofNat q)), (.ref y)] h (fun v h' => ∃ z, v = some (.int z) ∧ own_H Z h' os ((y, .byte, "[B", own_gc 2 vs q m) :: as)) := by
  refine own_met (by first | exact plainFor_of_name (by decide +kernel) | decide +kernel) ?_
  intro p_ e_ s_ m_ below_ meth_ c_ K
  refine own_cast (own_gc2_ef m_ _ _ _) ?_
  replace H : own_H Z h os ((y, .byte, "[B", (own_gc 0 vs q m)) :: as) := H
  refine own_iloadN K own_d26_0 rfl ?_
  refine own_istore K own_d26_1 (Ls' := #[.val (.int (Int32.ofNat m)), .val (.int (Int32.ofNat q)), .val (.ref y), .unset, .unset, .val (.int (Int32.ofNat q)), .unset]) rfl ?_
  refine own_iloadN K own_d26_3 rfl ?_
  refine own_ifge K own_d26_4 (fun _ => ?_) (fun q => absurd (by have z0 := own_on (show m ≤ 100000 by omega); omega) q)
  refine own_iconst K own_d26_11 (v := (0 : Int32)) rfl ?_
  refine own_istore K own_d26_12 (Ls' := #[.val (.int (Int32.ofNat m)), .val (.int (Int32.ofNat q)), .val (.ref y), .unset, .unset, .val (.int (Int32.ofNat q)), .val (.int (0 : Int32))]) rfl ?_
  refine own_iload K own_d26_14 rfl ?_
  refine own_ifne K own_d26_16 (fun q => absurd q (by decide)) (fun _ => ?_)
  refine own_iloadN K own_d26_19 rfl ?_
  refine own_ineg K own_d26_20 ?_
  refine own_topI (x' := (own_ng m)) (rfl) ?_
  refine own_istoreN K own_d26_21 (Ls' := #[.val (.int (own_ng m)), .val (.int (Int32.ofNat q)), .val (.ref y), .unset, .unset, .val (.int (Int32.ofNat q)), .val (.int (0 : Int32))]) rfl ?_
  refine own_iloadN K own_d26_22 rfl ?_
  refine own_bipush K own_d26_23 (v := (-100 : Int32)) rfl ?_
  refine own_icmpgt K own_d26_25 (fun _ => ?_) (fun q => absurd (by have z0 := own_ngt (show m ≤ 100000 by omega); have zn100 : (-100 : Int32).toInt = -100 := rfl; omega) q)
  refine own_aloadN K own_d26_72 rfl rfl ?_
  refine own_iinc K own_d26_73 rfl (y := (Int32.ofNat (q - 1 - 0))) (own_dec (by omega) (by omega)) (Ls' := #[.val (.int (own_ng m)), .val (.int (Int32.ofNat q)), .val (.ref y), .unset, .unset, .val (.int (Int32.ofNat (q - 1 - 0))), .val (.int (0 : Int32))]) rfl ?_
  refine own_iload K own_d26_76 rfl ?_
  refine own_getstatic K own_d26_78 (own_w152 hw) Via.refl (v := (.ref o1)) (Sta.ext H.1 hD.1.1) ?_
  refine own_iloadN K own_d26_81 rfl ?_
  refine own_ineg K own_d26_82 ?_
  refine own_topI (x' := (Int32.ofNat m)) (own_ngn (by omega)) ?_
  refine own_baloadZ K own_d26_83 (Arr.ext H.1 hD.1.2.1) (q := m) (own_on (by omega)) (own_t1 hD (m := m) (t := 0) (by omega) (by have z0 : own_p10 0 = 1 := rfl; rw [z0] <;> omega)) ?_
  refine own_bastore K own_d26_84 H (i := 0) rfl (q := (q - 1 - 0)) (own_on (by omega)) (by rw [own_gcl, hv]; omega) ?_
  intro h1 H2
  replace H2 : own_H Z h1 (os) ((y, .byte, "[B", (own_gc 1 vs q m)) :: as) := H2
  refine own_iloadN K own_d26_85 rfl ?_
  refine own_bipush K own_d26_86 (v := (-9 : Int32)) rfl ?_
  refine own_icmpge K own_d26_88 (fun q => absurd q (by have z0 := own_ngt (show m ≤ 100000 by omega); have zn9 : (-9 : Int32).toInt = -9 := rfl; omega)) (fun _ => ?_)
  refine own_aloadN K own_d26_91 rfl rfl ?_
  refine own_iinc K own_d26_92 rfl (y := (Int32.ofNat (q - 1 - 1))) (own_dec (by omega) (by omega)) (Ls' := #[.val (.int (own_ng m)), .val (.int (Int32.ofNat q)), .val (.ref y), .unset, .unset, .val (.int (Int32.ofNat (q - 1 - 1))), .val (.int (0 : Int32))]) rfl ?_
  refine own_iload K own_d26_95 rfl ?_
  refine own_getstatic K own_d26_97 (own_w221 hw) Via.refl (v := (.ref o2)) (Sta.ext H2.1 hD.2.1) ?_
  refine own_iloadN K own_d26_100 rfl ?_
  refine own_ineg K own_d26_101 ?_
  refine own_topI (x' := (Int32.ofNat m)) (own_ngn (by omega)) ?_
  refine own_baloadZ K own_d26_102 (Arr.ext H2.1 hD.2.2.1) (q := m) (own_on (by omega)) (own_t2 hD (m := m) (t := 1) (by omega) (by have z0 : own_p10 1 = 10 := rfl; rw [z0] <;> omega)) ?_
  refine own_bastore K own_d26_103 H2 (i := 0) rfl (q := (q - 1 - 1)) (own_on (by omega)) (by rw [own_gcl, hv]; omega) ?_
  intro h3 H4
  replace H4 : own_H Z h3 (os) ((y, .byte, "[B", (own_gc 2 vs q m)) :: as) := H4
  refine own_iload K own_d26_104 rfl ?_
  refine own_ifeq K own_d26_106 (fun _ => ?_) (fun q => absurd (by decide) q)
  refine own_iload K own_d26_118 rfl ?_
  exact own_retI K (fun _ q => q) own_d26_120 (by decide) (by decide) (⟨_, rfl, H4⟩)
set_option maxRecDepth 65536 in
set_option maxHeartbeats 40000000 in
theorem own_gc3_ef (m : MethodId) (x0 : Int32) (x1 : Int32) (x2 : Addr) : entryFrame m #[(.int x0), (.int x1), (.ref x2)] 7 = mkF m 0 #[.val (.int x0), .val (.int x1), .val (.ref x2), .unset, .unset, .unset, .unset] [] := by first | (simp [entryFrame, mkF, argsToLocals, Value.category]; done) | rfl
set_option maxRecDepth 65536 in
set_option maxHeartbeats 40000000 in
theorem own_gc3 {l : Launch} {Z : State} {a0 : Array Value} (hw : own_Z Z a0) {h : Heap} {os : List own_O} {as : List own_A} {y o1 o2 : Addr} {cl1 cl2 : Cell} {vs : List Value} {m q : Nat} (hD : own_Dg Z o1 o2 cl1 cl2) (hv : vs.length = 16) (H : own_H Z h os ((y, .byte, "[B", vs) :: as)) (h1 : 100 ≤ m) (h2 : m < 1000) (hq : 3 ≤ q) (hq6 : q ≤ 16) : own_Met none l Z (⟨"java/lang/Integer", "getChars", "(II[B)I"⟩ : MethodName) jdk_33_method_12_code 7 (some .int) [] ({ frames := 0, cells := 0, slots := 0, locals := 0 } : Room) #[(.int (Int32.ofNat m)), (.int (Int32.ofNat q)), (.ref y)] h (fun v h' => ∃ z, v = some (.int z) ∧ own_H Z h' os ((y, .byte, "[B", own_gc 3 vs q m) :: as)) := by
  refine own_met (by first | exact plainFor_of_name (by decide +kernel) | decide +kernel) ?_
  intro p_ e_ s_ m_ below_ meth_ c_ K
  refine own_cast (own_gc3_ef m_ _ _ _) ?_
  replace H : own_H Z h os ((y, .byte, "[B", (own_gc 0 vs q m)) :: as) := H
  refine own_iloadN K own_d26_0 rfl ?_
  refine own_istore K own_d26_1 (Ls' := #[.val (.int (Int32.ofNat m)), .val (.int (Int32.ofNat q)), .val (.ref y), .unset, .unset, .val (.int (Int32.ofNat q)), .unset]) rfl ?_
  refine own_iloadN K own_d26_3 rfl ?_
  refine own_ifge K own_d26_4 (fun _ => ?_) (fun q => absurd (by have z0 := own_on (show m ≤ 100000 by omega); omega) q)
  refine own_iconst K own_d26_11 (v := (0 : Int32)) rfl ?_
  refine own_istore K own_d26_12 (Ls' := #[.val (.int (Int32.ofNat m)), .val (.int (Int32.ofNat q)), .val (.ref y), .unset, .unset, .val (.int (Int32.ofNat q)), .val (.int (0 : Int32))]) rfl ?_
  refine own_iload K own_d26_14 rfl ?_
  refine own_ifne K own_d26_16 (fun q => absurd q (by decide)) (fun _ => ?_)
  refine own_iloadN K own_d26_19 rfl ?_
  refine own_ineg K own_d26_20 ?_
  refine own_topI (x' := (own_ng m)) (rfl) ?_
  refine own_istoreN K own_d26_21 (Ls' := #[.val (.int (own_ng m)), .val (.int (Int32.ofNat q)), .val (.ref y), .unset, .unset, .val (.int (Int32.ofNat q)), .val (.int (0 : Int32))]) rfl ?_
  refine own_iloadN K own_d26_22 rfl ?_
  refine own_bipush K own_d26_23 (v := (-100 : Int32)) rfl ?_
  refine own_icmpgt K own_d26_25 (fun q => absurd q (by have z0 := own_ngt (show m ≤ 100000 by omega); have zn100 : (-100 : Int32).toInt = -100 := rfl; omega)) (fun _ => ?_)
  refine own_iloadN K own_d26_28 rfl ?_
  refine own_bipush K own_d26_29 (v := (100 : Int32)) rfl ?_
  refine own_idiv K own_d26_31 (by decide) ?_
  refine own_topI (x' := (own_ng (m / 100))) (own_ngd (by omega)) ?_
  refine own_istoreN K own_d26_32 (Ls' := #[.val (.int (own_ng m)), .val (.int (Int32.ofNat q)), .val (.ref y), .val (.int (own_ng (m / 100))), .unset, .val (.int (Int32.ofNat q)), .val (.int (0 : Int32))]) rfl ?_
  refine own_iloadN K own_d26_33 rfl ?_
  refine own_bipush K own_d26_34 (v := (100 : Int32)) rfl ?_
  refine own_imul K own_d26_36 ?_
  refine own_iloadN K own_d26_37 rfl ?_
  refine own_isub K own_d26_38 ?_
  refine own_topI (x' := (Int32.ofNat (m % 100))) (own_ngr (by omega)) ?_
  refine own_istore K own_d26_39 (Ls' := #[.val (.int (own_ng m)), .val (.int (Int32.ofNat q)), .val (.ref y), .val (.int (own_ng (m / 100))), .val (.int (Int32.ofNat (m % 100))), .val (.int (Int32.ofNat q)), .val (.int (0 : Int32))]) rfl ?_
  refine own_iloadN K own_d26_41 rfl ?_
  refine own_istoreN K own_d26_42 (Ls' := #[.val (.int (own_ng (m / 100))), .val (.int (Int32.ofNat q)), .val (.ref y), .val (.int (own_ng (m / 100))), .val (.int (Int32.ofNat (m % 100))), .val (.int (Int32.ofNat q)), .val (.int (0 : Int32))]) rfl ?_
  refine own_aloadN K own_d26_43 rfl rfl ?_
  refine own_iinc K own_d26_44 rfl (y := (Int32.ofNat (q - 1 - 0))) (own_dec (by omega) (by omega)) (Ls' := #[.val (.int (own_ng (m / 100))), .val (.int (Int32.ofNat q)), .val (.ref y), .val (.int (own_ng (m / 100))), .val (.int (Int32.ofNat (m % 100))), .val (.int (Int32.ofNat (q - 1 - 0))), .val (.int (0 : Int32))]) rfl ?_
  refine own_iload K own_d26_47 rfl ?_
  refine own_getstatic K own_d26_49 (own_w152 hw) Via.refl (v := (.ref o1)) (Sta.ext H.1 hD.1.1) ?_
  refine own_iload K own_d26_52 rfl ?_
  refine own_baloadZ K own_d26_54 (Arr.ext H.1 hD.1.2.1) (q := (m % 100)) (own_on (by omega)) (own_t1 hD (m := m) (t := 0) (by omega) (by have z0 : own_p10 0 = 1 := rfl; rw [z0] <;> omega)) ?_
  refine own_bastore K own_d26_55 H (i := 0) rfl (q := (q - 1 - 0)) (own_on (by omega)) (by rw [own_gcl, hv]; omega) ?_
  intro h1 H2
  replace H2 : own_H Z h1 (os) ((y, .byte, "[B", (own_gc 1 vs q m)) :: as) := H2
  refine own_aloadN K own_d26_56 rfl rfl ?_
  refine own_iinc K own_d26_57 rfl (y := (Int32.ofNat (q - 1 - 1))) (own_dec (by omega) (by omega)) (Ls' := #[.val (.int (own_ng (m / 100))), .val (.int (Int32.ofNat q)), .val (.ref y), .val (.int (own_ng (m / 100))), .val (.int (Int32.ofNat (m % 100))), .val (.int (Int32.ofNat (q - 1 - 1))), .val (.int (0 : Int32))]) rfl ?_
  refine own_iload K own_d26_60 rfl ?_
  refine own_getstatic K own_d26_62 (own_w221 hw) Via.refl (v := (.ref o2)) (Sta.ext H2.1 hD.2.1) ?_
  refine own_iload K own_d26_65 rfl ?_
  refine own_baloadZ K own_d26_67 (Arr.ext H2.1 hD.2.2.1) (q := (m % 100)) (own_on (by omega)) (own_t2 hD (m := m) (t := 1) (by omega) (by have z0 : own_p10 1 = 10 := rfl; rw [z0] <;> omega)) ?_
  refine own_bastore K own_d26_68 H2 (i := 0) rfl (q := (q - 1 - 1)) (own_on (by omega)) (by rw [own_gcl, hv]; omega) ?_
  intro h3 H4
  replace H4 : own_H Z h3 (os) ((y, .byte, "[B", (own_gc 2 vs q m)) :: as) := H4
  refine own_goto K own_d26_69 ?_
  refine own_iloadN K own_d26_22 rfl ?_
  refine own_bipush K own_d26_23 (v := (-100 : Int32)) rfl ?_
  refine own_icmpgt K own_d26_25 (fun _ => ?_) (fun q => absurd (by have z0 := own_ngt (show (m / 100) ≤ 100000 by omega); have zn100 : (-100 : Int32).toInt = -100 := rfl; omega) q)
  refine own_aloadN K own_d26_72 rfl rfl ?_
  refine own_iinc K own_d26_73 rfl (y := (Int32.ofNat (q - 1 - 2))) (own_dec (by omega) (by omega)) (Ls' := #[.val (.int (own_ng (m / 100))), .val (.int (Int32.ofNat q)), .val (.ref y), .val (.int (own_ng (m / 100))), .val (.int (Int32.ofNat (m % 100))), .val (.int (Int32.ofNat (q - 1 - 2))), .val (.int (0 : Int32))]) rfl ?_
  refine own_iload K own_d26_76 rfl ?_
  refine own_getstatic K own_d26_78 (own_w152 hw) Via.refl (v := (.ref o1)) (Sta.ext H4.1 hD.1.1) ?_
  refine own_iloadN K own_d26_81 rfl ?_
  refine own_ineg K own_d26_82 ?_
  refine own_topI (x' := (Int32.ofNat (m / 100))) (own_ngn (by omega)) ?_
  refine own_baloadZ K own_d26_83 (Arr.ext H4.1 hD.1.2.1) (q := (m / 100)) (own_on (by omega)) (own_t1 hD (m := m) (t := 2) (by omega) (by have z0 : own_p10 2 = 100 := rfl; rw [z0] <;> omega)) ?_
  refine own_bastore K own_d26_84 H4 (i := 0) rfl (q := (q - 1 - 2)) (own_on (by omega)) (by rw [own_gcl, hv]; omega) ?_
  intro h5 H6
  replace H6 : own_H Z h5 (os) ((y, .byte, "[B", (own_gc 3 vs q m)) :: as) := H6
  refine own_iloadN K own_d26_85 rfl ?_
  refine own_bipush K own_d26_86 (v := (-9 : Int32)) rfl ?_
  refine own_icmpge K own_d26_88 (fun _ => ?_) (fun q => absurd (by have z0 := own_ngt (show (m / 100) ≤ 100000 by omega); have zn9 : (-9 : Int32).toInt = -9 := rfl; omega) q)
  refine own_iload K own_d26_104 rfl ?_
  refine own_ifeq K own_d26_106 (fun _ => ?_) (fun q => absurd (by decide) q)
  refine own_iload K own_d26_118 rfl ?_
  exact own_retI K (fun _ q => q) own_d26_120 (by decide) (by decide) (⟨_, rfl, H6⟩)
set_option maxRecDepth 65536 in
set_option maxHeartbeats 40000000 in
theorem own_gc4_ef (m : MethodId) (x0 : Int32) (x1 : Int32) (x2 : Addr) : entryFrame m #[(.int x0), (.int x1), (.ref x2)] 7 = mkF m 0 #[.val (.int x0), .val (.int x1), .val (.ref x2), .unset, .unset, .unset, .unset] [] := by first | (simp [entryFrame, mkF, argsToLocals, Value.category]; done) | rfl
set_option maxRecDepth 65536 in
set_option maxHeartbeats 40000000 in
theorem own_gc4 {l : Launch} {Z : State} {a0 : Array Value} (hw : own_Z Z a0) {h : Heap} {os : List own_O} {as : List own_A} {y o1 o2 : Addr} {cl1 cl2 : Cell} {vs : List Value} {m q : Nat} (hD : own_Dg Z o1 o2 cl1 cl2) (hv : vs.length = 16) (H : own_H Z h os ((y, .byte, "[B", vs) :: as)) (h1 : 1000 ≤ m) (h2 : m < 10000) (hq : 4 ≤ q) (hq6 : q ≤ 16) : own_Met none l Z (⟨"java/lang/Integer", "getChars", "(II[B)I"⟩ : MethodName) jdk_33_method_12_code 7 (some .int) [] ({ frames := 0, cells := 0, slots := 0, locals := 0 } : Room) #[(.int (Int32.ofNat m)), (.int (Int32.ofNat q)), (.ref y)] h (fun v h' => ∃ z, v = some (.int z) ∧ own_H Z h' os ((y, .byte, "[B", own_gc 4 vs q m) :: as)) := by
  refine own_met (by first | exact plainFor_of_name (by decide +kernel) | decide +kernel) ?_
  intro p_ e_ s_ m_ below_ meth_ c_ K
  refine own_cast (own_gc4_ef m_ _ _ _) ?_
  replace H : own_H Z h os ((y, .byte, "[B", (own_gc 0 vs q m)) :: as) := H
  refine own_iloadN K own_d26_0 rfl ?_
  refine own_istore K own_d26_1 (Ls' := #[.val (.int (Int32.ofNat m)), .val (.int (Int32.ofNat q)), .val (.ref y), .unset, .unset, .val (.int (Int32.ofNat q)), .unset]) rfl ?_
  refine own_iloadN K own_d26_3 rfl ?_
  refine own_ifge K own_d26_4 (fun _ => ?_) (fun q => absurd (by have z0 := own_on (show m ≤ 100000 by omega); omega) q)
  refine own_iconst K own_d26_11 (v := (0 : Int32)) rfl ?_
  refine own_istore K own_d26_12 (Ls' := #[.val (.int (Int32.ofNat m)), .val (.int (Int32.ofNat q)), .val (.ref y), .unset, .unset, .val (.int (Int32.ofNat q)), .val (.int (0 : Int32))]) rfl ?_
  refine own_iload K own_d26_14 rfl ?_
  refine own_ifne K own_d26_16 (fun q => absurd q (by decide)) (fun _ => ?_)
  refine own_iloadN K own_d26_19 rfl ?_
  refine own_ineg K own_d26_20 ?_
  refine own_topI (x' := (own_ng m)) (rfl) ?_
  refine own_istoreN K own_d26_21 (Ls' := #[.val (.int (own_ng m)), .val (.int (Int32.ofNat q)), .val (.ref y), .unset, .unset, .val (.int (Int32.ofNat q)), .val (.int (0 : Int32))]) rfl ?_
  refine own_iloadN K own_d26_22 rfl ?_
  refine own_bipush K own_d26_23 (v := (-100 : Int32)) rfl ?_
  refine own_icmpgt K own_d26_25 (fun q => absurd q (by have z0 := own_ngt (show m ≤ 100000 by omega); have zn100 : (-100 : Int32).toInt = -100 := rfl; omega)) (fun _ => ?_)
  refine own_iloadN K own_d26_28 rfl ?_
  refine own_bipush K own_d26_29 (v := (100 : Int32)) rfl ?_
  refine own_idiv K own_d26_31 (by decide) ?_
  refine own_topI (x' := (own_ng (m / 100))) (own_ngd (by omega)) ?_
  refine own_istoreN K own_d26_32 (Ls' := #[.val (.int (own_ng m)), .val (.int (Int32.ofNat q)), .val (.ref y), .val (.int (own_ng (m / 100))), .unset, .val (.int (Int32.ofNat q)), .val (.int (0 : Int32))]) rfl ?_
  refine own_iloadN K own_d26_33 rfl ?_
  refine own_bipush K own_d26_34 (v := (100 : Int32)) rfl ?_
  refine own_imul K own_d26_36 ?_
  refine own_iloadN K own_d26_37 rfl ?_
  refine own_isub K own_d26_38 ?_
  refine own_topI (x' := (Int32.ofNat (m % 100))) (own_ngr (by omega)) ?_
  refine own_istore K own_d26_39 (Ls' := #[.val (.int (own_ng m)), .val (.int (Int32.ofNat q)), .val (.ref y), .val (.int (own_ng (m / 100))), .val (.int (Int32.ofNat (m % 100))), .val (.int (Int32.ofNat q)), .val (.int (0 : Int32))]) rfl ?_
  refine own_iloadN K own_d26_41 rfl ?_
  refine own_istoreN K own_d26_42 (Ls' := #[.val (.int (own_ng (m / 100))), .val (.int (Int32.ofNat q)), .val (.ref y), .val (.int (own_ng (m / 100))), .val (.int (Int32.ofNat (m % 100))), .val (.int (Int32.ofNat q)), .val (.int (0 : Int32))]) rfl ?_
  refine own_aloadN K own_d26_43 rfl rfl ?_
  refine own_iinc K own_d26_44 rfl (y := (Int32.ofNat (q - 1 - 0))) (own_dec (by omega) (by omega)) (Ls' := #[.val (.int (own_ng (m / 100))), .val (.int (Int32.ofNat q)), .val (.ref y), .val (.int (own_ng (m / 100))), .val (.int (Int32.ofNat (m % 100))), .val (.int (Int32.ofNat (q - 1 - 0))), .val (.int (0 : Int32))]) rfl ?_
  refine own_iload K own_d26_47 rfl ?_
  refine own_getstatic K own_d26_49 (own_w152 hw) Via.refl (v := (.ref o1)) (Sta.ext H.1 hD.1.1) ?_
  refine own_iload K own_d26_52 rfl ?_
  refine own_baloadZ K own_d26_54 (Arr.ext H.1 hD.1.2.1) (q := (m % 100)) (own_on (by omega)) (own_t1 hD (m := m) (t := 0) (by omega) (by have z0 : own_p10 0 = 1 := rfl; rw [z0] <;> omega)) ?_
  refine own_bastore K own_d26_55 H (i := 0) rfl (q := (q - 1 - 0)) (own_on (by omega)) (by rw [own_gcl, hv]; omega) ?_
  intro h1 H2
  replace H2 : own_H Z h1 (os) ((y, .byte, "[B", (own_gc 1 vs q m)) :: as) := H2
  refine own_aloadN K own_d26_56 rfl rfl ?_
  refine own_iinc K own_d26_57 rfl (y := (Int32.ofNat (q - 1 - 1))) (own_dec (by omega) (by omega)) (Ls' := #[.val (.int (own_ng (m / 100))), .val (.int (Int32.ofNat q)), .val (.ref y), .val (.int (own_ng (m / 100))), .val (.int (Int32.ofNat (m % 100))), .val (.int (Int32.ofNat (q - 1 - 1))), .val (.int (0 : Int32))]) rfl ?_
  refine own_iload K own_d26_60 rfl ?_
  refine own_getstatic K own_d26_62 (own_w221 hw) Via.refl (v := (.ref o2)) (Sta.ext H2.1 hD.2.1) ?_
  refine own_iload K own_d26_65 rfl ?_
  refine own_baloadZ K own_d26_67 (Arr.ext H2.1 hD.2.2.1) (q := (m % 100)) (own_on (by omega)) (own_t2 hD (m := m) (t := 1) (by omega) (by have z0 : own_p10 1 = 10 := rfl; rw [z0] <;> omega)) ?_
  refine own_bastore K own_d26_68 H2 (i := 0) rfl (q := (q - 1 - 1)) (own_on (by omega)) (by rw [own_gcl, hv]; omega) ?_
  intro h3 H4
  replace H4 : own_H Z h3 (os) ((y, .byte, "[B", (own_gc 2 vs q m)) :: as) := H4
  refine own_goto K own_d26_69 ?_
  refine own_iloadN K own_d26_22 rfl ?_
  refine own_bipush K own_d26_23 (v := (-100 : Int32)) rfl ?_
  refine own_icmpgt K own_d26_25 (fun _ => ?_) (fun q => absurd (by have z0 := own_ngt (show (m / 100) ≤ 100000 by omega); have zn100 : (-100 : Int32).toInt = -100 := rfl; omega) q)
  refine own_aloadN K own_d26_72 rfl rfl ?_
  refine own_iinc K own_d26_73 rfl (y := (Int32.ofNat (q - 1 - 2))) (own_dec (by omega) (by omega)) (Ls' := #[.val (.int (own_ng (m / 100))), .val (.int (Int32.ofNat q)), .val (.ref y), .val (.int (own_ng (m / 100))), .val (.int (Int32.ofNat (m % 100))), .val (.int (Int32.ofNat (q - 1 - 2))), .val (.int (0 : Int32))]) rfl ?_
  refine own_iload K own_d26_76 rfl ?_
  refine own_getstatic K own_d26_78 (own_w152 hw) Via.refl (v := (.ref o1)) (Sta.ext H4.1 hD.1.1) ?_
  refine own_iloadN K own_d26_81 rfl ?_
  refine own_ineg K own_d26_82 ?_
  refine own_topI (x' := (Int32.ofNat (m / 100))) (own_ngn (by omega)) ?_
  refine own_baloadZ K own_d26_83 (Arr.ext H4.1 hD.1.2.1) (q := (m / 100)) (own_on (by omega)) (own_t1 hD (m := m) (t := 2) (by omega) (by have z0 : own_p10 2 = 100 := rfl; rw [z0] <;> omega)) ?_
  refine own_bastore K own_d26_84 H4 (i := 0) rfl (q := (q - 1 - 2)) (own_on (by omega)) (by rw [own_gcl, hv]; omega) ?_
  intro h5 H6
  replace H6 : own_H Z h5 (os) ((y, .byte, "[B", (own_gc 3 vs q m)) :: as) := H6
  refine own_iloadN K own_d26_85 rfl ?_
  refine own_bipush K own_d26_86 (v := (-9 : Int32)) rfl ?_
  refine own_icmpge K own_d26_88 (fun q => absurd q (by have z0 := own_ngt (show (m / 100) ≤ 100000 by omega); have zn9 : (-9 : Int32).toInt = -9 := rfl; omega)) (fun _ => ?_)
  refine own_aloadN K own_d26_91 rfl rfl ?_
  refine own_iinc K own_d26_92 rfl (y := (Int32.ofNat (q - 1 - 3))) (own_dec (by omega) (by omega)) (Ls' := #[.val (.int (own_ng (m / 100))), .val (.int (Int32.ofNat q)), .val (.ref y), .val (.int (own_ng (m / 100))), .val (.int (Int32.ofNat (m % 100))), .val (.int (Int32.ofNat (q - 1 - 3))), .val (.int (0 : Int32))]) rfl ?_
  refine own_iload K own_d26_95 rfl ?_
  refine own_getstatic K own_d26_97 (own_w221 hw) Via.refl (v := (.ref o2)) (Sta.ext H6.1 hD.2.1) ?_
  refine own_iloadN K own_d26_100 rfl ?_
  refine own_ineg K own_d26_101 ?_
  refine own_topI (x' := (Int32.ofNat (m / 100))) (own_ngn (by omega)) ?_
  refine own_baloadZ K own_d26_102 (Arr.ext H6.1 hD.2.2.1) (q := (m / 100)) (own_on (by omega)) (own_t2 hD (m := m) (t := 3) (by omega) (by have z0 : own_p10 3 = 1000 := rfl; rw [z0] <;> omega)) ?_
  refine own_bastore K own_d26_103 H6 (i := 0) rfl (q := (q - 1 - 3)) (own_on (by omega)) (by rw [own_gcl, hv]; omega) ?_
  intro h7 H8
  replace H8 : own_H Z h7 (os) ((y, .byte, "[B", (own_gc 4 vs q m)) :: as) := H8
  refine own_iload K own_d26_104 rfl ?_
  refine own_ifeq K own_d26_106 (fun _ => ?_) (fun q => absurd (by decide) q)
  refine own_iload K own_d26_118 rfl ?_
  exact own_retI K (fun _ q => q) own_d26_120 (by decide) (by decide) (⟨_, rfl, H8⟩)
set_option maxRecDepth 65536 in
set_option maxHeartbeats 40000000 in
theorem own_gc5_ef (m : MethodId) (x0 : Int32) (x1 : Int32) (x2 : Addr) : entryFrame m #[(.int x0), (.int x1), (.ref x2)] 7 = mkF m 0 #[.val (.int x0), .val (.int x1), .val (.ref x2), .unset, .unset, .unset, .unset] [] := by first | (simp [entryFrame, mkF, argsToLocals, Value.category]; done) | rfl
set_option maxRecDepth 65536 in
set_option maxHeartbeats 40000000 in
theorem own_gc5 {l : Launch} {Z : State} {a0 : Array Value} (hw : own_Z Z a0) {h : Heap} {os : List own_O} {as : List own_A} {y o1 o2 : Addr} {cl1 cl2 : Cell} {vs : List Value} {m q : Nat} (hD : own_Dg Z o1 o2 cl1 cl2) (hv : vs.length = 16) (H : own_H Z h os ((y, .byte, "[B", vs) :: as)) (h1 : 10000 ≤ m) (h2 : m < 100000) (hq : 5 ≤ q) (hq6 : q ≤ 16) : own_Met none l Z (⟨"java/lang/Integer", "getChars", "(II[B)I"⟩ : MethodName) jdk_33_method_12_code 7 (some .int) [] ({ frames := 0, cells := 0, slots := 0, locals := 0 } : Room) #[(.int (Int32.ofNat m)), (.int (Int32.ofNat q)), (.ref y)] h (fun v h' => ∃ z, v = some (.int z) ∧ own_H Z h' os ((y, .byte, "[B", own_gc 5 vs q m) :: as)) := by
  refine own_met (by first | exact plainFor_of_name (by decide +kernel) | decide +kernel) ?_
  intro p_ e_ s_ m_ below_ meth_ c_ K
  refine own_cast (own_gc5_ef m_ _ _ _) ?_
  replace H : own_H Z h os ((y, .byte, "[B", (own_gc 0 vs q m)) :: as) := H
  refine own_iloadN K own_d26_0 rfl ?_
  refine own_istore K own_d26_1 (Ls' := #[.val (.int (Int32.ofNat m)), .val (.int (Int32.ofNat q)), .val (.ref y), .unset, .unset, .val (.int (Int32.ofNat q)), .unset]) rfl ?_
  refine own_iloadN K own_d26_3 rfl ?_
  refine own_ifge K own_d26_4 (fun _ => ?_) (fun q => absurd (by have z0 := own_on (show m ≤ 100000 by omega); omega) q)
  refine own_iconst K own_d26_11 (v := (0 : Int32)) rfl ?_
  refine own_istore K own_d26_12 (Ls' := #[.val (.int (Int32.ofNat m)), .val (.int (Int32.ofNat q)), .val (.ref y), .unset, .unset, .val (.int (Int32.ofNat q)), .val (.int (0 : Int32))]) rfl ?_
  refine own_iload K own_d26_14 rfl ?_
  refine own_ifne K own_d26_16 (fun q => absurd q (by decide)) (fun _ => ?_)
  refine own_iloadN K own_d26_19 rfl ?_
  refine own_ineg K own_d26_20 ?_
  refine own_topI (x' := (own_ng m)) (rfl) ?_
  refine own_istoreN K own_d26_21 (Ls' := #[.val (.int (own_ng m)), .val (.int (Int32.ofNat q)), .val (.ref y), .unset, .unset, .val (.int (Int32.ofNat q)), .val (.int (0 : Int32))]) rfl ?_
  refine own_iloadN K own_d26_22 rfl ?_
  refine own_bipush K own_d26_23 (v := (-100 : Int32)) rfl ?_
  refine own_icmpgt K own_d26_25 (fun q => absurd q (by have z0 := own_ngt (show m ≤ 100000 by omega); have zn100 : (-100 : Int32).toInt = -100 := rfl; omega)) (fun _ => ?_)
  refine own_iloadN K own_d26_28 rfl ?_
  refine own_bipush K own_d26_29 (v := (100 : Int32)) rfl ?_
  refine own_idiv K own_d26_31 (by decide) ?_
  refine own_topI (x' := (own_ng (m / 100))) (own_ngd (by omega)) ?_
  refine own_istoreN K own_d26_32 (Ls' := #[.val (.int (own_ng m)), .val (.int (Int32.ofNat q)), .val (.ref y), .val (.int (own_ng (m / 100))), .unset, .val (.int (Int32.ofNat q)), .val (.int (0 : Int32))]) rfl ?_
  refine own_iloadN K own_d26_33 rfl ?_
  refine own_bipush K own_d26_34 (v := (100 : Int32)) rfl ?_
  refine own_imul K own_d26_36 ?_
  refine own_iloadN K own_d26_37 rfl ?_
  refine own_isub K own_d26_38 ?_
  refine own_topI (x' := (Int32.ofNat (m % 100))) (own_ngr (by omega)) ?_
  refine own_istore K own_d26_39 (Ls' := #[.val (.int (own_ng m)), .val (.int (Int32.ofNat q)), .val (.ref y), .val (.int (own_ng (m / 100))), .val (.int (Int32.ofNat (m % 100))), .val (.int (Int32.ofNat q)), .val (.int (0 : Int32))]) rfl ?_
  refine own_iloadN K own_d26_41 rfl ?_
  refine own_istoreN K own_d26_42 (Ls' := #[.val (.int (own_ng (m / 100))), .val (.int (Int32.ofNat q)), .val (.ref y), .val (.int (own_ng (m / 100))), .val (.int (Int32.ofNat (m % 100))), .val (.int (Int32.ofNat q)), .val (.int (0 : Int32))]) rfl ?_
  refine own_aloadN K own_d26_43 rfl rfl ?_
  refine own_iinc K own_d26_44 rfl (y := (Int32.ofNat (q - 1 - 0))) (own_dec (by omega) (by omega)) (Ls' := #[.val (.int (own_ng (m / 100))), .val (.int (Int32.ofNat q)), .val (.ref y), .val (.int (own_ng (m / 100))), .val (.int (Int32.ofNat (m % 100))), .val (.int (Int32.ofNat (q - 1 - 0))), .val (.int (0 : Int32))]) rfl ?_
  refine own_iload K own_d26_47 rfl ?_
  refine own_getstatic K own_d26_49 (own_w152 hw) Via.refl (v := (.ref o1)) (Sta.ext H.1 hD.1.1) ?_
  refine own_iload K own_d26_52 rfl ?_
  refine own_baloadZ K own_d26_54 (Arr.ext H.1 hD.1.2.1) (q := (m % 100)) (own_on (by omega)) (own_t1 hD (m := m) (t := 0) (by omega) (by have z0 : own_p10 0 = 1 := rfl; rw [z0] <;> omega)) ?_
  refine own_bastore K own_d26_55 H (i := 0) rfl (q := (q - 1 - 0)) (own_on (by omega)) (by rw [own_gcl, hv]; omega) ?_
  intro h1 H2
  replace H2 : own_H Z h1 (os) ((y, .byte, "[B", (own_gc 1 vs q m)) :: as) := H2
  refine own_aloadN K own_d26_56 rfl rfl ?_
  refine own_iinc K own_d26_57 rfl (y := (Int32.ofNat (q - 1 - 1))) (own_dec (by omega) (by omega)) (Ls' := #[.val (.int (own_ng (m / 100))), .val (.int (Int32.ofNat q)), .val (.ref y), .val (.int (own_ng (m / 100))), .val (.int (Int32.ofNat (m % 100))), .val (.int (Int32.ofNat (q - 1 - 1))), .val (.int (0 : Int32))]) rfl ?_
  refine own_iload K own_d26_60 rfl ?_
  refine own_getstatic K own_d26_62 (own_w221 hw) Via.refl (v := (.ref o2)) (Sta.ext H2.1 hD.2.1) ?_
  refine own_iload K own_d26_65 rfl ?_
  refine own_baloadZ K own_d26_67 (Arr.ext H2.1 hD.2.2.1) (q := (m % 100)) (own_on (by omega)) (own_t2 hD (m := m) (t := 1) (by omega) (by have z0 : own_p10 1 = 10 := rfl; rw [z0] <;> omega)) ?_
  refine own_bastore K own_d26_68 H2 (i := 0) rfl (q := (q - 1 - 1)) (own_on (by omega)) (by rw [own_gcl, hv]; omega) ?_
  intro h3 H4
  replace H4 : own_H Z h3 (os) ((y, .byte, "[B", (own_gc 2 vs q m)) :: as) := H4
  refine own_goto K own_d26_69 ?_
  refine own_iloadN K own_d26_22 rfl ?_
  refine own_bipush K own_d26_23 (v := (-100 : Int32)) rfl ?_
  refine own_icmpgt K own_d26_25 (fun q => absurd q (by have z0 := own_ngt (show (m / 100) ≤ 100000 by omega); have zn100 : (-100 : Int32).toInt = -100 := rfl; omega)) (fun _ => ?_)
  refine own_iloadN K own_d26_28 rfl ?_
  refine own_bipush K own_d26_29 (v := (100 : Int32)) rfl ?_
  refine own_idiv K own_d26_31 (by decide) ?_
  refine own_topI (x' := (own_ng ((m / 100) / 100))) (own_ngd (by omega)) ?_
  refine own_istoreN K own_d26_32 (Ls' := #[.val (.int (own_ng (m / 100))), .val (.int (Int32.ofNat q)), .val (.ref y), .val (.int (own_ng ((m / 100) / 100))), .val (.int (Int32.ofNat (m % 100))), .val (.int (Int32.ofNat (q - 1 - 1))), .val (.int (0 : Int32))]) rfl ?_
  refine own_iloadN K own_d26_33 rfl ?_
  refine own_bipush K own_d26_34 (v := (100 : Int32)) rfl ?_
  refine own_imul K own_d26_36 ?_
  refine own_iloadN K own_d26_37 rfl ?_
  refine own_isub K own_d26_38 ?_
  refine own_topI (x' := (Int32.ofNat ((m / 100) % 100))) (own_ngr (by omega)) ?_
  refine own_istore K own_d26_39 (Ls' := #[.val (.int (own_ng (m / 100))), .val (.int (Int32.ofNat q)), .val (.ref y), .val (.int (own_ng ((m / 100) / 100))), .val (.int (Int32.ofNat ((m / 100) % 100))), .val (.int (Int32.ofNat (q - 1 - 1))), .val (.int (0 : Int32))]) rfl ?_
  refine own_iloadN K own_d26_41 rfl ?_
  refine own_istoreN K own_d26_42 (Ls' := #[.val (.int (own_ng ((m / 100) / 100))), .val (.int (Int32.ofNat q)), .val (.ref y), .val (.int (own_ng ((m / 100) / 100))), .val (.int (Int32.ofNat ((m / 100) % 100))), .val (.int (Int32.ofNat (q - 1 - 1))), .val (.int (0 : Int32))]) rfl ?_
  refine own_aloadN K own_d26_43 rfl rfl ?_
  refine own_iinc K own_d26_44 rfl (y := (Int32.ofNat (q - 1 - 2))) (own_dec (by omega) (by omega)) (Ls' := #[.val (.int (own_ng ((m / 100) / 100))), .val (.int (Int32.ofNat q)), .val (.ref y), .val (.int (own_ng ((m / 100) / 100))), .val (.int (Int32.ofNat ((m / 100) % 100))), .val (.int (Int32.ofNat (q - 1 - 2))), .val (.int (0 : Int32))]) rfl ?_
  refine own_iload K own_d26_47 rfl ?_
  refine own_getstatic K own_d26_49 (own_w152 hw) Via.refl (v := (.ref o1)) (Sta.ext H4.1 hD.1.1) ?_
  refine own_iload K own_d26_52 rfl ?_
  refine own_baloadZ K own_d26_54 (Arr.ext H4.1 hD.1.2.1) (q := ((m / 100) % 100)) (own_on (by omega)) (own_t1 hD (m := m) (t := 2) (by omega) (by have z0 : own_p10 2 = 100 := rfl; rw [z0] <;> omega)) ?_
  refine own_bastore K own_d26_55 H4 (i := 0) rfl (q := (q - 1 - 2)) (own_on (by omega)) (by rw [own_gcl, hv]; omega) ?_
  intro h5 H6
  replace H6 : own_H Z h5 (os) ((y, .byte, "[B", (own_gc 3 vs q m)) :: as) := H6
  refine own_aloadN K own_d26_56 rfl rfl ?_
  refine own_iinc K own_d26_57 rfl (y := (Int32.ofNat (q - 1 - 3))) (own_dec (by omega) (by omega)) (Ls' := #[.val (.int (own_ng ((m / 100) / 100))), .val (.int (Int32.ofNat q)), .val (.ref y), .val (.int (own_ng ((m / 100) / 100))), .val (.int (Int32.ofNat ((m / 100) % 100))), .val (.int (Int32.ofNat (q - 1 - 3))), .val (.int (0 : Int32))]) rfl ?_
  refine own_iload K own_d26_60 rfl ?_
  refine own_getstatic K own_d26_62 (own_w221 hw) Via.refl (v := (.ref o2)) (Sta.ext H6.1 hD.2.1) ?_
  refine own_iload K own_d26_65 rfl ?_
  refine own_baloadZ K own_d26_67 (Arr.ext H6.1 hD.2.2.1) (q := ((m / 100) % 100)) (own_on (by omega)) (own_t2 hD (m := m) (t := 3) (by omega) (by have z0 : own_p10 3 = 1000 := rfl; rw [z0] <;> omega)) ?_
  refine own_bastore K own_d26_68 H6 (i := 0) rfl (q := (q - 1 - 3)) (own_on (by omega)) (by rw [own_gcl, hv]; omega) ?_
  intro h7 H8
  replace H8 : own_H Z h7 (os) ((y, .byte, "[B", (own_gc 4 vs q m)) :: as) := H8
  refine own_goto K own_d26_69 ?_
  refine own_iloadN K own_d26_22 rfl ?_
  refine own_bipush K own_d26_23 (v := (-100 : Int32)) rfl ?_
  refine own_icmpgt K own_d26_25 (fun _ => ?_) (fun q => absurd (by have z0 := own_ngt (show ((m / 100) / 100) ≤ 100000 by omega); have zn100 : (-100 : Int32).toInt = -100 := rfl; omega) q)
  refine own_aloadN K own_d26_72 rfl rfl ?_
  refine own_iinc K own_d26_73 rfl (y := (Int32.ofNat (q - 1 - 4))) (own_dec (by omega) (by omega)) (Ls' := #[.val (.int (own_ng ((m / 100) / 100))), .val (.int (Int32.ofNat q)), .val (.ref y), .val (.int (own_ng ((m / 100) / 100))), .val (.int (Int32.ofNat ((m / 100) % 100))), .val (.int (Int32.ofNat (q - 1 - 4))), .val (.int (0 : Int32))]) rfl ?_
  refine own_iload K own_d26_76 rfl ?_
  refine own_getstatic K own_d26_78 (own_w152 hw) Via.refl (v := (.ref o1)) (Sta.ext H8.1 hD.1.1) ?_
  refine own_iloadN K own_d26_81 rfl ?_
  refine own_ineg K own_d26_82 ?_
  refine own_topI (x' := (Int32.ofNat ((m / 100) / 100))) (own_ngn (by omega)) ?_
  refine own_baloadZ K own_d26_83 (Arr.ext H8.1 hD.1.2.1) (q := ((m / 100) / 100)) (own_on (by omega)) (own_t1 hD (m := m) (t := 4) (by omega) (by have z0 : own_p10 4 = 10000 := rfl; rw [z0] <;> omega)) ?_
  refine own_bastore K own_d26_84 H8 (i := 0) rfl (q := (q - 1 - 4)) (own_on (by omega)) (by rw [own_gcl, hv]; omega) ?_
  intro h9 H10
  replace H10 : own_H Z h9 (os) ((y, .byte, "[B", (own_gc 5 vs q m)) :: as) := H10
  refine own_iloadN K own_d26_85 rfl ?_
  refine own_bipush K own_d26_86 (v := (-9 : Int32)) rfl ?_
  refine own_icmpge K own_d26_88 (fun _ => ?_) (fun q => absurd (by have z0 := own_ngt (show ((m / 100) / 100) ≤ 100000 by omega); have zn9 : (-9 : Int32).toInt = -9 := rfl; omega) q)
  refine own_iload K own_d26_104 rfl ?_
  refine own_ifeq K own_d26_106 (fun _ => ?_) (fun q => absurd (by decide) q)
  refine own_iload K own_d26_118 rfl ?_
  exact own_retI K (fun _ q => q) own_d26_120 (by decide) (by decide) (⟨_, rfl, H10⟩)
theorem own_gcX {l : Launch} {Z : State} {a0 : Array Value} (hw : own_Z Z a0) {h : Heap} {os : List own_O} {as : List own_A} {y o1 o2 : Addr} {cl1 cl2 : Cell} {vs : List Value} {m q : Nat} {d : Nat} (hd : own_DD m d) (hq : d ≤ q) (hq6 : q ≤ 16) (hD : own_Dg Z o1 o2 cl1 cl2) (hv : vs.length = 16) (H : own_H Z h os ((y, .byte, "[B", vs) :: as)) : own_Met none l Z (⟨"java/lang/Integer", "getChars", "(II[B)I"⟩ : MethodName) jdk_33_method_12_code 7 (some .int) [] ({ frames := 0, cells := 0, slots := 0, locals := 0 } : Room) #[(.int (Int32.ofNat m)), (.int (Int32.ofNat q)), (.ref y)] h (fun v h' => ∃ z, v = some (.int z) ∧ own_H Z h' os ((y, .byte, "[B", own_gc d vs q m) :: as)) := by
  rcases own_DDl hd with ⟨rfl, h1, h2⟩ | ⟨rfl, h1, h2⟩ | ⟨rfl, h1, h2⟩ | ⟨rfl, h1, h2⟩ | ⟨rfl, h1, h2⟩
  · exact own_gc1 hw hD hv H h1 h2 hq hq6
  · exact own_gc2 hw hD hv H h1 h2 hq hq6
  · exact own_gc3 hw hD hv H h1 h2 hq hq6
  · exact own_gc4 hw hD hv H h1 h2 hq hq6
  · exact own_gc5 hw hD hv H h1 h2 hq hq6
set_option maxRecDepth 65536 in
set_option maxHeartbeats 40000000 in
theorem own_aii_ef (m : MethodId) (x0 : Addr) (x1 : Int32) : entryFrame m #[(.ref x0), (.int x1)] 4 = mkF m 0 #[.val (.ref x0), .val (.int x1), .unset, .unset] [] := by first | (simp [entryFrame, mkF, argsToLocals, Value.category]; done) | rfl
set_option maxRecDepth 65536 in
set_option maxHeartbeats 40000000 in
theorem own_aii {l : Launch} {Z : State} {a0 : Array Value} (hw : own_Z Z a0) {h : Heap} {os : List own_O} {as : List own_A} {b y o1 o2 : Addr} {cl1 cl2 : Cell} {cs : Int32} {vs : List Value} {m c d : Nat} (hC : cs ≠ 0 ∧ Sta Z Z.heap "java/lang/String" "COMPACT_STRINGS" "Z" (.int cs)) (hD : own_Dg Z o1 o2 cl1 cl2) (hv : vs.length = 16) (hd : own_DD m d) (hm : 1 ≤ m ∧ m ≤ 65535) (hc16 : c + d ≤ 16) (H : own_H Z h (own_SB b (.ref y) (.int (0 : Int32)) (.int (Int32.ofNat c)) :: os) ((y, .byte, "[B", vs) :: as)) : own_Met none l Z (⟨"java/lang/AbstractStringBuilder", "append", "(I)Ljava/lang/AbstractStringBuilder;"⟩ : MethodName) jdk_68_method_32_code 4 (some (.object "java/lang/AbstractStringBuilder")) [] ({ frames := 1, cells := 0, slots := 0, locals := 25 } : Room) #[(.ref b), (.int (Int32.ofNat m))] h (fun v h' => v = some (.ref b) ∧ own_H Z h' (own_SB b (.ref y) (.int (0 : Int32)) (.int (Int32.ofNat (c + d))) :: os) ((y, .byte, "[B", (own_gc d vs (c + d) m)) :: as)) := by
  refine own_met (by first | exact plainFor_of_name (by decide +kernel) | decide +kernel) ?_
  intro p_ e_ s_ m_ below_ meth_ c_ K
  refine own_cast (own_aii_ef m_ _ _) ?_
  have hd5 := hd.1
  refine own_aloadN K own_d27_0 rfl rfl ?_
  refine own_getfield K own_d27_1 (host := "") (Or.inl (own_w103 hw)) Via.refl H (j := 0) rfl (q := 2) rfl ?_
  refine own_istoreN K own_d27_4 (Ls' := #[.val (.ref b), .val (.int (Int32.ofNat m)), .val (.int (Int32.ofNat c)), .unset]) rfl ?_
  refine own_iloadN K own_d27_5 rfl ?_
  refine own_iloadN K own_d27_6 rfl ?_
  refine own_static K own_d27_7 (own_w140 hw) (own_w141 hw) (own_w142 hw) (own_w143 hw) (argsL := [(.int (Int32.ofNat m))]) (rest := [(.int (Int32.ofNat c))]) (own_sz hw hd) own_pd18 rfl rfl rfl (by decide) (W := 1) (Nat.le_of_eq rfl) (by decide) (by decide) (by decide) (by decide) ?_
  intro v3 h1 q2
  obtain ⟨rfl, rfl⟩ := q2
  refine own_iadd K own_d27_10 ?_
  refine own_topI (x' := (Int32.ofNat (c + d))) (own_oa (by omega) (by omega)) ?_
  refine own_istoreN K own_d27_11 (Ls' := #[.val (.ref b), .val (.int (Int32.ofNat m)), .val (.int (Int32.ofNat c)), .val (.int (Int32.ofNat (c + d)))]) rfl ?_
  refine own_aloadN K own_d27_12 rfl rfl ?_
  refine own_iloadN K own_d27_13 rfl ?_
  refine own_private K own_d27_14 (own_w105 hw) (own_w107 hw) (own_selp1 hw) (own_w106 hw) (own_w75 hw) (own_w109 hw) (H.atO (i := 0) rfl) (a := b) (argsL := [(.int (Int32.ofNat (c + d)))]) (rest := []) (own_ec hw hv (m := c + d) hc16 H) own_pd11 rfl rfl rfl (by decide) (W := 0) (Nat.le_of_eq rfl) (by decide) (by decide) (by decide) (by decide) ?_
  intro v6 h4 q5
  obtain ⟨rfl, rfl⟩ := q5
  refine own_aloadN K own_d27_17 rfl rfl ?_
  refine own_virtual K own_d27_18 (own_w144 hw) (own_w145 hw) (own_w147 hw) (own_w146 hw) (own_w75 hw) (own_w148 hw) (H.atO (i := 0) rfl) (a := b) (argsL := []) (rest := []) (own_il hw hC H) own_pd6 rfl rfl rfl (by decide) (W := 0) (Nat.le_of_eq rfl) (by decide) (by decide) (by decide) (by decide) ?_
  intro v9 h7 q8
  obtain ⟨rfl, rfl⟩ := q8
  refine own_ifeq K own_d27_21 (fun q => absurd q (by decide)) (fun _ => ?_)
  refine own_iloadN K own_d27_24 rfl ?_
  refine own_iloadN K own_d27_25 rfl ?_
  refine own_aloadN K own_d27_26 rfl rfl ?_
  refine own_getfield K own_d27_27 (host := "") (Or.inl (own_w79 hw)) Via.refl H (j := 0) rfl (q := 0) rfl ?_
  refine own_static K own_d27_30 (own_w149 hw) (own_w150 hw) (own_w142 hw) (own_w151 hw) (argsL := [(.int (Int32.ofNat m)), (.int (Int32.ofNat (c + d))), (.ref y)]) (rest := []) (own_gcX hw hd (q := c + d) (by omega) hc16 hD hv H) own_pd19 rfl rfl rfl (by decide) (W := 0) (Nat.le_of_eq rfl) (by decide) (by decide) (by decide) (by decide) ?_
  intro v12 h10 q11
  obtain ⟨z14, rfl, H13⟩ := q11
  replace H13 : own_H Z h10 (own_SB b (.ref y) (.int (0 : Int32)) (.int (Int32.ofNat c)) :: os) ((y, .byte, "[B", (own_gc d vs (c + d) m)) :: as) := H13
  refine own_pop K own_d27_33 rfl ?_
  refine own_goto K own_d27_34 ?_
  refine own_aloadN K own_d27_48 rfl rfl ?_
  refine own_iloadN K own_d27_49 rfl ?_
  refine own_putfield K own_d27_50 (host := "") (Or.inl (own_w103 hw)) Via.refl H13 (j := 0) rfl (q := 2) rfl (Or.inl (own_w104 hw)) (own_w66 hw) (ty := .int) (by decide +kernel) (rfl) (rfl) ?_
  intro h15 H16
  replace H16 : own_H Z h15 (own_SB b (.ref y) (.int (0 : Int32)) (.int (Int32.ofNat (c + d))) :: os) ((y, .byte, "[B", (own_gc d vs (c + d) m)) :: as) := H16
  refine own_aloadN K own_d27_53 rfl rfl ?_
  exact own_retA K (fun _ q => q) rfl rfl own_d27_54 (by decide) (by decide) (⟨rfl, H16⟩)
set_option maxRecDepth 65536 in
set_option maxHeartbeats 40000000 in
theorem own_sii_ef (m : MethodId) (x0 : Addr) (x1 : Int32) : entryFrame m #[(.ref x0), (.int x1)] 2 = mkF m 0 #[.val (.ref x0), .val (.int x1)] [] := by first | (simp [entryFrame, mkF, argsToLocals, Value.category]; done) | rfl
set_option maxRecDepth 65536 in
set_option maxHeartbeats 40000000 in
theorem own_sii {l : Launch} {Z : State} {a0 : Array Value} (hw : own_Z Z a0) {h : Heap} {os : List own_O} {as : List own_A} {b y o1 o2 : Addr} {cl1 cl2 : Cell} {cs : Int32} {vs : List Value} {m c d : Nat} (hC : cs ≠ 0 ∧ Sta Z Z.heap "java/lang/String" "COMPACT_STRINGS" "Z" (.int cs)) (hD : own_Dg Z o1 o2 cl1 cl2) (hv : vs.length = 16) (hd : own_DD m d) (hm : 1 ≤ m ∧ m ≤ 65535) (hc16 : c + d ≤ 16) (H : own_H Z h (own_SB b (.ref y) (.int (0 : Int32)) (.int (Int32.ofNat c)) :: os) ((y, .byte, "[B", vs) :: as)) : own_Met none l Z (⟨"java/lang/StringBuilder", "append", "(I)Ljava/lang/StringBuilder;"⟩ : MethodName) jdk_67_method_15_code 2 (some (.object "java/lang/StringBuilder")) [] ({ frames := 2, cells := 0, slots := 0, locals := 42 } : Room) #[(.ref b), (.int (Int32.ofNat m))] h (fun v h' => v = some (.ref b) ∧ own_H Z h' (own_SB b (.ref y) (.int (0 : Int32)) (.int (Int32.ofNat (c + d))) :: os) ((y, .byte, "[B", (own_gc d vs (c + d) m)) :: as)) := by
  refine own_met (by first | exact plainFor_of_name (by decide +kernel) | decide +kernel) ?_
  intro p_ e_ s_ m_ below_ meth_ c_ K
  refine own_cast (own_sii_ef m_ _ _) ?_
  refine own_aloadN K own_d28_0 rfl rfl ?_
  refine own_iloadN K own_d28_1 rfl ?_
  refine own_super K own_d28_2 (own_w136 hw) (own_same (y := ({ cls := "java/lang/AbstractStringBuilder", name := "append", desc := "(I)Ljava/lang/AbstractStringBuilder;" } : Jvm.MethodName)) (own_w137 hw) (own_w108 hw) rfl (by decide)) (own_w137 hw) (own_w90 hw) (own_w75 hw) (own_w139 hw) (by decide) (Ins.self (H.atO (i := 0) rfl)) (a := b) (argsL := [(.int (Int32.ofNat m))]) (rest := []) (own_aii hw hC hD hv hd hm hc16 H) own_pd20 rfl rfl rfl (W := 0) (Nat.le_of_eq rfl) (by decide) (by decide) (by decide) (by decide) ?_
  intro v3 h1 q2
  obtain ⟨rfl, H4⟩ := q2
  replace H4 : own_H Z h1 (own_SB b (.ref y) (.int (0 : Int32)) (.int (Int32.ofNat (c + d))) :: os) ((y, .byte, "[B", (own_gc d vs (c + d) m)) :: as) := H4
  refine own_pop K own_d28_5 rfl ?_
  refine own_aloadN K own_d28_6 rfl rfl ?_
  exact own_retA K (fun _ q => q) rfl rfl own_d28_7 (by decide) (by decide) (⟨rfl, H4⟩)
set_option maxRecDepth 65536 in
set_option maxHeartbeats 40000000 in
theorem own_gv_ef (m : MethodId) (x0 : Addr) : entryFrame m #[(.ref x0)] 1 = mkF m 0 #[.val (.ref x0)] [] := by first | (simp [entryFrame, mkF, argsToLocals, Value.category]; done) | rfl
set_option maxRecDepth 65536 in
set_option maxHeartbeats 40000000 in
theorem own_gv {l : Launch} {Z : State} {a0 : Array Value} (hw : own_Z Z a0) {h : Heap} {os : List own_O} {as : List own_A} {b y : Addr} {cnt : Int32} (H : own_H Z h (own_SB b (.ref y) (.int (0 : Int32)) (.int cnt) :: os) as) : own_Met none l Z (⟨"java/lang/AbstractStringBuilder", "getValue", "()[B"⟩ : MethodName) jdk_68_method_64_code 1 (some (.array .byte)) [] ({ frames := 0, cells := 0, slots := 0, locals := 0 } : Room) #[(.ref b)] h (fun v h' => v = some (.ref y) ∧ h = h') := by
  refine own_met (by first | exact plainFor_of_name (by decide +kernel) | decide +kernel) ?_
  intro p_ e_ s_ m_ below_ meth_ c_ K
  refine own_cast (own_gv_ef m_ _) ?_
  refine own_aloadN K own_d29_0 rfl rfl ?_
  refine own_getfield K own_d29_1 (host := "") (Or.inl (own_w79 hw)) Via.refl H (j := 0) rfl (q := 0) rfl ?_
  exact own_retA K (fun _ q => q) rfl rfl own_d29_4 (by decide) (by decide) (⟨rfl, rfl⟩)
set_option maxRecDepth 65536 in
set_option maxHeartbeats 40000000 in
theorem own_aln_ef (m : MethodId) (x0 : Addr) : entryFrame m #[(.ref x0)] 1 = mkF m 0 #[.val (.ref x0)] [] := by first | (simp [entryFrame, mkF, argsToLocals, Value.category]; done) | rfl
set_option maxRecDepth 65536 in
set_option maxHeartbeats 40000000 in
theorem own_aln {l : Launch} {Z : State} {a0 : Array Value} (hw : own_Z Z a0) {h : Heap} {os : List own_O} {as : List own_A} {b y : Addr} {cnt : Int32} (H : own_H Z h (own_SB b (.ref y) (.int (0 : Int32)) (.int cnt) :: os) as) : own_Met none l Z (⟨"java/lang/AbstractStringBuilder", "length", "()I"⟩ : MethodName) jdk_68_method_6_code 1 (some .int) [] ({ frames := 0, cells := 0, slots := 0, locals := 0 } : Room) #[(.ref b)] h (fun v h' => v = some (.int cnt) ∧ h = h') := by
  refine own_met (by first | exact plainFor_of_name (by decide +kernel) | decide +kernel) ?_
  intro p_ e_ s_ m_ below_ meth_ c_ K
  refine own_cast (own_aln_ef m_ _) ?_
  refine own_aloadN K own_d30_0 rfl rfl ?_
  refine own_getfield K own_d30_1 (host := "") (Or.inl (own_w103 hw)) Via.refl H (j := 0) rfl (q := 2) rfl ?_
  exact own_retI K (fun _ q => q) own_d30_4 (by decide) (by decide) (⟨rfl, rfl⟩)
set_option maxRecDepth 65536 in
set_option maxHeartbeats 40000000 in
theorem own_sln_ef (m : MethodId) (x0 : Addr) : entryFrame m #[(.ref x0)] 1 = mkF m 0 #[.val (.ref x0)] [] := by first | (simp [entryFrame, mkF, argsToLocals, Value.category]; done) | rfl
set_option maxRecDepth 65536 in
set_option maxHeartbeats 40000000 in
theorem own_sln {l : Launch} {Z : State} {a0 : Array Value} (hw : own_Z Z a0) {h : Heap} {os : List own_O} {as : List own_A} {b y : Addr} {cnt : Int32} (H : own_H Z h (own_SB b (.ref y) (.int (0 : Int32)) (.int cnt) :: os) as) : own_Met none l Z (⟨"java/lang/StringBuilder", "length", "()I"⟩ : MethodName) jdk_67_method_93_code 1 (some .int) [] ({ frames := 1, cells := 0, slots := 0, locals := 12 } : Room) #[(.ref b)] h (fun v h' => v = some (.int cnt) ∧ h = h') := by
  refine own_met (by first | exact plainFor_of_name (by decide +kernel) | decide +kernel) ?_
  intro p_ e_ s_ m_ below_ meth_ c_ K
  refine own_cast (own_sln_ef m_ _) ?_
  refine own_aloadN K own_d31_0 rfl rfl ?_
  refine own_super K own_d31_1 (own_w176 hw) (own_same (y := ({ cls := "java/lang/AbstractStringBuilder", name := "length", desc := "()I" } : Jvm.MethodName)) (own_w172 hw) (own_w108 hw) rfl (by decide)) (own_w172 hw) (own_w90 hw) (own_w75 hw) (own_w177 hw) (by decide) (Ins.self (H.atO (i := 0) rfl)) (a := b) (argsL := []) (rest := []) (own_aln hw H) own_pd15 rfl rfl rfl (W := 0) (Nat.le_of_eq rfl) (by decide) (by decide) (by decide) (by decide) ?_
  intro v3 h1 q2
  obtain ⟨rfl, rfl⟩ := q2
  exact own_retI K (fun _ q => q) own_d31_4 (by decide) (by decide) (⟨rfl, rfl⟩)
set_option maxRecDepth 65536 in
set_option maxHeartbeats 40000000 in
theorem own_cl2_ef (m : MethodId) (x0 : Int32) (x1 : Int32) : entryFrame m #[(.int x0), (.int x1)] 2 = mkF m 0 #[.val (.int x0), .val (.int x1)] [] := by first | (simp [entryFrame, mkF, argsToLocals, Value.category]; done) | rfl
set_option maxRecDepth 65536 in
set_option maxHeartbeats 40000000 in
theorem own_cl2 {l : Launch} {Z : State} {a0 : Array Value} (hw : own_Z Z a0) {h : Heap} : own_Met none l Z (⟨"java/util/Arrays", "checkLength", "(II)V"⟩ : MethodName) jdk_65_method_131_code 2 none [] ({ frames := 0, cells := 0, slots := 0, locals := 0 } : Room) #[(.int (0 : Int32)), (.int (2 : Int32))] h (fun v h' => v = none ∧ h = h') := by
  refine own_met (by first | exact plainFor_of_name (by decide +kernel) | decide +kernel) ?_
  intro p_ e_ s_ m_ below_ meth_ c_ K
  refine own_cast (own_cl2_ef m_ _ _) ?_
  refine own_iloadN K own_d32_0 rfl ?_
  refine own_iloadN K own_d32_1 rfl ?_
  refine own_icmpge K own_d32_2 (fun _ => ?_) (fun q => absurd (by decide) q)
  exact own_retV K (fun _ q => q) own_d32_37 (by decide) (by decide) (⟨rfl, rfl⟩)
set_option maxRecDepth 65536 in
set_option maxHeartbeats 40000000 in
theorem own_mi2_ef (m : MethodId) (x0 : Int32) (x1 : Int32) : entryFrame m #[(.int x0), (.int x1)] 2 = mkF m 0 #[.val (.int x0), .val (.int x1)] [] := by first | (simp [entryFrame, mkF, argsToLocals, Value.category]; done) | rfl
set_option maxRecDepth 65536 in
set_option maxHeartbeats 40000000 in
theorem own_mi2 {l : Launch} {Z : State} {a0 : Array Value} (hw : own_Z Z a0) {h : Heap} : own_Met none l Z (⟨"java/lang/Math", "min", "(II)I"⟩ : MethodName) jdk_29_method_69_code 2 (some .int) [] ({ frames := 0, cells := 0, slots := 0, locals := 0 } : Room) #[(.int (16 : Int32)), (.int (2 : Int32))] h (fun v h' => v = some (.int (2 : Int32)) ∧ h = h') := by
  refine own_met (by first | exact plainFor_of_name (by decide +kernel) | decide +kernel) ?_
  intro p_ e_ s_ m_ below_ meth_ c_ K
  refine own_cast (own_mi2_ef m_ _ _) ?_
  refine own_iloadN K own_d33_0 rfl ?_
  refine own_iloadN K own_d33_1 rfl ?_
  refine own_icmpgt K own_d33_2 (fun _ => ?_) (fun q => absurd (by decide) q)
  refine own_iloadN K own_d33_9 rfl ?_
  exact own_retI K (fun _ q => q) own_d33_10 (by decide) (by decide) (⟨rfl, rfl⟩)
set_option maxRecDepth 65536 in
set_option maxHeartbeats 40000000 in
theorem own_crb2_ef (m : MethodId) (x0 : Addr) (x1 : Int32) (x2 : Int32) : entryFrame m #[(.ref x0), (.int x1), (.int x2)] 5 = mkF m 0 #[.val (.ref x0), .val (.int x1), .val (.int x2), .unset, .unset] [] := by first | (simp [entryFrame, mkF, argsToLocals, Value.category]; done) | rfl
set_option maxRecDepth 65536 in
set_option maxHeartbeats 40000000 in
theorem own_crb2 {l : Launch} {Z : State} {a0 : Array Value} (hw : own_Z Z a0) {h : Heap} {os : List own_O} {as : List own_A} {y : Addr} {vs : List Value} (hv : vs.length = 16) (H : own_H Z h os ((y, .byte, "[B", vs) :: as)) : own_Met none l Z (⟨"java/util/Arrays", "copyOfRangeByte", "([BII)[B"⟩ : MethodName) jdk_65_method_133_code 5 (some (.array .byte)) [] ({ frames := 1, cells := 1, slots := 9, locals := 30 } : Room) #[(.ref y), (.int (0 : Int32)), (.int (2 : Int32))] h (fun v h' => ∃ z, v = some (.ref z) ∧ own_H Z h' os ((z, .byte, "[B", vs.take 2) :: (y, .byte, "[B", vs) :: as)) := by
  refine own_met (by first | exact plainFor_of_name (by decide +kernel) | decide +kernel) ?_
  intro p_ e_ s_ m_ below_ meth_ c_ K
  refine own_cast (own_crb2_ef m_ _ _ _) ?_
  refine own_iloadN K own_d34_0 rfl ?_
  refine own_iloadN K own_d34_1 rfl ?_
  refine own_static K own_d34_2 (own_w186 hw) (own_w187 hw) (own_w181 hw) (own_w188 hw) (argsL := [(.int (0 : Int32)), (.int (2 : Int32))]) (rest := []) (own_cl2 hw) own_pd5 rfl rfl rfl (by decide) (W := 0) (Nat.le_of_eq rfl) (by decide) (by decide) (by decide) (by decide) ?_
  intro v3 h1 q2
  obtain ⟨rfl, rfl⟩ := q2
  refine own_iloadN K own_d34_5 rfl ?_
  refine own_iloadN K own_d34_6 rfl ?_
  refine own_isub K own_d34_7 ?_
  refine own_topI (x' := (2 : Int32)) (by decide) ?_
  refine own_istoreN K own_d34_8 (Ls' := #[.val (.ref y), .val (.int (0 : Int32)), .val (.int (2 : Int32)), .val (.int (2 : Int32)), .unset]) rfl ?_
  refine own_iloadN K own_d34_9 rfl ?_
  refine own_newarray K own_d34_10 (ty := .byte) rfl (own_w23 hw) H (q := 2) (by decide) (ad := "[B") (by decide +kernel) (vs := [(.int (0 : Int32)), (.int (0 : Int32))]) rfl (by decide) (by decide) (by decide) ?_
  intro h4 a6 H5
  replace H5 : own_H Z h4 (os) ((a6, .byte, "[B", [(.int (0 : Int32)), (.int (0 : Int32))]) :: (y, .byte, "[B", vs) :: as) := H5
  refine own_astore K own_d34_12 rfl (Ls' := #[.val (.ref y), .val (.int (0 : Int32)), .val (.int (2 : Int32)), .val (.int (2 : Int32)), .val (.ref a6)]) rfl ?_
  refine own_aloadN K own_d34_14 rfl rfl ?_
  refine own_iloadN K own_d34_15 rfl ?_
  refine own_aload K own_d34_16 rfl rfl ?_
  refine own_iconst K own_d34_18 (v := (0 : Int32)) rfl ?_
  refine own_aloadN K own_d34_19 rfl rfl ?_
  refine own_arraylength K own_d34_20 H5 (i := 1) rfl (N := (16 : Int32)) (by rw [hv]; rfl) ?_
  refine own_iloadN K own_d34_21 rfl ?_
  refine own_isub K own_d34_22 ?_
  refine own_topI (x' := (16 : Int32)) (by decide) ?_
  refine own_iloadN K own_d34_23 rfl ?_
  refine own_static K own_d34_24 (own_w189 hw) (own_w190 hw) (own_w191 hw) (own_w192 hw) (argsL := [(.int (16 : Int32)), (.int (2 : Int32))]) (rest := [(.int (0 : Int32)), (.ref a6), (.int (0 : Int32)), (.ref y)]) (own_mi2 hw) own_pd21 rfl rfl rfl (by decide) (W := 4) (Nat.le_of_eq rfl) (by decide) (by decide) (by decide) (by decide) ?_
  intro v9 h7 q8
  obtain ⟨rfl, rfl⟩ := q8
  refine own_arraycopy K own_d34_27 (own_w193 hw) (own_w129 hw) (own_w127 hw) (own_w128 hw) H5 (ia := 1) rfl (ib := 0) rfl rfl (by intro C q; cases q) (sq := 0) (by decide) (dq := 0) (by decide) (nq := 2) (by decide) (by rw [hv]; decide) (own_le rfl) (by rw [hv]; decide) (own_le rfl) rfl (by decide) (W := 0) (Nat.le_of_eq rfl) (by decide) ?_
  intro h10 H11
  rw [show ([.int (0 : Int32), .int (0 : Int32)] : List Value).take 0 ++ (vs.drop 0).take 2 ++ ([.int (0 : Int32), .int (0 : Int32)] : List Value).drop (0 + 2) = vs.take 2 from own_cpz rfl] at H11
  replace H11 : own_H Z h10 (os) ((a6, .byte, "[B", (vs.take 2)) :: (y, .byte, "[B", vs) :: as) := H11
  refine own_aload K own_d34_30 rfl rfl ?_
  exact own_retA K (fun _ q => q) rfl rfl own_d34_32 (by decide) (by decide) (⟨_, rfl, H11⟩)
set_option maxRecDepth 65536 in
set_option maxHeartbeats 40000000 in
theorem own_cr2_ef (m : MethodId) (x0 : Addr) (x1 : Int32) (x2 : Int32) : entryFrame m #[(.ref x0), (.int x1), (.int x2)] 3 = mkF m 0 #[.val (.ref x0), .val (.int x1), .val (.int x2)] [] := by first | (simp [entryFrame, mkF, argsToLocals, Value.category]; done) | rfl
set_option maxRecDepth 65536 in
set_option maxHeartbeats 40000000 in
theorem own_cr2 {l : Launch} {Z : State} {a0 : Array Value} (hw : own_Z Z a0) {h : Heap} {os : List own_O} {as : List own_A} {y : Addr} {vs : List Value} (hv : vs.length = 16) (H : own_H Z h os ((y, .byte, "[B", vs) :: as)) : own_Met none l Z (⟨"java/util/Arrays", "copyOfRange", "([BII)[B"⟩ : MethodName) jdk_65_method_132_code 3 (some (.array .byte)) [] ({ frames := 2, cells := 1, slots := 9, locals := 46 } : Room) #[(.ref y), (.int (0 : Int32)), (.int (2 : Int32))] h (fun v h' => ∃ z, v = some (.ref z) ∧ own_H Z h' os ((z, .byte, "[B", vs.take 2) :: (y, .byte, "[B", vs) :: as)) := by
  refine own_met (by first | exact plainFor_of_name (by decide +kernel) | decide +kernel) ?_
  intro p_ e_ s_ m_ below_ meth_ c_ K
  refine own_cast (own_cr2_ef m_ _ _ _) ?_
  refine own_iloadN K own_d35_0 rfl ?_
  refine own_ifne K own_d35_1 (fun q => absurd q (by decide)) (fun _ => ?_)
  refine own_iloadN K own_d35_4 rfl ?_
  refine own_aloadN K own_d35_5 rfl rfl ?_
  refine own_arraylength K own_d35_6 H (i := 0) rfl (N := (16 : Int32)) (by rw [hv]; rfl) ?_
  refine own_icmpeq K own_d35_7 (fun q => absurd q (by decide)) (fun _ => ?_)
  refine own_aloadN K own_d35_10 rfl rfl ?_
  refine own_iloadN K own_d35_11 rfl ?_
  refine own_iloadN K own_d35_12 rfl ?_
  refine own_static K own_d35_13 (own_w183 hw) (own_w184 hw) (own_w181 hw) (own_w185 hw) (argsL := [(.ref y), (.int (0 : Int32)), (.int (2 : Int32))]) (rest := []) (own_crb2 hw hv H) own_pd22 rfl rfl rfl (by decide) (W := 0) (Nat.le_of_eq rfl) (by decide) (by decide) (by decide) (by decide) ?_
  intro v3 h1 q2
  obtain ⟨z5, rfl, H4⟩ := q2
  replace H4 : own_H Z h1 (os) ((z5, .byte, "[B", (vs.take 2)) :: (y, .byte, "[B", vs) :: as) := H4
  exact own_retA K (fun _ q => q) rfl rfl own_d35_16 (by decide) (by decide) (⟨_, rfl, H4⟩)
set_option maxRecDepth 65536 in
set_option maxHeartbeats 40000000 in
theorem own_sx2_ef (m : MethodId) (x0 : Addr) (x1 : Addr) : entryFrame m #[(.ref x0), (.ref x1), .null] 5 = mkF m 0 #[.val (.ref x0), .val (.ref x1), .val .null, .unset, .unset] [] := by first | (simp [entryFrame, mkF, argsToLocals, Value.category]; done) | rfl
set_option maxRecDepth 65536 in
set_option maxHeartbeats 40000000 in
theorem own_sx2 {l : Launch} {Z : State} {a0 : Array Value} (hw : own_Z Z a0) {h : Heap} {os : List own_O} {as : List own_A} {a b y : Addr} {cs : Int32} {vs : List Value} (hC : cs ≠ 0 ∧ Sta Z Z.heap "java/lang/String" "COMPACT_STRINGS" "Z" (.int cs)) (hv : vs.length = 16) (H : own_H Z h (own_ST a .null (.int (0 : Int32)) :: own_SB b (.ref y) (.int (0 : Int32)) (.int (2 : Int32)) :: os) ((y, .byte, "[B", vs) :: as)) : own_Met none l Z (⟨"java/lang/String", "<init>", "(Ljava/lang/AbstractStringBuilder;Ljava/lang/Void;)V"⟩ : MethodName) jdk_42_method_150_code 5 none [] ({ frames := 3, cells := 1, slots := 9, locals := 62 } : Room) #[(.ref a), (.ref b), .null] h (fun v h' => v = none ∧ ∃ z, own_H Z h' (own_ST a (.ref z) (.int (0 : Int32)) :: own_SB b (.ref y) (.int (0 : Int32)) (.int (2 : Int32)) :: os) ((z, .byte, "[B", vs.take 2) :: (y, .byte, "[B", vs) :: as)) := by
  refine own_met (by first | exact plainFor_of_name (by decide +kernel) | decide +kernel) ?_
  intro p_ e_ s_ m_ below_ meth_ c_ K
  refine own_cast (own_sx2_ef m_ _ _) ?_
  refine own_aloadN K own_d36_0 rfl rfl ?_
  refine own_initO K own_d36_1 (own_w15 hw) (own_w16 hw) (own_w17 hw) rfl (by decide) (W := 0) (Nat.le_of_eq rfl) (by decide) ?_
  refine own_aloadN K own_d36_4 rfl rfl ?_
  have H1 := H.frontO 1 rfl
  refine own_virtual K own_d36_5 (own_w165 hw) (own_w166 hw) (own_w168 hw) (own_w167 hw) (own_w75 hw) (own_w169 hw) (H.atO (i := 1) rfl) (a := b) (argsL := []) (rest := []) (own_gv hw H1) own_pd23 rfl rfl rfl (by decide) (W := 0) (Nat.le_of_eq rfl) (by decide) (by decide) (by decide) (by decide) ?_
  intro v4 h2 q3
  obtain ⟨rfl, rfl⟩ := q3
  refine own_astoreN K own_d36_8 rfl (Ls' := #[.val (.ref a), .val (.ref b), .val .null, .val (.ref y), .unset]) rfl ?_
  refine own_aloadN K own_d36_9 rfl rfl ?_
  have H5 := H.frontO 1 rfl
  refine own_virtualZ K own_d36_10 (own_w170 hw) (own_w171 hw) (own_w173 hw) (own_w174 hw) (own_w67 hw) (own_w175 hw) (H.atO (i := 1) rfl) (own_nf K (own_w108 hw) rfl) (a := b) (argsL := []) (rest := []) (own_sln hw H5) own_pd15 rfl rfl rfl (by decide) (W := 0) (Nat.le_of_eq rfl) (by decide) (by decide) (by decide) (by decide) ?_
  intro v8 h6 q7
  obtain ⟨rfl, rfl⟩ := q7
  refine own_istore K own_d36_13 (Ls' := #[.val (.ref a), .val (.ref b), .val .null, .val (.ref y), .val (.int (2 : Int32))]) rfl ?_
  refine own_aloadN K own_d36_15 rfl rfl ?_
  have H9 := H.frontO 1 rfl
  refine own_virtual K own_d36_16 (own_w178 hw) (own_w145 hw) (own_w147 hw) (own_w146 hw) (own_w75 hw) (own_w148 hw) (H.atO (i := 1) rfl) (a := b) (argsL := []) (rest := []) (own_il hw hC H9) own_pd6 rfl rfl rfl (by decide) (W := 0) (Nat.le_of_eq rfl) (by decide) (by decide) (by decide) (by decide) ?_
  intro v12 h10 q11
  obtain ⟨rfl, rfl⟩ := q11
  refine own_ifeq K own_d36_19 (fun q => absurd q (by decide)) (fun _ => ?_)
  refine own_aloadN K own_d36_22 rfl rfl ?_
  refine own_iconst K own_d36_23 (v := (0 : Int32)) rfl ?_
  refine own_putfield K own_d36_24 (host := "") (Or.inl (own_w30 hw)) Via.refl H (j := 0) rfl (q := 1) rfl (Or.inr ⟨(own_w31 hw), rfl, rfl⟩) (own_w5 hw) (ty := .byte) (by decide +kernel) (rfl) (rfl) ?_
  intro h13 H14
  replace H14 : own_H Z h13 (own_ST a .null (.int (0 : Int32)) :: own_SB b (.ref y) (.int (0 : Int32)) (.int (2 : Int32)) :: os) ((y, .byte, "[B", vs) :: as) := H14
  refine own_aloadN K own_d36_27 rfl rfl ?_
  refine own_aloadN K own_d36_28 rfl rfl ?_
  refine own_iconst K own_d36_29 (v := (0 : Int32)) rfl ?_
  refine own_iload K own_d36_30 rfl ?_
  refine own_static K own_d36_32 (own_w179 hw) (own_w180 hw) (own_w181 hw) (own_w182 hw) (argsL := [(.ref y), (.int (0 : Int32)), (.int (2 : Int32))]) (rest := [(.ref a)]) (own_cr2 hw hv H14) own_pd22 rfl rfl rfl (by decide) (W := 1) (Nat.le_of_eq rfl) (by decide) (by decide) (by decide) (by decide) ?_
  intro v17 h15 q16
  obtain ⟨z19, rfl, H18⟩ := q16
  replace H18 : own_H Z h15 (own_ST a .null (.int (0 : Int32)) :: own_SB b (.ref y) (.int (0 : Int32)) (.int (2 : Int32)) :: os) ((z19, .byte, "[B", (vs.take 2)) :: (y, .byte, "[B", vs) :: as) := H18
  refine own_putfield K own_d36_35 (host := "") (Or.inl (own_w32 hw)) Via.refl H18 (j := 0) rfl (q := 0) rfl (Or.inr ⟨(own_w33 hw), rfl, rfl⟩) (own_w5 hw) (ty := (.array .byte)) (by decide +kernel) (rfl) (rfl) ?_
  intro h20 H21
  replace H21 : own_H Z h20 (own_ST a (.ref z19) (.int (0 : Int32)) :: own_SB b (.ref y) (.int (0 : Int32)) (.int (2 : Int32)) :: os) ((z19, .byte, "[B", (vs.take 2)) :: (y, .byte, "[B", vs) :: as) := H21
  refine own_goto K own_d36_38 ?_
  exact own_retV K (fun _ q => q) own_d36_97 (by decide) (by decide) (⟨rfl, _, H21⟩)
set_option maxRecDepth 65536 in
set_option maxHeartbeats 40000000 in
theorem own_sy2_ef (m : MethodId) (x0 : Addr) (x1 : Addr) : entryFrame m #[(.ref x0), (.ref x1)] 2 = mkF m 0 #[.val (.ref x0), .val (.ref x1)] [] := by first | (simp [entryFrame, mkF, argsToLocals, Value.category]; done) | rfl
set_option maxRecDepth 65536 in
set_option maxHeartbeats 40000000 in
theorem own_sy2 {l : Launch} {Z : State} {a0 : Array Value} (hw : own_Z Z a0) {h : Heap} {os : List own_O} {as : List own_A} {a b y : Addr} {cs : Int32} {vs : List Value} (hC : cs ≠ 0 ∧ Sta Z Z.heap "java/lang/String" "COMPACT_STRINGS" "Z" (.int cs)) (hv : vs.length = 16) (H : own_H Z h (own_ST a .null (.int (0 : Int32)) :: own_SB b (.ref y) (.int (0 : Int32)) (.int (2 : Int32)) :: os) ((y, .byte, "[B", vs) :: as)) : own_Met none l Z (⟨"java/lang/String", "<init>", "(Ljava/lang/StringBuilder;)V"⟩ : MethodName) jdk_42_method_53_code 2 none [] ({ frames := 4, cells := 1, slots := 9, locals := 79 } : Room) #[(.ref a), (.ref b)] h (fun v h' => v = none ∧ ∃ z, own_H Z h' (own_ST a (.ref z) (.int (0 : Int32)) :: own_SB b (.ref y) (.int (0 : Int32)) (.int (2 : Int32)) :: os) ((z, .byte, "[B", vs.take 2) :: (y, .byte, "[B", vs) :: as)) := by
  refine own_met (by first | exact plainFor_of_name (by decide +kernel) | decide +kernel) ?_
  intro p_ e_ s_ m_ below_ meth_ c_ K
  refine own_cast (own_sy2_ef m_ _ _) ?_
  refine own_aloadN K own_d37_0 rfl rfl ?_
  refine own_aloadN K own_d37_1 rfl rfl ?_
  refine own_aconstNull K own_d37_2 ?_
  refine own_special K own_d37_3 rfl (own_w162 hw) (own_w163 hw) (own_w6 hw) (own_w164 hw) (a := a) (argsL := [(.ref b), .null]) (rest := []) (own_sx2 hw hC hv H) own_pd24 rfl rfl rfl (by decide) (W := 0) (Nat.le_of_eq rfl) (by decide) (by decide) (by decide) (by decide) ?_
  intro v3 h1 q2
  obtain ⟨rfl, z5, H4⟩ := q2
  replace H4 : own_H Z h1 (own_ST a (.ref z5) (.int (0 : Int32)) :: own_SB b (.ref y) (.int (0 : Int32)) (.int (2 : Int32)) :: os) ((z5, .byte, "[B", (vs.take 2)) :: (y, .byte, "[B", vs) :: as) := H4
  exact own_retV K (fun _ q => q) own_d37_6 (by decide) (by decide) (⟨rfl, _, H4⟩)
set_option maxRecDepth 65536 in
set_option maxHeartbeats 40000000 in
theorem own_ts2_ef (m : MethodId) (x0 : Addr) : entryFrame m #[(.ref x0)] 1 = mkF m 0 #[.val (.ref x0)] [] := by first | (simp [entryFrame, mkF, argsToLocals, Value.category]; done) | rfl
set_option maxRecDepth 65536 in
set_option maxHeartbeats 40000000 in
theorem own_ts2 {l : Launch} {Z : State} {a0 : Array Value} (hw : own_Z Z a0) {h : Heap} {os : List own_O} {as : List own_A} {b y : Addr} {cs : Int32} {vs : List Value} (hC : cs ≠ 0 ∧ Sta Z Z.heap "java/lang/String" "COMPACT_STRINGS" "Z" (.int cs)) (hv : vs.length = 16) (H : own_H Z h (own_SB b (.ref y) (.int (0 : Int32)) (.int (2 : Int32)) :: os) ((y, .byte, "[B", vs) :: as)) : own_Met none l Z (⟨"java/lang/StringBuilder", "toString", "()Ljava/lang/String;"⟩ : MethodName) jdk_67_method_42_code 1 (some (.object "java/lang/String")) [] ({ frames := 5, cells := 2, slots := 13, locals := 93 } : Room) #[(.ref b)] h (fun v h' => ∃ a z, v = some (.ref a) ∧ own_H Z h' (own_ST a (.ref z) (.int (0 : Int32)) :: own_SB b (.ref y) (.int (0 : Int32)) (.int (2 : Int32)) :: os) ((z, .byte, "[B", vs.take 2) :: (y, .byte, "[B", vs) :: as)) := by
  refine own_met (by first | exact plainFor_of_name (by decide +kernel) | decide +kernel) ?_
  intro p_ e_ s_ m_ below_ meth_ c_ K
  refine own_cast (own_ts2_ef m_ _) ?_
  refine own_new K own_d38_0 (own_w158 hw) (own_w5 hw) (own_w6 hw) H (own_ST_F hw) (own_ST_P hw) (by decide) (by decide) ?_
  intro h1 a3 H2
  replace H2 : own_H Z h1 (own_ST a3 .null (.int (0 : Int32)) :: own_SB b (.ref y) (.int (0 : Int32)) (.int (2 : Int32)) :: os) ((y, .byte, "[B", vs) :: as) := H2
  refine own_dup K own_d38_3 rfl ?_
  refine own_aloadN K own_d38_4 rfl rfl ?_
  refine own_special K own_d38_5 rfl (own_w159 hw) (own_w160 hw) (own_w6 hw) (own_w161 hw) (a := a3) (argsL := [(.ref b)]) (rest := [(.ref a3)]) (own_sy2 hw hC hv H2) own_pd25 rfl rfl rfl (by decide) (W := 1) (Nat.le_of_eq rfl) (by decide) (by decide) (by decide) (by decide) ?_
  intro v6 h4 q5
  obtain ⟨rfl, z8, H7⟩ := q5
  replace H7 : own_H Z h4 (own_ST a3 (.ref z8) (.int (0 : Int32)) :: own_SB b (.ref y) (.int (0 : Int32)) (.int (2 : Int32)) :: os) ((z8, .byte, "[B", (vs.take 2)) :: (y, .byte, "[B", vs) :: as) := H7
  exact own_retA K (fun _ q => q) rfl rfl own_d38_8 (by decide) (by decide) (⟨_, _, rfl, H7⟩)
set_option maxRecDepth 65536 in
set_option maxHeartbeats 40000000 in
theorem own_cl3_ef (m : MethodId) (x0 : Int32) (x1 : Int32) : entryFrame m #[(.int x0), (.int x1)] 2 = mkF m 0 #[.val (.int x0), .val (.int x1)] [] := by first | (simp [entryFrame, mkF, argsToLocals, Value.category]; done) | rfl
set_option maxRecDepth 65536 in
set_option maxHeartbeats 40000000 in
theorem own_cl3 {l : Launch} {Z : State} {a0 : Array Value} (hw : own_Z Z a0) {h : Heap} : own_Met none l Z (⟨"java/util/Arrays", "checkLength", "(II)V"⟩ : MethodName) jdk_65_method_131_code 2 none [] ({ frames := 0, cells := 0, slots := 0, locals := 0 } : Room) #[(.int (0 : Int32)), (.int (3 : Int32))] h (fun v h' => v = none ∧ h = h') := by
  refine own_met (by first | exact plainFor_of_name (by decide +kernel) | decide +kernel) ?_
  intro p_ e_ s_ m_ below_ meth_ c_ K
  refine own_cast (own_cl3_ef m_ _ _) ?_
  refine own_iloadN K own_d32_0 rfl ?_
  refine own_iloadN K own_d32_1 rfl ?_
  refine own_icmpge K own_d32_2 (fun _ => ?_) (fun q => absurd (by decide) q)
  exact own_retV K (fun _ q => q) own_d32_37 (by decide) (by decide) (⟨rfl, rfl⟩)
set_option maxRecDepth 65536 in
set_option maxHeartbeats 40000000 in
theorem own_mi3_ef (m : MethodId) (x0 : Int32) (x1 : Int32) : entryFrame m #[(.int x0), (.int x1)] 2 = mkF m 0 #[.val (.int x0), .val (.int x1)] [] := by first | (simp [entryFrame, mkF, argsToLocals, Value.category]; done) | rfl
set_option maxRecDepth 65536 in
set_option maxHeartbeats 40000000 in
theorem own_mi3 {l : Launch} {Z : State} {a0 : Array Value} (hw : own_Z Z a0) {h : Heap} : own_Met none l Z (⟨"java/lang/Math", "min", "(II)I"⟩ : MethodName) jdk_29_method_69_code 2 (some .int) [] ({ frames := 0, cells := 0, slots := 0, locals := 0 } : Room) #[(.int (16 : Int32)), (.int (3 : Int32))] h (fun v h' => v = some (.int (3 : Int32)) ∧ h = h') := by
  refine own_met (by first | exact plainFor_of_name (by decide +kernel) | decide +kernel) ?_
  intro p_ e_ s_ m_ below_ meth_ c_ K
  refine own_cast (own_mi3_ef m_ _ _) ?_
  refine own_iloadN K own_d33_0 rfl ?_
  refine own_iloadN K own_d33_1 rfl ?_
  refine own_icmpgt K own_d33_2 (fun _ => ?_) (fun q => absurd (by decide) q)
  refine own_iloadN K own_d33_9 rfl ?_
  exact own_retI K (fun _ q => q) own_d33_10 (by decide) (by decide) (⟨rfl, rfl⟩)
set_option maxRecDepth 65536 in
set_option maxHeartbeats 40000000 in
theorem own_crb3_ef (m : MethodId) (x0 : Addr) (x1 : Int32) (x2 : Int32) : entryFrame m #[(.ref x0), (.int x1), (.int x2)] 5 = mkF m 0 #[.val (.ref x0), .val (.int x1), .val (.int x2), .unset, .unset] [] := by first | (simp [entryFrame, mkF, argsToLocals, Value.category]; done) | rfl
set_option maxRecDepth 65536 in
set_option maxHeartbeats 40000000 in
theorem own_crb3 {l : Launch} {Z : State} {a0 : Array Value} (hw : own_Z Z a0) {h : Heap} {os : List own_O} {as : List own_A} {y : Addr} {vs : List Value} (hv : vs.length = 16) (H : own_H Z h os ((y, .byte, "[B", vs) :: as)) : own_Met none l Z (⟨"java/util/Arrays", "copyOfRangeByte", "([BII)[B"⟩ : MethodName) jdk_65_method_133_code 5 (some (.array .byte)) [] ({ frames := 1, cells := 1, slots := 9, locals := 30 } : Room) #[(.ref y), (.int (0 : Int32)), (.int (3 : Int32))] h (fun v h' => ∃ z, v = some (.ref z) ∧ own_H Z h' os ((z, .byte, "[B", vs.take 3) :: (y, .byte, "[B", vs) :: as)) := by
  refine own_met (by first | exact plainFor_of_name (by decide +kernel) | decide +kernel) ?_
  intro p_ e_ s_ m_ below_ meth_ c_ K
  refine own_cast (own_crb3_ef m_ _ _ _) ?_
  refine own_iloadN K own_d34_0 rfl ?_
  refine own_iloadN K own_d34_1 rfl ?_
  refine own_static K own_d34_2 (own_w186 hw) (own_w187 hw) (own_w181 hw) (own_w188 hw) (argsL := [(.int (0 : Int32)), (.int (3 : Int32))]) (rest := []) (own_cl3 hw) own_pd5 rfl rfl rfl (by decide) (W := 0) (Nat.le_of_eq rfl) (by decide) (by decide) (by decide) (by decide) ?_
  intro v3 h1 q2
  obtain ⟨rfl, rfl⟩ := q2
  refine own_iloadN K own_d34_5 rfl ?_
  refine own_iloadN K own_d34_6 rfl ?_
  refine own_isub K own_d34_7 ?_
  refine own_topI (x' := (3 : Int32)) (by decide) ?_
  refine own_istoreN K own_d34_8 (Ls' := #[.val (.ref y), .val (.int (0 : Int32)), .val (.int (3 : Int32)), .val (.int (3 : Int32)), .unset]) rfl ?_
  refine own_iloadN K own_d34_9 rfl ?_
  refine own_newarray K own_d34_10 (ty := .byte) rfl (own_w23 hw) H (q := 3) (by decide) (ad := "[B") (by decide +kernel) (vs := [(.int (0 : Int32)), (.int (0 : Int32)), (.int (0 : Int32))]) rfl (by decide) (by decide) (by decide) ?_
  intro h4 a6 H5
  replace H5 : own_H Z h4 (os) ((a6, .byte, "[B", [(.int (0 : Int32)), (.int (0 : Int32)), (.int (0 : Int32))]) :: (y, .byte, "[B", vs) :: as) := H5
  refine own_astore K own_d34_12 rfl (Ls' := #[.val (.ref y), .val (.int (0 : Int32)), .val (.int (3 : Int32)), .val (.int (3 : Int32)), .val (.ref a6)]) rfl ?_
  refine own_aloadN K own_d34_14 rfl rfl ?_
  refine own_iloadN K own_d34_15 rfl ?_
  refine own_aload K own_d34_16 rfl rfl ?_
  refine own_iconst K own_d34_18 (v := (0 : Int32)) rfl ?_
  refine own_aloadN K own_d34_19 rfl rfl ?_
  refine own_arraylength K own_d34_20 H5 (i := 1) rfl (N := (16 : Int32)) (by rw [hv]; rfl) ?_
  refine own_iloadN K own_d34_21 rfl ?_
  refine own_isub K own_d34_22 ?_
  refine own_topI (x' := (16 : Int32)) (by decide) ?_
  refine own_iloadN K own_d34_23 rfl ?_
  refine own_static K own_d34_24 (own_w189 hw) (own_w190 hw) (own_w191 hw) (own_w192 hw) (argsL := [(.int (16 : Int32)), (.int (3 : Int32))]) (rest := [(.int (0 : Int32)), (.ref a6), (.int (0 : Int32)), (.ref y)]) (own_mi3 hw) own_pd21 rfl rfl rfl (by decide) (W := 4) (Nat.le_of_eq rfl) (by decide) (by decide) (by decide) (by decide) ?_
  intro v9 h7 q8
  obtain ⟨rfl, rfl⟩ := q8
  refine own_arraycopy K own_d34_27 (own_w193 hw) (own_w129 hw) (own_w127 hw) (own_w128 hw) H5 (ia := 1) rfl (ib := 0) rfl rfl (by intro C q; cases q) (sq := 0) (by decide) (dq := 0) (by decide) (nq := 3) (by decide) (by rw [hv]; decide) (own_le rfl) (by rw [hv]; decide) (own_le rfl) rfl (by decide) (W := 0) (Nat.le_of_eq rfl) (by decide) ?_
  intro h10 H11
  rw [show ([.int (0 : Int32), .int (0 : Int32), .int (0 : Int32)] : List Value).take 0 ++ (vs.drop 0).take 3 ++ ([.int (0 : Int32), .int (0 : Int32), .int (0 : Int32)] : List Value).drop (0 + 3) = vs.take 3 from own_cpz rfl] at H11
  replace H11 : own_H Z h10 (os) ((a6, .byte, "[B", (vs.take 3)) :: (y, .byte, "[B", vs) :: as) := H11
  refine own_aload K own_d34_30 rfl rfl ?_
  exact own_retA K (fun _ q => q) rfl rfl own_d34_32 (by decide) (by decide) (⟨_, rfl, H11⟩)
set_option maxRecDepth 65536 in
set_option maxHeartbeats 40000000 in
theorem own_cr3_ef (m : MethodId) (x0 : Addr) (x1 : Int32) (x2 : Int32) : entryFrame m #[(.ref x0), (.int x1), (.int x2)] 3 = mkF m 0 #[.val (.ref x0), .val (.int x1), .val (.int x2)] [] := by first | (simp [entryFrame, mkF, argsToLocals, Value.category]; done) | rfl
set_option maxRecDepth 65536 in
set_option maxHeartbeats 40000000 in
theorem own_cr3 {l : Launch} {Z : State} {a0 : Array Value} (hw : own_Z Z a0) {h : Heap} {os : List own_O} {as : List own_A} {y : Addr} {vs : List Value} (hv : vs.length = 16) (H : own_H Z h os ((y, .byte, "[B", vs) :: as)) : own_Met none l Z (⟨"java/util/Arrays", "copyOfRange", "([BII)[B"⟩ : MethodName) jdk_65_method_132_code 3 (some (.array .byte)) [] ({ frames := 2, cells := 1, slots := 9, locals := 46 } : Room) #[(.ref y), (.int (0 : Int32)), (.int (3 : Int32))] h (fun v h' => ∃ z, v = some (.ref z) ∧ own_H Z h' os ((z, .byte, "[B", vs.take 3) :: (y, .byte, "[B", vs) :: as)) := by
  refine own_met (by first | exact plainFor_of_name (by decide +kernel) | decide +kernel) ?_
  intro p_ e_ s_ m_ below_ meth_ c_ K
  refine own_cast (own_cr3_ef m_ _ _ _) ?_
  refine own_iloadN K own_d35_0 rfl ?_
  refine own_ifne K own_d35_1 (fun q => absurd q (by decide)) (fun _ => ?_)
  refine own_iloadN K own_d35_4 rfl ?_
  refine own_aloadN K own_d35_5 rfl rfl ?_
  refine own_arraylength K own_d35_6 H (i := 0) rfl (N := (16 : Int32)) (by rw [hv]; rfl) ?_
  refine own_icmpeq K own_d35_7 (fun q => absurd q (by decide)) (fun _ => ?_)
  refine own_aloadN K own_d35_10 rfl rfl ?_
  refine own_iloadN K own_d35_11 rfl ?_
  refine own_iloadN K own_d35_12 rfl ?_
  refine own_static K own_d35_13 (own_w183 hw) (own_w184 hw) (own_w181 hw) (own_w185 hw) (argsL := [(.ref y), (.int (0 : Int32)), (.int (3 : Int32))]) (rest := []) (own_crb3 hw hv H) own_pd22 rfl rfl rfl (by decide) (W := 0) (Nat.le_of_eq rfl) (by decide) (by decide) (by decide) (by decide) ?_
  intro v3 h1 q2
  obtain ⟨z5, rfl, H4⟩ := q2
  replace H4 : own_H Z h1 (os) ((z5, .byte, "[B", (vs.take 3)) :: (y, .byte, "[B", vs) :: as) := H4
  exact own_retA K (fun _ q => q) rfl rfl own_d35_16 (by decide) (by decide) (⟨_, rfl, H4⟩)
set_option maxRecDepth 65536 in
set_option maxHeartbeats 40000000 in
theorem own_sx3_ef (m : MethodId) (x0 : Addr) (x1 : Addr) : entryFrame m #[(.ref x0), (.ref x1), .null] 5 = mkF m 0 #[.val (.ref x0), .val (.ref x1), .val .null, .unset, .unset] [] := by first | (simp [entryFrame, mkF, argsToLocals, Value.category]; done) | rfl
set_option maxRecDepth 65536 in
set_option maxHeartbeats 40000000 in
theorem own_sx3 {l : Launch} {Z : State} {a0 : Array Value} (hw : own_Z Z a0) {h : Heap} {os : List own_O} {as : List own_A} {a b y : Addr} {cs : Int32} {vs : List Value} (hC : cs ≠ 0 ∧ Sta Z Z.heap "java/lang/String" "COMPACT_STRINGS" "Z" (.int cs)) (hv : vs.length = 16) (H : own_H Z h (own_ST a .null (.int (0 : Int32)) :: own_SB b (.ref y) (.int (0 : Int32)) (.int (3 : Int32)) :: os) ((y, .byte, "[B", vs) :: as)) : own_Met none l Z (⟨"java/lang/String", "<init>", "(Ljava/lang/AbstractStringBuilder;Ljava/lang/Void;)V"⟩ : MethodName) jdk_42_method_150_code 5 none [] ({ frames := 3, cells := 1, slots := 9, locals := 62 } : Room) #[(.ref a), (.ref b), .null] h (fun v h' => v = none ∧ ∃ z, own_H Z h' (own_ST a (.ref z) (.int (0 : Int32)) :: own_SB b (.ref y) (.int (0 : Int32)) (.int (3 : Int32)) :: os) ((z, .byte, "[B", vs.take 3) :: (y, .byte, "[B", vs) :: as)) := by
  refine own_met (by first | exact plainFor_of_name (by decide +kernel) | decide +kernel) ?_
  intro p_ e_ s_ m_ below_ meth_ c_ K
  refine own_cast (own_sx3_ef m_ _ _) ?_
  refine own_aloadN K own_d36_0 rfl rfl ?_
  refine own_initO K own_d36_1 (own_w15 hw) (own_w16 hw) (own_w17 hw) rfl (by decide) (W := 0) (Nat.le_of_eq rfl) (by decide) ?_
  refine own_aloadN K own_d36_4 rfl rfl ?_
  have H1 := H.frontO 1 rfl
  refine own_virtual K own_d36_5 (own_w165 hw) (own_w166 hw) (own_w168 hw) (own_w167 hw) (own_w75 hw) (own_w169 hw) (H.atO (i := 1) rfl) (a := b) (argsL := []) (rest := []) (own_gv hw H1) own_pd23 rfl rfl rfl (by decide) (W := 0) (Nat.le_of_eq rfl) (by decide) (by decide) (by decide) (by decide) ?_
  intro v4 h2 q3
  obtain ⟨rfl, rfl⟩ := q3
  refine own_astoreN K own_d36_8 rfl (Ls' := #[.val (.ref a), .val (.ref b), .val .null, .val (.ref y), .unset]) rfl ?_
  refine own_aloadN K own_d36_9 rfl rfl ?_
  have H5 := H.frontO 1 rfl
  refine own_virtualZ K own_d36_10 (own_w170 hw) (own_w171 hw) (own_w173 hw) (own_w174 hw) (own_w67 hw) (own_w175 hw) (H.atO (i := 1) rfl) (own_nf K (own_w108 hw) rfl) (a := b) (argsL := []) (rest := []) (own_sln hw H5) own_pd15 rfl rfl rfl (by decide) (W := 0) (Nat.le_of_eq rfl) (by decide) (by decide) (by decide) (by decide) ?_
  intro v8 h6 q7
  obtain ⟨rfl, rfl⟩ := q7
  refine own_istore K own_d36_13 (Ls' := #[.val (.ref a), .val (.ref b), .val .null, .val (.ref y), .val (.int (3 : Int32))]) rfl ?_
  refine own_aloadN K own_d36_15 rfl rfl ?_
  have H9 := H.frontO 1 rfl
  refine own_virtual K own_d36_16 (own_w178 hw) (own_w145 hw) (own_w147 hw) (own_w146 hw) (own_w75 hw) (own_w148 hw) (H.atO (i := 1) rfl) (a := b) (argsL := []) (rest := []) (own_il hw hC H9) own_pd6 rfl rfl rfl (by decide) (W := 0) (Nat.le_of_eq rfl) (by decide) (by decide) (by decide) (by decide) ?_
  intro v12 h10 q11
  obtain ⟨rfl, rfl⟩ := q11
  refine own_ifeq K own_d36_19 (fun q => absurd q (by decide)) (fun _ => ?_)
  refine own_aloadN K own_d36_22 rfl rfl ?_
  refine own_iconst K own_d36_23 (v := (0 : Int32)) rfl ?_
  refine own_putfield K own_d36_24 (host := "") (Or.inl (own_w30 hw)) Via.refl H (j := 0) rfl (q := 1) rfl (Or.inr ⟨(own_w31 hw), rfl, rfl⟩) (own_w5 hw) (ty := .byte) (by decide +kernel) (rfl) (rfl) ?_
  intro h13 H14
  replace H14 : own_H Z h13 (own_ST a .null (.int (0 : Int32)) :: own_SB b (.ref y) (.int (0 : Int32)) (.int (3 : Int32)) :: os) ((y, .byte, "[B", vs) :: as) := H14
  refine own_aloadN K own_d36_27 rfl rfl ?_
  refine own_aloadN K own_d36_28 rfl rfl ?_
  refine own_iconst K own_d36_29 (v := (0 : Int32)) rfl ?_
  refine own_iload K own_d36_30 rfl ?_
  refine own_static K own_d36_32 (own_w179 hw) (own_w180 hw) (own_w181 hw) (own_w182 hw) (argsL := [(.ref y), (.int (0 : Int32)), (.int (3 : Int32))]) (rest := [(.ref a)]) (own_cr3 hw hv H14) own_pd22 rfl rfl rfl (by decide) (W := 1) (Nat.le_of_eq rfl) (by decide) (by decide) (by decide) (by decide) ?_
  intro v17 h15 q16
  obtain ⟨z19, rfl, H18⟩ := q16
  replace H18 : own_H Z h15 (own_ST a .null (.int (0 : Int32)) :: own_SB b (.ref y) (.int (0 : Int32)) (.int (3 : Int32)) :: os) ((z19, .byte, "[B", (vs.take 3)) :: (y, .byte, "[B", vs) :: as) := H18
  refine own_putfield K own_d36_35 (host := "") (Or.inl (own_w32 hw)) Via.refl H18 (j := 0) rfl (q := 0) rfl (Or.inr ⟨(own_w33 hw), rfl, rfl⟩) (own_w5 hw) (ty := (.array .byte)) (by decide +kernel) (rfl) (rfl) ?_
  intro h20 H21
  replace H21 : own_H Z h20 (own_ST a (.ref z19) (.int (0 : Int32)) :: own_SB b (.ref y) (.int (0 : Int32)) (.int (3 : Int32)) :: os) ((z19, .byte, "[B", (vs.take 3)) :: (y, .byte, "[B", vs) :: as) := H21
  refine own_goto K own_d36_38 ?_
  exact own_retV K (fun _ q => q) own_d36_97 (by decide) (by decide) (⟨rfl, _, H21⟩)
set_option maxRecDepth 65536 in
set_option maxHeartbeats 40000000 in
theorem own_sy3_ef (m : MethodId) (x0 : Addr) (x1 : Addr) : entryFrame m #[(.ref x0), (.ref x1)] 2 = mkF m 0 #[.val (.ref x0), .val (.ref x1)] [] := by first | (simp [entryFrame, mkF, argsToLocals, Value.category]; done) | rfl
set_option maxRecDepth 65536 in
set_option maxHeartbeats 40000000 in
theorem own_sy3 {l : Launch} {Z : State} {a0 : Array Value} (hw : own_Z Z a0) {h : Heap} {os : List own_O} {as : List own_A} {a b y : Addr} {cs : Int32} {vs : List Value} (hC : cs ≠ 0 ∧ Sta Z Z.heap "java/lang/String" "COMPACT_STRINGS" "Z" (.int cs)) (hv : vs.length = 16) (H : own_H Z h (own_ST a .null (.int (0 : Int32)) :: own_SB b (.ref y) (.int (0 : Int32)) (.int (3 : Int32)) :: os) ((y, .byte, "[B", vs) :: as)) : own_Met none l Z (⟨"java/lang/String", "<init>", "(Ljava/lang/StringBuilder;)V"⟩ : MethodName) jdk_42_method_53_code 2 none [] ({ frames := 4, cells := 1, slots := 9, locals := 79 } : Room) #[(.ref a), (.ref b)] h (fun v h' => v = none ∧ ∃ z, own_H Z h' (own_ST a (.ref z) (.int (0 : Int32)) :: own_SB b (.ref y) (.int (0 : Int32)) (.int (3 : Int32)) :: os) ((z, .byte, "[B", vs.take 3) :: (y, .byte, "[B", vs) :: as)) := by
  refine own_met (by first | exact plainFor_of_name (by decide +kernel) | decide +kernel) ?_
  intro p_ e_ s_ m_ below_ meth_ c_ K
  refine own_cast (own_sy3_ef m_ _ _) ?_
  refine own_aloadN K own_d37_0 rfl rfl ?_
  refine own_aloadN K own_d37_1 rfl rfl ?_
  refine own_aconstNull K own_d37_2 ?_
  refine own_special K own_d37_3 rfl (own_w162 hw) (own_w163 hw) (own_w6 hw) (own_w164 hw) (a := a) (argsL := [(.ref b), .null]) (rest := []) (own_sx3 hw hC hv H) own_pd24 rfl rfl rfl (by decide) (W := 0) (Nat.le_of_eq rfl) (by decide) (by decide) (by decide) (by decide) ?_
  intro v3 h1 q2
  obtain ⟨rfl, z5, H4⟩ := q2
  replace H4 : own_H Z h1 (own_ST a (.ref z5) (.int (0 : Int32)) :: own_SB b (.ref y) (.int (0 : Int32)) (.int (3 : Int32)) :: os) ((z5, .byte, "[B", (vs.take 3)) :: (y, .byte, "[B", vs) :: as) := H4
  exact own_retV K (fun _ q => q) own_d37_6 (by decide) (by decide) (⟨rfl, _, H4⟩)
set_option maxRecDepth 65536 in
set_option maxHeartbeats 40000000 in
theorem own_ts3_ef (m : MethodId) (x0 : Addr) : entryFrame m #[(.ref x0)] 1 = mkF m 0 #[.val (.ref x0)] [] := by first | (simp [entryFrame, mkF, argsToLocals, Value.category]; done) | rfl
set_option maxRecDepth 65536 in
set_option maxHeartbeats 40000000 in
theorem own_ts3 {l : Launch} {Z : State} {a0 : Array Value} (hw : own_Z Z a0) {h : Heap} {os : List own_O} {as : List own_A} {b y : Addr} {cs : Int32} {vs : List Value} (hC : cs ≠ 0 ∧ Sta Z Z.heap "java/lang/String" "COMPACT_STRINGS" "Z" (.int cs)) (hv : vs.length = 16) (H : own_H Z h (own_SB b (.ref y) (.int (0 : Int32)) (.int (3 : Int32)) :: os) ((y, .byte, "[B", vs) :: as)) : own_Met none l Z (⟨"java/lang/StringBuilder", "toString", "()Ljava/lang/String;"⟩ : MethodName) jdk_67_method_42_code 1 (some (.object "java/lang/String")) [] ({ frames := 5, cells := 2, slots := 13, locals := 93 } : Room) #[(.ref b)] h (fun v h' => ∃ a z, v = some (.ref a) ∧ own_H Z h' (own_ST a (.ref z) (.int (0 : Int32)) :: own_SB b (.ref y) (.int (0 : Int32)) (.int (3 : Int32)) :: os) ((z, .byte, "[B", vs.take 3) :: (y, .byte, "[B", vs) :: as)) := by
  refine own_met (by first | exact plainFor_of_name (by decide +kernel) | decide +kernel) ?_
  intro p_ e_ s_ m_ below_ meth_ c_ K
  refine own_cast (own_ts3_ef m_ _) ?_
  refine own_new K own_d38_0 (own_w158 hw) (own_w5 hw) (own_w6 hw) H (own_ST_F hw) (own_ST_P hw) (by decide) (by decide) ?_
  intro h1 a3 H2
  replace H2 : own_H Z h1 (own_ST a3 .null (.int (0 : Int32)) :: own_SB b (.ref y) (.int (0 : Int32)) (.int (3 : Int32)) :: os) ((y, .byte, "[B", vs) :: as) := H2
  refine own_dup K own_d38_3 rfl ?_
  refine own_aloadN K own_d38_4 rfl rfl ?_
  refine own_special K own_d38_5 rfl (own_w159 hw) (own_w160 hw) (own_w6 hw) (own_w161 hw) (a := a3) (argsL := [(.ref b)]) (rest := [(.ref a3)]) (own_sy3 hw hC hv H2) own_pd25 rfl rfl rfl (by decide) (W := 1) (Nat.le_of_eq rfl) (by decide) (by decide) (by decide) (by decide) ?_
  intro v6 h4 q5
  obtain ⟨rfl, z8, H7⟩ := q5
  replace H7 : own_H Z h4 (own_ST a3 (.ref z8) (.int (0 : Int32)) :: own_SB b (.ref y) (.int (0 : Int32)) (.int (3 : Int32)) :: os) ((z8, .byte, "[B", (vs.take 3)) :: (y, .byte, "[B", vs) :: as) := H7
  exact own_retA K (fun _ q => q) rfl rfl own_d38_8 (by decide) (by decide) (⟨_, _, rfl, H7⟩)
set_option maxRecDepth 65536 in
set_option maxHeartbeats 40000000 in
theorem own_cl4_ef (m : MethodId) (x0 : Int32) (x1 : Int32) : entryFrame m #[(.int x0), (.int x1)] 2 = mkF m 0 #[.val (.int x0), .val (.int x1)] [] := by first | (simp [entryFrame, mkF, argsToLocals, Value.category]; done) | rfl
set_option maxRecDepth 65536 in
set_option maxHeartbeats 40000000 in
theorem own_cl4 {l : Launch} {Z : State} {a0 : Array Value} (hw : own_Z Z a0) {h : Heap} : own_Met none l Z (⟨"java/util/Arrays", "checkLength", "(II)V"⟩ : MethodName) jdk_65_method_131_code 2 none [] ({ frames := 0, cells := 0, slots := 0, locals := 0 } : Room) #[(.int (0 : Int32)), (.int (4 : Int32))] h (fun v h' => v = none ∧ h = h') := by
  refine own_met (by first | exact plainFor_of_name (by decide +kernel) | decide +kernel) ?_
  intro p_ e_ s_ m_ below_ meth_ c_ K
  refine own_cast (own_cl4_ef m_ _ _) ?_
  refine own_iloadN K own_d32_0 rfl ?_
  refine own_iloadN K own_d32_1 rfl ?_
  refine own_icmpge K own_d32_2 (fun _ => ?_) (fun q => absurd (by decide) q)
  exact own_retV K (fun _ q => q) own_d32_37 (by decide) (by decide) (⟨rfl, rfl⟩)
set_option maxRecDepth 65536 in
set_option maxHeartbeats 40000000 in
theorem own_mi4_ef (m : MethodId) (x0 : Int32) (x1 : Int32) : entryFrame m #[(.int x0), (.int x1)] 2 = mkF m 0 #[.val (.int x0), .val (.int x1)] [] := by first | (simp [entryFrame, mkF, argsToLocals, Value.category]; done) | rfl
set_option maxRecDepth 65536 in
set_option maxHeartbeats 40000000 in
theorem own_mi4 {l : Launch} {Z : State} {a0 : Array Value} (hw : own_Z Z a0) {h : Heap} : own_Met none l Z (⟨"java/lang/Math", "min", "(II)I"⟩ : MethodName) jdk_29_method_69_code 2 (some .int) [] ({ frames := 0, cells := 0, slots := 0, locals := 0 } : Room) #[(.int (16 : Int32)), (.int (4 : Int32))] h (fun v h' => v = some (.int (4 : Int32)) ∧ h = h') := by
  refine own_met (by first | exact plainFor_of_name (by decide +kernel) | decide +kernel) ?_
  intro p_ e_ s_ m_ below_ meth_ c_ K
  refine own_cast (own_mi4_ef m_ _ _) ?_
  refine own_iloadN K own_d33_0 rfl ?_
  refine own_iloadN K own_d33_1 rfl ?_
  refine own_icmpgt K own_d33_2 (fun _ => ?_) (fun q => absurd (by decide) q)
  refine own_iloadN K own_d33_9 rfl ?_
  exact own_retI K (fun _ q => q) own_d33_10 (by decide) (by decide) (⟨rfl, rfl⟩)
set_option maxRecDepth 65536 in
set_option maxHeartbeats 40000000 in
theorem own_crb4_ef (m : MethodId) (x0 : Addr) (x1 : Int32) (x2 : Int32) : entryFrame m #[(.ref x0), (.int x1), (.int x2)] 5 = mkF m 0 #[.val (.ref x0), .val (.int x1), .val (.int x2), .unset, .unset] [] := by first | (simp [entryFrame, mkF, argsToLocals, Value.category]; done) | rfl
set_option maxRecDepth 65536 in
set_option maxHeartbeats 40000000 in
theorem own_crb4 {l : Launch} {Z : State} {a0 : Array Value} (hw : own_Z Z a0) {h : Heap} {os : List own_O} {as : List own_A} {y : Addr} {vs : List Value} (hv : vs.length = 16) (H : own_H Z h os ((y, .byte, "[B", vs) :: as)) : own_Met none l Z (⟨"java/util/Arrays", "copyOfRangeByte", "([BII)[B"⟩ : MethodName) jdk_65_method_133_code 5 (some (.array .byte)) [] ({ frames := 1, cells := 1, slots := 9, locals := 30 } : Room) #[(.ref y), (.int (0 : Int32)), (.int (4 : Int32))] h (fun v h' => ∃ z, v = some (.ref z) ∧ own_H Z h' os ((z, .byte, "[B", vs.take 4) :: (y, .byte, "[B", vs) :: as)) := by
  refine own_met (by first | exact plainFor_of_name (by decide +kernel) | decide +kernel) ?_
  intro p_ e_ s_ m_ below_ meth_ c_ K
  refine own_cast (own_crb4_ef m_ _ _ _) ?_
  refine own_iloadN K own_d34_0 rfl ?_
  refine own_iloadN K own_d34_1 rfl ?_
  refine own_static K own_d34_2 (own_w186 hw) (own_w187 hw) (own_w181 hw) (own_w188 hw) (argsL := [(.int (0 : Int32)), (.int (4 : Int32))]) (rest := []) (own_cl4 hw) own_pd5 rfl rfl rfl (by decide) (W := 0) (Nat.le_of_eq rfl) (by decide) (by decide) (by decide) (by decide) ?_
  intro v3 h1 q2
  obtain ⟨rfl, rfl⟩ := q2
  refine own_iloadN K own_d34_5 rfl ?_
  refine own_iloadN K own_d34_6 rfl ?_
  refine own_isub K own_d34_7 ?_
  refine own_topI (x' := (4 : Int32)) (by decide) ?_
  refine own_istoreN K own_d34_8 (Ls' := #[.val (.ref y), .val (.int (0 : Int32)), .val (.int (4 : Int32)), .val (.int (4 : Int32)), .unset]) rfl ?_
  refine own_iloadN K own_d34_9 rfl ?_
  refine own_newarray K own_d34_10 (ty := .byte) rfl (own_w23 hw) H (q := 4) (by decide) (ad := "[B") (by decide +kernel) (vs := [(.int (0 : Int32)), (.int (0 : Int32)), (.int (0 : Int32)), (.int (0 : Int32))]) rfl (by decide) (by decide) (by decide) ?_
  intro h4 a6 H5
  replace H5 : own_H Z h4 (os) ((a6, .byte, "[B", [(.int (0 : Int32)), (.int (0 : Int32)), (.int (0 : Int32)), (.int (0 : Int32))]) :: (y, .byte, "[B", vs) :: as) := H5
  refine own_astore K own_d34_12 rfl (Ls' := #[.val (.ref y), .val (.int (0 : Int32)), .val (.int (4 : Int32)), .val (.int (4 : Int32)), .val (.ref a6)]) rfl ?_
  refine own_aloadN K own_d34_14 rfl rfl ?_
  refine own_iloadN K own_d34_15 rfl ?_
  refine own_aload K own_d34_16 rfl rfl ?_
  refine own_iconst K own_d34_18 (v := (0 : Int32)) rfl ?_
  refine own_aloadN K own_d34_19 rfl rfl ?_
  refine own_arraylength K own_d34_20 H5 (i := 1) rfl (N := (16 : Int32)) (by rw [hv]; rfl) ?_
  refine own_iloadN K own_d34_21 rfl ?_
  refine own_isub K own_d34_22 ?_
  refine own_topI (x' := (16 : Int32)) (by decide) ?_
  refine own_iloadN K own_d34_23 rfl ?_
  refine own_static K own_d34_24 (own_w189 hw) (own_w190 hw) (own_w191 hw) (own_w192 hw) (argsL := [(.int (16 : Int32)), (.int (4 : Int32))]) (rest := [(.int (0 : Int32)), (.ref a6), (.int (0 : Int32)), (.ref y)]) (own_mi4 hw) own_pd21 rfl rfl rfl (by decide) (W := 4) (Nat.le_of_eq rfl) (by decide) (by decide) (by decide) (by decide) ?_
  intro v9 h7 q8
  obtain ⟨rfl, rfl⟩ := q8
  refine own_arraycopy K own_d34_27 (own_w193 hw) (own_w129 hw) (own_w127 hw) (own_w128 hw) H5 (ia := 1) rfl (ib := 0) rfl rfl (by intro C q; cases q) (sq := 0) (by decide) (dq := 0) (by decide) (nq := 4) (by decide) (by rw [hv]; decide) (own_le rfl) (by rw [hv]; decide) (own_le rfl) rfl (by decide) (W := 0) (Nat.le_of_eq rfl) (by decide) ?_
  intro h10 H11
  rw [show ([.int (0 : Int32), .int (0 : Int32), .int (0 : Int32), .int (0 : Int32)] : List Value).take 0 ++ (vs.drop 0).take 4 ++ ([.int (0 : Int32), .int (0 : Int32), .int (0 : Int32), .int (0 : Int32)] : List Value).drop (0 + 4) = vs.take 4 from own_cpz rfl] at H11
  replace H11 : own_H Z h10 (os) ((a6, .byte, "[B", (vs.take 4)) :: (y, .byte, "[B", vs) :: as) := H11
  refine own_aload K own_d34_30 rfl rfl ?_
  exact own_retA K (fun _ q => q) rfl rfl own_d34_32 (by decide) (by decide) (⟨_, rfl, H11⟩)
set_option maxRecDepth 65536 in
set_option maxHeartbeats 40000000 in
theorem own_cr4_ef (m : MethodId) (x0 : Addr) (x1 : Int32) (x2 : Int32) : entryFrame m #[(.ref x0), (.int x1), (.int x2)] 3 = mkF m 0 #[.val (.ref x0), .val (.int x1), .val (.int x2)] [] := by first | (simp [entryFrame, mkF, argsToLocals, Value.category]; done) | rfl
set_option maxRecDepth 65536 in
set_option maxHeartbeats 40000000 in
theorem own_cr4 {l : Launch} {Z : State} {a0 : Array Value} (hw : own_Z Z a0) {h : Heap} {os : List own_O} {as : List own_A} {y : Addr} {vs : List Value} (hv : vs.length = 16) (H : own_H Z h os ((y, .byte, "[B", vs) :: as)) : own_Met none l Z (⟨"java/util/Arrays", "copyOfRange", "([BII)[B"⟩ : MethodName) jdk_65_method_132_code 3 (some (.array .byte)) [] ({ frames := 2, cells := 1, slots := 9, locals := 46 } : Room) #[(.ref y), (.int (0 : Int32)), (.int (4 : Int32))] h (fun v h' => ∃ z, v = some (.ref z) ∧ own_H Z h' os ((z, .byte, "[B", vs.take 4) :: (y, .byte, "[B", vs) :: as)) := by
  refine own_met (by first | exact plainFor_of_name (by decide +kernel) | decide +kernel) ?_
  intro p_ e_ s_ m_ below_ meth_ c_ K
  refine own_cast (own_cr4_ef m_ _ _ _) ?_
  refine own_iloadN K own_d35_0 rfl ?_
  refine own_ifne K own_d35_1 (fun q => absurd q (by decide)) (fun _ => ?_)
  refine own_iloadN K own_d35_4 rfl ?_
  refine own_aloadN K own_d35_5 rfl rfl ?_
  refine own_arraylength K own_d35_6 H (i := 0) rfl (N := (16 : Int32)) (by rw [hv]; rfl) ?_
  refine own_icmpeq K own_d35_7 (fun q => absurd q (by decide)) (fun _ => ?_)
  refine own_aloadN K own_d35_10 rfl rfl ?_
  refine own_iloadN K own_d35_11 rfl ?_
  refine own_iloadN K own_d35_12 rfl ?_
  refine own_static K own_d35_13 (own_w183 hw) (own_w184 hw) (own_w181 hw) (own_w185 hw) (argsL := [(.ref y), (.int (0 : Int32)), (.int (4 : Int32))]) (rest := []) (own_crb4 hw hv H) own_pd22 rfl rfl rfl (by decide) (W := 0) (Nat.le_of_eq rfl) (by decide) (by decide) (by decide) (by decide) ?_
  intro v3 h1 q2
  obtain ⟨z5, rfl, H4⟩ := q2
  replace H4 : own_H Z h1 (os) ((z5, .byte, "[B", (vs.take 4)) :: (y, .byte, "[B", vs) :: as) := H4
  exact own_retA K (fun _ q => q) rfl rfl own_d35_16 (by decide) (by decide) (⟨_, rfl, H4⟩)
set_option maxRecDepth 65536 in
set_option maxHeartbeats 40000000 in
theorem own_sx4_ef (m : MethodId) (x0 : Addr) (x1 : Addr) : entryFrame m #[(.ref x0), (.ref x1), .null] 5 = mkF m 0 #[.val (.ref x0), .val (.ref x1), .val .null, .unset, .unset] [] := by first | (simp [entryFrame, mkF, argsToLocals, Value.category]; done) | rfl
set_option maxRecDepth 65536 in
set_option maxHeartbeats 40000000 in
theorem own_sx4 {l : Launch} {Z : State} {a0 : Array Value} (hw : own_Z Z a0) {h : Heap} {os : List own_O} {as : List own_A} {a b y : Addr} {cs : Int32} {vs : List Value} (hC : cs ≠ 0 ∧ Sta Z Z.heap "java/lang/String" "COMPACT_STRINGS" "Z" (.int cs)) (hv : vs.length = 16) (H : own_H Z h (own_ST a .null (.int (0 : Int32)) :: own_SB b (.ref y) (.int (0 : Int32)) (.int (4 : Int32)) :: os) ((y, .byte, "[B", vs) :: as)) : own_Met none l Z (⟨"java/lang/String", "<init>", "(Ljava/lang/AbstractStringBuilder;Ljava/lang/Void;)V"⟩ : MethodName) jdk_42_method_150_code 5 none [] ({ frames := 3, cells := 1, slots := 9, locals := 62 } : Room) #[(.ref a), (.ref b), .null] h (fun v h' => v = none ∧ ∃ z, own_H Z h' (own_ST a (.ref z) (.int (0 : Int32)) :: own_SB b (.ref y) (.int (0 : Int32)) (.int (4 : Int32)) :: os) ((z, .byte, "[B", vs.take 4) :: (y, .byte, "[B", vs) :: as)) := by
  refine own_met (by first | exact plainFor_of_name (by decide +kernel) | decide +kernel) ?_
  intro p_ e_ s_ m_ below_ meth_ c_ K
  refine own_cast (own_sx4_ef m_ _ _) ?_
  refine own_aloadN K own_d36_0 rfl rfl ?_
  refine own_initO K own_d36_1 (own_w15 hw) (own_w16 hw) (own_w17 hw) rfl (by decide) (W := 0) (Nat.le_of_eq rfl) (by decide) ?_
  refine own_aloadN K own_d36_4 rfl rfl ?_
  have H1 := H.frontO 1 rfl
  refine own_virtual K own_d36_5 (own_w165 hw) (own_w166 hw) (own_w168 hw) (own_w167 hw) (own_w75 hw) (own_w169 hw) (H.atO (i := 1) rfl) (a := b) (argsL := []) (rest := []) (own_gv hw H1) own_pd23 rfl rfl rfl (by decide) (W := 0) (Nat.le_of_eq rfl) (by decide) (by decide) (by decide) (by decide) ?_
  intro v4 h2 q3
  obtain ⟨rfl, rfl⟩ := q3
  refine own_astoreN K own_d36_8 rfl (Ls' := #[.val (.ref a), .val (.ref b), .val .null, .val (.ref y), .unset]) rfl ?_
  refine own_aloadN K own_d36_9 rfl rfl ?_
  have H5 := H.frontO 1 rfl
  refine own_virtualZ K own_d36_10 (own_w170 hw) (own_w171 hw) (own_w173 hw) (own_w174 hw) (own_w67 hw) (own_w175 hw) (H.atO (i := 1) rfl) (own_nf K (own_w108 hw) rfl) (a := b) (argsL := []) (rest := []) (own_sln hw H5) own_pd15 rfl rfl rfl (by decide) (W := 0) (Nat.le_of_eq rfl) (by decide) (by decide) (by decide) (by decide) ?_
  intro v8 h6 q7
  obtain ⟨rfl, rfl⟩ := q7
  refine own_istore K own_d36_13 (Ls' := #[.val (.ref a), .val (.ref b), .val .null, .val (.ref y), .val (.int (4 : Int32))]) rfl ?_
  refine own_aloadN K own_d36_15 rfl rfl ?_
  have H9 := H.frontO 1 rfl
  refine own_virtual K own_d36_16 (own_w178 hw) (own_w145 hw) (own_w147 hw) (own_w146 hw) (own_w75 hw) (own_w148 hw) (H.atO (i := 1) rfl) (a := b) (argsL := []) (rest := []) (own_il hw hC H9) own_pd6 rfl rfl rfl (by decide) (W := 0) (Nat.le_of_eq rfl) (by decide) (by decide) (by decide) (by decide) ?_
  intro v12 h10 q11
  obtain ⟨rfl, rfl⟩ := q11
  refine own_ifeq K own_d36_19 (fun q => absurd q (by decide)) (fun _ => ?_)
  refine own_aloadN K own_d36_22 rfl rfl ?_
  refine own_iconst K own_d36_23 (v := (0 : Int32)) rfl ?_
  refine own_putfield K own_d36_24 (host := "") (Or.inl (own_w30 hw)) Via.refl H (j := 0) rfl (q := 1) rfl (Or.inr ⟨(own_w31 hw), rfl, rfl⟩) (own_w5 hw) (ty := .byte) (by decide +kernel) (rfl) (rfl) ?_
  intro h13 H14
  replace H14 : own_H Z h13 (own_ST a .null (.int (0 : Int32)) :: own_SB b (.ref y) (.int (0 : Int32)) (.int (4 : Int32)) :: os) ((y, .byte, "[B", vs) :: as) := H14
  refine own_aloadN K own_d36_27 rfl rfl ?_
  refine own_aloadN K own_d36_28 rfl rfl ?_
  refine own_iconst K own_d36_29 (v := (0 : Int32)) rfl ?_
  refine own_iload K own_d36_30 rfl ?_
  refine own_static K own_d36_32 (own_w179 hw) (own_w180 hw) (own_w181 hw) (own_w182 hw) (argsL := [(.ref y), (.int (0 : Int32)), (.int (4 : Int32))]) (rest := [(.ref a)]) (own_cr4 hw hv H14) own_pd22 rfl rfl rfl (by decide) (W := 1) (Nat.le_of_eq rfl) (by decide) (by decide) (by decide) (by decide) ?_
  intro v17 h15 q16
  obtain ⟨z19, rfl, H18⟩ := q16
  replace H18 : own_H Z h15 (own_ST a .null (.int (0 : Int32)) :: own_SB b (.ref y) (.int (0 : Int32)) (.int (4 : Int32)) :: os) ((z19, .byte, "[B", (vs.take 4)) :: (y, .byte, "[B", vs) :: as) := H18
  refine own_putfield K own_d36_35 (host := "") (Or.inl (own_w32 hw)) Via.refl H18 (j := 0) rfl (q := 0) rfl (Or.inr ⟨(own_w33 hw), rfl, rfl⟩) (own_w5 hw) (ty := (.array .byte)) (by decide +kernel) (rfl) (rfl) ?_
  intro h20 H21
  replace H21 : own_H Z h20 (own_ST a (.ref z19) (.int (0 : Int32)) :: own_SB b (.ref y) (.int (0 : Int32)) (.int (4 : Int32)) :: os) ((z19, .byte, "[B", (vs.take 4)) :: (y, .byte, "[B", vs) :: as) := H21
  refine own_goto K own_d36_38 ?_
  exact own_retV K (fun _ q => q) own_d36_97 (by decide) (by decide) (⟨rfl, _, H21⟩)
set_option maxRecDepth 65536 in
set_option maxHeartbeats 40000000 in
theorem own_sy4_ef (m : MethodId) (x0 : Addr) (x1 : Addr) : entryFrame m #[(.ref x0), (.ref x1)] 2 = mkF m 0 #[.val (.ref x0), .val (.ref x1)] [] := by first | (simp [entryFrame, mkF, argsToLocals, Value.category]; done) | rfl
set_option maxRecDepth 65536 in
set_option maxHeartbeats 40000000 in
theorem own_sy4 {l : Launch} {Z : State} {a0 : Array Value} (hw : own_Z Z a0) {h : Heap} {os : List own_O} {as : List own_A} {a b y : Addr} {cs : Int32} {vs : List Value} (hC : cs ≠ 0 ∧ Sta Z Z.heap "java/lang/String" "COMPACT_STRINGS" "Z" (.int cs)) (hv : vs.length = 16) (H : own_H Z h (own_ST a .null (.int (0 : Int32)) :: own_SB b (.ref y) (.int (0 : Int32)) (.int (4 : Int32)) :: os) ((y, .byte, "[B", vs) :: as)) : own_Met none l Z (⟨"java/lang/String", "<init>", "(Ljava/lang/StringBuilder;)V"⟩ : MethodName) jdk_42_method_53_code 2 none [] ({ frames := 4, cells := 1, slots := 9, locals := 79 } : Room) #[(.ref a), (.ref b)] h (fun v h' => v = none ∧ ∃ z, own_H Z h' (own_ST a (.ref z) (.int (0 : Int32)) :: own_SB b (.ref y) (.int (0 : Int32)) (.int (4 : Int32)) :: os) ((z, .byte, "[B", vs.take 4) :: (y, .byte, "[B", vs) :: as)) := by
  refine own_met (by first | exact plainFor_of_name (by decide +kernel) | decide +kernel) ?_
  intro p_ e_ s_ m_ below_ meth_ c_ K
  refine own_cast (own_sy4_ef m_ _ _) ?_
  refine own_aloadN K own_d37_0 rfl rfl ?_
  refine own_aloadN K own_d37_1 rfl rfl ?_
  refine own_aconstNull K own_d37_2 ?_
  refine own_special K own_d37_3 rfl (own_w162 hw) (own_w163 hw) (own_w6 hw) (own_w164 hw) (a := a) (argsL := [(.ref b), .null]) (rest := []) (own_sx4 hw hC hv H) own_pd24 rfl rfl rfl (by decide) (W := 0) (Nat.le_of_eq rfl) (by decide) (by decide) (by decide) (by decide) ?_
  intro v3 h1 q2
  obtain ⟨rfl, z5, H4⟩ := q2
  replace H4 : own_H Z h1 (own_ST a (.ref z5) (.int (0 : Int32)) :: own_SB b (.ref y) (.int (0 : Int32)) (.int (4 : Int32)) :: os) ((z5, .byte, "[B", (vs.take 4)) :: (y, .byte, "[B", vs) :: as) := H4
  exact own_retV K (fun _ q => q) own_d37_6 (by decide) (by decide) (⟨rfl, _, H4⟩)
set_option maxRecDepth 65536 in
set_option maxHeartbeats 40000000 in
theorem own_ts4_ef (m : MethodId) (x0 : Addr) : entryFrame m #[(.ref x0)] 1 = mkF m 0 #[.val (.ref x0)] [] := by first | (simp [entryFrame, mkF, argsToLocals, Value.category]; done) | rfl
set_option maxRecDepth 65536 in
set_option maxHeartbeats 40000000 in
theorem own_ts4 {l : Launch} {Z : State} {a0 : Array Value} (hw : own_Z Z a0) {h : Heap} {os : List own_O} {as : List own_A} {b y : Addr} {cs : Int32} {vs : List Value} (hC : cs ≠ 0 ∧ Sta Z Z.heap "java/lang/String" "COMPACT_STRINGS" "Z" (.int cs)) (hv : vs.length = 16) (H : own_H Z h (own_SB b (.ref y) (.int (0 : Int32)) (.int (4 : Int32)) :: os) ((y, .byte, "[B", vs) :: as)) : own_Met none l Z (⟨"java/lang/StringBuilder", "toString", "()Ljava/lang/String;"⟩ : MethodName) jdk_67_method_42_code 1 (some (.object "java/lang/String")) [] ({ frames := 5, cells := 2, slots := 13, locals := 93 } : Room) #[(.ref b)] h (fun v h' => ∃ a z, v = some (.ref a) ∧ own_H Z h' (own_ST a (.ref z) (.int (0 : Int32)) :: own_SB b (.ref y) (.int (0 : Int32)) (.int (4 : Int32)) :: os) ((z, .byte, "[B", vs.take 4) :: (y, .byte, "[B", vs) :: as)) := by
  refine own_met (by first | exact plainFor_of_name (by decide +kernel) | decide +kernel) ?_
  intro p_ e_ s_ m_ below_ meth_ c_ K
  refine own_cast (own_ts4_ef m_ _) ?_
  refine own_new K own_d38_0 (own_w158 hw) (own_w5 hw) (own_w6 hw) H (own_ST_F hw) (own_ST_P hw) (by decide) (by decide) ?_
  intro h1 a3 H2
  replace H2 : own_H Z h1 (own_ST a3 .null (.int (0 : Int32)) :: own_SB b (.ref y) (.int (0 : Int32)) (.int (4 : Int32)) :: os) ((y, .byte, "[B", vs) :: as) := H2
  refine own_dup K own_d38_3 rfl ?_
  refine own_aloadN K own_d38_4 rfl rfl ?_
  refine own_special K own_d38_5 rfl (own_w159 hw) (own_w160 hw) (own_w6 hw) (own_w161 hw) (a := a3) (argsL := [(.ref b)]) (rest := [(.ref a3)]) (own_sy4 hw hC hv H2) own_pd25 rfl rfl rfl (by decide) (W := 1) (Nat.le_of_eq rfl) (by decide) (by decide) (by decide) (by decide) ?_
  intro v6 h4 q5
  obtain ⟨rfl, z8, H7⟩ := q5
  replace H7 : own_H Z h4 (own_ST a3 (.ref z8) (.int (0 : Int32)) :: own_SB b (.ref y) (.int (0 : Int32)) (.int (4 : Int32)) :: os) ((z8, .byte, "[B", (vs.take 4)) :: (y, .byte, "[B", vs) :: as) := H7
  exact own_retA K (fun _ q => q) rfl rfl own_d38_8 (by decide) (by decide) (⟨_, _, rfl, H7⟩)
set_option maxRecDepth 65536 in
set_option maxHeartbeats 40000000 in
theorem own_cl5_ef (m : MethodId) (x0 : Int32) (x1 : Int32) : entryFrame m #[(.int x0), (.int x1)] 2 = mkF m 0 #[.val (.int x0), .val (.int x1)] [] := by first | (simp [entryFrame, mkF, argsToLocals, Value.category]; done) | rfl
set_option maxRecDepth 65536 in
set_option maxHeartbeats 40000000 in
theorem own_cl5 {l : Launch} {Z : State} {a0 : Array Value} (hw : own_Z Z a0) {h : Heap} : own_Met none l Z (⟨"java/util/Arrays", "checkLength", "(II)V"⟩ : MethodName) jdk_65_method_131_code 2 none [] ({ frames := 0, cells := 0, slots := 0, locals := 0 } : Room) #[(.int (0 : Int32)), (.int (5 : Int32))] h (fun v h' => v = none ∧ h = h') := by
  refine own_met (by first | exact plainFor_of_name (by decide +kernel) | decide +kernel) ?_
  intro p_ e_ s_ m_ below_ meth_ c_ K
  refine own_cast (own_cl5_ef m_ _ _) ?_
  refine own_iloadN K own_d32_0 rfl ?_
  refine own_iloadN K own_d32_1 rfl ?_
  refine own_icmpge K own_d32_2 (fun _ => ?_) (fun q => absurd (by decide) q)
  exact own_retV K (fun _ q => q) own_d32_37 (by decide) (by decide) (⟨rfl, rfl⟩)
set_option maxRecDepth 65536 in
set_option maxHeartbeats 40000000 in
theorem own_mi5_ef (m : MethodId) (x0 : Int32) (x1 : Int32) : entryFrame m #[(.int x0), (.int x1)] 2 = mkF m 0 #[.val (.int x0), .val (.int x1)] [] := by first | (simp [entryFrame, mkF, argsToLocals, Value.category]; done) | rfl
set_option maxRecDepth 65536 in
set_option maxHeartbeats 40000000 in
theorem own_mi5 {l : Launch} {Z : State} {a0 : Array Value} (hw : own_Z Z a0) {h : Heap} : own_Met none l Z (⟨"java/lang/Math", "min", "(II)I"⟩ : MethodName) jdk_29_method_69_code 2 (some .int) [] ({ frames := 0, cells := 0, slots := 0, locals := 0 } : Room) #[(.int (16 : Int32)), (.int (5 : Int32))] h (fun v h' => v = some (.int (5 : Int32)) ∧ h = h') := by
  refine own_met (by first | exact plainFor_of_name (by decide +kernel) | decide +kernel) ?_
  intro p_ e_ s_ m_ below_ meth_ c_ K
  refine own_cast (own_mi5_ef m_ _ _) ?_
  refine own_iloadN K own_d33_0 rfl ?_
  refine own_iloadN K own_d33_1 rfl ?_
  refine own_icmpgt K own_d33_2 (fun _ => ?_) (fun q => absurd (by decide) q)
  refine own_iloadN K own_d33_9 rfl ?_
  exact own_retI K (fun _ q => q) own_d33_10 (by decide) (by decide) (⟨rfl, rfl⟩)
set_option maxRecDepth 65536 in
set_option maxHeartbeats 40000000 in
theorem own_crb5_ef (m : MethodId) (x0 : Addr) (x1 : Int32) (x2 : Int32) : entryFrame m #[(.ref x0), (.int x1), (.int x2)] 5 = mkF m 0 #[.val (.ref x0), .val (.int x1), .val (.int x2), .unset, .unset] [] := by first | (simp [entryFrame, mkF, argsToLocals, Value.category]; done) | rfl
set_option maxRecDepth 65536 in
set_option maxHeartbeats 40000000 in
theorem own_crb5 {l : Launch} {Z : State} {a0 : Array Value} (hw : own_Z Z a0) {h : Heap} {os : List own_O} {as : List own_A} {y : Addr} {vs : List Value} (hv : vs.length = 16) (H : own_H Z h os ((y, .byte, "[B", vs) :: as)) : own_Met none l Z (⟨"java/util/Arrays", "copyOfRangeByte", "([BII)[B"⟩ : MethodName) jdk_65_method_133_code 5 (some (.array .byte)) [] ({ frames := 1, cells := 1, slots := 9, locals := 30 } : Room) #[(.ref y), (.int (0 : Int32)), (.int (5 : Int32))] h (fun v h' => ∃ z, v = some (.ref z) ∧ own_H Z h' os ((z, .byte, "[B", vs.take 5) :: (y, .byte, "[B", vs) :: as)) := by
  refine own_met (by first | exact plainFor_of_name (by decide +kernel) | decide +kernel) ?_
  intro p_ e_ s_ m_ below_ meth_ c_ K
  refine own_cast (own_crb5_ef m_ _ _ _) ?_
  refine own_iloadN K own_d34_0 rfl ?_
  refine own_iloadN K own_d34_1 rfl ?_
  refine own_static K own_d34_2 (own_w186 hw) (own_w187 hw) (own_w181 hw) (own_w188 hw) (argsL := [(.int (0 : Int32)), (.int (5 : Int32))]) (rest := []) (own_cl5 hw) own_pd5 rfl rfl rfl (by decide) (W := 0) (Nat.le_of_eq rfl) (by decide) (by decide) (by decide) (by decide) ?_
  intro v3 h1 q2
  obtain ⟨rfl, rfl⟩ := q2
  refine own_iloadN K own_d34_5 rfl ?_
  refine own_iloadN K own_d34_6 rfl ?_
  refine own_isub K own_d34_7 ?_
  refine own_topI (x' := (5 : Int32)) (by decide) ?_
  refine own_istoreN K own_d34_8 (Ls' := #[.val (.ref y), .val (.int (0 : Int32)), .val (.int (5 : Int32)), .val (.int (5 : Int32)), .unset]) rfl ?_
  refine own_iloadN K own_d34_9 rfl ?_
  refine own_newarray K own_d34_10 (ty := .byte) rfl (own_w23 hw) H (q := 5) (by decide) (ad := "[B") (by decide +kernel) (vs := [(.int (0 : Int32)), (.int (0 : Int32)), (.int (0 : Int32)), (.int (0 : Int32)), (.int (0 : Int32))]) rfl (by decide) (by decide) (by decide) ?_
  intro h4 a6 H5
  replace H5 : own_H Z h4 (os) ((a6, .byte, "[B", [(.int (0 : Int32)), (.int (0 : Int32)), (.int (0 : Int32)), (.int (0 : Int32)), (.int (0 : Int32))]) :: (y, .byte, "[B", vs) :: as) := H5
  refine own_astore K own_d34_12 rfl (Ls' := #[.val (.ref y), .val (.int (0 : Int32)), .val (.int (5 : Int32)), .val (.int (5 : Int32)), .val (.ref a6)]) rfl ?_
  refine own_aloadN K own_d34_14 rfl rfl ?_
  refine own_iloadN K own_d34_15 rfl ?_
  refine own_aload K own_d34_16 rfl rfl ?_
  refine own_iconst K own_d34_18 (v := (0 : Int32)) rfl ?_
  refine own_aloadN K own_d34_19 rfl rfl ?_
  refine own_arraylength K own_d34_20 H5 (i := 1) rfl (N := (16 : Int32)) (by rw [hv]; rfl) ?_
  refine own_iloadN K own_d34_21 rfl ?_
  refine own_isub K own_d34_22 ?_
  refine own_topI (x' := (16 : Int32)) (by decide) ?_
  refine own_iloadN K own_d34_23 rfl ?_
  refine own_static K own_d34_24 (own_w189 hw) (own_w190 hw) (own_w191 hw) (own_w192 hw) (argsL := [(.int (16 : Int32)), (.int (5 : Int32))]) (rest := [(.int (0 : Int32)), (.ref a6), (.int (0 : Int32)), (.ref y)]) (own_mi5 hw) own_pd21 rfl rfl rfl (by decide) (W := 4) (Nat.le_of_eq rfl) (by decide) (by decide) (by decide) (by decide) ?_
  intro v9 h7 q8
  obtain ⟨rfl, rfl⟩ := q8
  refine own_arraycopy K own_d34_27 (own_w193 hw) (own_w129 hw) (own_w127 hw) (own_w128 hw) H5 (ia := 1) rfl (ib := 0) rfl rfl (by intro C q; cases q) (sq := 0) (by decide) (dq := 0) (by decide) (nq := 5) (by decide) (by rw [hv]; decide) (own_le rfl) (by rw [hv]; decide) (own_le rfl) rfl (by decide) (W := 0) (Nat.le_of_eq rfl) (by decide) ?_
  intro h10 H11
  rw [show ([.int (0 : Int32), .int (0 : Int32), .int (0 : Int32), .int (0 : Int32), .int (0 : Int32)] : List Value).take 0 ++ (vs.drop 0).take 5 ++ ([.int (0 : Int32), .int (0 : Int32), .int (0 : Int32), .int (0 : Int32), .int (0 : Int32)] : List Value).drop (0 + 5) = vs.take 5 from own_cpz rfl] at H11
  replace H11 : own_H Z h10 (os) ((a6, .byte, "[B", (vs.take 5)) :: (y, .byte, "[B", vs) :: as) := H11
  refine own_aload K own_d34_30 rfl rfl ?_
  exact own_retA K (fun _ q => q) rfl rfl own_d34_32 (by decide) (by decide) (⟨_, rfl, H11⟩)
set_option maxRecDepth 65536 in
set_option maxHeartbeats 40000000 in
theorem own_cr5_ef (m : MethodId) (x0 : Addr) (x1 : Int32) (x2 : Int32) : entryFrame m #[(.ref x0), (.int x1), (.int x2)] 3 = mkF m 0 #[.val (.ref x0), .val (.int x1), .val (.int x2)] [] := by first | (simp [entryFrame, mkF, argsToLocals, Value.category]; done) | rfl
set_option maxRecDepth 65536 in
set_option maxHeartbeats 40000000 in
theorem own_cr5 {l : Launch} {Z : State} {a0 : Array Value} (hw : own_Z Z a0) {h : Heap} {os : List own_O} {as : List own_A} {y : Addr} {vs : List Value} (hv : vs.length = 16) (H : own_H Z h os ((y, .byte, "[B", vs) :: as)) : own_Met none l Z (⟨"java/util/Arrays", "copyOfRange", "([BII)[B"⟩ : MethodName) jdk_65_method_132_code 3 (some (.array .byte)) [] ({ frames := 2, cells := 1, slots := 9, locals := 46 } : Room) #[(.ref y), (.int (0 : Int32)), (.int (5 : Int32))] h (fun v h' => ∃ z, v = some (.ref z) ∧ own_H Z h' os ((z, .byte, "[B", vs.take 5) :: (y, .byte, "[B", vs) :: as)) := by
  refine own_met (by first | exact plainFor_of_name (by decide +kernel) | decide +kernel) ?_
  intro p_ e_ s_ m_ below_ meth_ c_ K
  refine own_cast (own_cr5_ef m_ _ _ _) ?_
  refine own_iloadN K own_d35_0 rfl ?_
  refine own_ifne K own_d35_1 (fun q => absurd q (by decide)) (fun _ => ?_)
  refine own_iloadN K own_d35_4 rfl ?_
  refine own_aloadN K own_d35_5 rfl rfl ?_
  refine own_arraylength K own_d35_6 H (i := 0) rfl (N := (16 : Int32)) (by rw [hv]; rfl) ?_
  refine own_icmpeq K own_d35_7 (fun q => absurd q (by decide)) (fun _ => ?_)
  refine own_aloadN K own_d35_10 rfl rfl ?_
  refine own_iloadN K own_d35_11 rfl ?_
  refine own_iloadN K own_d35_12 rfl ?_
  refine own_static K own_d35_13 (own_w183 hw) (own_w184 hw) (own_w181 hw) (own_w185 hw) (argsL := [(.ref y), (.int (0 : Int32)), (.int (5 : Int32))]) (rest := []) (own_crb5 hw hv H) own_pd22 rfl rfl rfl (by decide) (W := 0) (Nat.le_of_eq rfl) (by decide) (by decide) (by decide) (by decide) ?_
  intro v3 h1 q2
  obtain ⟨z5, rfl, H4⟩ := q2
  replace H4 : own_H Z h1 (os) ((z5, .byte, "[B", (vs.take 5)) :: (y, .byte, "[B", vs) :: as) := H4
  exact own_retA K (fun _ q => q) rfl rfl own_d35_16 (by decide) (by decide) (⟨_, rfl, H4⟩)
set_option maxRecDepth 65536 in
set_option maxHeartbeats 40000000 in
theorem own_sx5_ef (m : MethodId) (x0 : Addr) (x1 : Addr) : entryFrame m #[(.ref x0), (.ref x1), .null] 5 = mkF m 0 #[.val (.ref x0), .val (.ref x1), .val .null, .unset, .unset] [] := by first | (simp [entryFrame, mkF, argsToLocals, Value.category]; done) | rfl
set_option maxRecDepth 65536 in
set_option maxHeartbeats 40000000 in
theorem own_sx5 {l : Launch} {Z : State} {a0 : Array Value} (hw : own_Z Z a0) {h : Heap} {os : List own_O} {as : List own_A} {a b y : Addr} {cs : Int32} {vs : List Value} (hC : cs ≠ 0 ∧ Sta Z Z.heap "java/lang/String" "COMPACT_STRINGS" "Z" (.int cs)) (hv : vs.length = 16) (H : own_H Z h (own_ST a .null (.int (0 : Int32)) :: own_SB b (.ref y) (.int (0 : Int32)) (.int (5 : Int32)) :: os) ((y, .byte, "[B", vs) :: as)) : own_Met none l Z (⟨"java/lang/String", "<init>", "(Ljava/lang/AbstractStringBuilder;Ljava/lang/Void;)V"⟩ : MethodName) jdk_42_method_150_code 5 none [] ({ frames := 3, cells := 1, slots := 9, locals := 62 } : Room) #[(.ref a), (.ref b), .null] h (fun v h' => v = none ∧ ∃ z, own_H Z h' (own_ST a (.ref z) (.int (0 : Int32)) :: own_SB b (.ref y) (.int (0 : Int32)) (.int (5 : Int32)) :: os) ((z, .byte, "[B", vs.take 5) :: (y, .byte, "[B", vs) :: as)) := by
  refine own_met (by first | exact plainFor_of_name (by decide +kernel) | decide +kernel) ?_
  intro p_ e_ s_ m_ below_ meth_ c_ K
  refine own_cast (own_sx5_ef m_ _ _) ?_
  refine own_aloadN K own_d36_0 rfl rfl ?_
  refine own_initO K own_d36_1 (own_w15 hw) (own_w16 hw) (own_w17 hw) rfl (by decide) (W := 0) (Nat.le_of_eq rfl) (by decide) ?_
  refine own_aloadN K own_d36_4 rfl rfl ?_
  have H1 := H.frontO 1 rfl
  refine own_virtual K own_d36_5 (own_w165 hw) (own_w166 hw) (own_w168 hw) (own_w167 hw) (own_w75 hw) (own_w169 hw) (H.atO (i := 1) rfl) (a := b) (argsL := []) (rest := []) (own_gv hw H1) own_pd23 rfl rfl rfl (by decide) (W := 0) (Nat.le_of_eq rfl) (by decide) (by decide) (by decide) (by decide) ?_
  intro v4 h2 q3
  obtain ⟨rfl, rfl⟩ := q3
  refine own_astoreN K own_d36_8 rfl (Ls' := #[.val (.ref a), .val (.ref b), .val .null, .val (.ref y), .unset]) rfl ?_
  refine own_aloadN K own_d36_9 rfl rfl ?_
  have H5 := H.frontO 1 rfl
  refine own_virtualZ K own_d36_10 (own_w170 hw) (own_w171 hw) (own_w173 hw) (own_w174 hw) (own_w67 hw) (own_w175 hw) (H.atO (i := 1) rfl) (own_nf K (own_w108 hw) rfl) (a := b) (argsL := []) (rest := []) (own_sln hw H5) own_pd15 rfl rfl rfl (by decide) (W := 0) (Nat.le_of_eq rfl) (by decide) (by decide) (by decide) (by decide) ?_
  intro v8 h6 q7
  obtain ⟨rfl, rfl⟩ := q7
  refine own_istore K own_d36_13 (Ls' := #[.val (.ref a), .val (.ref b), .val .null, .val (.ref y), .val (.int (5 : Int32))]) rfl ?_
  refine own_aloadN K own_d36_15 rfl rfl ?_
  have H9 := H.frontO 1 rfl
  refine own_virtual K own_d36_16 (own_w178 hw) (own_w145 hw) (own_w147 hw) (own_w146 hw) (own_w75 hw) (own_w148 hw) (H.atO (i := 1) rfl) (a := b) (argsL := []) (rest := []) (own_il hw hC H9) own_pd6 rfl rfl rfl (by decide) (W := 0) (Nat.le_of_eq rfl) (by decide) (by decide) (by decide) (by decide) ?_
  intro v12 h10 q11
  obtain ⟨rfl, rfl⟩ := q11
  refine own_ifeq K own_d36_19 (fun q => absurd q (by decide)) (fun _ => ?_)
  refine own_aloadN K own_d36_22 rfl rfl ?_
  refine own_iconst K own_d36_23 (v := (0 : Int32)) rfl ?_
  refine own_putfield K own_d36_24 (host := "") (Or.inl (own_w30 hw)) Via.refl H (j := 0) rfl (q := 1) rfl (Or.inr ⟨(own_w31 hw), rfl, rfl⟩) (own_w5 hw) (ty := .byte) (by decide +kernel) (rfl) (rfl) ?_
  intro h13 H14
  replace H14 : own_H Z h13 (own_ST a .null (.int (0 : Int32)) :: own_SB b (.ref y) (.int (0 : Int32)) (.int (5 : Int32)) :: os) ((y, .byte, "[B", vs) :: as) := H14
  refine own_aloadN K own_d36_27 rfl rfl ?_
  refine own_aloadN K own_d36_28 rfl rfl ?_
  refine own_iconst K own_d36_29 (v := (0 : Int32)) rfl ?_
  refine own_iload K own_d36_30 rfl ?_
  refine own_static K own_d36_32 (own_w179 hw) (own_w180 hw) (own_w181 hw) (own_w182 hw) (argsL := [(.ref y), (.int (0 : Int32)), (.int (5 : Int32))]) (rest := [(.ref a)]) (own_cr5 hw hv H14) own_pd22 rfl rfl rfl (by decide) (W := 1) (Nat.le_of_eq rfl) (by decide) (by decide) (by decide) (by decide) ?_
  intro v17 h15 q16
  obtain ⟨z19, rfl, H18⟩ := q16
  replace H18 : own_H Z h15 (own_ST a .null (.int (0 : Int32)) :: own_SB b (.ref y) (.int (0 : Int32)) (.int (5 : Int32)) :: os) ((z19, .byte, "[B", (vs.take 5)) :: (y, .byte, "[B", vs) :: as) := H18
  refine own_putfield K own_d36_35 (host := "") (Or.inl (own_w32 hw)) Via.refl H18 (j := 0) rfl (q := 0) rfl (Or.inr ⟨(own_w33 hw), rfl, rfl⟩) (own_w5 hw) (ty := (.array .byte)) (by decide +kernel) (rfl) (rfl) ?_
  intro h20 H21
  replace H21 : own_H Z h20 (own_ST a (.ref z19) (.int (0 : Int32)) :: own_SB b (.ref y) (.int (0 : Int32)) (.int (5 : Int32)) :: os) ((z19, .byte, "[B", (vs.take 5)) :: (y, .byte, "[B", vs) :: as) := H21
  refine own_goto K own_d36_38 ?_
  exact own_retV K (fun _ q => q) own_d36_97 (by decide) (by decide) (⟨rfl, _, H21⟩)
set_option maxRecDepth 65536 in
set_option maxHeartbeats 40000000 in
theorem own_sy5_ef (m : MethodId) (x0 : Addr) (x1 : Addr) : entryFrame m #[(.ref x0), (.ref x1)] 2 = mkF m 0 #[.val (.ref x0), .val (.ref x1)] [] := by first | (simp [entryFrame, mkF, argsToLocals, Value.category]; done) | rfl
set_option maxRecDepth 65536 in
set_option maxHeartbeats 40000000 in
theorem own_sy5 {l : Launch} {Z : State} {a0 : Array Value} (hw : own_Z Z a0) {h : Heap} {os : List own_O} {as : List own_A} {a b y : Addr} {cs : Int32} {vs : List Value} (hC : cs ≠ 0 ∧ Sta Z Z.heap "java/lang/String" "COMPACT_STRINGS" "Z" (.int cs)) (hv : vs.length = 16) (H : own_H Z h (own_ST a .null (.int (0 : Int32)) :: own_SB b (.ref y) (.int (0 : Int32)) (.int (5 : Int32)) :: os) ((y, .byte, "[B", vs) :: as)) : own_Met none l Z (⟨"java/lang/String", "<init>", "(Ljava/lang/StringBuilder;)V"⟩ : MethodName) jdk_42_method_53_code 2 none [] ({ frames := 4, cells := 1, slots := 9, locals := 79 } : Room) #[(.ref a), (.ref b)] h (fun v h' => v = none ∧ ∃ z, own_H Z h' (own_ST a (.ref z) (.int (0 : Int32)) :: own_SB b (.ref y) (.int (0 : Int32)) (.int (5 : Int32)) :: os) ((z, .byte, "[B", vs.take 5) :: (y, .byte, "[B", vs) :: as)) := by
  refine own_met (by first | exact plainFor_of_name (by decide +kernel) | decide +kernel) ?_
  intro p_ e_ s_ m_ below_ meth_ c_ K
  refine own_cast (own_sy5_ef m_ _ _) ?_
  refine own_aloadN K own_d37_0 rfl rfl ?_
  refine own_aloadN K own_d37_1 rfl rfl ?_
  refine own_aconstNull K own_d37_2 ?_
  refine own_special K own_d37_3 rfl (own_w162 hw) (own_w163 hw) (own_w6 hw) (own_w164 hw) (a := a) (argsL := [(.ref b), .null]) (rest := []) (own_sx5 hw hC hv H) own_pd24 rfl rfl rfl (by decide) (W := 0) (Nat.le_of_eq rfl) (by decide) (by decide) (by decide) (by decide) ?_
  intro v3 h1 q2
  obtain ⟨rfl, z5, H4⟩ := q2
  replace H4 : own_H Z h1 (own_ST a (.ref z5) (.int (0 : Int32)) :: own_SB b (.ref y) (.int (0 : Int32)) (.int (5 : Int32)) :: os) ((z5, .byte, "[B", (vs.take 5)) :: (y, .byte, "[B", vs) :: as) := H4
  exact own_retV K (fun _ q => q) own_d37_6 (by decide) (by decide) (⟨rfl, _, H4⟩)
set_option maxRecDepth 65536 in
set_option maxHeartbeats 40000000 in
theorem own_ts5_ef (m : MethodId) (x0 : Addr) : entryFrame m #[(.ref x0)] 1 = mkF m 0 #[.val (.ref x0)] [] := by first | (simp [entryFrame, mkF, argsToLocals, Value.category]; done) | rfl
set_option maxRecDepth 65536 in
set_option maxHeartbeats 40000000 in
theorem own_ts5 {l : Launch} {Z : State} {a0 : Array Value} (hw : own_Z Z a0) {h : Heap} {os : List own_O} {as : List own_A} {b y : Addr} {cs : Int32} {vs : List Value} (hC : cs ≠ 0 ∧ Sta Z Z.heap "java/lang/String" "COMPACT_STRINGS" "Z" (.int cs)) (hv : vs.length = 16) (H : own_H Z h (own_SB b (.ref y) (.int (0 : Int32)) (.int (5 : Int32)) :: os) ((y, .byte, "[B", vs) :: as)) : own_Met none l Z (⟨"java/lang/StringBuilder", "toString", "()Ljava/lang/String;"⟩ : MethodName) jdk_67_method_42_code 1 (some (.object "java/lang/String")) [] ({ frames := 5, cells := 2, slots := 13, locals := 93 } : Room) #[(.ref b)] h (fun v h' => ∃ a z, v = some (.ref a) ∧ own_H Z h' (own_ST a (.ref z) (.int (0 : Int32)) :: own_SB b (.ref y) (.int (0 : Int32)) (.int (5 : Int32)) :: os) ((z, .byte, "[B", vs.take 5) :: (y, .byte, "[B", vs) :: as)) := by
  refine own_met (by first | exact plainFor_of_name (by decide +kernel) | decide +kernel) ?_
  intro p_ e_ s_ m_ below_ meth_ c_ K
  refine own_cast (own_ts5_ef m_ _) ?_
  refine own_new K own_d38_0 (own_w158 hw) (own_w5 hw) (own_w6 hw) H (own_ST_F hw) (own_ST_P hw) (by decide) (by decide) ?_
  intro h1 a3 H2
  replace H2 : own_H Z h1 (own_ST a3 .null (.int (0 : Int32)) :: own_SB b (.ref y) (.int (0 : Int32)) (.int (5 : Int32)) :: os) ((y, .byte, "[B", vs) :: as) := H2
  refine own_dup K own_d38_3 rfl ?_
  refine own_aloadN K own_d38_4 rfl rfl ?_
  refine own_special K own_d38_5 rfl (own_w159 hw) (own_w160 hw) (own_w6 hw) (own_w161 hw) (a := a3) (argsL := [(.ref b)]) (rest := [(.ref a3)]) (own_sy5 hw hC hv H2) own_pd25 rfl rfl rfl (by decide) (W := 1) (Nat.le_of_eq rfl) (by decide) (by decide) (by decide) (by decide) ?_
  intro v6 h4 q5
  obtain ⟨rfl, z8, H7⟩ := q5
  replace H7 : own_H Z h4 (own_ST a3 (.ref z8) (.int (0 : Int32)) :: own_SB b (.ref y) (.int (0 : Int32)) (.int (5 : Int32)) :: os) ((z8, .byte, "[B", (vs.take 5)) :: (y, .byte, "[B", vs) :: as) := H7
  exact own_retA K (fun _ q => q) rfl rfl own_d38_8 (by decide) (by decide) (⟨_, _, rfl, H7⟩)
set_option maxRecDepth 65536 in
set_option maxHeartbeats 40000000 in
theorem own_cl6_ef (m : MethodId) (x0 : Int32) (x1 : Int32) : entryFrame m #[(.int x0), (.int x1)] 2 = mkF m 0 #[.val (.int x0), .val (.int x1)] [] := by first | (simp [entryFrame, mkF, argsToLocals, Value.category]; done) | rfl
set_option maxRecDepth 65536 in
set_option maxHeartbeats 40000000 in
theorem own_cl6 {l : Launch} {Z : State} {a0 : Array Value} (hw : own_Z Z a0) {h : Heap} : own_Met none l Z (⟨"java/util/Arrays", "checkLength", "(II)V"⟩ : MethodName) jdk_65_method_131_code 2 none [] ({ frames := 0, cells := 0, slots := 0, locals := 0 } : Room) #[(.int (0 : Int32)), (.int (6 : Int32))] h (fun v h' => v = none ∧ h = h') := by
  refine own_met (by first | exact plainFor_of_name (by decide +kernel) | decide +kernel) ?_
  intro p_ e_ s_ m_ below_ meth_ c_ K
  refine own_cast (own_cl6_ef m_ _ _) ?_
  refine own_iloadN K own_d32_0 rfl ?_
  refine own_iloadN K own_d32_1 rfl ?_
  refine own_icmpge K own_d32_2 (fun _ => ?_) (fun q => absurd (by decide) q)
  exact own_retV K (fun _ q => q) own_d32_37 (by decide) (by decide) (⟨rfl, rfl⟩)
set_option maxRecDepth 65536 in
set_option maxHeartbeats 40000000 in
theorem own_mi6_ef (m : MethodId) (x0 : Int32) (x1 : Int32) : entryFrame m #[(.int x0), (.int x1)] 2 = mkF m 0 #[.val (.int x0), .val (.int x1)] [] := by first | (simp [entryFrame, mkF, argsToLocals, Value.category]; done) | rfl
set_option maxRecDepth 65536 in
set_option maxHeartbeats 40000000 in
theorem own_mi6 {l : Launch} {Z : State} {a0 : Array Value} (hw : own_Z Z a0) {h : Heap} : own_Met none l Z (⟨"java/lang/Math", "min", "(II)I"⟩ : MethodName) jdk_29_method_69_code 2 (some .int) [] ({ frames := 0, cells := 0, slots := 0, locals := 0 } : Room) #[(.int (16 : Int32)), (.int (6 : Int32))] h (fun v h' => v = some (.int (6 : Int32)) ∧ h = h') := by
  refine own_met (by first | exact plainFor_of_name (by decide +kernel) | decide +kernel) ?_
  intro p_ e_ s_ m_ below_ meth_ c_ K
  refine own_cast (own_mi6_ef m_ _ _) ?_
  refine own_iloadN K own_d33_0 rfl ?_
  refine own_iloadN K own_d33_1 rfl ?_
  refine own_icmpgt K own_d33_2 (fun _ => ?_) (fun q => absurd (by decide) q)
  refine own_iloadN K own_d33_9 rfl ?_
  exact own_retI K (fun _ q => q) own_d33_10 (by decide) (by decide) (⟨rfl, rfl⟩)
set_option maxRecDepth 65536 in
set_option maxHeartbeats 40000000 in
theorem own_crb6_ef (m : MethodId) (x0 : Addr) (x1 : Int32) (x2 : Int32) : entryFrame m #[(.ref x0), (.int x1), (.int x2)] 5 = mkF m 0 #[.val (.ref x0), .val (.int x1), .val (.int x2), .unset, .unset] [] := by first | (simp [entryFrame, mkF, argsToLocals, Value.category]; done) | rfl
set_option maxRecDepth 65536 in
set_option maxHeartbeats 40000000 in
theorem own_crb6 {l : Launch} {Z : State} {a0 : Array Value} (hw : own_Z Z a0) {h : Heap} {os : List own_O} {as : List own_A} {y : Addr} {vs : List Value} (hv : vs.length = 16) (H : own_H Z h os ((y, .byte, "[B", vs) :: as)) : own_Met none l Z (⟨"java/util/Arrays", "copyOfRangeByte", "([BII)[B"⟩ : MethodName) jdk_65_method_133_code 5 (some (.array .byte)) [] ({ frames := 1, cells := 1, slots := 9, locals := 30 } : Room) #[(.ref y), (.int (0 : Int32)), (.int (6 : Int32))] h (fun v h' => ∃ z, v = some (.ref z) ∧ own_H Z h' os ((z, .byte, "[B", vs.take 6) :: (y, .byte, "[B", vs) :: as)) := by
  refine own_met (by first | exact plainFor_of_name (by decide +kernel) | decide +kernel) ?_
  intro p_ e_ s_ m_ below_ meth_ c_ K
  refine own_cast (own_crb6_ef m_ _ _ _) ?_
  refine own_iloadN K own_d34_0 rfl ?_
  refine own_iloadN K own_d34_1 rfl ?_
  refine own_static K own_d34_2 (own_w186 hw) (own_w187 hw) (own_w181 hw) (own_w188 hw) (argsL := [(.int (0 : Int32)), (.int (6 : Int32))]) (rest := []) (own_cl6 hw) own_pd5 rfl rfl rfl (by decide) (W := 0) (Nat.le_of_eq rfl) (by decide) (by decide) (by decide) (by decide) ?_
  intro v3 h1 q2
  obtain ⟨rfl, rfl⟩ := q2
  refine own_iloadN K own_d34_5 rfl ?_
  refine own_iloadN K own_d34_6 rfl ?_
  refine own_isub K own_d34_7 ?_
  refine own_topI (x' := (6 : Int32)) (by decide) ?_
  refine own_istoreN K own_d34_8 (Ls' := #[.val (.ref y), .val (.int (0 : Int32)), .val (.int (6 : Int32)), .val (.int (6 : Int32)), .unset]) rfl ?_
  refine own_iloadN K own_d34_9 rfl ?_
  refine own_newarray K own_d34_10 (ty := .byte) rfl (own_w23 hw) H (q := 6) (by decide) (ad := "[B") (by decide +kernel) (vs := [(.int (0 : Int32)), (.int (0 : Int32)), (.int (0 : Int32)), (.int (0 : Int32)), (.int (0 : Int32)), (.int (0 : Int32))]) rfl (by decide) (by decide) (by decide) ?_
  intro h4 a6 H5
  replace H5 : own_H Z h4 (os) ((a6, .byte, "[B", [(.int (0 : Int32)), (.int (0 : Int32)), (.int (0 : Int32)), (.int (0 : Int32)), (.int (0 : Int32)), (.int (0 : Int32))]) :: (y, .byte, "[B", vs) :: as) := H5
  refine own_astore K own_d34_12 rfl (Ls' := #[.val (.ref y), .val (.int (0 : Int32)), .val (.int (6 : Int32)), .val (.int (6 : Int32)), .val (.ref a6)]) rfl ?_
  refine own_aloadN K own_d34_14 rfl rfl ?_
  refine own_iloadN K own_d34_15 rfl ?_
  refine own_aload K own_d34_16 rfl rfl ?_
  refine own_iconst K own_d34_18 (v := (0 : Int32)) rfl ?_
  refine own_aloadN K own_d34_19 rfl rfl ?_
  refine own_arraylength K own_d34_20 H5 (i := 1) rfl (N := (16 : Int32)) (by rw [hv]; rfl) ?_
  refine own_iloadN K own_d34_21 rfl ?_
  refine own_isub K own_d34_22 ?_
  refine own_topI (x' := (16 : Int32)) (by decide) ?_
  refine own_iloadN K own_d34_23 rfl ?_
  refine own_static K own_d34_24 (own_w189 hw) (own_w190 hw) (own_w191 hw) (own_w192 hw) (argsL := [(.int (16 : Int32)), (.int (6 : Int32))]) (rest := [(.int (0 : Int32)), (.ref a6), (.int (0 : Int32)), (.ref y)]) (own_mi6 hw) own_pd21 rfl rfl rfl (by decide) (W := 4) (Nat.le_of_eq rfl) (by decide) (by decide) (by decide) (by decide) ?_
  intro v9 h7 q8
  obtain ⟨rfl, rfl⟩ := q8
  refine own_arraycopy K own_d34_27 (own_w193 hw) (own_w129 hw) (own_w127 hw) (own_w128 hw) H5 (ia := 1) rfl (ib := 0) rfl rfl (by intro C q; cases q) (sq := 0) (by decide) (dq := 0) (by decide) (nq := 6) (by decide) (by rw [hv]; decide) (own_le rfl) (by rw [hv]; decide) (own_le rfl) rfl (by decide) (W := 0) (Nat.le_of_eq rfl) (by decide) ?_
  intro h10 H11
  rw [show ([.int (0 : Int32), .int (0 : Int32), .int (0 : Int32), .int (0 : Int32), .int (0 : Int32), .int (0 : Int32)] : List Value).take 0 ++ (vs.drop 0).take 6 ++ ([.int (0 : Int32), .int (0 : Int32), .int (0 : Int32), .int (0 : Int32), .int (0 : Int32), .int (0 : Int32)] : List Value).drop (0 + 6) = vs.take 6 from own_cpz rfl] at H11
  replace H11 : own_H Z h10 (os) ((a6, .byte, "[B", (vs.take 6)) :: (y, .byte, "[B", vs) :: as) := H11
  refine own_aload K own_d34_30 rfl rfl ?_
  exact own_retA K (fun _ q => q) rfl rfl own_d34_32 (by decide) (by decide) (⟨_, rfl, H11⟩)
set_option maxRecDepth 65536 in
set_option maxHeartbeats 40000000 in
theorem own_cr6_ef (m : MethodId) (x0 : Addr) (x1 : Int32) (x2 : Int32) : entryFrame m #[(.ref x0), (.int x1), (.int x2)] 3 = mkF m 0 #[.val (.ref x0), .val (.int x1), .val (.int x2)] [] := by first | (simp [entryFrame, mkF, argsToLocals, Value.category]; done) | rfl
set_option maxRecDepth 65536 in
set_option maxHeartbeats 40000000 in
theorem own_cr6 {l : Launch} {Z : State} {a0 : Array Value} (hw : own_Z Z a0) {h : Heap} {os : List own_O} {as : List own_A} {y : Addr} {vs : List Value} (hv : vs.length = 16) (H : own_H Z h os ((y, .byte, "[B", vs) :: as)) : own_Met none l Z (⟨"java/util/Arrays", "copyOfRange", "([BII)[B"⟩ : MethodName) jdk_65_method_132_code 3 (some (.array .byte)) [] ({ frames := 2, cells := 1, slots := 9, locals := 46 } : Room) #[(.ref y), (.int (0 : Int32)), (.int (6 : Int32))] h (fun v h' => ∃ z, v = some (.ref z) ∧ own_H Z h' os ((z, .byte, "[B", vs.take 6) :: (y, .byte, "[B", vs) :: as)) := by
  refine own_met (by first | exact plainFor_of_name (by decide +kernel) | decide +kernel) ?_
  intro p_ e_ s_ m_ below_ meth_ c_ K
  refine own_cast (own_cr6_ef m_ _ _ _) ?_
  refine own_iloadN K own_d35_0 rfl ?_
  refine own_ifne K own_d35_1 (fun q => absurd q (by decide)) (fun _ => ?_)
  refine own_iloadN K own_d35_4 rfl ?_
  refine own_aloadN K own_d35_5 rfl rfl ?_
  refine own_arraylength K own_d35_6 H (i := 0) rfl (N := (16 : Int32)) (by rw [hv]; rfl) ?_
  refine own_icmpeq K own_d35_7 (fun q => absurd q (by decide)) (fun _ => ?_)
  refine own_aloadN K own_d35_10 rfl rfl ?_
  refine own_iloadN K own_d35_11 rfl ?_
  refine own_iloadN K own_d35_12 rfl ?_
  refine own_static K own_d35_13 (own_w183 hw) (own_w184 hw) (own_w181 hw) (own_w185 hw) (argsL := [(.ref y), (.int (0 : Int32)), (.int (6 : Int32))]) (rest := []) (own_crb6 hw hv H) own_pd22 rfl rfl rfl (by decide) (W := 0) (Nat.le_of_eq rfl) (by decide) (by decide) (by decide) (by decide) ?_
  intro v3 h1 q2
  obtain ⟨z5, rfl, H4⟩ := q2
  replace H4 : own_H Z h1 (os) ((z5, .byte, "[B", (vs.take 6)) :: (y, .byte, "[B", vs) :: as) := H4
  exact own_retA K (fun _ q => q) rfl rfl own_d35_16 (by decide) (by decide) (⟨_, rfl, H4⟩)
set_option maxRecDepth 65536 in
set_option maxHeartbeats 40000000 in
theorem own_sx6_ef (m : MethodId) (x0 : Addr) (x1 : Addr) : entryFrame m #[(.ref x0), (.ref x1), .null] 5 = mkF m 0 #[.val (.ref x0), .val (.ref x1), .val .null, .unset, .unset] [] := by first | (simp [entryFrame, mkF, argsToLocals, Value.category]; done) | rfl
set_option maxRecDepth 65536 in
set_option maxHeartbeats 40000000 in
theorem own_sx6 {l : Launch} {Z : State} {a0 : Array Value} (hw : own_Z Z a0) {h : Heap} {os : List own_O} {as : List own_A} {a b y : Addr} {cs : Int32} {vs : List Value} (hC : cs ≠ 0 ∧ Sta Z Z.heap "java/lang/String" "COMPACT_STRINGS" "Z" (.int cs)) (hv : vs.length = 16) (H : own_H Z h (own_ST a .null (.int (0 : Int32)) :: own_SB b (.ref y) (.int (0 : Int32)) (.int (6 : Int32)) :: os) ((y, .byte, "[B", vs) :: as)) : own_Met none l Z (⟨"java/lang/String", "<init>", "(Ljava/lang/AbstractStringBuilder;Ljava/lang/Void;)V"⟩ : MethodName) jdk_42_method_150_code 5 none [] ({ frames := 3, cells := 1, slots := 9, locals := 62 } : Room) #[(.ref a), (.ref b), .null] h (fun v h' => v = none ∧ ∃ z, own_H Z h' (own_ST a (.ref z) (.int (0 : Int32)) :: own_SB b (.ref y) (.int (0 : Int32)) (.int (6 : Int32)) :: os) ((z, .byte, "[B", vs.take 6) :: (y, .byte, "[B", vs) :: as)) := by
  refine own_met (by first | exact plainFor_of_name (by decide +kernel) | decide +kernel) ?_
  intro p_ e_ s_ m_ below_ meth_ c_ K
  refine own_cast (own_sx6_ef m_ _ _) ?_
  refine own_aloadN K own_d36_0 rfl rfl ?_
  refine own_initO K own_d36_1 (own_w15 hw) (own_w16 hw) (own_w17 hw) rfl (by decide) (W := 0) (Nat.le_of_eq rfl) (by decide) ?_
  refine own_aloadN K own_d36_4 rfl rfl ?_
  have H1 := H.frontO 1 rfl
  refine own_virtual K own_d36_5 (own_w165 hw) (own_w166 hw) (own_w168 hw) (own_w167 hw) (own_w75 hw) (own_w169 hw) (H.atO (i := 1) rfl) (a := b) (argsL := []) (rest := []) (own_gv hw H1) own_pd23 rfl rfl rfl (by decide) (W := 0) (Nat.le_of_eq rfl) (by decide) (by decide) (by decide) (by decide) ?_
  intro v4 h2 q3
  obtain ⟨rfl, rfl⟩ := q3
  refine own_astoreN K own_d36_8 rfl (Ls' := #[.val (.ref a), .val (.ref b), .val .null, .val (.ref y), .unset]) rfl ?_
  refine own_aloadN K own_d36_9 rfl rfl ?_
  have H5 := H.frontO 1 rfl
  refine own_virtualZ K own_d36_10 (own_w170 hw) (own_w171 hw) (own_w173 hw) (own_w174 hw) (own_w67 hw) (own_w175 hw) (H.atO (i := 1) rfl) (own_nf K (own_w108 hw) rfl) (a := b) (argsL := []) (rest := []) (own_sln hw H5) own_pd15 rfl rfl rfl (by decide) (W := 0) (Nat.le_of_eq rfl) (by decide) (by decide) (by decide) (by decide) ?_
  intro v8 h6 q7
  obtain ⟨rfl, rfl⟩ := q7
  refine own_istore K own_d36_13 (Ls' := #[.val (.ref a), .val (.ref b), .val .null, .val (.ref y), .val (.int (6 : Int32))]) rfl ?_
  refine own_aloadN K own_d36_15 rfl rfl ?_
  have H9 := H.frontO 1 rfl
  refine own_virtual K own_d36_16 (own_w178 hw) (own_w145 hw) (own_w147 hw) (own_w146 hw) (own_w75 hw) (own_w148 hw) (H.atO (i := 1) rfl) (a := b) (argsL := []) (rest := []) (own_il hw hC H9) own_pd6 rfl rfl rfl (by decide) (W := 0) (Nat.le_of_eq rfl) (by decide) (by decide) (by decide) (by decide) ?_
  intro v12 h10 q11
  obtain ⟨rfl, rfl⟩ := q11
  refine own_ifeq K own_d36_19 (fun q => absurd q (by decide)) (fun _ => ?_)
  refine own_aloadN K own_d36_22 rfl rfl ?_
  refine own_iconst K own_d36_23 (v := (0 : Int32)) rfl ?_
  refine own_putfield K own_d36_24 (host := "") (Or.inl (own_w30 hw)) Via.refl H (j := 0) rfl (q := 1) rfl (Or.inr ⟨(own_w31 hw), rfl, rfl⟩) (own_w5 hw) (ty := .byte) (by decide +kernel) (rfl) (rfl) ?_
  intro h13 H14
  replace H14 : own_H Z h13 (own_ST a .null (.int (0 : Int32)) :: own_SB b (.ref y) (.int (0 : Int32)) (.int (6 : Int32)) :: os) ((y, .byte, "[B", vs) :: as) := H14
  refine own_aloadN K own_d36_27 rfl rfl ?_
  refine own_aloadN K own_d36_28 rfl rfl ?_
  refine own_iconst K own_d36_29 (v := (0 : Int32)) rfl ?_
  refine own_iload K own_d36_30 rfl ?_
  refine own_static K own_d36_32 (own_w179 hw) (own_w180 hw) (own_w181 hw) (own_w182 hw) (argsL := [(.ref y), (.int (0 : Int32)), (.int (6 : Int32))]) (rest := [(.ref a)]) (own_cr6 hw hv H14) own_pd22 rfl rfl rfl (by decide) (W := 1) (Nat.le_of_eq rfl) (by decide) (by decide) (by decide) (by decide) ?_
  intro v17 h15 q16
  obtain ⟨z19, rfl, H18⟩ := q16
  replace H18 : own_H Z h15 (own_ST a .null (.int (0 : Int32)) :: own_SB b (.ref y) (.int (0 : Int32)) (.int (6 : Int32)) :: os) ((z19, .byte, "[B", (vs.take 6)) :: (y, .byte, "[B", vs) :: as) := H18
  refine own_putfield K own_d36_35 (host := "") (Or.inl (own_w32 hw)) Via.refl H18 (j := 0) rfl (q := 0) rfl (Or.inr ⟨(own_w33 hw), rfl, rfl⟩) (own_w5 hw) (ty := (.array .byte)) (by decide +kernel) (rfl) (rfl) ?_
  intro h20 H21
  replace H21 : own_H Z h20 (own_ST a (.ref z19) (.int (0 : Int32)) :: own_SB b (.ref y) (.int (0 : Int32)) (.int (6 : Int32)) :: os) ((z19, .byte, "[B", (vs.take 6)) :: (y, .byte, "[B", vs) :: as) := H21
  refine own_goto K own_d36_38 ?_
  exact own_retV K (fun _ q => q) own_d36_97 (by decide) (by decide) (⟨rfl, _, H21⟩)
set_option maxRecDepth 65536 in
set_option maxHeartbeats 40000000 in
theorem own_sy6_ef (m : MethodId) (x0 : Addr) (x1 : Addr) : entryFrame m #[(.ref x0), (.ref x1)] 2 = mkF m 0 #[.val (.ref x0), .val (.ref x1)] [] := by first | (simp [entryFrame, mkF, argsToLocals, Value.category]; done) | rfl
set_option maxRecDepth 65536 in
set_option maxHeartbeats 40000000 in
theorem own_sy6 {l : Launch} {Z : State} {a0 : Array Value} (hw : own_Z Z a0) {h : Heap} {os : List own_O} {as : List own_A} {a b y : Addr} {cs : Int32} {vs : List Value} (hC : cs ≠ 0 ∧ Sta Z Z.heap "java/lang/String" "COMPACT_STRINGS" "Z" (.int cs)) (hv : vs.length = 16) (H : own_H Z h (own_ST a .null (.int (0 : Int32)) :: own_SB b (.ref y) (.int (0 : Int32)) (.int (6 : Int32)) :: os) ((y, .byte, "[B", vs) :: as)) : own_Met none l Z (⟨"java/lang/String", "<init>", "(Ljava/lang/StringBuilder;)V"⟩ : MethodName) jdk_42_method_53_code 2 none [] ({ frames := 4, cells := 1, slots := 9, locals := 79 } : Room) #[(.ref a), (.ref b)] h (fun v h' => v = none ∧ ∃ z, own_H Z h' (own_ST a (.ref z) (.int (0 : Int32)) :: own_SB b (.ref y) (.int (0 : Int32)) (.int (6 : Int32)) :: os) ((z, .byte, "[B", vs.take 6) :: (y, .byte, "[B", vs) :: as)) := by
  refine own_met (by first | exact plainFor_of_name (by decide +kernel) | decide +kernel) ?_
  intro p_ e_ s_ m_ below_ meth_ c_ K
  refine own_cast (own_sy6_ef m_ _ _) ?_
  refine own_aloadN K own_d37_0 rfl rfl ?_
  refine own_aloadN K own_d37_1 rfl rfl ?_
  refine own_aconstNull K own_d37_2 ?_
  refine own_special K own_d37_3 rfl (own_w162 hw) (own_w163 hw) (own_w6 hw) (own_w164 hw) (a := a) (argsL := [(.ref b), .null]) (rest := []) (own_sx6 hw hC hv H) own_pd24 rfl rfl rfl (by decide) (W := 0) (Nat.le_of_eq rfl) (by decide) (by decide) (by decide) (by decide) ?_
  intro v3 h1 q2
  obtain ⟨rfl, z5, H4⟩ := q2
  replace H4 : own_H Z h1 (own_ST a (.ref z5) (.int (0 : Int32)) :: own_SB b (.ref y) (.int (0 : Int32)) (.int (6 : Int32)) :: os) ((z5, .byte, "[B", (vs.take 6)) :: (y, .byte, "[B", vs) :: as) := H4
  exact own_retV K (fun _ q => q) own_d37_6 (by decide) (by decide) (⟨rfl, _, H4⟩)
set_option maxRecDepth 65536 in
set_option maxHeartbeats 40000000 in
theorem own_ts6_ef (m : MethodId) (x0 : Addr) : entryFrame m #[(.ref x0)] 1 = mkF m 0 #[.val (.ref x0)] [] := by first | (simp [entryFrame, mkF, argsToLocals, Value.category]; done) | rfl
set_option maxRecDepth 65536 in
set_option maxHeartbeats 40000000 in
theorem own_ts6 {l : Launch} {Z : State} {a0 : Array Value} (hw : own_Z Z a0) {h : Heap} {os : List own_O} {as : List own_A} {b y : Addr} {cs : Int32} {vs : List Value} (hC : cs ≠ 0 ∧ Sta Z Z.heap "java/lang/String" "COMPACT_STRINGS" "Z" (.int cs)) (hv : vs.length = 16) (H : own_H Z h (own_SB b (.ref y) (.int (0 : Int32)) (.int (6 : Int32)) :: os) ((y, .byte, "[B", vs) :: as)) : own_Met none l Z (⟨"java/lang/StringBuilder", "toString", "()Ljava/lang/String;"⟩ : MethodName) jdk_67_method_42_code 1 (some (.object "java/lang/String")) [] ({ frames := 5, cells := 2, slots := 13, locals := 93 } : Room) #[(.ref b)] h (fun v h' => ∃ a z, v = some (.ref a) ∧ own_H Z h' (own_ST a (.ref z) (.int (0 : Int32)) :: own_SB b (.ref y) (.int (0 : Int32)) (.int (6 : Int32)) :: os) ((z, .byte, "[B", vs.take 6) :: (y, .byte, "[B", vs) :: as)) := by
  refine own_met (by first | exact plainFor_of_name (by decide +kernel) | decide +kernel) ?_
  intro p_ e_ s_ m_ below_ meth_ c_ K
  refine own_cast (own_ts6_ef m_ _) ?_
  refine own_new K own_d38_0 (own_w158 hw) (own_w5 hw) (own_w6 hw) H (own_ST_F hw) (own_ST_P hw) (by decide) (by decide) ?_
  intro h1 a3 H2
  replace H2 : own_H Z h1 (own_ST a3 .null (.int (0 : Int32)) :: own_SB b (.ref y) (.int (0 : Int32)) (.int (6 : Int32)) :: os) ((y, .byte, "[B", vs) :: as) := H2
  refine own_dup K own_d38_3 rfl ?_
  refine own_aloadN K own_d38_4 rfl rfl ?_
  refine own_special K own_d38_5 rfl (own_w159 hw) (own_w160 hw) (own_w6 hw) (own_w161 hw) (a := a3) (argsL := [(.ref b)]) (rest := [(.ref a3)]) (own_sy6 hw hC hv H2) own_pd25 rfl rfl rfl (by decide) (W := 1) (Nat.le_of_eq rfl) (by decide) (by decide) (by decide) (by decide) ?_
  intro v6 h4 q5
  obtain ⟨rfl, z8, H7⟩ := q5
  replace H7 : own_H Z h4 (own_ST a3 (.ref z8) (.int (0 : Int32)) :: own_SB b (.ref y) (.int (0 : Int32)) (.int (6 : Int32)) :: os) ((z8, .byte, "[B", (vs.take 6)) :: (y, .byte, "[B", vs) :: as) := H7
  exact own_retA K (fun _ q => q) rfl rfl own_d38_8 (by decide) (by decide) (⟨_, _, rfl, H7⟩)
set_option maxRecDepth 65536 in
set_option maxHeartbeats 40000000 in
theorem own_cl7_ef (m : MethodId) (x0 : Int32) (x1 : Int32) : entryFrame m #[(.int x0), (.int x1)] 2 = mkF m 0 #[.val (.int x0), .val (.int x1)] [] := by first | (simp [entryFrame, mkF, argsToLocals, Value.category]; done) | rfl
set_option maxRecDepth 65536 in
set_option maxHeartbeats 40000000 in
theorem own_cl7 {l : Launch} {Z : State} {a0 : Array Value} (hw : own_Z Z a0) {h : Heap} : own_Met none l Z (⟨"java/util/Arrays", "checkLength", "(II)V"⟩ : MethodName) jdk_65_method_131_code 2 none [] ({ frames := 0, cells := 0, slots := 0, locals := 0 } : Room) #[(.int (0 : Int32)), (.int (7 : Int32))] h (fun v h' => v = none ∧ h = h') := by
  refine own_met (by first | exact plainFor_of_name (by decide +kernel) | decide +kernel) ?_
  intro p_ e_ s_ m_ below_ meth_ c_ K
  refine own_cast (own_cl7_ef m_ _ _) ?_
  refine own_iloadN K own_d32_0 rfl ?_
  refine own_iloadN K own_d32_1 rfl ?_
  refine own_icmpge K own_d32_2 (fun _ => ?_) (fun q => absurd (by decide) q)
  exact own_retV K (fun _ q => q) own_d32_37 (by decide) (by decide) (⟨rfl, rfl⟩)
set_option maxRecDepth 65536 in
set_option maxHeartbeats 40000000 in
theorem own_mi7_ef (m : MethodId) (x0 : Int32) (x1 : Int32) : entryFrame m #[(.int x0), (.int x1)] 2 = mkF m 0 #[.val (.int x0), .val (.int x1)] [] := by first | (simp [entryFrame, mkF, argsToLocals, Value.category]; done) | rfl
set_option maxRecDepth 65536 in
set_option maxHeartbeats 40000000 in
theorem own_mi7 {l : Launch} {Z : State} {a0 : Array Value} (hw : own_Z Z a0) {h : Heap} : own_Met none l Z (⟨"java/lang/Math", "min", "(II)I"⟩ : MethodName) jdk_29_method_69_code 2 (some .int) [] ({ frames := 0, cells := 0, slots := 0, locals := 0 } : Room) #[(.int (16 : Int32)), (.int (7 : Int32))] h (fun v h' => v = some (.int (7 : Int32)) ∧ h = h') := by
  refine own_met (by first | exact plainFor_of_name (by decide +kernel) | decide +kernel) ?_
  intro p_ e_ s_ m_ below_ meth_ c_ K
  refine own_cast (own_mi7_ef m_ _ _) ?_
  refine own_iloadN K own_d33_0 rfl ?_
  refine own_iloadN K own_d33_1 rfl ?_
  refine own_icmpgt K own_d33_2 (fun _ => ?_) (fun q => absurd (by decide) q)
  refine own_iloadN K own_d33_9 rfl ?_
  exact own_retI K (fun _ q => q) own_d33_10 (by decide) (by decide) (⟨rfl, rfl⟩)
set_option maxRecDepth 65536 in
set_option maxHeartbeats 40000000 in
theorem own_crb7_ef (m : MethodId) (x0 : Addr) (x1 : Int32) (x2 : Int32) : entryFrame m #[(.ref x0), (.int x1), (.int x2)] 5 = mkF m 0 #[.val (.ref x0), .val (.int x1), .val (.int x2), .unset, .unset] [] := by first | (simp [entryFrame, mkF, argsToLocals, Value.category]; done) | rfl
set_option maxRecDepth 65536 in
set_option maxHeartbeats 40000000 in
theorem own_crb7 {l : Launch} {Z : State} {a0 : Array Value} (hw : own_Z Z a0) {h : Heap} {os : List own_O} {as : List own_A} {y : Addr} {vs : List Value} (hv : vs.length = 16) (H : own_H Z h os ((y, .byte, "[B", vs) :: as)) : own_Met none l Z (⟨"java/util/Arrays", "copyOfRangeByte", "([BII)[B"⟩ : MethodName) jdk_65_method_133_code 5 (some (.array .byte)) [] ({ frames := 1, cells := 1, slots := 9, locals := 30 } : Room) #[(.ref y), (.int (0 : Int32)), (.int (7 : Int32))] h (fun v h' => ∃ z, v = some (.ref z) ∧ own_H Z h' os ((z, .byte, "[B", vs.take 7) :: (y, .byte, "[B", vs) :: as)) := by
  refine own_met (by first | exact plainFor_of_name (by decide +kernel) | decide +kernel) ?_
  intro p_ e_ s_ m_ below_ meth_ c_ K
  refine own_cast (own_crb7_ef m_ _ _ _) ?_
  refine own_iloadN K own_d34_0 rfl ?_
  refine own_iloadN K own_d34_1 rfl ?_
  refine own_static K own_d34_2 (own_w186 hw) (own_w187 hw) (own_w181 hw) (own_w188 hw) (argsL := [(.int (0 : Int32)), (.int (7 : Int32))]) (rest := []) (own_cl7 hw) own_pd5 rfl rfl rfl (by decide) (W := 0) (Nat.le_of_eq rfl) (by decide) (by decide) (by decide) (by decide) ?_
  intro v3 h1 q2
  obtain ⟨rfl, rfl⟩ := q2
  refine own_iloadN K own_d34_5 rfl ?_
  refine own_iloadN K own_d34_6 rfl ?_
  refine own_isub K own_d34_7 ?_
  refine own_topI (x' := (7 : Int32)) (by decide) ?_
  refine own_istoreN K own_d34_8 (Ls' := #[.val (.ref y), .val (.int (0 : Int32)), .val (.int (7 : Int32)), .val (.int (7 : Int32)), .unset]) rfl ?_
  refine own_iloadN K own_d34_9 rfl ?_
  refine own_newarray K own_d34_10 (ty := .byte) rfl (own_w23 hw) H (q := 7) (by decide) (ad := "[B") (by decide +kernel) (vs := [(.int (0 : Int32)), (.int (0 : Int32)), (.int (0 : Int32)), (.int (0 : Int32)), (.int (0 : Int32)), (.int (0 : Int32)), (.int (0 : Int32))]) rfl (by decide) (by decide) (by decide) ?_
  intro h4 a6 H5
  replace H5 : own_H Z h4 (os) ((a6, .byte, "[B", [(.int (0 : Int32)), (.int (0 : Int32)), (.int (0 : Int32)), (.int (0 : Int32)), (.int (0 : Int32)), (.int (0 : Int32)), (.int (0 : Int32))]) :: (y, .byte, "[B", vs) :: as) := H5
  refine own_astore K own_d34_12 rfl (Ls' := #[.val (.ref y), .val (.int (0 : Int32)), .val (.int (7 : Int32)), .val (.int (7 : Int32)), .val (.ref a6)]) rfl ?_
  refine own_aloadN K own_d34_14 rfl rfl ?_
  refine own_iloadN K own_d34_15 rfl ?_
  refine own_aload K own_d34_16 rfl rfl ?_
  refine own_iconst K own_d34_18 (v := (0 : Int32)) rfl ?_
  refine own_aloadN K own_d34_19 rfl rfl ?_
  refine own_arraylength K own_d34_20 H5 (i := 1) rfl (N := (16 : Int32)) (by rw [hv]; rfl) ?_
  refine own_iloadN K own_d34_21 rfl ?_
  refine own_isub K own_d34_22 ?_
  refine own_topI (x' := (16 : Int32)) (by decide) ?_
  refine own_iloadN K own_d34_23 rfl ?_
  refine own_static K own_d34_24 (own_w189 hw) (own_w190 hw) (own_w191 hw) (own_w192 hw) (argsL := [(.int (16 : Int32)), (.int (7 : Int32))]) (rest := [(.int (0 : Int32)), (.ref a6), (.int (0 : Int32)), (.ref y)]) (own_mi7 hw) own_pd21 rfl rfl rfl (by decide) (W := 4) (Nat.le_of_eq rfl) (by decide) (by decide) (by decide) (by decide) ?_
  intro v9 h7 q8
  obtain ⟨rfl, rfl⟩ := q8
  refine own_arraycopy K own_d34_27 (own_w193 hw) (own_w129 hw) (own_w127 hw) (own_w128 hw) H5 (ia := 1) rfl (ib := 0) rfl rfl (by intro C q; cases q) (sq := 0) (by decide) (dq := 0) (by decide) (nq := 7) (by decide) (by rw [hv]; decide) (own_le rfl) (by rw [hv]; decide) (own_le rfl) rfl (by decide) (W := 0) (Nat.le_of_eq rfl) (by decide) ?_
  intro h10 H11
  rw [show ([.int (0 : Int32), .int (0 : Int32), .int (0 : Int32), .int (0 : Int32), .int (0 : Int32), .int (0 : Int32), .int (0 : Int32)] : List Value).take 0 ++ (vs.drop 0).take 7 ++ ([.int (0 : Int32), .int (0 : Int32), .int (0 : Int32), .int (0 : Int32), .int (0 : Int32), .int (0 : Int32), .int (0 : Int32)] : List Value).drop (0 + 7) = vs.take 7 from own_cpz rfl] at H11
  replace H11 : own_H Z h10 (os) ((a6, .byte, "[B", (vs.take 7)) :: (y, .byte, "[B", vs) :: as) := H11
  refine own_aload K own_d34_30 rfl rfl ?_
  exact own_retA K (fun _ q => q) rfl rfl own_d34_32 (by decide) (by decide) (⟨_, rfl, H11⟩)
set_option maxRecDepth 65536 in
set_option maxHeartbeats 40000000 in
theorem own_cr7_ef (m : MethodId) (x0 : Addr) (x1 : Int32) (x2 : Int32) : entryFrame m #[(.ref x0), (.int x1), (.int x2)] 3 = mkF m 0 #[.val (.ref x0), .val (.int x1), .val (.int x2)] [] := by first | (simp [entryFrame, mkF, argsToLocals, Value.category]; done) | rfl
set_option maxRecDepth 65536 in
set_option maxHeartbeats 40000000 in
theorem own_cr7 {l : Launch} {Z : State} {a0 : Array Value} (hw : own_Z Z a0) {h : Heap} {os : List own_O} {as : List own_A} {y : Addr} {vs : List Value} (hv : vs.length = 16) (H : own_H Z h os ((y, .byte, "[B", vs) :: as)) : own_Met none l Z (⟨"java/util/Arrays", "copyOfRange", "([BII)[B"⟩ : MethodName) jdk_65_method_132_code 3 (some (.array .byte)) [] ({ frames := 2, cells := 1, slots := 9, locals := 46 } : Room) #[(.ref y), (.int (0 : Int32)), (.int (7 : Int32))] h (fun v h' => ∃ z, v = some (.ref z) ∧ own_H Z h' os ((z, .byte, "[B", vs.take 7) :: (y, .byte, "[B", vs) :: as)) := by
  refine own_met (by first | exact plainFor_of_name (by decide +kernel) | decide +kernel) ?_
  intro p_ e_ s_ m_ below_ meth_ c_ K
  refine own_cast (own_cr7_ef m_ _ _ _) ?_
  refine own_iloadN K own_d35_0 rfl ?_
  refine own_ifne K own_d35_1 (fun q => absurd q (by decide)) (fun _ => ?_)
  refine own_iloadN K own_d35_4 rfl ?_
  refine own_aloadN K own_d35_5 rfl rfl ?_
  refine own_arraylength K own_d35_6 H (i := 0) rfl (N := (16 : Int32)) (by rw [hv]; rfl) ?_
  refine own_icmpeq K own_d35_7 (fun q => absurd q (by decide)) (fun _ => ?_)
  refine own_aloadN K own_d35_10 rfl rfl ?_
  refine own_iloadN K own_d35_11 rfl ?_
  refine own_iloadN K own_d35_12 rfl ?_
  refine own_static K own_d35_13 (own_w183 hw) (own_w184 hw) (own_w181 hw) (own_w185 hw) (argsL := [(.ref y), (.int (0 : Int32)), (.int (7 : Int32))]) (rest := []) (own_crb7 hw hv H) own_pd22 rfl rfl rfl (by decide) (W := 0) (Nat.le_of_eq rfl) (by decide) (by decide) (by decide) (by decide) ?_
  intro v3 h1 q2
  obtain ⟨z5, rfl, H4⟩ := q2
  replace H4 : own_H Z h1 (os) ((z5, .byte, "[B", (vs.take 7)) :: (y, .byte, "[B", vs) :: as) := H4
  exact own_retA K (fun _ q => q) rfl rfl own_d35_16 (by decide) (by decide) (⟨_, rfl, H4⟩)
set_option maxRecDepth 65536 in
set_option maxHeartbeats 40000000 in
theorem own_sx7_ef (m : MethodId) (x0 : Addr) (x1 : Addr) : entryFrame m #[(.ref x0), (.ref x1), .null] 5 = mkF m 0 #[.val (.ref x0), .val (.ref x1), .val .null, .unset, .unset] [] := by first | (simp [entryFrame, mkF, argsToLocals, Value.category]; done) | rfl
set_option maxRecDepth 65536 in
set_option maxHeartbeats 40000000 in
theorem own_sx7 {l : Launch} {Z : State} {a0 : Array Value} (hw : own_Z Z a0) {h : Heap} {os : List own_O} {as : List own_A} {a b y : Addr} {cs : Int32} {vs : List Value} (hC : cs ≠ 0 ∧ Sta Z Z.heap "java/lang/String" "COMPACT_STRINGS" "Z" (.int cs)) (hv : vs.length = 16) (H : own_H Z h (own_ST a .null (.int (0 : Int32)) :: own_SB b (.ref y) (.int (0 : Int32)) (.int (7 : Int32)) :: os) ((y, .byte, "[B", vs) :: as)) : own_Met none l Z (⟨"java/lang/String", "<init>", "(Ljava/lang/AbstractStringBuilder;Ljava/lang/Void;)V"⟩ : MethodName) jdk_42_method_150_code 5 none [] ({ frames := 3, cells := 1, slots := 9, locals := 62 } : Room) #[(.ref a), (.ref b), .null] h (fun v h' => v = none ∧ ∃ z, own_H Z h' (own_ST a (.ref z) (.int (0 : Int32)) :: own_SB b (.ref y) (.int (0 : Int32)) (.int (7 : Int32)) :: os) ((z, .byte, "[B", vs.take 7) :: (y, .byte, "[B", vs) :: as)) := by
  refine own_met (by first | exact plainFor_of_name (by decide +kernel) | decide +kernel) ?_
  intro p_ e_ s_ m_ below_ meth_ c_ K
  refine own_cast (own_sx7_ef m_ _ _) ?_
  refine own_aloadN K own_d36_0 rfl rfl ?_
  refine own_initO K own_d36_1 (own_w15 hw) (own_w16 hw) (own_w17 hw) rfl (by decide) (W := 0) (Nat.le_of_eq rfl) (by decide) ?_
  refine own_aloadN K own_d36_4 rfl rfl ?_
  have H1 := H.frontO 1 rfl
  refine own_virtual K own_d36_5 (own_w165 hw) (own_w166 hw) (own_w168 hw) (own_w167 hw) (own_w75 hw) (own_w169 hw) (H.atO (i := 1) rfl) (a := b) (argsL := []) (rest := []) (own_gv hw H1) own_pd23 rfl rfl rfl (by decide) (W := 0) (Nat.le_of_eq rfl) (by decide) (by decide) (by decide) (by decide) ?_
  intro v4 h2 q3
  obtain ⟨rfl, rfl⟩ := q3
  refine own_astoreN K own_d36_8 rfl (Ls' := #[.val (.ref a), .val (.ref b), .val .null, .val (.ref y), .unset]) rfl ?_
  refine own_aloadN K own_d36_9 rfl rfl ?_
  have H5 := H.frontO 1 rfl
  refine own_virtualZ K own_d36_10 (own_w170 hw) (own_w171 hw) (own_w173 hw) (own_w174 hw) (own_w67 hw) (own_w175 hw) (H.atO (i := 1) rfl) (own_nf K (own_w108 hw) rfl) (a := b) (argsL := []) (rest := []) (own_sln hw H5) own_pd15 rfl rfl rfl (by decide) (W := 0) (Nat.le_of_eq rfl) (by decide) (by decide) (by decide) (by decide) ?_
  intro v8 h6 q7
  obtain ⟨rfl, rfl⟩ := q7
  refine own_istore K own_d36_13 (Ls' := #[.val (.ref a), .val (.ref b), .val .null, .val (.ref y), .val (.int (7 : Int32))]) rfl ?_
  refine own_aloadN K own_d36_15 rfl rfl ?_
  have H9 := H.frontO 1 rfl
  refine own_virtual K own_d36_16 (own_w178 hw) (own_w145 hw) (own_w147 hw) (own_w146 hw) (own_w75 hw) (own_w148 hw) (H.atO (i := 1) rfl) (a := b) (argsL := []) (rest := []) (own_il hw hC H9) own_pd6 rfl rfl rfl (by decide) (W := 0) (Nat.le_of_eq rfl) (by decide) (by decide) (by decide) (by decide) ?_
  intro v12 h10 q11
  obtain ⟨rfl, rfl⟩ := q11
  refine own_ifeq K own_d36_19 (fun q => absurd q (by decide)) (fun _ => ?_)
  refine own_aloadN K own_d36_22 rfl rfl ?_
  refine own_iconst K own_d36_23 (v := (0 : Int32)) rfl ?_
  refine own_putfield K own_d36_24 (host := "") (Or.inl (own_w30 hw)) Via.refl H (j := 0) rfl (q := 1) rfl (Or.inr ⟨(own_w31 hw), rfl, rfl⟩) (own_w5 hw) (ty := .byte) (by decide +kernel) (rfl) (rfl) ?_
  intro h13 H14
  replace H14 : own_H Z h13 (own_ST a .null (.int (0 : Int32)) :: own_SB b (.ref y) (.int (0 : Int32)) (.int (7 : Int32)) :: os) ((y, .byte, "[B", vs) :: as) := H14
  refine own_aloadN K own_d36_27 rfl rfl ?_
  refine own_aloadN K own_d36_28 rfl rfl ?_
  refine own_iconst K own_d36_29 (v := (0 : Int32)) rfl ?_
  refine own_iload K own_d36_30 rfl ?_
  refine own_static K own_d36_32 (own_w179 hw) (own_w180 hw) (own_w181 hw) (own_w182 hw) (argsL := [(.ref y), (.int (0 : Int32)), (.int (7 : Int32))]) (rest := [(.ref a)]) (own_cr7 hw hv H14) own_pd22 rfl rfl rfl (by decide) (W := 1) (Nat.le_of_eq rfl) (by decide) (by decide) (by decide) (by decide) ?_
  intro v17 h15 q16
  obtain ⟨z19, rfl, H18⟩ := q16
  replace H18 : own_H Z h15 (own_ST a .null (.int (0 : Int32)) :: own_SB b (.ref y) (.int (0 : Int32)) (.int (7 : Int32)) :: os) ((z19, .byte, "[B", (vs.take 7)) :: (y, .byte, "[B", vs) :: as) := H18
  refine own_putfield K own_d36_35 (host := "") (Or.inl (own_w32 hw)) Via.refl H18 (j := 0) rfl (q := 0) rfl (Or.inr ⟨(own_w33 hw), rfl, rfl⟩) (own_w5 hw) (ty := (.array .byte)) (by decide +kernel) (rfl) (rfl) ?_
  intro h20 H21
  replace H21 : own_H Z h20 (own_ST a (.ref z19) (.int (0 : Int32)) :: own_SB b (.ref y) (.int (0 : Int32)) (.int (7 : Int32)) :: os) ((z19, .byte, "[B", (vs.take 7)) :: (y, .byte, "[B", vs) :: as) := H21
  refine own_goto K own_d36_38 ?_
  exact own_retV K (fun _ q => q) own_d36_97 (by decide) (by decide) (⟨rfl, _, H21⟩)
set_option maxRecDepth 65536 in
set_option maxHeartbeats 40000000 in
theorem own_sy7_ef (m : MethodId) (x0 : Addr) (x1 : Addr) : entryFrame m #[(.ref x0), (.ref x1)] 2 = mkF m 0 #[.val (.ref x0), .val (.ref x1)] [] := by first | (simp [entryFrame, mkF, argsToLocals, Value.category]; done) | rfl
set_option maxRecDepth 65536 in
set_option maxHeartbeats 40000000 in
theorem own_sy7 {l : Launch} {Z : State} {a0 : Array Value} (hw : own_Z Z a0) {h : Heap} {os : List own_O} {as : List own_A} {a b y : Addr} {cs : Int32} {vs : List Value} (hC : cs ≠ 0 ∧ Sta Z Z.heap "java/lang/String" "COMPACT_STRINGS" "Z" (.int cs)) (hv : vs.length = 16) (H : own_H Z h (own_ST a .null (.int (0 : Int32)) :: own_SB b (.ref y) (.int (0 : Int32)) (.int (7 : Int32)) :: os) ((y, .byte, "[B", vs) :: as)) : own_Met none l Z (⟨"java/lang/String", "<init>", "(Ljava/lang/StringBuilder;)V"⟩ : MethodName) jdk_42_method_53_code 2 none [] ({ frames := 4, cells := 1, slots := 9, locals := 79 } : Room) #[(.ref a), (.ref b)] h (fun v h' => v = none ∧ ∃ z, own_H Z h' (own_ST a (.ref z) (.int (0 : Int32)) :: own_SB b (.ref y) (.int (0 : Int32)) (.int (7 : Int32)) :: os) ((z, .byte, "[B", vs.take 7) :: (y, .byte, "[B", vs) :: as)) := by
  refine own_met (by first | exact plainFor_of_name (by decide +kernel) | decide +kernel) ?_
  intro p_ e_ s_ m_ below_ meth_ c_ K
  refine own_cast (own_sy7_ef m_ _ _) ?_
  refine own_aloadN K own_d37_0 rfl rfl ?_
  refine own_aloadN K own_d37_1 rfl rfl ?_
  refine own_aconstNull K own_d37_2 ?_
  refine own_special K own_d37_3 rfl (own_w162 hw) (own_w163 hw) (own_w6 hw) (own_w164 hw) (a := a) (argsL := [(.ref b), .null]) (rest := []) (own_sx7 hw hC hv H) own_pd24 rfl rfl rfl (by decide) (W := 0) (Nat.le_of_eq rfl) (by decide) (by decide) (by decide) (by decide) ?_
  intro v3 h1 q2
  obtain ⟨rfl, z5, H4⟩ := q2
  replace H4 : own_H Z h1 (own_ST a (.ref z5) (.int (0 : Int32)) :: own_SB b (.ref y) (.int (0 : Int32)) (.int (7 : Int32)) :: os) ((z5, .byte, "[B", (vs.take 7)) :: (y, .byte, "[B", vs) :: as) := H4
  exact own_retV K (fun _ q => q) own_d37_6 (by decide) (by decide) (⟨rfl, _, H4⟩)
set_option maxRecDepth 65536 in
set_option maxHeartbeats 40000000 in
theorem own_ts7_ef (m : MethodId) (x0 : Addr) : entryFrame m #[(.ref x0)] 1 = mkF m 0 #[.val (.ref x0)] [] := by first | (simp [entryFrame, mkF, argsToLocals, Value.category]; done) | rfl
set_option maxRecDepth 65536 in
set_option maxHeartbeats 40000000 in
theorem own_ts7 {l : Launch} {Z : State} {a0 : Array Value} (hw : own_Z Z a0) {h : Heap} {os : List own_O} {as : List own_A} {b y : Addr} {cs : Int32} {vs : List Value} (hC : cs ≠ 0 ∧ Sta Z Z.heap "java/lang/String" "COMPACT_STRINGS" "Z" (.int cs)) (hv : vs.length = 16) (H : own_H Z h (own_SB b (.ref y) (.int (0 : Int32)) (.int (7 : Int32)) :: os) ((y, .byte, "[B", vs) :: as)) : own_Met none l Z (⟨"java/lang/StringBuilder", "toString", "()Ljava/lang/String;"⟩ : MethodName) jdk_67_method_42_code 1 (some (.object "java/lang/String")) [] ({ frames := 5, cells := 2, slots := 13, locals := 93 } : Room) #[(.ref b)] h (fun v h' => ∃ a z, v = some (.ref a) ∧ own_H Z h' (own_ST a (.ref z) (.int (0 : Int32)) :: own_SB b (.ref y) (.int (0 : Int32)) (.int (7 : Int32)) :: os) ((z, .byte, "[B", vs.take 7) :: (y, .byte, "[B", vs) :: as)) := by
  refine own_met (by first | exact plainFor_of_name (by decide +kernel) | decide +kernel) ?_
  intro p_ e_ s_ m_ below_ meth_ c_ K
  refine own_cast (own_ts7_ef m_ _) ?_
  refine own_new K own_d38_0 (own_w158 hw) (own_w5 hw) (own_w6 hw) H (own_ST_F hw) (own_ST_P hw) (by decide) (by decide) ?_
  intro h1 a3 H2
  replace H2 : own_H Z h1 (own_ST a3 .null (.int (0 : Int32)) :: own_SB b (.ref y) (.int (0 : Int32)) (.int (7 : Int32)) :: os) ((y, .byte, "[B", vs) :: as) := H2
  refine own_dup K own_d38_3 rfl ?_
  refine own_aloadN K own_d38_4 rfl rfl ?_
  refine own_special K own_d38_5 rfl (own_w159 hw) (own_w160 hw) (own_w6 hw) (own_w161 hw) (a := a3) (argsL := [(.ref b)]) (rest := [(.ref a3)]) (own_sy7 hw hC hv H2) own_pd25 rfl rfl rfl (by decide) (W := 1) (Nat.le_of_eq rfl) (by decide) (by decide) (by decide) (by decide) ?_
  intro v6 h4 q5
  obtain ⟨rfl, z8, H7⟩ := q5
  replace H7 : own_H Z h4 (own_ST a3 (.ref z8) (.int (0 : Int32)) :: own_SB b (.ref y) (.int (0 : Int32)) (.int (7 : Int32)) :: os) ((z8, .byte, "[B", (vs.take 7)) :: (y, .byte, "[B", vs) :: as) := H7
  exact own_retA K (fun _ q => q) rfl rfl own_d38_8 (by decide) (by decide) (⟨_, _, rfl, H7⟩)
set_option maxRecDepth 65536 in
set_option maxHeartbeats 40000000 in
theorem own_cl8_ef (m : MethodId) (x0 : Int32) (x1 : Int32) : entryFrame m #[(.int x0), (.int x1)] 2 = mkF m 0 #[.val (.int x0), .val (.int x1)] [] := by first | (simp [entryFrame, mkF, argsToLocals, Value.category]; done) | rfl
set_option maxRecDepth 65536 in
set_option maxHeartbeats 40000000 in
theorem own_cl8 {l : Launch} {Z : State} {a0 : Array Value} (hw : own_Z Z a0) {h : Heap} : own_Met none l Z (⟨"java/util/Arrays", "checkLength", "(II)V"⟩ : MethodName) jdk_65_method_131_code 2 none [] ({ frames := 0, cells := 0, slots := 0, locals := 0 } : Room) #[(.int (0 : Int32)), (.int (8 : Int32))] h (fun v h' => v = none ∧ h = h') := by
  refine own_met (by first | exact plainFor_of_name (by decide +kernel) | decide +kernel) ?_
  intro p_ e_ s_ m_ below_ meth_ c_ K
  refine own_cast (own_cl8_ef m_ _ _) ?_
  refine own_iloadN K own_d32_0 rfl ?_
  refine own_iloadN K own_d32_1 rfl ?_
  refine own_icmpge K own_d32_2 (fun _ => ?_) (fun q => absurd (by decide) q)
  exact own_retV K (fun _ q => q) own_d32_37 (by decide) (by decide) (⟨rfl, rfl⟩)
set_option maxRecDepth 65536 in
set_option maxHeartbeats 40000000 in
theorem own_mi8_ef (m : MethodId) (x0 : Int32) (x1 : Int32) : entryFrame m #[(.int x0), (.int x1)] 2 = mkF m 0 #[.val (.int x0), .val (.int x1)] [] := by first | (simp [entryFrame, mkF, argsToLocals, Value.category]; done) | rfl
set_option maxRecDepth 65536 in
set_option maxHeartbeats 40000000 in
theorem own_mi8 {l : Launch} {Z : State} {a0 : Array Value} (hw : own_Z Z a0) {h : Heap} : own_Met none l Z (⟨"java/lang/Math", "min", "(II)I"⟩ : MethodName) jdk_29_method_69_code 2 (some .int) [] ({ frames := 0, cells := 0, slots := 0, locals := 0 } : Room) #[(.int (16 : Int32)), (.int (8 : Int32))] h (fun v h' => v = some (.int (8 : Int32)) ∧ h = h') := by
  refine own_met (by first | exact plainFor_of_name (by decide +kernel) | decide +kernel) ?_
  intro p_ e_ s_ m_ below_ meth_ c_ K
  refine own_cast (own_mi8_ef m_ _ _) ?_
  refine own_iloadN K own_d33_0 rfl ?_
  refine own_iloadN K own_d33_1 rfl ?_
  refine own_icmpgt K own_d33_2 (fun _ => ?_) (fun q => absurd (by decide) q)
  refine own_iloadN K own_d33_9 rfl ?_
  exact own_retI K (fun _ q => q) own_d33_10 (by decide) (by decide) (⟨rfl, rfl⟩)
set_option maxRecDepth 65536 in
set_option maxHeartbeats 40000000 in
theorem own_crb8_ef (m : MethodId) (x0 : Addr) (x1 : Int32) (x2 : Int32) : entryFrame m #[(.ref x0), (.int x1), (.int x2)] 5 = mkF m 0 #[.val (.ref x0), .val (.int x1), .val (.int x2), .unset, .unset] [] := by first | (simp [entryFrame, mkF, argsToLocals, Value.category]; done) | rfl
set_option maxRecDepth 65536 in
set_option maxHeartbeats 40000000 in
theorem own_crb8 {l : Launch} {Z : State} {a0 : Array Value} (hw : own_Z Z a0) {h : Heap} {os : List own_O} {as : List own_A} {y : Addr} {vs : List Value} (hv : vs.length = 16) (H : own_H Z h os ((y, .byte, "[B", vs) :: as)) : own_Met none l Z (⟨"java/util/Arrays", "copyOfRangeByte", "([BII)[B"⟩ : MethodName) jdk_65_method_133_code 5 (some (.array .byte)) [] ({ frames := 1, cells := 1, slots := 9, locals := 30 } : Room) #[(.ref y), (.int (0 : Int32)), (.int (8 : Int32))] h (fun v h' => ∃ z, v = some (.ref z) ∧ own_H Z h' os ((z, .byte, "[B", vs.take 8) :: (y, .byte, "[B", vs) :: as)) := by
  refine own_met (by first | exact plainFor_of_name (by decide +kernel) | decide +kernel) ?_
  intro p_ e_ s_ m_ below_ meth_ c_ K
  refine own_cast (own_crb8_ef m_ _ _ _) ?_
  refine own_iloadN K own_d34_0 rfl ?_
  refine own_iloadN K own_d34_1 rfl ?_
  refine own_static K own_d34_2 (own_w186 hw) (own_w187 hw) (own_w181 hw) (own_w188 hw) (argsL := [(.int (0 : Int32)), (.int (8 : Int32))]) (rest := []) (own_cl8 hw) own_pd5 rfl rfl rfl (by decide) (W := 0) (Nat.le_of_eq rfl) (by decide) (by decide) (by decide) (by decide) ?_
  intro v3 h1 q2
  obtain ⟨rfl, rfl⟩ := q2
  refine own_iloadN K own_d34_5 rfl ?_
  refine own_iloadN K own_d34_6 rfl ?_
  refine own_isub K own_d34_7 ?_
  refine own_topI (x' := (8 : Int32)) (by decide) ?_
  refine own_istoreN K own_d34_8 (Ls' := #[.val (.ref y), .val (.int (0 : Int32)), .val (.int (8 : Int32)), .val (.int (8 : Int32)), .unset]) rfl ?_
  refine own_iloadN K own_d34_9 rfl ?_
  refine own_newarray K own_d34_10 (ty := .byte) rfl (own_w23 hw) H (q := 8) (by decide) (ad := "[B") (by decide +kernel) (vs := [(.int (0 : Int32)), (.int (0 : Int32)), (.int (0 : Int32)), (.int (0 : Int32)), (.int (0 : Int32)), (.int (0 : Int32)), (.int (0 : Int32)), (.int (0 : Int32))]) rfl (by decide) (by decide) (by decide) ?_
  intro h4 a6 H5
  replace H5 : own_H Z h4 (os) ((a6, .byte, "[B", [(.int (0 : Int32)), (.int (0 : Int32)), (.int (0 : Int32)), (.int (0 : Int32)), (.int (0 : Int32)), (.int (0 : Int32)), (.int (0 : Int32)), (.int (0 : Int32))]) :: (y, .byte, "[B", vs) :: as) := H5
  refine own_astore K own_d34_12 rfl (Ls' := #[.val (.ref y), .val (.int (0 : Int32)), .val (.int (8 : Int32)), .val (.int (8 : Int32)), .val (.ref a6)]) rfl ?_
  refine own_aloadN K own_d34_14 rfl rfl ?_
  refine own_iloadN K own_d34_15 rfl ?_
  refine own_aload K own_d34_16 rfl rfl ?_
  refine own_iconst K own_d34_18 (v := (0 : Int32)) rfl ?_
  refine own_aloadN K own_d34_19 rfl rfl ?_
  refine own_arraylength K own_d34_20 H5 (i := 1) rfl (N := (16 : Int32)) (by rw [hv]; rfl) ?_
  refine own_iloadN K own_d34_21 rfl ?_
  refine own_isub K own_d34_22 ?_
  refine own_topI (x' := (16 : Int32)) (by decide) ?_
  refine own_iloadN K own_d34_23 rfl ?_
  refine own_static K own_d34_24 (own_w189 hw) (own_w190 hw) (own_w191 hw) (own_w192 hw) (argsL := [(.int (16 : Int32)), (.int (8 : Int32))]) (rest := [(.int (0 : Int32)), (.ref a6), (.int (0 : Int32)), (.ref y)]) (own_mi8 hw) own_pd21 rfl rfl rfl (by decide) (W := 4) (Nat.le_of_eq rfl) (by decide) (by decide) (by decide) (by decide) ?_
  intro v9 h7 q8
  obtain ⟨rfl, rfl⟩ := q8
  refine own_arraycopy K own_d34_27 (own_w193 hw) (own_w129 hw) (own_w127 hw) (own_w128 hw) H5 (ia := 1) rfl (ib := 0) rfl rfl (by intro C q; cases q) (sq := 0) (by decide) (dq := 0) (by decide) (nq := 8) (by decide) (by rw [hv]; decide) (own_le rfl) (by rw [hv]; decide) (own_le rfl) rfl (by decide) (W := 0) (Nat.le_of_eq rfl) (by decide) ?_
  intro h10 H11
  rw [show ([.int (0 : Int32), .int (0 : Int32), .int (0 : Int32), .int (0 : Int32), .int (0 : Int32), .int (0 : Int32), .int (0 : Int32), .int (0 : Int32)] : List Value).take 0 ++ (vs.drop 0).take 8 ++ ([.int (0 : Int32), .int (0 : Int32), .int (0 : Int32), .int (0 : Int32), .int (0 : Int32), .int (0 : Int32), .int (0 : Int32), .int (0 : Int32)] : List Value).drop (0 + 8) = vs.take 8 from own_cpz rfl] at H11
  replace H11 : own_H Z h10 (os) ((a6, .byte, "[B", (vs.take 8)) :: (y, .byte, "[B", vs) :: as) := H11
  refine own_aload K own_d34_30 rfl rfl ?_
  exact own_retA K (fun _ q => q) rfl rfl own_d34_32 (by decide) (by decide) (⟨_, rfl, H11⟩)
set_option maxRecDepth 65536 in
set_option maxHeartbeats 40000000 in
theorem own_cr8_ef (m : MethodId) (x0 : Addr) (x1 : Int32) (x2 : Int32) : entryFrame m #[(.ref x0), (.int x1), (.int x2)] 3 = mkF m 0 #[.val (.ref x0), .val (.int x1), .val (.int x2)] [] := by first | (simp [entryFrame, mkF, argsToLocals, Value.category]; done) | rfl
set_option maxRecDepth 65536 in
set_option maxHeartbeats 40000000 in
theorem own_cr8 {l : Launch} {Z : State} {a0 : Array Value} (hw : own_Z Z a0) {h : Heap} {os : List own_O} {as : List own_A} {y : Addr} {vs : List Value} (hv : vs.length = 16) (H : own_H Z h os ((y, .byte, "[B", vs) :: as)) : own_Met none l Z (⟨"java/util/Arrays", "copyOfRange", "([BII)[B"⟩ : MethodName) jdk_65_method_132_code 3 (some (.array .byte)) [] ({ frames := 2, cells := 1, slots := 9, locals := 46 } : Room) #[(.ref y), (.int (0 : Int32)), (.int (8 : Int32))] h (fun v h' => ∃ z, v = some (.ref z) ∧ own_H Z h' os ((z, .byte, "[B", vs.take 8) :: (y, .byte, "[B", vs) :: as)) := by
  refine own_met (by first | exact plainFor_of_name (by decide +kernel) | decide +kernel) ?_
  intro p_ e_ s_ m_ below_ meth_ c_ K
  refine own_cast (own_cr8_ef m_ _ _ _) ?_
  refine own_iloadN K own_d35_0 rfl ?_
  refine own_ifne K own_d35_1 (fun q => absurd q (by decide)) (fun _ => ?_)
  refine own_iloadN K own_d35_4 rfl ?_
  refine own_aloadN K own_d35_5 rfl rfl ?_
  refine own_arraylength K own_d35_6 H (i := 0) rfl (N := (16 : Int32)) (by rw [hv]; rfl) ?_
  refine own_icmpeq K own_d35_7 (fun q => absurd q (by decide)) (fun _ => ?_)
  refine own_aloadN K own_d35_10 rfl rfl ?_
  refine own_iloadN K own_d35_11 rfl ?_
  refine own_iloadN K own_d35_12 rfl ?_
  refine own_static K own_d35_13 (own_w183 hw) (own_w184 hw) (own_w181 hw) (own_w185 hw) (argsL := [(.ref y), (.int (0 : Int32)), (.int (8 : Int32))]) (rest := []) (own_crb8 hw hv H) own_pd22 rfl rfl rfl (by decide) (W := 0) (Nat.le_of_eq rfl) (by decide) (by decide) (by decide) (by decide) ?_
  intro v3 h1 q2
  obtain ⟨z5, rfl, H4⟩ := q2
  replace H4 : own_H Z h1 (os) ((z5, .byte, "[B", (vs.take 8)) :: (y, .byte, "[B", vs) :: as) := H4
  exact own_retA K (fun _ q => q) rfl rfl own_d35_16 (by decide) (by decide) (⟨_, rfl, H4⟩)
set_option maxRecDepth 65536 in
set_option maxHeartbeats 40000000 in
theorem own_sx8_ef (m : MethodId) (x0 : Addr) (x1 : Addr) : entryFrame m #[(.ref x0), (.ref x1), .null] 5 = mkF m 0 #[.val (.ref x0), .val (.ref x1), .val .null, .unset, .unset] [] := by first | (simp [entryFrame, mkF, argsToLocals, Value.category]; done) | rfl
set_option maxRecDepth 65536 in
set_option maxHeartbeats 40000000 in
theorem own_sx8 {l : Launch} {Z : State} {a0 : Array Value} (hw : own_Z Z a0) {h : Heap} {os : List own_O} {as : List own_A} {a b y : Addr} {cs : Int32} {vs : List Value} (hC : cs ≠ 0 ∧ Sta Z Z.heap "java/lang/String" "COMPACT_STRINGS" "Z" (.int cs)) (hv : vs.length = 16) (H : own_H Z h (own_ST a .null (.int (0 : Int32)) :: own_SB b (.ref y) (.int (0 : Int32)) (.int (8 : Int32)) :: os) ((y, .byte, "[B", vs) :: as)) : own_Met none l Z (⟨"java/lang/String", "<init>", "(Ljava/lang/AbstractStringBuilder;Ljava/lang/Void;)V"⟩ : MethodName) jdk_42_method_150_code 5 none [] ({ frames := 3, cells := 1, slots := 9, locals := 62 } : Room) #[(.ref a), (.ref b), .null] h (fun v h' => v = none ∧ ∃ z, own_H Z h' (own_ST a (.ref z) (.int (0 : Int32)) :: own_SB b (.ref y) (.int (0 : Int32)) (.int (8 : Int32)) :: os) ((z, .byte, "[B", vs.take 8) :: (y, .byte, "[B", vs) :: as)) := by
  refine own_met (by first | exact plainFor_of_name (by decide +kernel) | decide +kernel) ?_
  intro p_ e_ s_ m_ below_ meth_ c_ K
  refine own_cast (own_sx8_ef m_ _ _) ?_
  refine own_aloadN K own_d36_0 rfl rfl ?_
  refine own_initO K own_d36_1 (own_w15 hw) (own_w16 hw) (own_w17 hw) rfl (by decide) (W := 0) (Nat.le_of_eq rfl) (by decide) ?_
  refine own_aloadN K own_d36_4 rfl rfl ?_
  have H1 := H.frontO 1 rfl
  refine own_virtual K own_d36_5 (own_w165 hw) (own_w166 hw) (own_w168 hw) (own_w167 hw) (own_w75 hw) (own_w169 hw) (H.atO (i := 1) rfl) (a := b) (argsL := []) (rest := []) (own_gv hw H1) own_pd23 rfl rfl rfl (by decide) (W := 0) (Nat.le_of_eq rfl) (by decide) (by decide) (by decide) (by decide) ?_
  intro v4 h2 q3
  obtain ⟨rfl, rfl⟩ := q3
  refine own_astoreN K own_d36_8 rfl (Ls' := #[.val (.ref a), .val (.ref b), .val .null, .val (.ref y), .unset]) rfl ?_
  refine own_aloadN K own_d36_9 rfl rfl ?_
  have H5 := H.frontO 1 rfl
  refine own_virtualZ K own_d36_10 (own_w170 hw) (own_w171 hw) (own_w173 hw) (own_w174 hw) (own_w67 hw) (own_w175 hw) (H.atO (i := 1) rfl) (own_nf K (own_w108 hw) rfl) (a := b) (argsL := []) (rest := []) (own_sln hw H5) own_pd15 rfl rfl rfl (by decide) (W := 0) (Nat.le_of_eq rfl) (by decide) (by decide) (by decide) (by decide) ?_
  intro v8 h6 q7
  obtain ⟨rfl, rfl⟩ := q7
  refine own_istore K own_d36_13 (Ls' := #[.val (.ref a), .val (.ref b), .val .null, .val (.ref y), .val (.int (8 : Int32))]) rfl ?_
  refine own_aloadN K own_d36_15 rfl rfl ?_
  have H9 := H.frontO 1 rfl
  refine own_virtual K own_d36_16 (own_w178 hw) (own_w145 hw) (own_w147 hw) (own_w146 hw) (own_w75 hw) (own_w148 hw) (H.atO (i := 1) rfl) (a := b) (argsL := []) (rest := []) (own_il hw hC H9) own_pd6 rfl rfl rfl (by decide) (W := 0) (Nat.le_of_eq rfl) (by decide) (by decide) (by decide) (by decide) ?_
  intro v12 h10 q11
  obtain ⟨rfl, rfl⟩ := q11
  refine own_ifeq K own_d36_19 (fun q => absurd q (by decide)) (fun _ => ?_)
  refine own_aloadN K own_d36_22 rfl rfl ?_
  refine own_iconst K own_d36_23 (v := (0 : Int32)) rfl ?_
  refine own_putfield K own_d36_24 (host := "") (Or.inl (own_w30 hw)) Via.refl H (j := 0) rfl (q := 1) rfl (Or.inr ⟨(own_w31 hw), rfl, rfl⟩) (own_w5 hw) (ty := .byte) (by decide +kernel) (rfl) (rfl) ?_
  intro h13 H14
  replace H14 : own_H Z h13 (own_ST a .null (.int (0 : Int32)) :: own_SB b (.ref y) (.int (0 : Int32)) (.int (8 : Int32)) :: os) ((y, .byte, "[B", vs) :: as) := H14
  refine own_aloadN K own_d36_27 rfl rfl ?_
  refine own_aloadN K own_d36_28 rfl rfl ?_
  refine own_iconst K own_d36_29 (v := (0 : Int32)) rfl ?_
  refine own_iload K own_d36_30 rfl ?_
  refine own_static K own_d36_32 (own_w179 hw) (own_w180 hw) (own_w181 hw) (own_w182 hw) (argsL := [(.ref y), (.int (0 : Int32)), (.int (8 : Int32))]) (rest := [(.ref a)]) (own_cr8 hw hv H14) own_pd22 rfl rfl rfl (by decide) (W := 1) (Nat.le_of_eq rfl) (by decide) (by decide) (by decide) (by decide) ?_
  intro v17 h15 q16
  obtain ⟨z19, rfl, H18⟩ := q16
  replace H18 : own_H Z h15 (own_ST a .null (.int (0 : Int32)) :: own_SB b (.ref y) (.int (0 : Int32)) (.int (8 : Int32)) :: os) ((z19, .byte, "[B", (vs.take 8)) :: (y, .byte, "[B", vs) :: as) := H18
  refine own_putfield K own_d36_35 (host := "") (Or.inl (own_w32 hw)) Via.refl H18 (j := 0) rfl (q := 0) rfl (Or.inr ⟨(own_w33 hw), rfl, rfl⟩) (own_w5 hw) (ty := (.array .byte)) (by decide +kernel) (rfl) (rfl) ?_
  intro h20 H21
  replace H21 : own_H Z h20 (own_ST a (.ref z19) (.int (0 : Int32)) :: own_SB b (.ref y) (.int (0 : Int32)) (.int (8 : Int32)) :: os) ((z19, .byte, "[B", (vs.take 8)) :: (y, .byte, "[B", vs) :: as) := H21
  refine own_goto K own_d36_38 ?_
  exact own_retV K (fun _ q => q) own_d36_97 (by decide) (by decide) (⟨rfl, _, H21⟩)
set_option maxRecDepth 65536 in
set_option maxHeartbeats 40000000 in
theorem own_sy8_ef (m : MethodId) (x0 : Addr) (x1 : Addr) : entryFrame m #[(.ref x0), (.ref x1)] 2 = mkF m 0 #[.val (.ref x0), .val (.ref x1)] [] := by first | (simp [entryFrame, mkF, argsToLocals, Value.category]; done) | rfl
set_option maxRecDepth 65536 in
set_option maxHeartbeats 40000000 in
theorem own_sy8 {l : Launch} {Z : State} {a0 : Array Value} (hw : own_Z Z a0) {h : Heap} {os : List own_O} {as : List own_A} {a b y : Addr} {cs : Int32} {vs : List Value} (hC : cs ≠ 0 ∧ Sta Z Z.heap "java/lang/String" "COMPACT_STRINGS" "Z" (.int cs)) (hv : vs.length = 16) (H : own_H Z h (own_ST a .null (.int (0 : Int32)) :: own_SB b (.ref y) (.int (0 : Int32)) (.int (8 : Int32)) :: os) ((y, .byte, "[B", vs) :: as)) : own_Met none l Z (⟨"java/lang/String", "<init>", "(Ljava/lang/StringBuilder;)V"⟩ : MethodName) jdk_42_method_53_code 2 none [] ({ frames := 4, cells := 1, slots := 9, locals := 79 } : Room) #[(.ref a), (.ref b)] h (fun v h' => v = none ∧ ∃ z, own_H Z h' (own_ST a (.ref z) (.int (0 : Int32)) :: own_SB b (.ref y) (.int (0 : Int32)) (.int (8 : Int32)) :: os) ((z, .byte, "[B", vs.take 8) :: (y, .byte, "[B", vs) :: as)) := by
  refine own_met (by first | exact plainFor_of_name (by decide +kernel) | decide +kernel) ?_
  intro p_ e_ s_ m_ below_ meth_ c_ K
  refine own_cast (own_sy8_ef m_ _ _) ?_
  refine own_aloadN K own_d37_0 rfl rfl ?_
  refine own_aloadN K own_d37_1 rfl rfl ?_
  refine own_aconstNull K own_d37_2 ?_
  refine own_special K own_d37_3 rfl (own_w162 hw) (own_w163 hw) (own_w6 hw) (own_w164 hw) (a := a) (argsL := [(.ref b), .null]) (rest := []) (own_sx8 hw hC hv H) own_pd24 rfl rfl rfl (by decide) (W := 0) (Nat.le_of_eq rfl) (by decide) (by decide) (by decide) (by decide) ?_
  intro v3 h1 q2
  obtain ⟨rfl, z5, H4⟩ := q2
  replace H4 : own_H Z h1 (own_ST a (.ref z5) (.int (0 : Int32)) :: own_SB b (.ref y) (.int (0 : Int32)) (.int (8 : Int32)) :: os) ((z5, .byte, "[B", (vs.take 8)) :: (y, .byte, "[B", vs) :: as) := H4
  exact own_retV K (fun _ q => q) own_d37_6 (by decide) (by decide) (⟨rfl, _, H4⟩)
set_option maxRecDepth 65536 in
set_option maxHeartbeats 40000000 in
theorem own_ts8_ef (m : MethodId) (x0 : Addr) : entryFrame m #[(.ref x0)] 1 = mkF m 0 #[.val (.ref x0)] [] := by first | (simp [entryFrame, mkF, argsToLocals, Value.category]; done) | rfl
set_option maxRecDepth 65536 in
set_option maxHeartbeats 40000000 in
theorem own_ts8 {l : Launch} {Z : State} {a0 : Array Value} (hw : own_Z Z a0) {h : Heap} {os : List own_O} {as : List own_A} {b y : Addr} {cs : Int32} {vs : List Value} (hC : cs ≠ 0 ∧ Sta Z Z.heap "java/lang/String" "COMPACT_STRINGS" "Z" (.int cs)) (hv : vs.length = 16) (H : own_H Z h (own_SB b (.ref y) (.int (0 : Int32)) (.int (8 : Int32)) :: os) ((y, .byte, "[B", vs) :: as)) : own_Met none l Z (⟨"java/lang/StringBuilder", "toString", "()Ljava/lang/String;"⟩ : MethodName) jdk_67_method_42_code 1 (some (.object "java/lang/String")) [] ({ frames := 5, cells := 2, slots := 13, locals := 93 } : Room) #[(.ref b)] h (fun v h' => ∃ a z, v = some (.ref a) ∧ own_H Z h' (own_ST a (.ref z) (.int (0 : Int32)) :: own_SB b (.ref y) (.int (0 : Int32)) (.int (8 : Int32)) :: os) ((z, .byte, "[B", vs.take 8) :: (y, .byte, "[B", vs) :: as)) := by
  refine own_met (by first | exact plainFor_of_name (by decide +kernel) | decide +kernel) ?_
  intro p_ e_ s_ m_ below_ meth_ c_ K
  refine own_cast (own_ts8_ef m_ _) ?_
  refine own_new K own_d38_0 (own_w158 hw) (own_w5 hw) (own_w6 hw) H (own_ST_F hw) (own_ST_P hw) (by decide) (by decide) ?_
  intro h1 a3 H2
  replace H2 : own_H Z h1 (own_ST a3 .null (.int (0 : Int32)) :: own_SB b (.ref y) (.int (0 : Int32)) (.int (8 : Int32)) :: os) ((y, .byte, "[B", vs) :: as) := H2
  refine own_dup K own_d38_3 rfl ?_
  refine own_aloadN K own_d38_4 rfl rfl ?_
  refine own_special K own_d38_5 rfl (own_w159 hw) (own_w160 hw) (own_w6 hw) (own_w161 hw) (a := a3) (argsL := [(.ref b)]) (rest := [(.ref a3)]) (own_sy8 hw hC hv H2) own_pd25 rfl rfl rfl (by decide) (W := 1) (Nat.le_of_eq rfl) (by decide) (by decide) (by decide) (by decide) ?_
  intro v6 h4 q5
  obtain ⟨rfl, z8, H7⟩ := q5
  replace H7 : own_H Z h4 (own_ST a3 (.ref z8) (.int (0 : Int32)) :: own_SB b (.ref y) (.int (0 : Int32)) (.int (8 : Int32)) :: os) ((z8, .byte, "[B", (vs.take 8)) :: (y, .byte, "[B", vs) :: as) := H7
  exact own_retA K (fun _ q => q) rfl rfl own_d38_8 (by decide) (by decide) (⟨_, _, rfl, H7⟩)
set_option maxRecDepth 65536 in
set_option maxHeartbeats 40000000 in
theorem own_cl9_ef (m : MethodId) (x0 : Int32) (x1 : Int32) : entryFrame m #[(.int x0), (.int x1)] 2 = mkF m 0 #[.val (.int x0), .val (.int x1)] [] := by first | (simp [entryFrame, mkF, argsToLocals, Value.category]; done) | rfl
set_option maxRecDepth 65536 in
set_option maxHeartbeats 40000000 in
theorem own_cl9 {l : Launch} {Z : State} {a0 : Array Value} (hw : own_Z Z a0) {h : Heap} : own_Met none l Z (⟨"java/util/Arrays", "checkLength", "(II)V"⟩ : MethodName) jdk_65_method_131_code 2 none [] ({ frames := 0, cells := 0, slots := 0, locals := 0 } : Room) #[(.int (0 : Int32)), (.int (9 : Int32))] h (fun v h' => v = none ∧ h = h') := by
  refine own_met (by first | exact plainFor_of_name (by decide +kernel) | decide +kernel) ?_
  intro p_ e_ s_ m_ below_ meth_ c_ K
  refine own_cast (own_cl9_ef m_ _ _) ?_
  refine own_iloadN K own_d32_0 rfl ?_
  refine own_iloadN K own_d32_1 rfl ?_
  refine own_icmpge K own_d32_2 (fun _ => ?_) (fun q => absurd (by decide) q)
  exact own_retV K (fun _ q => q) own_d32_37 (by decide) (by decide) (⟨rfl, rfl⟩)
set_option maxRecDepth 65536 in
set_option maxHeartbeats 40000000 in
theorem own_mi9_ef (m : MethodId) (x0 : Int32) (x1 : Int32) : entryFrame m #[(.int x0), (.int x1)] 2 = mkF m 0 #[.val (.int x0), .val (.int x1)] [] := by first | (simp [entryFrame, mkF, argsToLocals, Value.category]; done) | rfl
set_option maxRecDepth 65536 in
set_option maxHeartbeats 40000000 in
theorem own_mi9 {l : Launch} {Z : State} {a0 : Array Value} (hw : own_Z Z a0) {h : Heap} : own_Met none l Z (⟨"java/lang/Math", "min", "(II)I"⟩ : MethodName) jdk_29_method_69_code 2 (some .int) [] ({ frames := 0, cells := 0, slots := 0, locals := 0 } : Room) #[(.int (16 : Int32)), (.int (9 : Int32))] h (fun v h' => v = some (.int (9 : Int32)) ∧ h = h') := by
  refine own_met (by first | exact plainFor_of_name (by decide +kernel) | decide +kernel) ?_
  intro p_ e_ s_ m_ below_ meth_ c_ K
  refine own_cast (own_mi9_ef m_ _ _) ?_
  refine own_iloadN K own_d33_0 rfl ?_
  refine own_iloadN K own_d33_1 rfl ?_
  refine own_icmpgt K own_d33_2 (fun _ => ?_) (fun q => absurd (by decide) q)
  refine own_iloadN K own_d33_9 rfl ?_
  exact own_retI K (fun _ q => q) own_d33_10 (by decide) (by decide) (⟨rfl, rfl⟩)
set_option maxRecDepth 65536 in
set_option maxHeartbeats 40000000 in
theorem own_crb9_ef (m : MethodId) (x0 : Addr) (x1 : Int32) (x2 : Int32) : entryFrame m #[(.ref x0), (.int x1), (.int x2)] 5 = mkF m 0 #[.val (.ref x0), .val (.int x1), .val (.int x2), .unset, .unset] [] := by first | (simp [entryFrame, mkF, argsToLocals, Value.category]; done) | rfl
set_option maxRecDepth 65536 in
set_option maxHeartbeats 40000000 in
theorem own_crb9 {l : Launch} {Z : State} {a0 : Array Value} (hw : own_Z Z a0) {h : Heap} {os : List own_O} {as : List own_A} {y : Addr} {vs : List Value} (hv : vs.length = 16) (H : own_H Z h os ((y, .byte, "[B", vs) :: as)) : own_Met none l Z (⟨"java/util/Arrays", "copyOfRangeByte", "([BII)[B"⟩ : MethodName) jdk_65_method_133_code 5 (some (.array .byte)) [] ({ frames := 1, cells := 1, slots := 9, locals := 30 } : Room) #[(.ref y), (.int (0 : Int32)), (.int (9 : Int32))] h (fun v h' => ∃ z, v = some (.ref z) ∧ own_H Z h' os ((z, .byte, "[B", vs.take 9) :: (y, .byte, "[B", vs) :: as)) := by
  refine own_met (by first | exact plainFor_of_name (by decide +kernel) | decide +kernel) ?_
  intro p_ e_ s_ m_ below_ meth_ c_ K
  refine own_cast (own_crb9_ef m_ _ _ _) ?_
  refine own_iloadN K own_d34_0 rfl ?_
  refine own_iloadN K own_d34_1 rfl ?_
  refine own_static K own_d34_2 (own_w186 hw) (own_w187 hw) (own_w181 hw) (own_w188 hw) (argsL := [(.int (0 : Int32)), (.int (9 : Int32))]) (rest := []) (own_cl9 hw) own_pd5 rfl rfl rfl (by decide) (W := 0) (Nat.le_of_eq rfl) (by decide) (by decide) (by decide) (by decide) ?_
  intro v3 h1 q2
  obtain ⟨rfl, rfl⟩ := q2
  refine own_iloadN K own_d34_5 rfl ?_
  refine own_iloadN K own_d34_6 rfl ?_
  refine own_isub K own_d34_7 ?_
  refine own_topI (x' := (9 : Int32)) (by decide) ?_
  refine own_istoreN K own_d34_8 (Ls' := #[.val (.ref y), .val (.int (0 : Int32)), .val (.int (9 : Int32)), .val (.int (9 : Int32)), .unset]) rfl ?_
  refine own_iloadN K own_d34_9 rfl ?_
  refine own_newarray K own_d34_10 (ty := .byte) rfl (own_w23 hw) H (q := 9) (by decide) (ad := "[B") (by decide +kernel) (vs := [(.int (0 : Int32)), (.int (0 : Int32)), (.int (0 : Int32)), (.int (0 : Int32)), (.int (0 : Int32)), (.int (0 : Int32)), (.int (0 : Int32)), (.int (0 : Int32)), (.int (0 : Int32))]) rfl (by decide) (by decide) (by decide) ?_
  intro h4 a6 H5
  replace H5 : own_H Z h4 (os) ((a6, .byte, "[B", [(.int (0 : Int32)), (.int (0 : Int32)), (.int (0 : Int32)), (.int (0 : Int32)), (.int (0 : Int32)), (.int (0 : Int32)), (.int (0 : Int32)), (.int (0 : Int32)), (.int (0 : Int32))]) :: (y, .byte, "[B", vs) :: as) := H5
  refine own_astore K own_d34_12 rfl (Ls' := #[.val (.ref y), .val (.int (0 : Int32)), .val (.int (9 : Int32)), .val (.int (9 : Int32)), .val (.ref a6)]) rfl ?_
  refine own_aloadN K own_d34_14 rfl rfl ?_
  refine own_iloadN K own_d34_15 rfl ?_
  refine own_aload K own_d34_16 rfl rfl ?_
  refine own_iconst K own_d34_18 (v := (0 : Int32)) rfl ?_
  refine own_aloadN K own_d34_19 rfl rfl ?_
  refine own_arraylength K own_d34_20 H5 (i := 1) rfl (N := (16 : Int32)) (by rw [hv]; rfl) ?_
  refine own_iloadN K own_d34_21 rfl ?_
  refine own_isub K own_d34_22 ?_
  refine own_topI (x' := (16 : Int32)) (by decide) ?_
  refine own_iloadN K own_d34_23 rfl ?_
  refine own_static K own_d34_24 (own_w189 hw) (own_w190 hw) (own_w191 hw) (own_w192 hw) (argsL := [(.int (16 : Int32)), (.int (9 : Int32))]) (rest := [(.int (0 : Int32)), (.ref a6), (.int (0 : Int32)), (.ref y)]) (own_mi9 hw) own_pd21 rfl rfl rfl (by decide) (W := 4) (Nat.le_of_eq rfl) (by decide) (by decide) (by decide) (by decide) ?_
  intro v9 h7 q8
  obtain ⟨rfl, rfl⟩ := q8
  refine own_arraycopy K own_d34_27 (own_w193 hw) (own_w129 hw) (own_w127 hw) (own_w128 hw) H5 (ia := 1) rfl (ib := 0) rfl rfl (by intro C q; cases q) (sq := 0) (by decide) (dq := 0) (by decide) (nq := 9) (by decide) (by rw [hv]; decide) (own_le rfl) (by rw [hv]; decide) (own_le rfl) rfl (by decide) (W := 0) (Nat.le_of_eq rfl) (by decide) ?_
  intro h10 H11
  rw [show ([.int (0 : Int32), .int (0 : Int32), .int (0 : Int32), .int (0 : Int32), .int (0 : Int32), .int (0 : Int32), .int (0 : Int32), .int (0 : Int32), .int (0 : Int32)] : List Value).take 0 ++ (vs.drop 0).take 9 ++ ([.int (0 : Int32), .int (0 : Int32), .int (0 : Int32), .int (0 : Int32), .int (0 : Int32), .int (0 : Int32), .int (0 : Int32), .int (0 : Int32), .int (0 : Int32)] : List Value).drop (0 + 9) = vs.take 9 from own_cpz rfl] at H11
  replace H11 : own_H Z h10 (os) ((a6, .byte, "[B", (vs.take 9)) :: (y, .byte, "[B", vs) :: as) := H11
  refine own_aload K own_d34_30 rfl rfl ?_
  exact own_retA K (fun _ q => q) rfl rfl own_d34_32 (by decide) (by decide) (⟨_, rfl, H11⟩)
set_option maxRecDepth 65536 in
set_option maxHeartbeats 40000000 in
theorem own_cr9_ef (m : MethodId) (x0 : Addr) (x1 : Int32) (x2 : Int32) : entryFrame m #[(.ref x0), (.int x1), (.int x2)] 3 = mkF m 0 #[.val (.ref x0), .val (.int x1), .val (.int x2)] [] := by first | (simp [entryFrame, mkF, argsToLocals, Value.category]; done) | rfl
set_option maxRecDepth 65536 in
set_option maxHeartbeats 40000000 in
theorem own_cr9 {l : Launch} {Z : State} {a0 : Array Value} (hw : own_Z Z a0) {h : Heap} {os : List own_O} {as : List own_A} {y : Addr} {vs : List Value} (hv : vs.length = 16) (H : own_H Z h os ((y, .byte, "[B", vs) :: as)) : own_Met none l Z (⟨"java/util/Arrays", "copyOfRange", "([BII)[B"⟩ : MethodName) jdk_65_method_132_code 3 (some (.array .byte)) [] ({ frames := 2, cells := 1, slots := 9, locals := 46 } : Room) #[(.ref y), (.int (0 : Int32)), (.int (9 : Int32))] h (fun v h' => ∃ z, v = some (.ref z) ∧ own_H Z h' os ((z, .byte, "[B", vs.take 9) :: (y, .byte, "[B", vs) :: as)) := by
  refine own_met (by first | exact plainFor_of_name (by decide +kernel) | decide +kernel) ?_
  intro p_ e_ s_ m_ below_ meth_ c_ K
  refine own_cast (own_cr9_ef m_ _ _ _) ?_
  refine own_iloadN K own_d35_0 rfl ?_
  refine own_ifne K own_d35_1 (fun q => absurd q (by decide)) (fun _ => ?_)
  refine own_iloadN K own_d35_4 rfl ?_
  refine own_aloadN K own_d35_5 rfl rfl ?_
  refine own_arraylength K own_d35_6 H (i := 0) rfl (N := (16 : Int32)) (by rw [hv]; rfl) ?_
  refine own_icmpeq K own_d35_7 (fun q => absurd q (by decide)) (fun _ => ?_)
  refine own_aloadN K own_d35_10 rfl rfl ?_
  refine own_iloadN K own_d35_11 rfl ?_
  refine own_iloadN K own_d35_12 rfl ?_
  refine own_static K own_d35_13 (own_w183 hw) (own_w184 hw) (own_w181 hw) (own_w185 hw) (argsL := [(.ref y), (.int (0 : Int32)), (.int (9 : Int32))]) (rest := []) (own_crb9 hw hv H) own_pd22 rfl rfl rfl (by decide) (W := 0) (Nat.le_of_eq rfl) (by decide) (by decide) (by decide) (by decide) ?_
  intro v3 h1 q2
  obtain ⟨z5, rfl, H4⟩ := q2
  replace H4 : own_H Z h1 (os) ((z5, .byte, "[B", (vs.take 9)) :: (y, .byte, "[B", vs) :: as) := H4
  exact own_retA K (fun _ q => q) rfl rfl own_d35_16 (by decide) (by decide) (⟨_, rfl, H4⟩)
set_option maxRecDepth 65536 in
set_option maxHeartbeats 40000000 in
theorem own_sx9_ef (m : MethodId) (x0 : Addr) (x1 : Addr) : entryFrame m #[(.ref x0), (.ref x1), .null] 5 = mkF m 0 #[.val (.ref x0), .val (.ref x1), .val .null, .unset, .unset] [] := by first | (simp [entryFrame, mkF, argsToLocals, Value.category]; done) | rfl
set_option maxRecDepth 65536 in
set_option maxHeartbeats 40000000 in
theorem own_sx9 {l : Launch} {Z : State} {a0 : Array Value} (hw : own_Z Z a0) {h : Heap} {os : List own_O} {as : List own_A} {a b y : Addr} {cs : Int32} {vs : List Value} (hC : cs ≠ 0 ∧ Sta Z Z.heap "java/lang/String" "COMPACT_STRINGS" "Z" (.int cs)) (hv : vs.length = 16) (H : own_H Z h (own_ST a .null (.int (0 : Int32)) :: own_SB b (.ref y) (.int (0 : Int32)) (.int (9 : Int32)) :: os) ((y, .byte, "[B", vs) :: as)) : own_Met none l Z (⟨"java/lang/String", "<init>", "(Ljava/lang/AbstractStringBuilder;Ljava/lang/Void;)V"⟩ : MethodName) jdk_42_method_150_code 5 none [] ({ frames := 3, cells := 1, slots := 9, locals := 62 } : Room) #[(.ref a), (.ref b), .null] h (fun v h' => v = none ∧ ∃ z, own_H Z h' (own_ST a (.ref z) (.int (0 : Int32)) :: own_SB b (.ref y) (.int (0 : Int32)) (.int (9 : Int32)) :: os) ((z, .byte, "[B", vs.take 9) :: (y, .byte, "[B", vs) :: as)) := by
  refine own_met (by first | exact plainFor_of_name (by decide +kernel) | decide +kernel) ?_
  intro p_ e_ s_ m_ below_ meth_ c_ K
  refine own_cast (own_sx9_ef m_ _ _) ?_
  refine own_aloadN K own_d36_0 rfl rfl ?_
  refine own_initO K own_d36_1 (own_w15 hw) (own_w16 hw) (own_w17 hw) rfl (by decide) (W := 0) (Nat.le_of_eq rfl) (by decide) ?_
  refine own_aloadN K own_d36_4 rfl rfl ?_
  have H1 := H.frontO 1 rfl
  refine own_virtual K own_d36_5 (own_w165 hw) (own_w166 hw) (own_w168 hw) (own_w167 hw) (own_w75 hw) (own_w169 hw) (H.atO (i := 1) rfl) (a := b) (argsL := []) (rest := []) (own_gv hw H1) own_pd23 rfl rfl rfl (by decide) (W := 0) (Nat.le_of_eq rfl) (by decide) (by decide) (by decide) (by decide) ?_
  intro v4 h2 q3
  obtain ⟨rfl, rfl⟩ := q3
  refine own_astoreN K own_d36_8 rfl (Ls' := #[.val (.ref a), .val (.ref b), .val .null, .val (.ref y), .unset]) rfl ?_
  refine own_aloadN K own_d36_9 rfl rfl ?_
  have H5 := H.frontO 1 rfl
  refine own_virtualZ K own_d36_10 (own_w170 hw) (own_w171 hw) (own_w173 hw) (own_w174 hw) (own_w67 hw) (own_w175 hw) (H.atO (i := 1) rfl) (own_nf K (own_w108 hw) rfl) (a := b) (argsL := []) (rest := []) (own_sln hw H5) own_pd15 rfl rfl rfl (by decide) (W := 0) (Nat.le_of_eq rfl) (by decide) (by decide) (by decide) (by decide) ?_
  intro v8 h6 q7
  obtain ⟨rfl, rfl⟩ := q7
  refine own_istore K own_d36_13 (Ls' := #[.val (.ref a), .val (.ref b), .val .null, .val (.ref y), .val (.int (9 : Int32))]) rfl ?_
  refine own_aloadN K own_d36_15 rfl rfl ?_
  have H9 := H.frontO 1 rfl
  refine own_virtual K own_d36_16 (own_w178 hw) (own_w145 hw) (own_w147 hw) (own_w146 hw) (own_w75 hw) (own_w148 hw) (H.atO (i := 1) rfl) (a := b) (argsL := []) (rest := []) (own_il hw hC H9) own_pd6 rfl rfl rfl (by decide) (W := 0) (Nat.le_of_eq rfl) (by decide) (by decide) (by decide) (by decide) ?_
  intro v12 h10 q11
  obtain ⟨rfl, rfl⟩ := q11
  refine own_ifeq K own_d36_19 (fun q => absurd q (by decide)) (fun _ => ?_)
  refine own_aloadN K own_d36_22 rfl rfl ?_
  refine own_iconst K own_d36_23 (v := (0 : Int32)) rfl ?_
  refine own_putfield K own_d36_24 (host := "") (Or.inl (own_w30 hw)) Via.refl H (j := 0) rfl (q := 1) rfl (Or.inr ⟨(own_w31 hw), rfl, rfl⟩) (own_w5 hw) (ty := .byte) (by decide +kernel) (rfl) (rfl) ?_
  intro h13 H14
  replace H14 : own_H Z h13 (own_ST a .null (.int (0 : Int32)) :: own_SB b (.ref y) (.int (0 : Int32)) (.int (9 : Int32)) :: os) ((y, .byte, "[B", vs) :: as) := H14
  refine own_aloadN K own_d36_27 rfl rfl ?_
  refine own_aloadN K own_d36_28 rfl rfl ?_
  refine own_iconst K own_d36_29 (v := (0 : Int32)) rfl ?_
  refine own_iload K own_d36_30 rfl ?_
  refine own_static K own_d36_32 (own_w179 hw) (own_w180 hw) (own_w181 hw) (own_w182 hw) (argsL := [(.ref y), (.int (0 : Int32)), (.int (9 : Int32))]) (rest := [(.ref a)]) (own_cr9 hw hv H14) own_pd22 rfl rfl rfl (by decide) (W := 1) (Nat.le_of_eq rfl) (by decide) (by decide) (by decide) (by decide) ?_
  intro v17 h15 q16
  obtain ⟨z19, rfl, H18⟩ := q16
  replace H18 : own_H Z h15 (own_ST a .null (.int (0 : Int32)) :: own_SB b (.ref y) (.int (0 : Int32)) (.int (9 : Int32)) :: os) ((z19, .byte, "[B", (vs.take 9)) :: (y, .byte, "[B", vs) :: as) := H18
  refine own_putfield K own_d36_35 (host := "") (Or.inl (own_w32 hw)) Via.refl H18 (j := 0) rfl (q := 0) rfl (Or.inr ⟨(own_w33 hw), rfl, rfl⟩) (own_w5 hw) (ty := (.array .byte)) (by decide +kernel) (rfl) (rfl) ?_
  intro h20 H21
  replace H21 : own_H Z h20 (own_ST a (.ref z19) (.int (0 : Int32)) :: own_SB b (.ref y) (.int (0 : Int32)) (.int (9 : Int32)) :: os) ((z19, .byte, "[B", (vs.take 9)) :: (y, .byte, "[B", vs) :: as) := H21
  refine own_goto K own_d36_38 ?_
  exact own_retV K (fun _ q => q) own_d36_97 (by decide) (by decide) (⟨rfl, _, H21⟩)
set_option maxRecDepth 65536 in
set_option maxHeartbeats 40000000 in
theorem own_sy9_ef (m : MethodId) (x0 : Addr) (x1 : Addr) : entryFrame m #[(.ref x0), (.ref x1)] 2 = mkF m 0 #[.val (.ref x0), .val (.ref x1)] [] := by first | (simp [entryFrame, mkF, argsToLocals, Value.category]; done) | rfl
set_option maxRecDepth 65536 in
set_option maxHeartbeats 40000000 in
theorem own_sy9 {l : Launch} {Z : State} {a0 : Array Value} (hw : own_Z Z a0) {h : Heap} {os : List own_O} {as : List own_A} {a b y : Addr} {cs : Int32} {vs : List Value} (hC : cs ≠ 0 ∧ Sta Z Z.heap "java/lang/String" "COMPACT_STRINGS" "Z" (.int cs)) (hv : vs.length = 16) (H : own_H Z h (own_ST a .null (.int (0 : Int32)) :: own_SB b (.ref y) (.int (0 : Int32)) (.int (9 : Int32)) :: os) ((y, .byte, "[B", vs) :: as)) : own_Met none l Z (⟨"java/lang/String", "<init>", "(Ljava/lang/StringBuilder;)V"⟩ : MethodName) jdk_42_method_53_code 2 none [] ({ frames := 4, cells := 1, slots := 9, locals := 79 } : Room) #[(.ref a), (.ref b)] h (fun v h' => v = none ∧ ∃ z, own_H Z h' (own_ST a (.ref z) (.int (0 : Int32)) :: own_SB b (.ref y) (.int (0 : Int32)) (.int (9 : Int32)) :: os) ((z, .byte, "[B", vs.take 9) :: (y, .byte, "[B", vs) :: as)) := by
  refine own_met (by first | exact plainFor_of_name (by decide +kernel) | decide +kernel) ?_
  intro p_ e_ s_ m_ below_ meth_ c_ K
  refine own_cast (own_sy9_ef m_ _ _) ?_
  refine own_aloadN K own_d37_0 rfl rfl ?_
  refine own_aloadN K own_d37_1 rfl rfl ?_
  refine own_aconstNull K own_d37_2 ?_
  refine own_special K own_d37_3 rfl (own_w162 hw) (own_w163 hw) (own_w6 hw) (own_w164 hw) (a := a) (argsL := [(.ref b), .null]) (rest := []) (own_sx9 hw hC hv H) own_pd24 rfl rfl rfl (by decide) (W := 0) (Nat.le_of_eq rfl) (by decide) (by decide) (by decide) (by decide) ?_
  intro v3 h1 q2
  obtain ⟨rfl, z5, H4⟩ := q2
  replace H4 : own_H Z h1 (own_ST a (.ref z5) (.int (0 : Int32)) :: own_SB b (.ref y) (.int (0 : Int32)) (.int (9 : Int32)) :: os) ((z5, .byte, "[B", (vs.take 9)) :: (y, .byte, "[B", vs) :: as) := H4
  exact own_retV K (fun _ q => q) own_d37_6 (by decide) (by decide) (⟨rfl, _, H4⟩)
set_option maxRecDepth 65536 in
set_option maxHeartbeats 40000000 in
theorem own_ts9_ef (m : MethodId) (x0 : Addr) : entryFrame m #[(.ref x0)] 1 = mkF m 0 #[.val (.ref x0)] [] := by first | (simp [entryFrame, mkF, argsToLocals, Value.category]; done) | rfl
set_option maxRecDepth 65536 in
set_option maxHeartbeats 40000000 in
theorem own_ts9 {l : Launch} {Z : State} {a0 : Array Value} (hw : own_Z Z a0) {h : Heap} {os : List own_O} {as : List own_A} {b y : Addr} {cs : Int32} {vs : List Value} (hC : cs ≠ 0 ∧ Sta Z Z.heap "java/lang/String" "COMPACT_STRINGS" "Z" (.int cs)) (hv : vs.length = 16) (H : own_H Z h (own_SB b (.ref y) (.int (0 : Int32)) (.int (9 : Int32)) :: os) ((y, .byte, "[B", vs) :: as)) : own_Met none l Z (⟨"java/lang/StringBuilder", "toString", "()Ljava/lang/String;"⟩ : MethodName) jdk_67_method_42_code 1 (some (.object "java/lang/String")) [] ({ frames := 5, cells := 2, slots := 13, locals := 93 } : Room) #[(.ref b)] h (fun v h' => ∃ a z, v = some (.ref a) ∧ own_H Z h' (own_ST a (.ref z) (.int (0 : Int32)) :: own_SB b (.ref y) (.int (0 : Int32)) (.int (9 : Int32)) :: os) ((z, .byte, "[B", vs.take 9) :: (y, .byte, "[B", vs) :: as)) := by
  refine own_met (by first | exact plainFor_of_name (by decide +kernel) | decide +kernel) ?_
  intro p_ e_ s_ m_ below_ meth_ c_ K
  refine own_cast (own_ts9_ef m_ _) ?_
  refine own_new K own_d38_0 (own_w158 hw) (own_w5 hw) (own_w6 hw) H (own_ST_F hw) (own_ST_P hw) (by decide) (by decide) ?_
  intro h1 a3 H2
  replace H2 : own_H Z h1 (own_ST a3 .null (.int (0 : Int32)) :: own_SB b (.ref y) (.int (0 : Int32)) (.int (9 : Int32)) :: os) ((y, .byte, "[B", vs) :: as) := H2
  refine own_dup K own_d38_3 rfl ?_
  refine own_aloadN K own_d38_4 rfl rfl ?_
  refine own_special K own_d38_5 rfl (own_w159 hw) (own_w160 hw) (own_w6 hw) (own_w161 hw) (a := a3) (argsL := [(.ref b)]) (rest := [(.ref a3)]) (own_sy9 hw hC hv H2) own_pd25 rfl rfl rfl (by decide) (W := 1) (Nat.le_of_eq rfl) (by decide) (by decide) (by decide) (by decide) ?_
  intro v6 h4 q5
  obtain ⟨rfl, z8, H7⟩ := q5
  replace H7 : own_H Z h4 (own_ST a3 (.ref z8) (.int (0 : Int32)) :: own_SB b (.ref y) (.int (0 : Int32)) (.int (9 : Int32)) :: os) ((z8, .byte, "[B", (vs.take 9)) :: (y, .byte, "[B", vs) :: as) := H7
  exact own_retA K (fun _ q => q) rfl rfl own_d38_8 (by decide) (by decide) (⟨_, _, rfl, H7⟩)
theorem own_ts {l : Launch} {Z : State} {a0 : Array Value} (hw : own_Z Z a0) {h : Heap} {os : List own_O} {as : List own_A} {b y : Addr} {cs : Int32} {vs : List Value} {c : Nat} (hc : 2 ≤ c ∧ c ≤ 9) (hC : cs ≠ 0 ∧ Sta Z Z.heap "java/lang/String" "COMPACT_STRINGS" "Z" (.int cs)) (hv : vs.length = 16) (H : own_H Z h (own_SB b (.ref y) (.int (0 : Int32)) (.int (Int32.ofNat c)) :: os) ((y, .byte, "[B", vs) :: as)) : own_Met none l Z (⟨"java/lang/StringBuilder", "toString", "()Ljava/lang/String;"⟩ : MethodName) jdk_67_method_42_code 1 (some (.object "java/lang/String")) [] ({ frames := 5, cells := 2, slots := 13, locals := 93 } : Room) #[(.ref b)] h (fun v h' => ∃ a z, v = some (.ref a) ∧ own_H Z h' (own_ST a (.ref z) (.int (0 : Int32)) :: own_SB b (.ref y) (.int (0 : Int32)) (.int (Int32.ofNat c)) :: os) ((z, .byte, "[B", vs.take c) :: (y, .byte, "[B", vs) :: as)) := by
  rcases (show c = 2 ∨ c = 3 ∨ c = 4 ∨ c = 5 ∨ c = 6 ∨ c = 7 ∨ c = 8 ∨ c = 9 by omega) with rfl | rfl | rfl | rfl | rfl | rfl | rfl | rfl
  · exact own_ts2 hw hC hv H
  · exact own_ts3 hw hC hv H
  · exact own_ts4 hw hC hv H
  · exact own_ts5 hw hC hv H
  · exact own_ts6 hw hC hv H
  · exact own_ts7 hw hC hv H
  · exact own_ts8 hw hC hv H
  · exact own_ts9 hw hC hv H
set_option maxRecDepth 65536 in
set_option maxHeartbeats 40000000 in
theorem own_et_ef (m : MethodId) (x0 : Addr) : entryFrame m #[(.ref x0)] 1 = mkF m 0 #[.val (.ref x0)] [] := by first | (simp [entryFrame, mkF, argsToLocals, Value.category]; done) | rfl
set_option maxRecDepth 65536 in
set_option maxHeartbeats 40000000 in
theorem own_et {l : Launch} {Z : State} {a0 : Array Value} (hw : own_Z Z a0) {h : Heap} {os : List own_O} {as : List own_A} {e1 a yw o1 o2 : Addr} {cl1 cl2 : Cell} {ad : String} {cs c0 c1 c2 : Int32} {k d m : Nat} (hC : cs ≠ 0 ∧ Sta Z Z.heap "java/lang/String" "COMPACT_STRINGS" "Z" (.int cs)) (hLc : Jvm.Lit.constHeld Z "com/example/farcall/farcall/Endpoint" 46) (hcw : Jvm.Lit.compactW.before a0 Z = true) (hD : own_Dg Z o1 o2 cl1 cl2) (hk : k ≤ 3) (hd : own_DD m d) (hm : 1 ≤ m ∧ m ≤ 65535) (hd5 : 1 ≤ d ∧ d ≤ 5) (H : own_H Z h (own_EP e1 (.ref a) (.int (Int32.ofNat m)) :: own_ST a (.ref yw) (.int (0 : Int32)) :: os) ((yw, .byte, ad, (own_v3 k c0 c1 c2)) :: as)) : own_Met (some (["host", ""], [":", "host", ""])) l Z (⟨"com/example/farcall/farcall/Endpoint", "toString", "()Ljava/lang/String;"⟩ : MethodName) prog_16_method_2_code 1 (some (.object "java/lang/String")) [] ({ frames := 6, cells := 6, slots := 48, locals := 108 } : Room) #[(.ref e1)] h (fun v h' => ∃ sa sy os' as', v = some (.ref sa) ∧ own_H Z h' (own_ST sa (.ref sy) (.int (0 : Int32)) :: os') ((sy, .byte, "[B", own_us k d m c0 c1 c2) :: as')) := by
  refine own_metW (by first | exact plainFor_of_name (by decide +kernel) | decide +kernel) ?_
  intro p_ e_ s_ m_ below_ meth_ c_ K hI
  replace hI : IB Z s_.vm ["host", ""] := hI
  refine own_cast (own_et_ef m_ _) ?_
  refine own_new K own_d39_0 (own_w65 hw) (own_w66 hw) (own_w67 hw) H (own_SB_F hw) (own_SB_P hw) (by decide) (by decide) ?_
  intro h1 a3 H2
  replace H2 : own_H Z h1 (own_SB a3 .null (.int (0 : Int32)) (.int (0 : Int32)) :: own_EP e1 (.ref a) (.int (Int32.ofNat m)) :: own_ST a (.ref yw) (.int (0 : Int32)) :: os) ((yw, .byte, ad, (own_v3 k c0 c1 c2)) :: as) := H2
  refine own_dup K own_d39_3 rfl ?_
  refine own_special K own_d39_4 rfl (own_w68 hw) (own_w69 hw) (own_w67 hw) (own_w70 hw) (a := a3) (argsL := []) (rest := [(.ref a3)]) (own_si hw hC H2) own_pd9 rfl rfl rfl (by decide) (W := 1) (Nat.le_of_eq rfl) (by decide) (by decide) (by decide) (by decide) ?_
  intro v6 h4 q5
  obtain ⟨rfl, y8, H7⟩ := q5
  replace H7 : own_H Z h4 (own_SB a3 (.ref y8) (.int (0 : Int32)) (.int (0 : Int32)) :: own_EP e1 (.ref a) (.int (Int32.ofNat m)) :: own_ST a (.ref yw) (.int (0 : Int32)) :: os) ((y8, .byte, "[B", own_z16) :: (yw, .byte, ad, (own_v3 k c0 c1 c2)) :: as) := H7
  refine own_aloadN K own_d39_7 rfl rfl ?_
  refine own_getfield K own_d39_8 (host := "") (Or.inl (own_w56 hw)) Via.refl H7 (j := 1) rfl (q := 0) rfl ?_
  have H9 := H7.frontO 2 rfl
  replace H9 : own_H Z h4 (own_ST a (.ref yw) (.int (0 : Int32)) :: own_SB a3 (.ref y8) (.int (0 : Int32)) (.int (0 : Int32)) :: own_EP e1 (.ref a) (.int (Int32.ofNat m)) :: os) ((y8, .byte, "[B", own_z16) :: (yw, .byte, ad, (own_v3 k c0 c1 c2)) :: as) := H9
  have H10 := H9.frontA 1 rfl
  replace H10 : own_H Z h4 (own_ST a (.ref yw) (.int (0 : Int32)) :: own_SB a3 (.ref y8) (.int (0 : Int32)) (.int (0 : Int32)) :: own_EP e1 (.ref a) (.int (Int32.ofNat m)) :: os) ((yw, .byte, ad, (own_v3 k c0 c1 c2)) :: (y8, .byte, "[B", own_z16) :: as) := H10
  replace H10 : own_H Z h4 (own_ST a (.ref yw) (.int (0 : Int32)) :: own_SB a3 (.ref y8) (.int (0 : Int32)) (.int (Int32.ofNat 0)) :: own_EP e1 (.ref a) (.int (Int32.ofNat m)) :: os) ((yw, .byte, ad, (own_v3 k c0 c1 c2)) :: (y8, .byte, "[B", own_z16) :: as) := H10
  refine own_virtual K own_d39_11 (own_w83 hw) (own_w84 hw) (own_w86 hw) (own_w85 hw) (own_w67 hw) (own_w87 hw) (H10.atO (i := 1) rfl) (a := a3) (argsL := [(.ref a)]) (rest := []) (own_ssS hw hC (c := 0) (L := k) rfl (own_v3l hk) (by omega) H10) own_pd26 rfl rfl rfl (by decide) (W := 0) (Nat.le_of_eq rfl) (by decide) (by decide) (by decide) (by decide) ?_
  intro v13 h11 q12
  obtain ⟨rfl, H14⟩ := q12
  replace H14 : own_H Z h11 (own_ST a (.ref yw) (.int (0 : Int32)) :: own_SB a3 (.ref y8) (.int (0 : Int32)) (.int (Int32.ofNat (0 + k))) :: own_EP e1 (.ref a) (.int (Int32.ofNat m)) :: os) ((yw, .byte, ad, (own_v3 k c0 c1 c2)) :: (y8, .byte, "[B", (own_cp own_z16 (own_v3 k c0 c1 c2) 0 k)) :: as) := H14
  rw [Nat.zero_add] at H14
  replace H14 : own_H Z h11 (own_ST a (.ref yw) (.int (0 : Int32)) :: own_SB a3 (.ref y8) (.int (0 : Int32)) (.int (Int32.ofNat k)) :: own_EP e1 (.ref a) (.int (Int32.ofNat m)) :: os) ((yw, .byte, ad, (own_v3 k c0 c1 c2)) :: (y8, .byte, "[B", (own_cp own_z16 (own_v3 k c0 c1 c2) 0 k)) :: as) := H14
  refine own_ldcL K own_d39_14 (own_w130 hw) (own_sa hw) (fun vm q => own_IB (congrArg Vm.interned (show vm = s_.vm from q)) hI) (by decide) hLc hcw (vs := [(.int (58 : Int32))]) ⟨by decide, by rfl⟩ (own_hP hw) H14 (nn := 4) (by decide) (by decide) (by decide) (by decide) ?_
  intro h15 a17 b18 H16
  replace H16 : own_H Z h15 (own_SR a17 (.int (0 : Int32)) (.ref b18) :: own_ST a (.ref yw) (.int (0 : Int32)) :: own_SB a3 (.ref y8) (.int (0 : Int32)) (.int (Int32.ofNat k)) :: own_EP e1 (.ref a) (.int (Int32.ofNat m)) :: os) ((b18, .byte, "", [(.int (58 : Int32))]) :: (yw, .byte, ad, (own_v3 k c0 c1 c2)) :: (y8, .byte, "[B", (own_cp own_z16 (own_v3 k c0 c1 c2) 0 k)) :: as) := H16
  have H19 := H16.frontO 2 rfl
  replace H19 : own_H Z h15 (own_SB a3 (.ref y8) (.int (0 : Int32)) (.int (Int32.ofNat k)) :: own_SR a17 (.int (0 : Int32)) (.ref b18) :: own_ST a (.ref yw) (.int (0 : Int32)) :: own_EP e1 (.ref a) (.int (Int32.ofNat m)) :: os) ((b18, .byte, "", [(.int (58 : Int32))]) :: (yw, .byte, ad, (own_v3 k c0 c1 c2)) :: (y8, .byte, "[B", (own_cp own_z16 (own_v3 k c0 c1 c2) 0 k)) :: as) := H19
  have H20 := H19.frontO 1 rfl
  replace H20 : own_H Z h15 (own_SR a17 (.int (0 : Int32)) (.ref b18) :: own_SB a3 (.ref y8) (.int (0 : Int32)) (.int (Int32.ofNat k)) :: own_ST a (.ref yw) (.int (0 : Int32)) :: own_EP e1 (.ref a) (.int (Int32.ofNat m)) :: os) ((b18, .byte, "", [(.int (58 : Int32))]) :: (yw, .byte, ad, (own_v3 k c0 c1 c2)) :: (y8, .byte, "[B", (own_cp own_z16 (own_v3 k c0 c1 c2) 0 k)) :: as) := H20
  have H21 := H20.frontA 2 rfl
  replace H21 : own_H Z h15 (own_SR a17 (.int (0 : Int32)) (.ref b18) :: own_SB a3 (.ref y8) (.int (0 : Int32)) (.int (Int32.ofNat k)) :: own_ST a (.ref yw) (.int (0 : Int32)) :: own_EP e1 (.ref a) (.int (Int32.ofNat m)) :: os) ((y8, .byte, "[B", (own_cp own_z16 (own_v3 k c0 c1 c2) 0 k)) :: (b18, .byte, "", [(.int (58 : Int32))]) :: (yw, .byte, ad, (own_v3 k c0 c1 c2)) :: as) := H21
  have H22 := H21.frontA 1 rfl
  replace H22 : own_H Z h15 (own_SR a17 (.int (0 : Int32)) (.ref b18) :: own_SB a3 (.ref y8) (.int (0 : Int32)) (.int (Int32.ofNat k)) :: own_ST a (.ref yw) (.int (0 : Int32)) :: own_EP e1 (.ref a) (.int (Int32.ofNat m)) :: os) ((b18, .byte, "", [(.int (58 : Int32))]) :: (y8, .byte, "[B", (own_cp own_z16 (own_v3 k c0 c1 c2) 0 k)) :: (yw, .byte, ad, (own_v3 k c0 c1 c2)) :: as) := H22
  refine own_virtual K own_d39_16 (own_w83 hw) (own_w84 hw) (own_w86 hw) (own_w85 hw) (own_w67 hw) (own_w87 hw) (H22.atO (i := 1) rfl) (a := a3) (argsL := [(.ref a17)]) (rest := []) (own_ssR hw hC (c := k) (L := 1) (own_l1 hk) rfl (by omega) H22) own_pd26 rfl rfl rfl (by decide) (W := 0) (Nat.le_of_eq rfl) (by decide) (by decide) (by decide) (by decide) ?_
  intro v25 h23 q24
  obtain ⟨rfl, H26⟩ := q24
  replace H26 : own_H Z h23 (own_SR a17 (.int (0 : Int32)) (.ref b18) :: own_SB a3 (.ref y8) (.int (0 : Int32)) (.int (Int32.ofNat (k + 1))) :: own_ST a (.ref yw) (.int (0 : Int32)) :: own_EP e1 (.ref a) (.int (Int32.ofNat m)) :: os) ((b18, .byte, "", [(.int (58 : Int32))]) :: (y8, .byte, "[B", (own_cp (own_cp own_z16 (own_v3 k c0 c1 c2) 0 k) [.int (58 : Int32)] k 1)) :: (yw, .byte, ad, (own_v3 k c0 c1 c2)) :: as) := H26
  refine own_aloadN K own_d39_19 rfl rfl ?_
  refine own_getfield K own_d39_20 (host := "") (Or.inl (own_w58 hw)) Via.refl H26 (j := 3) rfl (q := 1) rfl ?_
  have H27 := H26.frontO 1 rfl
  replace H27 : own_H Z h23 (own_SB a3 (.ref y8) (.int (0 : Int32)) (.int (Int32.ofNat (k + 1))) :: own_SR a17 (.int (0 : Int32)) (.ref b18) :: own_ST a (.ref yw) (.int (0 : Int32)) :: own_EP e1 (.ref a) (.int (Int32.ofNat m)) :: os) ((b18, .byte, "", [(.int (58 : Int32))]) :: (y8, .byte, "[B", (own_cp (own_cp own_z16 (own_v3 k c0 c1 c2) 0 k) [.int (58 : Int32)] k 1)) :: (yw, .byte, ad, (own_v3 k c0 c1 c2)) :: as) := H27
  have H28 := H27.frontA 1 rfl
  replace H28 : own_H Z h23 (own_SB a3 (.ref y8) (.int (0 : Int32)) (.int (Int32.ofNat (k + 1))) :: own_SR a17 (.int (0 : Int32)) (.ref b18) :: own_ST a (.ref yw) (.int (0 : Int32)) :: own_EP e1 (.ref a) (.int (Int32.ofNat m)) :: os) ((y8, .byte, "[B", (own_cp (own_cp own_z16 (own_v3 k c0 c1 c2) 0 k) [.int (58 : Int32)] k 1)) :: (b18, .byte, "", [(.int (58 : Int32))]) :: (yw, .byte, ad, (own_v3 k c0 c1 c2)) :: as) := H28
  refine own_virtual K own_d39_23 (own_w131 hw) (own_w132 hw) (own_w134 hw) (own_w133 hw) (own_w67 hw) (own_w135 hw) (H28.atO (i := 0) rfl) (a := a3) (argsL := [(.int (Int32.ofNat m))]) (rest := []) (own_sii hw hC hD (own_l2 hk) hd hm (c := k + 1) (by omega) H28) own_pd27 rfl rfl rfl (by decide) (W := 0) (Nat.le_of_eq rfl) (by decide) (by decide) (by decide) (by decide) ?_
  intro v31 h29 q30
  obtain ⟨rfl, H32⟩ := q30
  replace H32 : own_H Z h29 (own_SB a3 (.ref y8) (.int (0 : Int32)) (.int (Int32.ofNat (k + 1 + d))) :: own_SR a17 (.int (0 : Int32)) (.ref b18) :: own_ST a (.ref yw) (.int (0 : Int32)) :: own_EP e1 (.ref a) (.int (Int32.ofNat m)) :: os) ((y8, .byte, "[B", (own_gc d (own_cp (own_cp own_z16 (own_v3 k c0 c1 c2) 0 k) [.int (58 : Int32)] k 1) (k + 1 + d) m)) :: (b18, .byte, "", [(.int (58 : Int32))]) :: (yw, .byte, ad, (own_v3 k c0 c1 c2)) :: as) := H32
  refine own_virtual K own_d39_26 (own_w153 hw) (own_w154 hw) (own_w156 hw) (own_w155 hw) (own_w67 hw) (own_w157 hw) (H32.atO (i := 0) rfl) (a := a3) (argsL := []) (rest := []) (own_ts hw (c := k + 1 + d) (by omega) hC (by rw [own_gcl]; exact own_l2 hk) H32) own_pd28 rfl rfl rfl (by decide) (W := 0) (Nat.le_of_eq rfl) (by decide) (by decide) (by decide) (by decide) ?_
  intro v35 h33 q34
  obtain ⟨a37, z38, rfl, H36⟩ := q34
  rw [own_buf hk hd5] at H36
  replace H36 : own_H Z h33 (own_ST a37 (.ref z38) (.int (0 : Int32)) :: own_SB a3 (.ref y8) (.int (0 : Int32)) (.int (Int32.ofNat (k + 1 + d))) :: own_SR a17 (.int (0 : Int32)) (.ref b18) :: own_ST a (.ref yw) (.int (0 : Int32)) :: own_EP e1 (.ref a) (.int (Int32.ofNat m)) :: os) ((z38, .byte, "[B", (own_us k d m c0 c1 c2)) :: (y8, .byte, "[B", (own_gc d (own_cp (own_cp own_z16 (own_v3 k c0 c1 c2) 0 k) [.int (58 : Int32)] k 1) (k + 1 + d) m)) :: (b18, .byte, "", [(.int (58 : Int32))]) :: (yw, .byte, ad, (own_v3 k c0 c1 c2)) :: as) := H36
  refine own_weak (J' := fun vm => IB Z vm [":", "host", ""]) ?_ ?_
  · intro vm q; exact q.1
  exact own_retA K (fun _ q => q) rfl rfl own_d39_29 (by decide) (by decide) (⟨_, _, _, _, rfl, H36⟩)
set_option maxRecDepth 65536 in
set_option maxHeartbeats 40000000 in
theorem own_dgt_ef (m : MethodId) (x0 : Int32) (x1 : Int32) : entryFrame m #[(.int x0), (.int x1)] 3 = mkF m 0 #[.val (.int x0), .val (.int x1), .unset] [] := by first | (simp [entryFrame, mkF, argsToLocals, Value.category]; done) | rfl
set_option maxRecDepth 65536 in
set_option maxHeartbeats 40000000 in
theorem own_dgt {l : Launch} {Z : State} {a0 : Array Value} (hw : own_Z Z a0) {h : Heap} {m t : Nat} (hm : m ≤ 65535) (ht4 : t ≤ 4) : own_Met none l Z (⟨"com/example/farcall/farcall/EndpointToStringPinLaw", "digit", "(II)C"⟩ : MethodName) method_4_code 3 (some .char) [] ({ frames := 0, cells := 0, slots := 0, locals := 0 } : Room) #[(.int (Int32.ofNat m)), (.int (Int32.ofNat t))] h (fun v h' => v = some (.int (own_dg m t)) ∧ h = h') := by
  refine own_met (by first | exact plainFor_of_name (by decide +kernel) | decide +kernel) ?_
  intro p_ e_ s_ m_ below_ meth_ c_ K
  refine own_cast (own_dgt_ef m_ _ _) ?_
  refine own_iloadN K own_d40_0 rfl ?_
  refine own_ifne K own_d40_1 (fun g0 => ?_) (fun g0 => ?_)
  · refine own_iloadN K own_d40_8 rfl ?_
    refine own_iconst K own_d40_9 (v := (1 : Int32)) rfl ?_
    refine own_icmpne K own_d40_10 (fun g1 => ?_) (fun g1 => ?_)
    · refine own_iloadN K own_d40_18 rfl ?_
      refine own_iconst K own_d40_19 (v := (2 : Int32)) rfl ?_
      refine own_icmpne K own_d40_20 (fun g2 => ?_) (fun g2 => ?_)
      · refine own_iloadN K own_d40_28 rfl ?_
        refine own_iconst K own_d40_29 (v := (3 : Int32)) rfl ?_
        refine own_icmpne K own_d40_30 (fun g3 => ?_) (fun g3 => ?_)
        · have ht : t = 4 := by have n0 : t ≠ 0 := fun q => g0 (by rw [q]; rfl); have n1 : t ≠ 1 := fun q => g1 (by rw [q]; rfl); have n2 : t ≠ 2 := fun q => g2 (by rw [q]; rfl); have n3 : t ≠ 3 := fun q => g3 (by rw [q]; rfl); omega
          refine own_sipush K own_d40_39 (v := (10000 : Int32)) rfl ?_
          refine own_istoreN K own_d40_42 (Ls' := #[.val (.int (Int32.ofNat m)), .val (.int (Int32.ofNat t)), .val (.int (10000 : Int32))]) rfl ?_
          refine own_bipush K own_d40_43 (v := (48 : Int32)) rfl ?_
          refine own_iloadN K own_d40_45 rfl ?_
          refine own_iloadN K own_d40_46 rfl ?_
          refine own_idiv K own_d40_47 (by decide) ?_
          refine own_bipush K own_d40_48 (v := (10 : Int32)) rfl ?_
          refine own_irem K own_d40_50 (by decide) ?_
          refine own_iadd K own_d40_51 ?_
          refine own_topI (x' := (own_dg m t)) ((own_dgE (w := 10000) (by omega) (by decide) (by decide) (by decide)).trans (by rw [ht]; rfl)) ?_
          refine own_i2c K own_d40_52 ?_
          refine own_topI (x' := (own_dg m t)) (own_i2cc (own_dgb m t).1 (own_dgb m t).2) ?_
          exact own_retC K (fun _ q => q) (own_nrc (own_dgb m t).1 (own_dgb m t).2) own_d40_53 (by decide) (by decide) (⟨rfl, rfl⟩)
        · have ht : t = 3 := own_oni (by omega) (by omega) (Classical.not_not.mp g3)
          refine own_sipush K own_d40_33 (v := (1000 : Int32)) rfl ?_
          refine own_goto K own_d40_36 ?_
          refine own_istoreN K own_d40_42 (Ls' := #[.val (.int (Int32.ofNat m)), .val (.int (Int32.ofNat t)), .val (.int (1000 : Int32))]) rfl ?_
          refine own_bipush K own_d40_43 (v := (48 : Int32)) rfl ?_
          refine own_iloadN K own_d40_45 rfl ?_
          refine own_iloadN K own_d40_46 rfl ?_
          refine own_idiv K own_d40_47 (by decide) ?_
          refine own_bipush K own_d40_48 (v := (10 : Int32)) rfl ?_
          refine own_irem K own_d40_50 (by decide) ?_
          refine own_iadd K own_d40_51 ?_
          refine own_topI (x' := (own_dg m t)) ((own_dgE (w := 1000) (by omega) (by decide) (by decide) (by decide)).trans (by rw [ht]; rfl)) ?_
          refine own_i2c K own_d40_52 ?_
          refine own_topI (x' := (own_dg m t)) (own_i2cc (own_dgb m t).1 (own_dgb m t).2) ?_
          exact own_retC K (fun _ q => q) (own_nrc (own_dgb m t).1 (own_dgb m t).2) own_d40_53 (by decide) (by decide) (⟨rfl, rfl⟩)
      · have ht : t = 2 := own_oni (by omega) (by omega) (Classical.not_not.mp g2)
        refine own_bipush K own_d40_23 (v := (100 : Int32)) rfl ?_
        refine own_goto K own_d40_25 ?_
        refine own_istoreN K own_d40_42 (Ls' := #[.val (.int (Int32.ofNat m)), .val (.int (Int32.ofNat t)), .val (.int (100 : Int32))]) rfl ?_
        refine own_bipush K own_d40_43 (v := (48 : Int32)) rfl ?_
        refine own_iloadN K own_d40_45 rfl ?_
        refine own_iloadN K own_d40_46 rfl ?_
        refine own_idiv K own_d40_47 (by decide) ?_
        refine own_bipush K own_d40_48 (v := (10 : Int32)) rfl ?_
        refine own_irem K own_d40_50 (by decide) ?_
        refine own_iadd K own_d40_51 ?_
        refine own_topI (x' := (own_dg m t)) ((own_dgE (w := 100) (by omega) (by decide) (by decide) (by decide)).trans (by rw [ht]; rfl)) ?_
        refine own_i2c K own_d40_52 ?_
        refine own_topI (x' := (own_dg m t)) (own_i2cc (own_dgb m t).1 (own_dgb m t).2) ?_
        exact own_retC K (fun _ q => q) (own_nrc (own_dgb m t).1 (own_dgb m t).2) own_d40_53 (by decide) (by decide) (⟨rfl, rfl⟩)
    · have ht : t = 1 := own_oni (by omega) (by omega) (Classical.not_not.mp g1)
      refine own_bipush K own_d40_13 (v := (10 : Int32)) rfl ?_
      refine own_goto K own_d40_15 ?_
      refine own_istoreN K own_d40_42 (Ls' := #[.val (.int (Int32.ofNat m)), .val (.int (Int32.ofNat t)), .val (.int (10 : Int32))]) rfl ?_
      refine own_bipush K own_d40_43 (v := (48 : Int32)) rfl ?_
      refine own_iloadN K own_d40_45 rfl ?_
      refine own_iloadN K own_d40_46 rfl ?_
      refine own_idiv K own_d40_47 (by decide) ?_
      refine own_bipush K own_d40_48 (v := (10 : Int32)) rfl ?_
      refine own_irem K own_d40_50 (by decide) ?_
      refine own_iadd K own_d40_51 ?_
      refine own_topI (x' := (own_dg m t)) ((own_dgE (w := 10) (by omega) (by decide) (by decide) (by decide)).trans (by rw [ht]; rfl)) ?_
      refine own_i2c K own_d40_52 ?_
      refine own_topI (x' := (own_dg m t)) (own_i2cc (own_dgb m t).1 (own_dgb m t).2) ?_
      exact own_retC K (fun _ q => q) (own_nrc (own_dgb m t).1 (own_dgb m t).2) own_d40_53 (by decide) (by decide) (⟨rfl, rfl⟩)
  · have ht : t = 0 := own_oni (by omega) (by omega) (Classical.not_not.mp g0)
    refine own_iconst K own_d40_4 (v := (1 : Int32)) rfl ?_
    refine own_goto K own_d40_5 ?_
    refine own_istoreN K own_d40_42 (Ls' := #[.val (.int (Int32.ofNat m)), .val (.int (Int32.ofNat t)), .val (.int (1 : Int32))]) rfl ?_
    refine own_bipush K own_d40_43 (v := (48 : Int32)) rfl ?_
    refine own_iloadN K own_d40_45 rfl ?_
    refine own_iloadN K own_d40_46 rfl ?_
    refine own_idiv K own_d40_47 (by decide) ?_
    refine own_bipush K own_d40_48 (v := (10 : Int32)) rfl ?_
    refine own_irem K own_d40_50 (by decide) ?_
    refine own_iadd K own_d40_51 ?_
    refine own_topI (x' := (own_dg m t)) ((own_dgE (w := 1) (by omega) (by decide) (by decide) (by decide)).trans (by rw [ht]; rfl)) ?_
    refine own_i2c K own_d40_52 ?_
    refine own_topI (x' := (own_dg m t)) (own_i2cc (own_dgb m t).1 (own_dgb m t).2) ?_
    exact own_retC K (fun _ q => q) (own_nrc (own_dgb m t).1 (own_dgb m t).2) own_d40_53 (by decide) (by decide) (⟨rfl, rfl⟩)
set_option maxRecDepth 65536 in
set_option maxHeartbeats 40000000 in
theorem own_law_ef (m : MethodId) (x0 : Int32) (x1 : Int32) (x2 : Int32) : entryFrame m #[(.int x0), (.int x1), (.int x2)] 11 = mkF m 0 #[.val (.int x0), .val (.int x1), .val (.int x2), .unset, .unset, .unset, .unset, .unset, .unset, .unset, .unset] [] := by first | (simp [entryFrame, mkF, argsToLocals, Value.category]; done) | rfl
set_option maxRecDepth 65536 in
set_option maxHeartbeats 40000000 in
theorem own_law {l : Launch} {Z : State} {a0 : Array Value} (hw : own_Z Z a0) {ch ln pp : Int32} {cs : Int32} {o1 o2 : Addr} {cl1 cl2 : Cell} (hC : cs ≠ 0 ∧ Sta Z Z.heap "java/lang/String" "COMPACT_STRINGS" "Z" (.int cs)) (hF : Sta Z Z.heap "jdk/internal/util/Preconditions" "SIOOBE_FORMATTER" "Ljava/util/function/BiFunction;" .null ∨ ∃ fa, Sta Z Z.heap "jdk/internal/util/Preconditions" "SIOOBE_FORMATTER" "Ljava/util/function/BiFunction;" (.ref fa)) (hL : Jvm.Lit.constHeld Z "java/lang/String" 7) (hcw : Jvm.Lit.compactW.before a0 Z = true) (hLc : Jvm.Lit.constHeld Z "com/example/farcall/farcall/Endpoint" 46) (hD : own_Dg Z o1 o2 cl1 cl2) : own_Met (some ([], [":", "host", ""])) l Z (⟨"com/example/farcall/farcall/EndpointToStringPinLaw", "law", "(III)Z"⟩ : MethodName) code 11 (some .boolean) tables_1 room_1 #[(.int ch), (.int ln), (.int pp)] Z.heap (fun v h' => v = some (.int 1)) := by
  refine own_metW (by first | exact plainFor_of_name (by decide +kernel) | decide +kernel) ?_
  intro p_ e_ s_ m_ below_ meth_ c_ K hI
  replace hI : IB Z s_.vm [] := hI
  refine own_cast (own_law_ef m_ _ _ _) ?_
  have H := own_H.start Z
  obtain ⟨c0, ec0, l0, u0⟩ := own_m8 ch
  obtain ⟨c1, ec1, l1, u1⟩ := own_m8 (XT.ushr ch (8 : Int32))
  obtain ⟨c2, ec2, l2, u2⟩ := own_m8 (XT.ushr ch (16 : Int32))
  obtain ⟨k, hk, qk⟩ := own_n4 ln
  obtain ⟨port, hm, qm⟩ := own_pt pp
  obtain ⟨d, hd⟩ := own_DDe hm
  have hd5 := hd.1
  refine own_iloadN K own_d41_0 rfl ?_
  refine own_iconst K own_d41_1 (v := (3 : Int32)) rfl ?_
  refine own_iand K own_d41_2 ?_
  refine own_topI (x' := (Int32.ofNat k)) (qk) ?_
  refine own_istoreN K own_d41_3 (Ls' := #[.val (.int ch), .val (.int ln), .val (.int pp), .val (.int (Int32.ofNat k)), .unset, .unset, .unset, .unset, .unset, .unset, .unset]) rfl ?_
  refine own_iloadN K own_d41_4 rfl ?_
  refine own_sipush K own_d41_5 (v := (255 : Int32)) rfl ?_
  refine own_iand K own_d41_8 ?_
  refine own_i2c K own_d41_9 ?_
  refine own_topI (x' := c0) (ec0) ?_
  refine own_istore K own_d41_10 (Ls' := #[.val (.int ch), .val (.int ln), .val (.int pp), .val (.int (Int32.ofNat k)), .val (.int c0), .unset, .unset, .unset, .unset, .unset, .unset]) rfl ?_
  refine own_iloadN K own_d41_12 rfl ?_
  refine own_bipush K own_d41_13 (v := (8 : Int32)) rfl ?_
  refine own_iushr K own_d41_15 ?_
  refine own_sipush K own_d41_16 (v := (255 : Int32)) rfl ?_
  refine own_iand K own_d41_19 ?_
  refine own_i2c K own_d41_20 ?_
  refine own_topI (x' := c1) (ec1) ?_
  refine own_istore K own_d41_21 (Ls' := #[.val (.int ch), .val (.int ln), .val (.int pp), .val (.int (Int32.ofNat k)), .val (.int c0), .val (.int c1), .unset, .unset, .unset, .unset, .unset]) rfl ?_
  refine own_iloadN K own_d41_23 rfl ?_
  refine own_bipush K own_d41_24 (v := (16 : Int32)) rfl ?_
  refine own_iushr K own_d41_26 ?_
  refine own_sipush K own_d41_27 (v := (255 : Int32)) rfl ?_
  refine own_iand K own_d41_30 ?_
  refine own_i2c K own_d41_31 ?_
  refine own_topI (x' := c2) (ec2) ?_
  refine own_istore K own_d41_32 (Ls' := #[.val (.int ch), .val (.int ln), .val (.int pp), .val (.int (Int32.ofNat k)), .val (.int c0), .val (.int c1), .val (.int c2), .unset, .unset, .unset, .unset]) rfl ?_
  refine own_iloadN K own_d41_34 rfl ?_
  refine own_iload K own_d41_35 rfl ?_
  refine own_iload K own_d41_37 rfl ?_
  refine own_iload K own_d41_39 rfl ?_
  refine own_staticW K (fun vm q => own_IB (congrArg Vm.interned (show vm = s_.vm from q)) hI) own_d41_41 (own_w0 hw) (own_w1 hw) (own_w2 hw) (own_w3 hw) (argsL := [(.int (Int32.ofNat k)), (.int c0), (.int c1), (.int c2)]) (rest := []) (own_mk hw hk hC hL hcw H l0 u0 l1 u1 l2 u2) own_pd29 rfl rfl rfl (by decide) (W := 0) (Nat.le_of_eq rfl) (by decide) (by decide) (by decide) (by decide) ?_
  intro v3 h1 q2
  obtain ⟨a5, y6, z7, ad, zs, rfl, H4⟩ := q2
  replace H4 : own_H Z h1 (own_ST a5 (.ref y6) (.int (0 : Int32)) :: []) ((y6, .byte, ad, (own_v3 k c0 c1 c2)) :: (z7, .char, "[C", zs) :: []) := H4
  refine own_astore K own_d41_44 rfl (Ls' := #[.val (.int ch), .val (.int ln), .val (.int pp), .val (.int (Int32.ofNat k)), .val (.int c0), .val (.int c1), .val (.int c2), .val (.ref a5), .unset, .unset, .unset]) rfl ?_
  refine own_iconst K own_d41_46 (v := (1 : Int32)) rfl ?_
  refine own_iloadN K own_d41_47 rfl ?_
  refine own_ldcI K own_d41_48 (v := (2147483647 : Int32)) (own_w34 hw) ?_
  refine own_iand K own_d41_50 ?_
  refine own_ldcI K own_d41_51 (v := (65535 : Int32)) (own_w35 hw) ?_
  refine own_irem K own_d41_53 (by decide) ?_
  refine own_iadd K own_d41_54 ?_
  refine own_topI (x' := (Int32.ofNat port)) (qm) ?_
  refine own_istore K own_d41_55 (Ls' := #[.val (.int ch), .val (.int ln), .val (.int pp), .val (.int (Int32.ofNat k)), .val (.int c0), .val (.int c1), .val (.int c2), .val (.ref a5), .val (.int (Int32.ofNat port)), .unset, .unset]) rfl ?_
  refine own_new K own_d41_57 (own_w36 hw) (own_w37 hw) (own_w38 hw) H4 (own_EP_F hw) (own_EP_P hw) (by decide) (by decide) ?_
  intro h8 a10 H9
  replace H9 : own_H Z h8 (own_EP a10 .null (.int (0 : Int32)) :: own_ST a5 (.ref y6) (.int (0 : Int32)) :: []) ((y6, .byte, ad, (own_v3 k c0 c1 c2)) :: (z7, .char, "[C", zs) :: []) := H9
  refine own_dup K own_d41_60 rfl ?_
  refine own_aload K own_d41_61 rfl rfl ?_
  refine own_iload K own_d41_63 rfl ?_
  refine own_specialW K (fun _ q => q) own_d41_65 rfl (own_w39 hw) (own_w40 hw) (own_w38 hw) (own_w41 hw) (a := a10) (argsL := [(.ref a5), (.int (Int32.ofNat port))]) (rest := [(.ref a10)]) (own_ei hw hm H9) own_pd30 rfl rfl rfl (by decide) (W := 1) (Nat.le_of_eq rfl) (by decide) (by decide) (by decide) (by decide) ?_
  intro v13 h11 q12
  obtain ⟨rfl, H14⟩ := q12
  replace H14 : own_H Z h11 (own_EP a10 (.ref a5) (.int (Int32.ofNat port)) :: own_ST a5 (.ref y6) (.int (0 : Int32)) :: []) ((y6, .byte, ad, (own_v3 k c0 c1 c2)) :: (z7, .char, "[C", zs) :: []) := H14
  refine own_virtualW K (fun _ q => q) own_d41_68 (own_w60 hw) (own_w61 hw) (own_w63 hw) (own_w62 hw) (own_w38 hw) (own_w64 hw) (H14.atO (i := 0) rfl) (a := a10) (argsL := []) (rest := []) (own_et hw hC hLc hcw hD hk hd hm hd5 H14) own_pd28 rfl rfl rfl (by decide) (W := 0) (Nat.le_of_eq rfl) (by decide) (by decide) (by decide) (by decide) ?_
  intro v17 h15 q16
  obtain ⟨sa, sy, os1, as1, rfl, H18⟩ := q16
  replace H18 : own_H Z h15 (own_ST sa (.ref sy) (.int (0 : Int32)) :: os1) ((sy, .byte, "[B", (own_us k d port c0 c1 c2)) :: as1) := H18
  refine own_astore K own_d41_71 rfl (Ls' := #[.val (.int ch), .val (.int ln), .val (.int pp), .val (.int (Int32.ofNat k)), .val (.int c0), .val (.int c1), .val (.int c2), .val (.ref a5), .val (.int (Int32.ofNat port)), .val (.ref sa), .unset]) rfl ?_
  refine own_join (g1 := mkF m_ 122 #[.val (.int ch), .val (.int ln), .val (.int pp), .val (.int (Int32.ofNat k)), .val (.int c0), .val (.int c1), .val (.int c2), .val (.ref a5), .val (.int (Int32.ofNat port)), .val (.ref sa), .val (.int (Int32.ofNat d))] []) ?_ ?_
  · skip
    refine own_aload K own_d41_122 rfl rfl ?_
    refine own_virtual K own_d41_124 (own_w194 hw) (own_w94 hw) (own_w96 hw) (own_w95 hw) (own_w6 hw) (own_w97 hw) (H18.atO (i := 0) rfl) (a := sa) (argsL := []) (rest := []) (own_lenS hw hC (own_usl hk hd5) (by omega) H18) own_pd15 rfl rfl rfl (by decide) (W := 0) (Nat.le_of_eq rfl) (by decide) (by decide) (by decide) (by decide) ?_
    intro v22 h20 q21
    obtain ⟨rfl, rfl⟩ := q21
    refine own_iloadN K own_d41_127 rfl ?_
    refine own_iconst K own_d41_128 (v := (1 : Int32)) rfl ?_
    refine own_iadd K own_d41_129 ?_
    refine own_topI (x' := (Int32.ofNat (k + 1))) (own_oa (j := 1) (by omega) (by omega)) ?_
    refine own_iload K own_d41_130 rfl ?_
    refine own_iadd K own_d41_132 ?_
    refine own_topI (x' := (Int32.ofNat (k + 1 + d))) (own_oa (by omega) (by omega)) ?_
    refine own_icmpeq K own_d41_133 (fun _ => ?_) (fun q => absurd (rfl) q)
    refine own_join (g1 := mkF m_ 155 #[.val (.int ch), .val (.int ln), .val (.int pp), .val (.int (Int32.ofNat k)), .val (.int c0), .val (.int c1), .val (.int c2), .val (.ref a5), .val (.int (Int32.ofNat port)), .val (.ref sa), .val (.int (Int32.ofNat d))] []) ?_ ?_
    · skip
      refine own_join (g1 := mkF m_ 173 #[.val (.int ch), .val (.int ln), .val (.int pp), .val (.int (Int32.ofNat k)), .val (.int c0), .val (.int c1), .val (.int c2), .val (.ref a5), .val (.int (Int32.ofNat port)), .val (.ref sa), .val (.int (Int32.ofNat d))] []) ?_ ?_
      · skip
        refine own_join (g1 := mkF m_ 191 #[.val (.int ch), .val (.int ln), .val (.int pp), .val (.int (Int32.ofNat k)), .val (.int c0), .val (.int c1), .val (.int c2), .val (.ref a5), .val (.int (Int32.ofNat port)), .val (.ref sa), .val (.int (Int32.ofNat d))] []) ?_ ?_
        · skip
          refine own_aload K own_d41_191 rfl rfl ?_
          refine own_iloadN K own_d41_193 rfl ?_
          refine own_virtual K own_d41_194 (own_w195 hw) (own_w196 hw) (own_w198 hw) (own_w197 hw) (own_w6 hw) (own_w199 hw) (H18.atO (i := 0) rfl) (a := sa) (argsL := [(.int (Int32.ofNat k))]) (rest := []) (own_cat hw hC hF H18 (N := Int32.ofNat (k + 1 + d)) (q := k) (by rw [own_usl hk hd5]; exact own_on (by omega)) (own_on (by omega)) (own_uk hk) (by decide) (by decide)) own_pd31 rfl rfl rfl (by decide) (W := 0) (Nat.le_of_eq rfl) (by decide) (by decide) (by decide) (by decide) ?_
          intro v28 h26 q27
          obtain ⟨rfl, rfl⟩ := q27
          refine own_bipush K own_d41_197 (v := (58 : Int32)) rfl ?_
          refine own_icmpeq K own_d41_199 (fun _ => ?_) (fun q => absurd (rfl) q)
          refine own_join (g1 := mkF m_ 232 #[.val (.int ch), .val (.int ln), .val (.int pp), .val (.int (Int32.ofNat k)), .val (.int c0), .val (.int c1), .val (.int c2), .val (.ref a5), .val (.int (Int32.ofNat port)), .val (.ref sa), .val (.int (Int32.ofNat d))] []) ?_ ?_
          · skip
            refine own_join (g1 := mkF m_ 260 #[.val (.int ch), .val (.int ln), .val (.int pp), .val (.int (Int32.ofNat k)), .val (.int c0), .val (.int c1), .val (.int c2), .val (.ref a5), .val (.int (Int32.ofNat port)), .val (.ref sa), .val (.int (Int32.ofNat d))] []) ?_ ?_
            · skip
              refine own_join (g1 := mkF m_ 288 #[.val (.int ch), .val (.int ln), .val (.int pp), .val (.int (Int32.ofNat k)), .val (.int c0), .val (.int c1), .val (.int c2), .val (.ref a5), .val (.int (Int32.ofNat port)), .val (.ref sa), .val (.int (Int32.ofNat d))] []) ?_ ?_
              · skip
                refine own_join (g1 := mkF m_ 316 #[.val (.int ch), .val (.int ln), .val (.int pp), .val (.int (Int32.ofNat k)), .val (.int c0), .val (.int c1), .val (.int c2), .val (.ref a5), .val (.int (Int32.ofNat port)), .val (.ref sa), .val (.int (Int32.ofNat d))] []) ?_ ?_
                · skip
                  refine own_join (g1 := mkF m_ 344 #[.val (.int ch), .val (.int ln), .val (.int pp), .val (.int (Int32.ofNat k)), .val (.int c0), .val (.int c1), .val (.int c2), .val (.ref a5), .val (.int (Int32.ofNat port)), .val (.ref sa), .val (.int (Int32.ofNat d))] []) ?_ ?_
                  · skip
                    refine own_iconst K own_d41_344 (v := (1 : Int32)) rfl ?_
                    exact own_retZ K (fun _ q => q) (by first | exact Or.inl rfl | exact Or.inr rfl | decide) own_d41_345 (by decide) (by decide) (rfl)
                  · intro J33
                    refine own_iconst K own_d41_316 (v := (4 : Int32)) rfl ?_
                    refine own_iload K own_d41_317 rfl ?_
                    refine own_icmpge K own_d41_319 (fun gd => ?_) (fun gd => ?_)
                    · exact J33
                    · have hdi : 4 < d := by have z0 := own_on (show d ≤ 100000 by omega); have z4 : (4 : Int32).toInt = 4 := rfl; omega
                      refine own_aload K own_d41_322 rfl rfl ?_
                      refine own_iloadN K own_d41_324 rfl ?_
                      refine own_iconst K own_d41_325 (v := (5 : Int32)) rfl ?_
                      refine own_iadd K own_d41_326 ?_
                      refine own_topI (x' := (Int32.ofNat (k + (4 + 1)))) (own_oa (j := 4 + 1) (by omega) (by omega)) ?_
                      refine own_virtual K own_d41_327 (own_w195 hw) (own_w196 hw) (own_w198 hw) (own_w197 hw) (own_w6 hw) (own_w199 hw) (H18.atO (i := 0) rfl) (a := sa) (argsL := [(.int (Int32.ofNat (k + (4 + 1))))]) (rest := []) (own_cat hw hC hF H18 (N := Int32.ofNat (k + 1 + d)) (q := (k + (4 + 1))) (by rw [own_usl hk hd5]; exact own_on (by omega)) (own_on (by omega)) (own_ud hk hdi) (own_dgb _ _).1 (own_dgb _ _).2) own_pd31 rfl rfl rfl (by decide) (W := 0) (Nat.le_of_eq rfl) (by decide) (by decide) (by decide) (by decide) ?_
                      intro v36 h34 q35
                      obtain ⟨rfl, rfl⟩ := q35
                      refine own_iload K own_d41_330 rfl ?_
                      refine own_iload K own_d41_332 rfl ?_
                      refine own_iconst K own_d41_334 (v := (5 : Int32)) rfl ?_
                      refine own_isub K own_d41_335 ?_
                      refine own_topI (x' := (Int32.ofNat (d - (4 + 1)))) (own_os (j := 4 + 1) (by omega) (by omega)) ?_
                      refine own_static K own_d41_336 (own_w217 hw) (own_w218 hw) (own_w2 hw) (own_w219 hw) (argsL := [(.int (Int32.ofNat port)), (.int (Int32.ofNat (d - (4 + 1))))]) (rest := [(.int (own_dg port (d - (4 + 1))))]) (own_dgt hw (by omega) (by omega)) own_pd32 rfl rfl rfl (by decide) (W := 1) (Nat.le_of_eq rfl) (by decide) (by decide) (by decide) (by decide) ?_
                      intro v39 h37 q38
                      obtain ⟨rfl, rfl⟩ := q38
                      refine own_icmpeq K own_d41_339 (fun _ => ?_) (fun q => absurd (rfl) q)
                      exact J33
                · intro J32
                  refine own_iconst K own_d41_288 (v := (3 : Int32)) rfl ?_
                  refine own_iload K own_d41_289 rfl ?_
                  refine own_icmpge K own_d41_291 (fun gd => ?_) (fun gd => ?_)
                  · exact J32
                  · have hdi : 3 < d := by have z0 := own_on (show d ≤ 100000 by omega); have z3 : (3 : Int32).toInt = 3 := rfl; omega
                    refine own_aload K own_d41_294 rfl rfl ?_
                    refine own_iloadN K own_d41_296 rfl ?_
                    refine own_iconst K own_d41_297 (v := (4 : Int32)) rfl ?_
                    refine own_iadd K own_d41_298 ?_
                    refine own_topI (x' := (Int32.ofNat (k + (3 + 1)))) (own_oa (j := 3 + 1) (by omega) (by omega)) ?_
                    refine own_virtual K own_d41_299 (own_w195 hw) (own_w196 hw) (own_w198 hw) (own_w197 hw) (own_w6 hw) (own_w199 hw) (H18.atO (i := 0) rfl) (a := sa) (argsL := [(.int (Int32.ofNat (k + (3 + 1))))]) (rest := []) (own_cat hw hC hF H18 (N := Int32.ofNat (k + 1 + d)) (q := (k + (3 + 1))) (by rw [own_usl hk hd5]; exact own_on (by omega)) (own_on (by omega)) (own_ud hk hdi) (own_dgb _ _).1 (own_dgb _ _).2) own_pd31 rfl rfl rfl (by decide) (W := 0) (Nat.le_of_eq rfl) (by decide) (by decide) (by decide) (by decide) ?_
                    intro v42 h40 q41
                    obtain ⟨rfl, rfl⟩ := q41
                    refine own_iload K own_d41_302 rfl ?_
                    refine own_iload K own_d41_304 rfl ?_
                    refine own_iconst K own_d41_306 (v := (4 : Int32)) rfl ?_
                    refine own_isub K own_d41_307 ?_
                    refine own_topI (x' := (Int32.ofNat (d - (3 + 1)))) (own_os (j := 3 + 1) (by omega) (by omega)) ?_
                    refine own_static K own_d41_308 (own_w217 hw) (own_w218 hw) (own_w2 hw) (own_w219 hw) (argsL := [(.int (Int32.ofNat port)), (.int (Int32.ofNat (d - (3 + 1))))]) (rest := [(.int (own_dg port (d - (3 + 1))))]) (own_dgt hw (by omega) (by omega)) own_pd32 rfl rfl rfl (by decide) (W := 1) (Nat.le_of_eq rfl) (by decide) (by decide) (by decide) (by decide) ?_
                    intro v45 h43 q44
                    obtain ⟨rfl, rfl⟩ := q44
                    refine own_icmpeq K own_d41_311 (fun _ => ?_) (fun q => absurd (rfl) q)
                    exact J32
              · intro J31
                refine own_iconst K own_d41_260 (v := (2 : Int32)) rfl ?_
                refine own_iload K own_d41_261 rfl ?_
                refine own_icmpge K own_d41_263 (fun gd => ?_) (fun gd => ?_)
                · exact J31
                · have hdi : 2 < d := by have z0 := own_on (show d ≤ 100000 by omega); have z2 : (2 : Int32).toInt = 2 := rfl; omega
                  refine own_aload K own_d41_266 rfl rfl ?_
                  refine own_iloadN K own_d41_268 rfl ?_
                  refine own_iconst K own_d41_269 (v := (3 : Int32)) rfl ?_
                  refine own_iadd K own_d41_270 ?_
                  refine own_topI (x' := (Int32.ofNat (k + (2 + 1)))) (own_oa (j := 2 + 1) (by omega) (by omega)) ?_
                  refine own_virtual K own_d41_271 (own_w195 hw) (own_w196 hw) (own_w198 hw) (own_w197 hw) (own_w6 hw) (own_w199 hw) (H18.atO (i := 0) rfl) (a := sa) (argsL := [(.int (Int32.ofNat (k + (2 + 1))))]) (rest := []) (own_cat hw hC hF H18 (N := Int32.ofNat (k + 1 + d)) (q := (k + (2 + 1))) (by rw [own_usl hk hd5]; exact own_on (by omega)) (own_on (by omega)) (own_ud hk hdi) (own_dgb _ _).1 (own_dgb _ _).2) own_pd31 rfl rfl rfl (by decide) (W := 0) (Nat.le_of_eq rfl) (by decide) (by decide) (by decide) (by decide) ?_
                  intro v48 h46 q47
                  obtain ⟨rfl, rfl⟩ := q47
                  refine own_iload K own_d41_274 rfl ?_
                  refine own_iload K own_d41_276 rfl ?_
                  refine own_iconst K own_d41_278 (v := (3 : Int32)) rfl ?_
                  refine own_isub K own_d41_279 ?_
                  refine own_topI (x' := (Int32.ofNat (d - (2 + 1)))) (own_os (j := 2 + 1) (by omega) (by omega)) ?_
                  refine own_static K own_d41_280 (own_w217 hw) (own_w218 hw) (own_w2 hw) (own_w219 hw) (argsL := [(.int (Int32.ofNat port)), (.int (Int32.ofNat (d - (2 + 1))))]) (rest := [(.int (own_dg port (d - (2 + 1))))]) (own_dgt hw (by omega) (by omega)) own_pd32 rfl rfl rfl (by decide) (W := 1) (Nat.le_of_eq rfl) (by decide) (by decide) (by decide) (by decide) ?_
                  intro v51 h49 q50
                  obtain ⟨rfl, rfl⟩ := q50
                  refine own_icmpeq K own_d41_283 (fun _ => ?_) (fun q => absurd (rfl) q)
                  exact J31
            · intro J30
              refine own_iconst K own_d41_232 (v := (1 : Int32)) rfl ?_
              refine own_iload K own_d41_233 rfl ?_
              refine own_icmpge K own_d41_235 (fun gd => ?_) (fun gd => ?_)
              · exact J30
              · have hdi : 1 < d := by have z0 := own_on (show d ≤ 100000 by omega); have z1 : (1 : Int32).toInt = 1 := rfl; omega
                refine own_aload K own_d41_238 rfl rfl ?_
                refine own_iloadN K own_d41_240 rfl ?_
                refine own_iconst K own_d41_241 (v := (2 : Int32)) rfl ?_
                refine own_iadd K own_d41_242 ?_
                refine own_topI (x' := (Int32.ofNat (k + (1 + 1)))) (own_oa (j := 1 + 1) (by omega) (by omega)) ?_
                refine own_virtual K own_d41_243 (own_w195 hw) (own_w196 hw) (own_w198 hw) (own_w197 hw) (own_w6 hw) (own_w199 hw) (H18.atO (i := 0) rfl) (a := sa) (argsL := [(.int (Int32.ofNat (k + (1 + 1))))]) (rest := []) (own_cat hw hC hF H18 (N := Int32.ofNat (k + 1 + d)) (q := (k + (1 + 1))) (by rw [own_usl hk hd5]; exact own_on (by omega)) (own_on (by omega)) (own_ud hk hdi) (own_dgb _ _).1 (own_dgb _ _).2) own_pd31 rfl rfl rfl (by decide) (W := 0) (Nat.le_of_eq rfl) (by decide) (by decide) (by decide) (by decide) ?_
                intro v54 h52 q53
                obtain ⟨rfl, rfl⟩ := q53
                refine own_iload K own_d41_246 rfl ?_
                refine own_iload K own_d41_248 rfl ?_
                refine own_iconst K own_d41_250 (v := (2 : Int32)) rfl ?_
                refine own_isub K own_d41_251 ?_
                refine own_topI (x' := (Int32.ofNat (d - (1 + 1)))) (own_os (j := 1 + 1) (by omega) (by omega)) ?_
                refine own_static K own_d41_252 (own_w217 hw) (own_w218 hw) (own_w2 hw) (own_w219 hw) (argsL := [(.int (Int32.ofNat port)), (.int (Int32.ofNat (d - (1 + 1))))]) (rest := [(.int (own_dg port (d - (1 + 1))))]) (own_dgt hw (by omega) (by omega)) own_pd32 rfl rfl rfl (by decide) (W := 1) (Nat.le_of_eq rfl) (by decide) (by decide) (by decide) (by decide) ?_
                intro v57 h55 q56
                obtain ⟨rfl, rfl⟩ := q56
                refine own_icmpeq K own_d41_255 (fun _ => ?_) (fun q => absurd (rfl) q)
                exact J30
          · intro J29
            refine own_iconst K own_d41_204 (v := (0 : Int32)) rfl ?_
            refine own_iload K own_d41_205 rfl ?_
            refine own_icmpge K own_d41_207 (fun gd => ?_) (fun gd => ?_)
            · exact J29
            · have hdi : 0 < d := by have z0 := own_on (show d ≤ 100000 by omega); have z0 : (0 : Int32).toInt = 0 := rfl; omega
              refine own_aload K own_d41_210 rfl rfl ?_
              refine own_iloadN K own_d41_212 rfl ?_
              refine own_iconst K own_d41_213 (v := (1 : Int32)) rfl ?_
              refine own_iadd K own_d41_214 ?_
              refine own_topI (x' := (Int32.ofNat (k + (0 + 1)))) (own_oa (j := 0 + 1) (by omega) (by omega)) ?_
              refine own_virtual K own_d41_215 (own_w195 hw) (own_w196 hw) (own_w198 hw) (own_w197 hw) (own_w6 hw) (own_w199 hw) (H18.atO (i := 0) rfl) (a := sa) (argsL := [(.int (Int32.ofNat (k + (0 + 1))))]) (rest := []) (own_cat hw hC hF H18 (N := Int32.ofNat (k + 1 + d)) (q := (k + (0 + 1))) (by rw [own_usl hk hd5]; exact own_on (by omega)) (own_on (by omega)) (own_ud hk hdi) (own_dgb _ _).1 (own_dgb _ _).2) own_pd31 rfl rfl rfl (by decide) (W := 0) (Nat.le_of_eq rfl) (by decide) (by decide) (by decide) (by decide) ?_
              intro v60 h58 q59
              obtain ⟨rfl, rfl⟩ := q59
              refine own_iload K own_d41_218 rfl ?_
              refine own_iload K own_d41_220 rfl ?_
              refine own_iconst K own_d41_222 (v := (1 : Int32)) rfl ?_
              refine own_isub K own_d41_223 ?_
              refine own_topI (x' := (Int32.ofNat (d - (0 + 1)))) (own_os (j := 0 + 1) (by omega) (by omega)) ?_
              refine own_static K own_d41_224 (own_w217 hw) (own_w218 hw) (own_w2 hw) (own_w219 hw) (argsL := [(.int (Int32.ofNat port)), (.int (Int32.ofNat (d - (0 + 1))))]) (rest := [(.int (own_dg port (d - (0 + 1))))]) (own_dgt hw (by omega) (by omega)) own_pd32 rfl rfl rfl (by decide) (W := 1) (Nat.le_of_eq rfl) (by decide) (by decide) (by decide) (by decide) ?_
              intro v63 h61 q62
              obtain ⟨rfl, rfl⟩ := q62
              refine own_icmpeq K own_d41_227 (fun _ => ?_) (fun q => absurd (rfl) q)
              exact J29
        · intro J25
          refine own_iloadN K own_d41_173 rfl ?_
          refine own_iconst K own_d41_174 (v := (2 : Int32)) rfl ?_
          refine own_icmple K own_d41_175 (fun gk => ?_) (fun gk => ?_)
          · exact J25
          · have hki : 2 < k := by have z0 := own_on (show k ≤ 100000 by omega); have z2 : (2 : Int32).toInt = 2 := rfl; omega
            refine own_aload K own_d41_178 rfl rfl ?_
            refine own_iconst K own_d41_180 (v := (2 : Int32)) rfl ?_
            refine own_virtual K own_d41_181 (own_w195 hw) (own_w196 hw) (own_w198 hw) (own_w197 hw) (own_w6 hw) (own_w199 hw) (H18.atO (i := 0) rfl) (a := sa) (argsL := [(.int (2 : Int32))]) (rest := []) (own_cat hw hC hF H18 (N := Int32.ofNat (k + 1 + d)) (q := 2) (by rw [own_usl hk hd5]; exact own_on (by omega)) (by decide) (own_u2 hk hki) l2 u2) own_pd31 rfl rfl rfl (by decide) (W := 0) (Nat.le_of_eq rfl) (by decide) (by decide) (by decide) (by decide) ?_
            intro v66 h64 q65
            obtain ⟨rfl, rfl⟩ := q65
            refine own_iload K own_d41_184 rfl ?_
            refine own_icmpeq K own_d41_186 (fun _ => ?_) (fun q => absurd (rfl) q)
            exact J25
      · intro J24
        refine own_iloadN K own_d41_155 rfl ?_
        refine own_iconst K own_d41_156 (v := (1 : Int32)) rfl ?_
        refine own_icmple K own_d41_157 (fun gk => ?_) (fun gk => ?_)
        · exact J24
        · have hki : 1 < k := by have z0 := own_on (show k ≤ 100000 by omega); have z1 : (1 : Int32).toInt = 1 := rfl; omega
          refine own_aload K own_d41_160 rfl rfl ?_
          refine own_iconst K own_d41_162 (v := (1 : Int32)) rfl ?_
          refine own_virtual K own_d41_163 (own_w195 hw) (own_w196 hw) (own_w198 hw) (own_w197 hw) (own_w6 hw) (own_w199 hw) (H18.atO (i := 0) rfl) (a := sa) (argsL := [(.int (1 : Int32))]) (rest := []) (own_cat hw hC hF H18 (N := Int32.ofNat (k + 1 + d)) (q := 1) (by rw [own_usl hk hd5]; exact own_on (by omega)) (by decide) (own_u1 hk hki) l1 u1) own_pd31 rfl rfl rfl (by decide) (W := 0) (Nat.le_of_eq rfl) (by decide) (by decide) (by decide) (by decide) ?_
          intro v69 h67 q68
          obtain ⟨rfl, rfl⟩ := q68
          refine own_iload K own_d41_166 rfl ?_
          refine own_icmpeq K own_d41_168 (fun _ => ?_) (fun q => absurd (rfl) q)
          exact J24
    · intro J23
      refine own_iloadN K own_d41_138 rfl ?_
      refine own_ifle K own_d41_139 (fun gk => ?_) (fun gk => ?_)
      · exact J23
      · have hki : 0 < k := by have z0 := own_on (show k ≤ 100000 by omega); omega
        refine own_aload K own_d41_142 rfl rfl ?_
        refine own_iconst K own_d41_144 (v := (0 : Int32)) rfl ?_
        refine own_virtual K own_d41_145 (own_w195 hw) (own_w196 hw) (own_w198 hw) (own_w197 hw) (own_w6 hw) (own_w199 hw) (H18.atO (i := 0) rfl) (a := sa) (argsL := [(.int (0 : Int32))]) (rest := []) (own_cat hw hC hF H18 (N := Int32.ofNat (k + 1 + d)) (q := 0) (by rw [own_usl hk hd5]; exact own_on (by omega)) (by decide) (own_u0 hk hki) l0 u0) own_pd31 rfl rfl rfl (by decide) (W := 0) (Nat.le_of_eq rfl) (by decide) (by decide) (by decide) (by decide) ?_
        intro v72 h70 q71
        obtain ⟨rfl, rfl⟩ := q71
        refine own_iload K own_d41_148 rfl ?_
        refine own_icmpeq K own_d41_150 (fun _ => ?_) (fun q => absurd (rfl) q)
        exact J23
  · intro J19
    refine own_iload K own_d41_73 rfl ?_
    refine own_sipush K own_d41_75 (v := (10000 : Int32)) rfl ?_
    refine own_icmplt K own_d41_78 (fun g78 => ?_) (fun g78 => ?_)
    · refine own_iload K own_d41_85 rfl ?_
      refine own_sipush K own_d41_87 (v := (1000 : Int32)) rfl ?_
      refine own_icmplt K own_d41_90 (fun g90 => ?_) (fun g90 => ?_)
      · refine own_iload K own_d41_97 rfl ?_
        refine own_bipush K own_d41_99 (v := (100 : Int32)) rfl ?_
        refine own_icmplt K own_d41_101 (fun g101 => ?_) (fun g101 => ?_)
        · refine own_iload K own_d41_108 rfl ?_
          refine own_bipush K own_d41_110 (v := (10 : Int32)) rfl ?_
          refine own_icmplt K own_d41_112 (fun g112 => ?_) (fun g112 => ?_)
          · refine own_iconst K own_d41_119 (v := (1 : Int32)) rfl ?_
            refine own_istore K own_d41_120 (Ls' := #[.val (.int ch), .val (.int ln), .val (.int pp), .val (.int (Int32.ofNat k)), .val (.int c0), .val (.int c1), .val (.int c2), .val (.ref a5), .val (.int (Int32.ofNat port)), .val (.ref sa), .val (.int (1 : Int32))]) rfl ?_
            have hdd : d = 1 := by have z0 := own_on (show port ≤ 100000 by omega); have z10000 : (10000 : Int32).toInt = 10000 := rfl; have z1000 : (1000 : Int32).toInt = 1000 := rfl; have z100 : (100 : Int32).toInt = 100 := rfl; have z10 : (10 : Int32).toInt = 10 := rfl; rcases own_DDl hd with z | z | z | z | z <;> omega
            exact own_cast (by rw [hdd]; rfl) J19
          · refine own_iconst K own_d41_115 (v := (2 : Int32)) rfl ?_
            refine own_goto K own_d41_116 ?_
            refine own_istore K own_d41_120 (Ls' := #[.val (.int ch), .val (.int ln), .val (.int pp), .val (.int (Int32.ofNat k)), .val (.int c0), .val (.int c1), .val (.int c2), .val (.ref a5), .val (.int (Int32.ofNat port)), .val (.ref sa), .val (.int (2 : Int32))]) rfl ?_
            have hdd : d = 2 := by have z0 := own_on (show port ≤ 100000 by omega); have z10000 : (10000 : Int32).toInt = 10000 := rfl; have z1000 : (1000 : Int32).toInt = 1000 := rfl; have z100 : (100 : Int32).toInt = 100 := rfl; have z10 : (10 : Int32).toInt = 10 := rfl; rcases own_DDl hd with z | z | z | z | z <;> omega
            exact own_cast (by rw [hdd]; rfl) J19
        · refine own_iconst K own_d41_104 (v := (3 : Int32)) rfl ?_
          refine own_goto K own_d41_105 ?_
          refine own_istore K own_d41_120 (Ls' := #[.val (.int ch), .val (.int ln), .val (.int pp), .val (.int (Int32.ofNat k)), .val (.int c0), .val (.int c1), .val (.int c2), .val (.ref a5), .val (.int (Int32.ofNat port)), .val (.ref sa), .val (.int (3 : Int32))]) rfl ?_
          have hdd : d = 3 := by have z0 := own_on (show port ≤ 100000 by omega); have z10000 : (10000 : Int32).toInt = 10000 := rfl; have z1000 : (1000 : Int32).toInt = 1000 := rfl; have z100 : (100 : Int32).toInt = 100 := rfl; have z10 : (10 : Int32).toInt = 10 := rfl; rcases own_DDl hd with z | z | z | z | z <;> omega
          exact own_cast (by rw [hdd]; rfl) J19
      · refine own_iconst K own_d41_93 (v := (4 : Int32)) rfl ?_
        refine own_goto K own_d41_94 ?_
        refine own_istore K own_d41_120 (Ls' := #[.val (.int ch), .val (.int ln), .val (.int pp), .val (.int (Int32.ofNat k)), .val (.int c0), .val (.int c1), .val (.int c2), .val (.ref a5), .val (.int (Int32.ofNat port)), .val (.ref sa), .val (.int (4 : Int32))]) rfl ?_
        have hdd : d = 4 := by have z0 := own_on (show port ≤ 100000 by omega); have z10000 : (10000 : Int32).toInt = 10000 := rfl; have z1000 : (1000 : Int32).toInt = 1000 := rfl; have z100 : (100 : Int32).toInt = 100 := rfl; have z10 : (10 : Int32).toInt = 10 := rfl; rcases own_DDl hd with z | z | z | z | z <;> omega
        exact own_cast (by rw [hdd]; rfl) J19
    · refine own_iconst K own_d41_81 (v := (5 : Int32)) rfl ?_
      refine own_goto K own_d41_82 ?_
      refine own_istore K own_d41_120 (Ls' := #[.val (.int ch), .val (.int ln), .val (.int pp), .val (.int (Int32.ofNat k)), .val (.int c0), .val (.int c1), .val (.int c2), .val (.ref a5), .val (.int (Int32.ofNat port)), .val (.ref sa), .val (.int (5 : Int32))]) rfl ?_
      have hdd : d = 5 := by have z0 := own_on (show port ≤ 100000 by omega); have z10000 : (10000 : Int32).toInt = 10000 := rfl; have z1000 : (1000 : Int32).toInt = 1000 := rfl; have z100 : (100 : Int32).toInt = 100 := rfl; have z10 : (10 : Int32).toInt = 10 := rfl; rcases own_DDl hd with z | z | z | z | z <;> omega
      exact own_cast (by rw [hdd]; rfl) J19
theorem own_digof {Z : State} {a0 : Array Value} {nm : String} {f : Nat → Nat} {t tm : Term} (ht : t = .static "java/lang/Integer" nm "[B") (hf : ∀ i, i < 100 → f i < 1000) (h0 : (Cond.initializedFor "java/lang/Integer" nm "[B").before a0 Z = true) (h1 : (Cond.exactly t "[B").before a0 Z = true) (h2 : (Cond.eq (.length t) (.int 100)).before a0 Z = true) (wa : (Cond.arrayClass .byte).before a0 Z = true)
    (h3 : (Cond.all t (Cond.eq (.elem t (.index 0)) tm)).before a0 Z = true) (htm : ∀ i : Nat, i < 100 → tm.eval a0 Z none [i] Z = some (.int (Int32.ofNat (48 + f i)))) :
    ∃ (o : Addr) (cl : Cell), Sta Z Z.heap "java/lang/Integer" nm "[B" (.ref o) ∧ Arr Z Z.heap o cl .byte ∧ ∀ i : Nat, i < 100 → cl.slots[i]? = some (.int (Int32.ofNat (48 + f i))) := by
  obtain ⟨o, e2⟩ := exa_v (Cond.before_iff.mp h1)
  have S2 : Sta Z Z.heap "java/lang/Integer" nm "[B" (.ref o) := Sta.start (by rw [← ht]; exact e2) (Or.inl h0)
  have E2 : Exa Z Z.heap o "[B" := Exa.start e2 (Cond.before_iff.mp h1)
  obtain ⟨cl, k, q1, q2, q3, q4, -⟩ := E2
  obtain ⟨c4, k4, comp, f1, f2, f3⟩ := Cond.arrayClass_spec wa
  obtain rfl : cl.cls = c4 := Option.some.inj (q2.symm.trans f1)
  obtain ⟨sd, SA, hev, harrAt, -⟩ := Term.length_spec (Cond.eq_int h2 rfl)
  cases hev.symm.trans e2
  have hcell : Z.heap[o]? = some SA ∧ SA.vm ≠ .unknown := by
    simp only [State.arrayAt?, Option.bind_eq_bind] at harrAt
    cases q : Z.heap[o]? with
    | none => simp [q] at harrAt
    | some x => simp only [q, Option.bind_some] at harrAt; grind
  cases hcell.1.symm.trans q1
  have hA : Z.isArrayOf cl .byte := ⟨(fun q r => by rw [r] at q4; cases q4), k4, f2, comp, f3⟩
  have h31 := SBG.length_lt hev harrAt (Cond.eq_int h2 rfl)
  have hsz : cl.slots.size = 100 := by
    have e : (Term.length t).eval a0 Z none [] Z = some (.int (Int32.ofNat cl.slots.size)) := by simp [Term.eval, hev, harrAt, h31]
    have h2' : Int32.ofNat cl.slots.size = 100 := by simpa using Option.some.inj (e.symm.trans (Cond.eq_int h2 rfl))
    have := congrArg Int32.toInt h2'
    rw [Int32.toInt_ofNat_small h31] at this
    have e1 : (100 : Int32).toInt = 100 := rfl
    omega
  refine ⟨o, cl, S2, ⟨hcell.1, hA, hcell.2⟩, fun i hi => ?_⟩
  have h4 := Cond.all_elim hev harrAt (Cond.before_iff.mp h3) i (by omega)
  have e5 : (Term.elem t (.index 0)).eval a0 Z none [i] Z = some (.int (Int32.ofNat (48 + f i))) := by
    simp only [Cond.value] at h4
    rw [htm i hi] at h4
    generalize (Term.elem t (.index 0)).eval a0 Z none [i] Z = o' at h4 ⊢
    cases o' with
    | none => simp at h4
    | some x => cases x <;> simp at h4 ⊢; exact h4
  have hs : t.eval a0 Z none [i] Z = some (.ref o) := by rw [ht] at e2 ⊢; simpa only [Term.eval] using e2
  have hix : (Term.index 0).eval a0 Z none [i] Z = some (.int (Int32.ofNat i)) := by
    have z : ¬ (Int32.ofNat i) < 0 := by rw [Int32.lt_iff_toInt_lt, own_on (by omega)]; show ¬ ((i : Int) < 0); omega
    have z2 : (Int32.ofNat i).toNatClampNeg = i := by simp only [Int32.toNatClampNeg, own_on (show i ≤ 100000 by omega)]; rfl
    have := idx_at (args := a0) (first := Z) (o := none) (s := Z) z
    rw [z2] at this; exact this
  have q := (elem_in e5 hs hix hcell.1).2
  have z2 : (Int32.ofNat i).toNatClampNeg = i := by simp only [Int32.toNatClampNeg, own_on (show i ≤ 100000 by omega)]; rfl
  rw [z2] at q; exact q
theorem own_stof {Z : State} {a0 : Array Value} (hw : own_Z Z a0) (hs : ∀ d ∈ jdkStatics_1, d.before a0 Z = true) : (∃ cs : Int32, cs ≠ 0 ∧ Sta Z Z.heap "java/lang/String" "COMPACT_STRINGS" "Z" (.int cs)) ∧ Jvm.Lit.compactW.before a0 Z = true ∧ (Sta Z Z.heap "jdk/internal/util/Preconditions" "SIOOBE_FORMATTER" "Ljava/util/function/BiFunction;" .null ∨ ∃ fa, Sta Z Z.heap "jdk/internal/util/Preconditions" "SIOOBE_FORMATTER" "Ljava/util/function/BiFunction;" (.ref fa)) ∧ ∃ o1 o2 cl1 cl2, own_Dg Z o1 o2 cl1 cl2 := by
  have n2 := not_v (Cond.before_iff.mp (hs _ (List.mem_of_getElem? (i := 2) rfl)))
  obtain ⟨cs, e1⟩ := is_v (Cond.before_iff.mp (hs _ (List.mem_of_getElem? (i := 1) rfl)))
  have S1 : Sta Z Z.heap "java/lang/String" "COMPACT_STRINGS" "Z" (.int cs) := Sta.start e1 (Or.inl (hs _ (List.mem_of_getElem? (i := 0) rfl)))
  have c1 : ¬ (cs = (0 : Int32)) := gotF (Cond.eq_ints e1 (Term.int_eval (0))) n2
  obtain ⟨v, e3, hv⟩ := isR_v (Cond.before_iff.mp (hs _ (List.mem_of_getElem? (i := 8) rfl)))
  have S3 : Sta Z Z.heap "jdk/internal/util/Preconditions" "SIOOBE_FORMATTER" "Ljava/util/function/BiFunction;" v := Sta.start e3 (Or.inl (hs _ (List.mem_of_getElem? (i := 7) rfl)))
  have ix : ∀ i : Nat, i < 100 → (Term.index 0).eval a0 Z none [i] Z = some (.int (Int32.ofNat i)) := fun i hi => by
    have z : ¬ (Int32.ofNat i) < 0 := by rw [Int32.lt_iff_toInt_lt, own_on (by omega)]; show ¬ ((i : Int) < 0); omega
    have z2 : (Int32.ofNat i).toNatClampNeg = i := by simp only [Int32.toNatClampNeg, own_on (show i ≤ 100000 by omega)]; rfl
    have := idx_at (args := a0) (first := Z) (o := none) (s := Z) z
    rw [z2] at this; exact this
  have tab1 : ∀ i : Fin 100, (48 : Int32) + Int32.ofNat i.val % (10 : Int32) = Int32.ofNat (48 + i.val % 10) := by decide +kernel
  have tab2 : ∀ i : Fin 100, (48 : Int32) + Int32.ofNat i.val / (10 : Int32) = Int32.ofNat (48 + i.val / 10) := by decide +kernel
  obtain ⟨o1, cl1, D1⟩ := own_digof (f := fun i => i % 10) rfl (fun i _ => by show i % 10 < 1000; omega) (hs _ (List.mem_of_getElem? (i := 11) rfl)) (hs _ (List.mem_of_getElem? (i := 12) rfl)) (hs _ (List.mem_of_getElem? (i := 13) rfl)) (own_w23 hw) (hs _ (List.mem_of_getElem? (i := 14) rfl)) (fun i hi => by
    have := tab1 ⟨i, hi⟩
    simp [Term.eval, ix i hi, Term.rem_eval, this])
  obtain ⟨o2, cl2, D2⟩ := own_digof (f := fun i => i / 10) rfl (fun i _ => by show i / 10 < 1000; omega) (hs _ (List.mem_of_getElem? (i := 16) rfl)) (hs _ (List.mem_of_getElem? (i := 17) rfl)) (hs _ (List.mem_of_getElem? (i := 18) rfl)) (own_w23 hw) (hs _ (List.mem_of_getElem? (i := 19) rfl)) (fun i hi => by
    have := tab2 ⟨i, hi⟩
    simp [Term.eval, ix i hi, this])
  refine ⟨⟨cs, c1, S1⟩, hs _ (List.mem_of_getElem? (i := 2) rfl), ?_, o1, o2, cl1, cl2, D1, D2⟩
  rcases ref_cases hv with rfl | ⟨fa, rfl⟩
  · exact Or.inl S3
  · exact Or.inr ⟨fa, S3⟩
set_option maxRecDepth 65536 in
set_option maxHeartbeats 40000000 in
theorem comes_1 {Post : Tables → Env → Array Value → State → Outcome → State → Prop} (hpost : ∀ tb e args s v u, (limb_1_1.after args s (.returned v) u = true ∧ limb_1_2.after args s (.returned v) u = true ∧ True) → ReturnedEndW s (.returned v) u (Jvm.fieldLocs frame_1_writes args s ++ Jvm.arrayLocs frame_1_arrays args s ++ Jvm.staticLocs frame_1_statics s) 32 3264 → Post tb e args s (.returned v) u) :
    ArmFor flags0 classFile x code maxLocals ret World_1 tables_1 room_1 Calls_1 rest_1 Pre_1 Post := by
  intro l hfl _ _ p e ha hc hk s m args below hf hA hF happ hP
  obtain ⟨hcalls, hrest, hpre⟩ := hP
  obtain ⟨-, -, -, hnamed, -, -, -, hat⟩ := (Spec.applies_iff hf).mp happ
  obtain ⟨hg, hn⟩ := and_e (Cond.before_iff.mp (show (Jvm.Cond.and given_1 narrow_1).before args s = true from hpre))
  obtain ⟨h1, hq0⟩ := and_e hg
  obtain ⟨hi0, hq1⟩ := and_e hq0
  obtain ⟨hi1, hq2⟩ := and_e hq1
  have hi2 := hq2
  obtain ⟨w0, w1, w2, rfl⟩ : ∃ w0 w1 w2 : Value, args = #[w0, w1, w2] := by
    have hs : args.size = 3 := by simpa [Cond.value, given_1] using h1
    obtain ⟨L⟩ := args
    match L, hs with
    | [w0, w1, w2], _ => exact ⟨w0, w1, w2, rfl⟩
  have hw : own_Z s #[w0, w1, w2] := fun d (hd : d ∈ tables_1) => atoms_spec (ws := Jvm.Cond.code x code maxLocals ret :: tables_1) hat d (List.mem_cons_of_mem _ hd)
  obtain ⟨i0, e0⟩ := is_v hi0
  obtain rfl : w0 = (.int i0) := Option.some.inj e0
  obtain ⟨i1, e1⟩ := is_v hi1
  obtain rfl : w1 = (.int i1) := Option.some.inj e1
  obtain ⟨i2, e2⟩ := is_v hi2
  obtain rfl : w2 = (.int i2) := Option.some.inj e2
  obtain ⟨hsets, -⟩ := atoms_of _ (rest_1_c_eq ▸ (show rest_1_c.before _ s = true from hrest))
  obtain ⟨⟨cs, hC⟩, hcw, hF, o1, o2, cl1, cl2, hD⟩ := own_stof hw hsets
  have hL : Jvm.Lit.constHeld s "java/lang/String" 7 := hcalls.1 ("java/lang/String", 7) (List.mem_of_getElem? (i := 2) rfl)
  have hLc : Jvm.Lit.constHeld s "com/example/farcall/farcall/Endpoint" 46 := hcalls.1 ("com/example/farcall/farcall/Endpoint", 46) (List.mem_of_getElem? (i := 1) rfl)
  obtain ⟨n, o, h1, h2, h3, v, L, rfl, ⟨rfl, N, -⟩, hq⟩ := own_law hw hC hF hL hcw hLc hD p e ha hc hk s m _ below hf ((Spec.applies_iff_loose hf).mp happ).1 ⟨rfl, State.Warmed39.refl s, rfl, IB.start⟩ trivial
  refine ⟨n, _, h1, h2, h3, hpost _ _ _ _ _ _ ⟨Cond.after_iff.mpr rfl, Cond.after_iff.mpr (eq_i res_at (Term.int_eval (1)) rfl), trivial⟩ ⟨hq.1, hq.2.1, hq.2.2.1, (hq.2.2.2.sift fun y hy => Or.inr (N y hy)).mono (by decide) (by decide)⟩⟩
theorem main_1_1 : Claimed_1_1 := comes_1 fun _ _ _ _ _ _ h hF => ⟨h.1, hF⟩
theorem main_1_2 : Claimed_1_2 := comes_1 fun _ _ _ _ _ _ h hF => ⟨h.2.1, hF⟩
end Jvm.Pilot.@@N@@
namespace Jvm.Pilot.@@N@@
open Jvm Jvm.ClassFile Sem Op Lib Jvm.Free Jvm.Stand Jvm.Pilot.@@N@@.Jvm.D
/-! MADE BY PROGRAM (witnessworld.py) out of the Statement's table words and the real class files: 30 classes; the members and pool entries that the words name. The judged class is class 1, her method 1. -/
namespace start1
open Jvm.ClassFile
def u (s : String) : CpInfo := .utf8 (stringToUtf16 s)
/-- a pool by its gaps: so many unusable entries, then the entry; so many at the end -/
def gap : Nat → List CpInfo → List CpInfo
  | 0, r => r
  | n + 1, r => .unusable :: gap n r
def poolList (es : List (Nat × CpInfo)) (last : Nat) : List CpInfo := es.foldr (fun e r => gap e.1 (e.2 :: r)) (gap last [])
def pool (es : List (Nat × CpInfo)) (last : Nat) : Array CpInfo := ⟨poolList es last⟩
def fileOf (pool : Array CpInfo) (this : Nat) (attrs : Array Attribute := #[]) (ms : Array MethodInfo := #[]) (fl : Nat := 33) (sup : Nat := 0) (ifs : Array Nat := #[]) (fds : Array FieldInfo := #[]) : ClassFile where
  minorVersion := 0
  majorVersion := 65
  constantPool := pool
  accessFlags := fl
  thisClass := this
  superClass := sup
  interfaces := ifs
  fields := fds
  methods := ms
  attributes := attrs
def plain (name : String) (sup : Option ClassId) : Class where
  name := name
  kind := .ordinary
  loader := none
  accessFlags := 33
  super := sup
  interfaces := #[]
  cf := none
  fields := #[]
  methods := #[]
  instanceTypes := #[]
  staticTypes := #[]
  resolved := #[]
  callSites := []
  init := .initialized
  statics := none
  mirror := none

def pool0 : Array CpInfo := pool [(5, u "<init>"), (0, u "()V"), (1, .class_ 10), (1, u "java/lang/Object")] 113

def k0c0 : Code := { maxStack := 0, maxLocals := 1, code := object_method_1_code, exceptionTable := #[], attributes := #[] }
def k0m0 : Method := { name := "<init>", desc := "()V", sig := { parameters := [], returnType := none }, accessFlags := 1, code := some k0c0 }
/-- java/lang/Object -/
def k0 : Class := { plain "java/lang/Object" none with
  accessFlags := 33
  interfaces := #[]
  cf := some (fileOf pool0 8 #[] #[{ accessFlags := 1, nameIndex := 5, descriptorIndex := 6, attributes := #[] }] 33 0 #[] #[])
  fields := #[]
  methods := #[k0m0]
  instanceTypes := #[]
  staticTypes := #[]
  resolved := Array.replicate 124 none
  statics := none }

def pool1 : Array CpInfo := pool [(2, .class_ 4), (1, u "java/lang/Object"), (0, u "<init>"), (0, u "()V"), (0, .methodref 8 9), (0, .class_ 10), (0, .nameAndType 11 12), (0, u "com/example/farcall/farcall/EndpointToStringPinLaw"), (0, u "makeHost"), (0, u "(ICCC)Ljava/lang/String;"), (0, .integer 2147483647), (0, .integer 65535), (0, .class_ 16), (0, u "com/example/farcall/farcall/Endpoint"), (0, .methodref 15 18), (0, .nameAndType 5 19), (0, u "(Ljava/lang/String;I)V"), (0, .methodref 15 21), (0, .nameAndType 22 23), (0, u "toString"), (0, u "()Ljava/lang/String;"), (0, .methodref 25 26), (0, .class_ 27), (0, .nameAndType 28 29), (0, u "java/lang/String"), (0, u "length"), (0, u "()I"), (0, .methodref 25 31), (0, .nameAndType 32 33), (0, u "charAt"), (0, u "(I)C"), (0, .methodref 8 35), (0, .nameAndType 36 37), (0, u "digit"), (0, u "(II)C"), (0, .methodref 25 39), (0, .nameAndType 5 40), (0, u "([C)V"), (2, u "law"), (0, u "(III)Z")] 3

def k1m0 : Method := { name := "<init>", desc := "()V", sig := { parameters := [], returnType := none }, accessFlags := 1, code := none }
def k1c1 : Code := { maxStack := 4, maxLocals := 11, code := code, exceptionTable := #[], attributes := #[] }
def k1m1 : Method := { name := "law", desc := "(III)Z", sig := { parameters := [.int, .int, .int], returnType := some .boolean }, accessFlags := 9, code := some k1c1 }
def k1c2 : Code := { maxStack := 6, maxLocals := 4, code := method_3_code, exceptionTable := #[], attributes := #[] }
def k1m2 : Method := { name := "makeHost", desc := "(ICCC)Ljava/lang/String;", sig := { parameters := [.int, .char, .char, .char], returnType := some (.object "java/lang/String") }, accessFlags := 10, code := some k1c2 }
def k1c3 : Code := { maxStack := 3, maxLocals := 3, code := method_4_code, exceptionTable := #[], attributes := #[] }
def k1m3 : Method := { name := "digit", desc := "(II)C", sig := { parameters := [.int, .int], returnType := some .char }, accessFlags := 10, code := some k1c3 }
/-- com/example/farcall/farcall/EndpointToStringPinLaw -/
def k1 : Class := { plain "com/example/farcall/farcall/EndpointToStringPinLaw" (some 0) with
  accessFlags := 49
  interfaces := #[]
  cf := some (fileOf pool1 8 #[] #[{ accessFlags := 1, nameIndex := 5, descriptorIndex := 6, attributes := #[] }, { accessFlags := 9, nameIndex := 43, descriptorIndex := 44, attributes := #[] }, { accessFlags := 10, nameIndex := 11, descriptorIndex := 12, attributes := #[] }, { accessFlags := 10, nameIndex := 36, descriptorIndex := 37, attributes := #[] }] 49 2 #[] #[])
  fields := #[]
  methods := #[k1m0, k1m1, k1m2, k1m3]
  instanceTypes := #[]
  staticTypes := #[]
  resolved := Array.replicate 48 none
  statics := none }

def pool2 : Array CpInfo := pool [(1, .class_ 2), (0, u "java/io/Serializable"), (0, .class_ 4), (0, u "java/lang/Object")] 2

/-- java/io/Serializable -/
def k2 : Class := { plain "java/io/Serializable" (some 0) with
  accessFlags := 1537
  interfaces := #[]
  cf := some (fileOf pool2 1 #[] #[] 1537 3 #[] #[])
  fields := #[]
  methods := #[]
  instanceTypes := #[]
  staticTypes := #[]
  resolved := Array.replicate 7 none
  statics := none }

def pool3 : Array CpInfo := pool [(1, .class_ 2), (0, u "java/lang/Comparable"), (0, .class_ 4), (0, u "java/lang/Object")] 7

/-- java/lang/Comparable -/
def k3 : Class := { plain "java/lang/Comparable" (some 0) with
  accessFlags := 1537
  interfaces := #[]
  cf := some (fileOf pool3 1 #[] #[] 1537 3 #[] #[])
  fields := #[]
  methods := #[]
  instanceTypes := #[]
  staticTypes := #[]
  resolved := Array.replicate 12 none
  statics := none }

def pool4 : Array CpInfo := pool [(2, .class_ 4), (1, u "java/lang/CharSequence"), (42, .class_ 48), (0, u "java/lang/CharSequence$1CodePointIterator"), (10, .class_ 60), (0, u "java/lang/CharSequence$1CharIterator"), (5, .class_ 67), (0, u "java/lang/Object")] 63

/-- java/lang/CharSequence -/
def k4 : Class := { plain "java/lang/CharSequence" (some 0) with
  accessFlags := 1537
  interfaces := #[]
  cf := some (fileOf pool4 2 #[.nestMembers #[47, 59]] #[] 1537 66 #[] #[])
  fields := #[]
  methods := #[]
  instanceTypes := #[]
  staticTypes := #[]
  resolved := Array.replicate 131 none
  statics := none }

def pool5 : Array CpInfo := pool [(1, .class_ 2), (0, u "java/lang/constant/Constable"), (0, .class_ 4), (0, u "java/lang/Object")] 6

/-- java/lang/constant/Constable -/
def k5 : Class := { plain "java/lang/constant/Constable" (some 0) with
  accessFlags := 1537
  interfaces := #[]
  cf := some (fileOf pool5 1 #[] #[] 1537 3 #[] #[])
  fields := #[]
  methods := #[]
  instanceTypes := #[]
  staticTypes := #[]
  resolved := Array.replicate 11 none
  statics := none }

def pool6 : Array CpInfo := pool [(1, .class_ 2), (0, u "java/lang/constant/ConstantDesc"), (0, .class_ 4), (0, u "java/lang/Object")] 32

/-- java/lang/constant/ConstantDesc -/
def k6 : Class := { plain "java/lang/constant/ConstantDesc" (some 0) with
  accessFlags := 1537
  interfaces := #[]
  cf := some (fileOf pool6 1 #[] #[] 1537 3 #[] #[])
  fields := #[]
  methods := #[]
  instanceTypes := #[]
  staticTypes := #[]
  resolved := Array.replicate 37 none
  statics := none }

def pool7 : Array CpInfo := pool [(1, .methodref 2 3), (0, .class_ 4), (0, .nameAndType 5 6), (0, u "java/lang/Object"), (0, u "<init>"), (0, u "()V"), (0, .string 8), (0, u ""), (0, .fieldref 10 11), (0, .class_ 12), (0, .nameAndType 13 14), (0, u "java/lang/String"), (0, u "value"), (0, u "[B"), (0, .fieldref 10 16), (0, .nameAndType 17 18), (0, u "coder"), (0, u "B"), (2, u "hash"), (0, u "I"), (2, u "hashIsZero"), (0, u "Z"), (0, .methodref 10 28), (0, .nameAndType 5 29), (0, u "([CIILjava/lang/Void;)V"), (8, .fieldref 10 39), (0, .nameAndType 40 26), (0, u "COMPACT_STRINGS"), (1, .class_ 44), (1, u "java/lang/StringUTF16"), (0, u "compress"), (1, .methodref 42 48), (0, .nameAndType 49 50), (0, u "coderFromArrayLen"), (0, u "([BI)B"), (3, .methodref 55 56), (0, .class_ 57), (0, .nameAndType 58 59), (0, u "java/util/Arrays"), (0, u "copyOfRange"), (0, u "([BII)[B"), (47, .class_ 109), (1, u "java/lang/StringLatin1"), (32, u "()Z"), (34, .methodref 42 178), (0, .nameAndType 45 179), (0, u "([CII)[B"), (13, .class_ 195), (1, u "java/lang/System"), (16, .methodref 193 213), (0, .nameAndType 214 215), (0, u "arraycopy"), (0, u "(Ljava/lang/Object;ILjava/lang/Object;II)V"), (118, u "()I"), (0, .methodref 10 336), (0, .nameAndType 17 337), (0, u "()B"), (2, u "()[B"), (22, u "([BI)C"), (27, u "(II)V"), (35, u "(I)C"), (61, .methodref 10 490), (0, .nameAndType 5 491), (0, u "(Ljava/lang/AbstractStringBuilder;Ljava/lang/Void;)V"), (0, .methodref 10 493), (0, .nameAndType 494 142), (0, u "isLatin1"), (0, .methodref 107 496), (0, .nameAndType 497 363), (0, u "charAt"), (3, u "checkIndex"), (4, .nameAndType 507 334), (0, u "length"), (24, u "getBytes"), (16, .methodref 550 506), (0, .class_ 551), (0, u "java/lang/AbstractStringBuilder"), (0, .methodref 550 553), (0, .nameAndType 554 340), (0, u "getValue"), (20, .class_ 576), (0, u "java/lang/CharSequence"), (22, u "CASE_INSENSITIVE_ORDER"), (0, u "Ljava/util/Comparator;"), (220, u "([BIB)V"), (188, u "([C)V"), (36, .methodref 550 493), (5, .fieldref 1054 1055), (0, .class_ 1056), (0, .nameAndType 1057 1058), (0, u "jdk/internal/util/Preconditions"), (0, u "SIOOBE_FORMATTER"), (0, u "Ljava/util/function/BiFunction;"), (0, .methodref 1054 1060), (0, .nameAndType 501 1061), (0, u "(IILjava/util/function/BiFunction;)I"), (39, u "serialPersistentFields"), (0, u "[Ljava/io/ObjectStreamField;"), (0, .class_ 1104), (0, u "java/lang/String$CaseInsensitiveComparator"), (1, .class_ 1107), (0, u "java/io/Serializable"), (0, .class_ 1109), (0, u "java/lang/Comparable"), (0, .class_ 1111), (0, u "java/lang/constant/Constable"), (0, .class_ 1113), (0, u "java/lang/constant/ConstantDesc"), (2, u "serialVersionUID"), (0, u "J"), (3, u "REPL"), (0, u "C"), (2, u "LATIN1"), (1, u "UTF16"), (105, u "(Ljava/lang/StringBuilder;)V")] 217

def k7m0 : Method := { name := "<init>", desc := "()V", sig := { parameters := [], returnType := none }, accessFlags := 1, code := none }
def k7c1 : Code := { maxStack := 5, maxLocals := 2, code := jdk_42_method_3_code, exceptionTable := #[], attributes := #[] }
def k7m1 : Method := { name := "<init>", desc := "([C)V", sig := { parameters := [(.array .char)], returnType := none }, accessFlags := 1, code := some k7c1 }
def k7c2 : Code := { maxStack := 3, maxLocals := 2, code := jdk_42_method_53_code, exceptionTable := #[], attributes := #[] }
def k7m2 : Method := { name := "<init>", desc := "(Ljava/lang/StringBuilder;)V", sig := { parameters := [(.object "java/lang/StringBuilder")], returnType := none }, accessFlags := 1, code := some k7c2 }
def k7c3 : Code := { maxStack := 2, maxLocals := 1, code := jdk_42_method_54_code, exceptionTable := #[], attributes := #[] }
def k7m3 : Method := { name := "length", desc := "()I", sig := { parameters := [], returnType := some .int }, accessFlags := 1, code := some k7c3 }
def k7c4 : Code := { maxStack := 2, maxLocals := 2, code := jdk_42_method_56_code, exceptionTable := #[], attributes := #[] }
def k7m4 : Method := { name := "charAt", desc := "(I)C", sig := { parameters := [.int], returnType := some .char }, accessFlags := 1, code := some k7c4 }
def k7c5 : Code := { maxStack := 5, maxLocals := 4, code := jdk_42_method_147_code, exceptionTable := #[], attributes := #[] }
def k7m5 : Method := { name := "getBytes", desc := "([BIB)V", sig := { parameters := [(.array .byte), .int, .byte], returnType := none }, accessFlags := 0, code := some k7c5 }
def k7c6 : Code := { maxStack := 4, maxLocals := 6, code := jdk_42_method_149_code, exceptionTable := #[], attributes := #[] }
def k7m6 : Method := { name := "<init>", desc := "([CIILjava/lang/Void;)V", sig := { parameters := [(.array .char), .int, .int, (.object "java/lang/Void")], returnType := none }, accessFlags := 2, code := some k7c6 }
def k7c7 : Code := { maxStack := 5, maxLocals := 5, code := jdk_42_method_150_code, exceptionTable := #[], attributes := #[] }
def k7m7 : Method := { name := "<init>", desc := "(Ljava/lang/AbstractStringBuilder;Ljava/lang/Void;)V", sig := { parameters := [(.object "java/lang/AbstractStringBuilder"), (.object "java/lang/Void")], returnType := none }, accessFlags := 0, code := some k7c7 }
def k7c8 : Code := { maxStack := 1, maxLocals := 1, code := jdk_42_method_152_code, exceptionTable := #[], attributes := #[] }
def k7m8 : Method := { name := "coder", desc := "()B", sig := { parameters := [], returnType := some .byte }, accessFlags := 0, code := some k7c8 }
def k7c9 : Code := { maxStack := 1, maxLocals := 1, code := jdk_42_method_154_code, exceptionTable := #[], attributes := #[] }
def k7m9 : Method := { name := "isLatin1", desc := "()Z", sig := { parameters := [], returnType := some .boolean }, accessFlags := 0, code := some k7c9 }
def k7c10 : Code := { maxStack := 3, maxLocals := 2, code := jdk_42_method_155_code, exceptionTable := #[], attributes := #[] }
def k7m10 : Method := { name := "checkIndex", desc := "(II)V", sig := { parameters := [.int, .int], returnType := none }, accessFlags := 8, code := some k7c10 }
/-- java/lang/String -/
def k7 : Class := { plain "java/lang/String" (some 0) with
  accessFlags := 49
  interfaces := #[2, 3, 4, 5, 6]
  cf := some (fileOf pool7 10 #[.nestMembers #[1103]] #[{ accessFlags := 1, nameIndex := 5, descriptorIndex := 6, attributes := #[] }, { accessFlags := 1, nameIndex := 5, descriptorIndex := 1010, attributes := #[] }, { accessFlags := 1, nameIndex := 5, descriptorIndex := 1233, attributes := #[] }, { accessFlags := 1, nameIndex := 507, descriptorIndex := 334, attributes := #[] }, { accessFlags := 1, nameIndex := 497, descriptorIndex := 427, attributes := #[] }, { accessFlags := 0, nameIndex := 532, descriptorIndex := 821, attributes := #[] }, { accessFlags := 2, nameIndex := 5, descriptorIndex := 29, attributes := #[] }, { accessFlags := 0, nameIndex := 5, descriptorIndex := 491, attributes := #[] }, { accessFlags := 0, nameIndex := 17, descriptorIndex := 337, attributes := #[] }, { accessFlags := 0, nameIndex := 494, descriptorIndex := 142, attributes := #[] }, { accessFlags := 8, nameIndex := 501, descriptorIndex := 391, attributes := #[] }] 49 2 #[1106, 1108, 575, 1110, 1112] #[{ accessFlags := 18, nameIndex := 13, descriptorIndex := 14, attributes := #[] }, { accessFlags := 18, nameIndex := 17, descriptorIndex := 18, attributes := #[] }, { accessFlags := 2, nameIndex := 21, descriptorIndex := 22, attributes := #[] }, { accessFlags := 2, nameIndex := 25, descriptorIndex := 26, attributes := #[] }, { accessFlags := 26, nameIndex := 1116, descriptorIndex := 1117, attributes := #[] }, { accessFlags := 24, nameIndex := 40, descriptorIndex := 26, attributes := #[] }, { accessFlags := 26, nameIndex := 1101, descriptorIndex := 1102, attributes := #[] }, { accessFlags := 26, nameIndex := 1121, descriptorIndex := 1122, attributes := #[] }, { accessFlags := 25, nameIndex := 599, descriptorIndex := 600, attributes := #[] }, { accessFlags := 24, nameIndex := 1125, descriptorIndex := 18, attributes := #[] }, { accessFlags := 24, nameIndex := 1127, descriptorIndex := 18, attributes := #[] }])
  fields := #[{ name := "value", type := (.array .byte), accessFlags := 18, slot := 0, constantValue := 0 }, { name := "coder", type := .byte, accessFlags := 18, slot := 1, constantValue := 0 }, { name := "hash", type := .int, accessFlags := 2, slot := 2, constantValue := 0 }, { name := "hashIsZero", type := .boolean, accessFlags := 2, slot := 3, constantValue := 0 }, { name := "serialVersionUID", type := .long, accessFlags := 26, slot := 0, constantValue := 0 }, { name := "COMPACT_STRINGS", type := .boolean, accessFlags := 24, slot := 1, constantValue := 0 }, { name := "serialPersistentFields", type := (.array (.object "java/io/ObjectStreamField")), accessFlags := 26, slot := 2, constantValue := 0 }, { name := "REPL", type := .char, accessFlags := 26, slot := 3, constantValue := 0 }, { name := "CASE_INSENSITIVE_ORDER", type := (.object "java/util/Comparator"), accessFlags := 25, slot := 4, constantValue := 0 }, { name := "LATIN1", type := .byte, accessFlags := 24, slot := 5, constantValue := 0 }, { name := "UTF16", type := .byte, accessFlags := 24, slot := 6, constantValue := 0 }]
  methods := #[k7m0, k7m1, k7m2, k7m3, k7m4, k7m5, k7m6, k7m7, k7m8, k7m9, k7m10]
  instanceTypes := #[(.array .byte), .byte, .int, .boolean]
  staticTypes := #[.long, .boolean, (.array (.object "java/io/ObjectStreamField")), .char, (.object "java/util/Comparator"), .byte, .byte]
  resolved := Array.replicate 1451 none
  statics := some 0 }

def pool8 : Array CpInfo := pool [(6, .class_ 8), (1, u "java/lang/Object"), (0, u "<init>"), (0, u "()V"), (1, .class_ 14), (1, u "java/lang/StringUTF16"), (31, u "$assertionsDisabled"), (0, u "Z"), (13, u "HI_BYTE_SHIFT"), (0, u "I"), (2, u "LO_BYTE_SHIFT"), (49, .methodref 12 116), (0, .nameAndType 117 118), (0, u "compress"), (0, u "([CI[BII)I"), (3, u "([CII)[B"), (138, u "coderFromArrayLen"), (0, u "([BI)B"), (106, .class_ 371), (1, u "java/lang/StringUTF16$LinesSpliterator"), (58, u "MAX_LENGTH"), (196, .class_ 628), (0, u "java/lang/StringUTF16$CodePointsSpliterator"), (0, .class_ 630), (0, u "java/lang/StringUTF16$CharsSpliterator")] 4

def k8m0 : Method := { name := "<init>", desc := "()V", sig := { parameters := [], returnType := none }, accessFlags := 0, code := none }
def k8c1 : Code := { maxStack := 2, maxLocals := 2, code := jdk_52_method_15_code, exceptionTable := #[], attributes := #[] }
def k8m1 : Method := { name := "coderFromArrayLen", desc := "([BI)B", sig := { parameters := [(.array .byte), .int], returnType := some .byte }, accessFlags := 8, code := some k8c1 }
def k8c2 : Code := { maxStack := 5, maxLocals := 6, code := jdk_52_method_16_code, exceptionTable := #[], attributes := #[] }
def k8m2 : Method := { name := "compress", desc := "([CII)[B", sig := { parameters := [(.array .char), .int, .int], returnType := some (.array .byte) }, accessFlags := 9, code := some k8c2 }
def k8c3 : Code := { maxStack := 3, maxLocals := 7, code := jdk_52_method_21_code, exceptionTable := #[], attributes := #[] }
def k8m3 : Method := { name := "compress", desc := "([CI[BII)I", sig := { parameters := [(.array .char), .int, (.array .byte), .int, .int], returnType := some .int }, accessFlags := 9, code := some k8c3 }
/-- java/lang/StringUTF16 -/
def k8 : Class := { plain "java/lang/StringUTF16" (some 0) with
  accessFlags := 48
  interfaces := #[]
  cf := some (fileOf pool8 12 #[.nestMembers #[627, 629, 369]] #[{ accessFlags := 0, nameIndex := 9, descriptorIndex := 10, attributes := #[] }, { accessFlags := 8, nameIndex := 261, descriptorIndex := 262, attributes := #[] }, { accessFlags := 9, nameIndex := 117, descriptorIndex := 122, attributes := #[] }, { accessFlags := 9, nameIndex := 117, descriptorIndex := 118, attributes := #[] }] 48 6 #[] #[{ accessFlags := 26, nameIndex := 61, descriptorIndex := 62, attributes := #[] }, { accessFlags := 26, nameIndex := 65, descriptorIndex := 62, attributes := #[] }, { accessFlags := 24, nameIndex := 430, descriptorIndex := 62, attributes := #[] }, { accessFlags := 4120, nameIndex := 46, descriptorIndex := 47, attributes := #[] }])
  fields := #[{ name := "HI_BYTE_SHIFT", type := .int, accessFlags := 26, slot := 0, constantValue := 0 }, { name := "LO_BYTE_SHIFT", type := .int, accessFlags := 26, slot := 1, constantValue := 0 }, { name := "MAX_LENGTH", type := .int, accessFlags := 24, slot := 2, constantValue := 0 }, { name := "$assertionsDisabled", type := .boolean, accessFlags := 4120, slot := 3, constantValue := 0 }]
  methods := #[k8m0, k8m1, k8m2, k8m3]
  instanceTypes := #[]
  staticTypes := #[.int, .int, .int, .boolean]
  resolved := Array.replicate 635 none
  statics := none }

def pool9 : Array CpInfo := pool [(1, .methodref 2 3), (0, .class_ 4), (0, .nameAndType 5 6), (0, u "java/lang/Object"), (0, u "<init>"), (0, u "()V"), (0, .class_ 8), (0, u "java/lang/Record")] 13

def k9c0 : Code := { maxStack := 1, maxLocals := 1, code := jdk_30_method_1_code, exceptionTable := #[], attributes := #[] }
def k9m0 : Method := { name := "<init>", desc := "()V", sig := { parameters := [], returnType := none }, accessFlags := 4, code := some k9c0 }
/-- java/lang/Record -/
def k9 : Class := { plain "java/lang/Record" (some 0) with
  accessFlags := 1057
  interfaces := #[]
  cf := some (fileOf pool9 7 #[] #[{ accessFlags := 4, nameIndex := 5, descriptorIndex := 6, attributes := #[] }] 1057 2 #[] #[])
  fields := #[]
  methods := #[k9m0]
  instanceTypes := #[]
  staticTypes := #[]
  resolved := Array.replicate 22 none
  statics := none }

def pool10 : Array CpInfo := pool [(1, .methodref 2 3), (0, .class_ 4), (0, .nameAndType 5 6), (0, u "java/lang/Record"), (0, u "<init>"), (0, u "()V"), (0, .string 8), (0, u "host"), (0, .methodref 10 11), (0, .class_ 12), (0, .nameAndType 13 14), (0, u "java/util/Objects"), (0, u "requireNonNull"), (0, u "(Ljava/lang/Object;Ljava/lang/String;)Ljava/lang/Object;"), (0, .integer 65535), (2, .class_ 19), (0, u "java/lang/StringBuilder"), (0, .methodref 18 3), (2, .methodref 18 24), (0, .nameAndType 25 26), (0, u "append"), (0, u "(Ljava/lang/String;)Ljava/lang/StringBuilder;"), (0, .methodref 18 28), (0, .nameAndType 25 29), (0, u "(I)Ljava/lang/StringBuilder;"), (0, .methodref 18 31), (0, .nameAndType 32 33), (0, u "toString"), (0, u "()Ljava/lang/String;"), (3, .fieldref 38 39), (0, .class_ 40), (0, .nameAndType 8 41), (0, u "com/example/farcall/farcall/Endpoint"), (0, u "Ljava/lang/String;"), (0, .fieldref 38 43), (0, .nameAndType 44 45), (0, u "port"), (0, u "I"), (0, .string 47), (0, u ":"), (8, u "(Ljava/lang/String;I)V")] 29

def k10c0 : Code := { maxStack := 4, maxLocals := 3, code := prog_16_method_1_code, exceptionTable := #[], attributes := #[] }
def k10m0 : Method := { name := "<init>", desc := "(Ljava/lang/String;I)V", sig := { parameters := [(.object "java/lang/String"), .int], returnType := none }, accessFlags := 1, code := some k10c0 }
def k10c1 : Code := { maxStack := 2, maxLocals := 1, code := prog_16_method_2_code, exceptionTable := #[], attributes := #[] }
def k10m1 : Method := { name := "toString", desc := "()Ljava/lang/String;", sig := { parameters := [], returnType := some (.object "java/lang/String") }, accessFlags := 1, code := some k10c1 }
/-- com/example/farcall/farcall/Endpoint -/
def k10 : Class := { plain "com/example/farcall/farcall/Endpoint" (some 9) with
  accessFlags := 49
  interfaces := #[]
  cf := some (fileOf pool10 38 #[] #[{ accessFlags := 1, nameIndex := 5, descriptorIndex := 56, attributes := #[] }, { accessFlags := 1, nameIndex := 32, descriptorIndex := 33, attributes := #[] }] 49 2 #[] #[{ accessFlags := 18, nameIndex := 8, descriptorIndex := 41, attributes := #[] }, { accessFlags := 18, nameIndex := 44, descriptorIndex := 45, attributes := #[] }])
  fields := #[{ name := "host", type := (.object "java/lang/String"), accessFlags := 18, slot := 0, constantValue := 0 }, { name := "port", type := .int, accessFlags := 18, slot := 1, constantValue := 0 }]
  methods := #[k10m0, k10m1]
  instanceTypes := #[(.object "java/lang/String"), .int]
  staticTypes := #[]
  resolved := Array.replicate 86 none
  statics := none }

def pool11 : Array CpInfo := pool [(2, .class_ 4), (1, u "java/lang/Object"), (0, u "<init>"), (0, u "()V"), (35, .class_ 44), (1, u "java/util/Objects"), (0, u "requireNonNull"), (48, u "(Ljava/lang/Object;Ljava/lang/String;)Ljava/lang/Object;")] 89

def k11m0 : Method := { name := "<init>", desc := "()V", sig := { parameters := [], returnType := none }, accessFlags := 2, code := none }
def k11c1 : Code := { maxStack := 3, maxLocals := 2, code := jdk_31_method_11_code, exceptionTable := #[], attributes := #[] }
def k11m1 : Method := { name := "requireNonNull", desc := "(Ljava/lang/Object;Ljava/lang/String;)Ljava/lang/Object;", sig := { parameters := [(.object "java/lang/Object"), (.object "java/lang/String")], returnType := some (.object "java/lang/Object") }, accessFlags := 9, code := some k11c1 }
/-- java/util/Objects -/
def k11 : Class := { plain "java/util/Objects" (some 0) with
  accessFlags := 49
  interfaces := #[]
  cf := some (fileOf pool11 42 #[] #[{ accessFlags := 2, nameIndex := 5, descriptorIndex := 6, attributes := #[] }, { accessFlags := 9, nameIndex := 45, descriptorIndex := 94, attributes := #[] }] 49 2 #[] #[])
  fields := #[]
  methods := #[k11m0, k11m1]
  instanceTypes := #[]
  staticTypes := #[]
  resolved := Array.replicate 184 none
  statics := none }

def pool12 : Array CpInfo := pool [(1, .class_ 2), (0, u "java/lang/Appendable"), (0, .class_ 4), (0, u "java/lang/Object")] 9

/-- java/lang/Appendable -/
def k12 : Class := { plain "java/lang/Appendable" (some 0) with
  accessFlags := 1537
  interfaces := #[]
  cf := some (fileOf pool12 1 #[] #[] 1537 3 #[] #[])
  fields := #[]
  methods := #[]
  instanceTypes := #[]
  staticTypes := #[]
  resolved := Array.replicate 14 none
  statics := none }

def pool13 : Array CpInfo := pool [(1, .class_ 2), (0, u "java/lang/String"), (0, .methodref 4 5), (0, .class_ 6), (0, .nameAndType 7 8), (0, u "java/lang/Object"), (0, u "<init>"), (0, u "()V"), (1, .class_ 12), (1, u "java/lang/AbstractStringBuilder"), (0, u "EMPTYVALUE"), (0, u "[B"), (0, .fieldref 10 16), (0, .nameAndType 17 14), (0, u "value"), (0, .fieldref 1 19), (0, .nameAndType 20 21), (0, u "COMPACT_STRINGS"), (0, u "Z"), (0, .fieldref 10 23), (0, .nameAndType 24 25), (0, u "coder"), (0, u "B"), (6, .methodref 1 33), (0, .nameAndType 34 35), (0, u "length"), (0, u "()I"), (0, .class_ 37), (0, u "java/lang/Integer"), (2, .methodref 1 41), (0, .nameAndType 24 42), (0, u "()B"), (2, u "append"), (0, u "(Ljava/lang/String;)Ljava/lang/AbstractStringBuilder;"), (1, .class_ 49), (0, u "java/lang/CharSequence"), (19, u "(Ljava/lang/String;)V"), (5, u "maybeLatin1"), (3, .fieldref 10 80), (0, .nameAndType 81 82), (0, u "count"), (0, u "I"), (0, .methodref 10 84), (0, .nameAndType 85 86), (0, u "isLatin1"), (0, u "()Z"), (13, .methodref 10 101), (0, .nameAndType 102 103), (0, u "ensureCapacityInternal"), (0, u "(I)V"), (3, u "(I)I"), (80, u "getChars"), (19, .methodref 10 209), (0, .nameAndType 210 211), (0, u "putStringAt"), (0, u "(ILjava/lang/String;)V"), (5, u "inflateIfNeededFor"), (2, .nameAndType 221 222), (0, u "getBytes"), (0, u "([BIB)V"), (22, .methodref 36 246), (0, .nameAndType 247 107), (0, u "stringSize"), (0, .methodref 36 249), (0, .nameAndType 188 250), (0, u "(II[B)I"), (146, .methodref 10 398), (0, .nameAndType 217 69), (0, .methodref 1 220), (3, u "()[B"), (40, .class_ 445), (0, u "java/lang/Appendable"), (65, u "(I)Ljava/lang/AbstractStringBuilder;"), (40, u "getValue")] 56

def k13m0 : Method := { name := "<init>", desc := "()V", sig := { parameters := [], returnType := none }, accessFlags := 0, code := none }
def k13c1 : Code := { maxStack := 2, maxLocals := 2, code := jdk_68_method_2_code, exceptionTable := #[], attributes := #[] }
def k13m1 : Method := { name := "<init>", desc := "(I)V", sig := { parameters := [.int], returnType := none }, accessFlags := 0, code := some k13c1 }
def k13c2 : Code := { maxStack := 1, maxLocals := 1, code := jdk_68_method_6_code, exceptionTable := #[], attributes := #[] }
def k13m2 : Method := { name := "length", desc := "()I", sig := { parameters := [], returnType := some .int }, accessFlags := 1, code := some k13c2 }
def k13c3 : Code := { maxStack := 4, maxLocals := 3, code := jdk_68_method_9_code, exceptionTable := #[], attributes := #[] }
def k13m3 : Method := { name := "ensureCapacityInternal", desc := "(I)V", sig := { parameters := [.int], returnType := none }, accessFlags := 2, code := some k13c3 }
def k13c4 : Code := { maxStack := 3, maxLocals := 3, code := jdk_68_method_22_code, exceptionTable := #[], attributes := #[] }
def k13m4 : Method := { name := "append", desc := "(Ljava/lang/String;)Ljava/lang/AbstractStringBuilder;", sig := { parameters := [(.object "java/lang/String")], returnType := some (.object "java/lang/AbstractStringBuilder") }, accessFlags := 1, code := some k13c4 }
def k13c5 : Code := { maxStack := 4, maxLocals := 4, code := jdk_68_method_32_code, exceptionTable := #[], attributes := #[] }
def k13m5 : Method := { name := "append", desc := "(I)Ljava/lang/AbstractStringBuilder;", sig := { parameters := [.int], returnType := some (.object "java/lang/AbstractStringBuilder") }, accessFlags := 1, code := some k13c5 }
def k13c6 : Code := { maxStack := 1, maxLocals := 1, code := jdk_68_method_64_code, exceptionTable := #[], attributes := #[] }
def k13m6 : Method := { name := "getValue", desc := "()[B", sig := { parameters := [], returnType := some (.array .byte) }, accessFlags := 16, code := some k13c6 }
def k13c7 : Code := { maxStack := 1, maxLocals := 1, code := jdk_68_method_68_code, exceptionTable := #[], attributes := #[] }
def k13m7 : Method := { name := "isLatin1", desc := "()Z", sig := { parameters := [], returnType := some .boolean }, accessFlags := 16, code := some k13c7 }
def k13c8 : Code := { maxStack := 2, maxLocals := 2, code := jdk_68_method_71_code, exceptionTable := #[], attributes := #[] }
def k13m8 : Method := { name := "inflateIfNeededFor", desc := "(Ljava/lang/String;)V", sig := { parameters := [(.object "java/lang/String")], returnType := none }, accessFlags := 2, code := some k13c8 }
def k13c9 : Code := { maxStack := 4, maxLocals := 3, code := jdk_68_method_73_code, exceptionTable := #[], attributes := #[] }
def k13m9 : Method := { name := "putStringAt", desc := "(ILjava/lang/String;)V", sig := { parameters := [.int, (.object "java/lang/String")], returnType := none }, accessFlags := 2, code := some k13c9 }
/-- java/lang/AbstractStringBuilder -/
def k13 : Class := { plain "java/lang/AbstractStringBuilder" (some 0) with
  accessFlags := 1056
  interfaces := #[12, 4]
  cf := some (fileOf pool13 10 #[] #[{ accessFlags := 0, nameIndex := 7, descriptorIndex := 8, attributes := #[] }, { accessFlags := 0, nameIndex := 7, descriptorIndex := 103, attributes := #[] }, { accessFlags := 1, nameIndex := 34, descriptorIndex := 35, attributes := #[] }, { accessFlags := 2, nameIndex := 102, descriptorIndex := 103, attributes := #[] }, { accessFlags := 1, nameIndex := 45, descriptorIndex := 46, attributes := #[] }, { accessFlags := 1, nameIndex := 45, descriptorIndex := 511, attributes := #[] }, { accessFlags := 16, nameIndex := 552, descriptorIndex := 403, attributes := #[] }, { accessFlags := 16, nameIndex := 85, descriptorIndex := 86, attributes := #[] }, { accessFlags := 2, nameIndex := 217, descriptorIndex := 69, attributes := #[] }, { accessFlags := 2, nameIndex := 210, descriptorIndex := 211, attributes := #[] }] 1056 4 #[444, 48] #[{ accessFlags := 0, nameIndex := 17, descriptorIndex := 14, attributes := #[] }, { accessFlags := 0, nameIndex := 24, descriptorIndex := 25, attributes := #[] }, { accessFlags := 0, nameIndex := 75, descriptorIndex := 21, attributes := #[] }, { accessFlags := 0, nameIndex := 81, descriptorIndex := 82, attributes := #[] }, { accessFlags := 26, nameIndex := 13, descriptorIndex := 14, attributes := #[] }])
  fields := #[{ name := "value", type := (.array .byte), accessFlags := 0, slot := 0, constantValue := 0 }, { name := "coder", type := .byte, accessFlags := 0, slot := 1, constantValue := 0 }, { name := "maybeLatin1", type := .boolean, accessFlags := 0, slot := 2, constantValue := 0 }, { name := "count", type := .int, accessFlags := 0, slot := 3, constantValue := 0 }, { name := "EMPTYVALUE", type := (.array .byte), accessFlags := 26, slot := 0, constantValue := 0 }]
  methods := #[k13m0, k13m1, k13m2, k13m3, k13m4, k13m5, k13m6, k13m7, k13m8, k13m9]
  instanceTypes := #[(.array .byte), .byte, .boolean, .int]
  staticTypes := #[(.array .byte)]
  resolved := Array.replicate 609 none
  statics := none }

def pool14 : Array CpInfo := pool [(1, .methodref 2 3), (0, .class_ 4), (0, .nameAndType 5 6), (0, u "java/lang/AbstractStringBuilder"), (0, u "<init>"), (0, u "(I)V"), (11, .class_ 20), (1, u "java/lang/String"), (3, .class_ 26), (1, u "java/lang/StringBuilder"), (0, u "append"), (0, u "(Ljava/lang/String;)Ljava/lang/StringBuilder;"), (0, .methodref 2 30), (0, .nameAndType 27 31), (0, u "(Ljava/lang/String;)Ljava/lang/AbstractStringBuilder;"), (21, .methodref 2 54), (0, .nameAndType 27 55), (0, u "(I)Ljava/lang/AbstractStringBuilder;"), (81, .methodref 18 138), (0, .nameAndType 5 139), (0, u "(Ljava/lang/StringBuilder;)V"), (5, u "()V"), (10, u "()I"), (111, u "(I)Ljava/lang/StringBuilder;"), (74, .methodref 2 344), (0, .nameAndType 345 156), (0, u "length"), (3, .class_ 350), (0, u "java/lang/Appendable"), (0, .class_ 352), (0, u "java/io/Serializable"), (0, .class_ 354), (0, u "java/lang/Comparable"), (0, .class_ 356), (0, u "java/lang/CharSequence"), (0, u "serialVersionUID"), (0, u "J"), (40, u "toString"), (0, u "()Ljava/lang/String;")] 21

def k14c0 : Code := { maxStack := 2, maxLocals := 1, code := jdk_67_method_1_code, exceptionTable := #[], attributes := #[] }
def k14m0 : Method := { name := "<init>", desc := "()V", sig := { parameters := [], returnType := none }, accessFlags := 1, code := some k14c0 }
def k14c1 : Code := { maxStack := 2, maxLocals := 2, code := jdk_67_method_7_code, exceptionTable := #[], attributes := #[] }
def k14m1 : Method := { name := "append", desc := "(Ljava/lang/String;)Ljava/lang/StringBuilder;", sig := { parameters := [(.object "java/lang/String")], returnType := some (.object "java/lang/StringBuilder") }, accessFlags := 1, code := some k14c1 }
def k14c2 : Code := { maxStack := 2, maxLocals := 2, code := jdk_67_method_15_code, exceptionTable := #[], attributes := #[] }
def k14m2 : Method := { name := "append", desc := "(I)Ljava/lang/StringBuilder;", sig := { parameters := [.int], returnType := some (.object "java/lang/StringBuilder") }, accessFlags := 1, code := some k14c2 }
def k14c3 : Code := { maxStack := 3, maxLocals := 1, code := jdk_67_method_42_code, exceptionTable := #[], attributes := #[] }
def k14m3 : Method := { name := "toString", desc := "()Ljava/lang/String;", sig := { parameters := [], returnType := some (.object "java/lang/String") }, accessFlags := 1, code := some k14c3 }
def k14c4 : Code := { maxStack := 1, maxLocals := 1, code := jdk_67_method_93_code, exceptionTable := #[], attributes := #[] }
def k14m4 : Method := { name := "length", desc := "()I", sig := { parameters := [], returnType := some .int }, accessFlags := 4161, code := some k14c4 }
/-- java/lang/StringBuilder -/
def k14 : Class := { plain "java/lang/StringBuilder" (some 13) with
  accessFlags := 49
  interfaces := #[12, 2, 3, 4]
  cf := some (fileOf pool14 24 #[] #[{ accessFlags := 1, nameIndex := 5, descriptorIndex := 145, attributes := #[] }, { accessFlags := 1, nameIndex := 27, descriptorIndex := 28, attributes := #[] }, { accessFlags := 1, nameIndex := 27, descriptorIndex := 268, attributes := #[] }, { accessFlags := 1, nameIndex := 399, descriptorIndex := 400, attributes := #[] }, { accessFlags := 4161, nameIndex := 345, descriptorIndex := 156, attributes := #[] }] 49 2 #[349, 351, 353, 355] #[{ accessFlags := 24, nameIndex := 357, descriptorIndex := 358, attributes := #[] }])
  fields := #[{ name := "serialVersionUID", type := .long, accessFlags := 24, slot := 0, constantValue := 0 }]
  methods := #[k14m0, k14m1, k14m2, k14m3, k14m4]
  instanceTypes := #[(.array .byte), .byte, .boolean, .int]
  staticTypes := #[.long]
  resolved := Array.replicate 422 none
  statics := none }

def pool15 : Array CpInfo := pool [(2, .class_ 4), (1, u "java/lang/Object"), (0, u "<init>"), (0, u "()V"), (1, .class_ 10), (1, u "java/lang/System"), (0, u "allowSecurityManager"), (0, u "I"), (16, u "cons"), (0, u "Ljava/io/Console;"), (77, .class_ 110), (1, u "java/lang/System$CallersHolder"), (43, u "initialErrStream"), (0, u "Ljava/io/PrintStream;"), (19, u "security"), (0, u "Ljava/lang/SecurityManager;"), (31, .class_ 209), (0, u "java/lang/System$1"), (7, u "props"), (0, u "Ljava/util/Properties;"), (2, u "lineSeparator"), (0, u "Ljava/lang/String;"), (96, .class_ 321), (1, u "java/lang/System$LoggerFinder"), (5, .class_ 328), (0, u "java/lang/System$Logger"), (67, u "err"), (2, u "out"), (91, u "notSupportedJnuEncoding"), (15, u "in"), (17, u "initialIn"), (0, u "Ljava/io/InputStream;"), (35, u "bootLayer"), (0, u "Ljava/lang/ModuleLayer;"), (99, .class_ 664), (0, u "java/lang/System$2"), (9, u "NEVER"), (2, u "MAYBE"), (49, u "arraycopy"), (0, u "(Ljava/lang/Object;ILjava/lang/Object;II)V"), (72, .class_ 802), (0, u "java/lang/System$Logger$Level")] 31

def k15m0 : Method := { name := "<init>", desc := "()V", sig := { parameters := [], returnType := none }, accessFlags := 2, code := none }
def k15m1 : Method := { name := "arraycopy", desc := "(Ljava/lang/Object;ILjava/lang/Object;II)V", sig := { parameters := [(.object "java/lang/Object"), .int, (.object "java/lang/Object"), .int, .int], returnType := none }, accessFlags := 265, code := none }
/-- java/lang/System -/
def k15 : Class := { plain "java/lang/System" (some 0) with
  accessFlags := 49
  interfaces := #[]
  cf := some (fileOf pool15 8 #[.nestMembers #[319, 327, 801, 108, 663, 208]] #[{ accessFlags := 2, nameIndex := 5, descriptorIndex := 6, attributes := #[] }, { accessFlags := 265, nameIndex := 727, descriptorIndex := 728, attributes := #[] }] 49 2 #[] #[{ accessFlags := 25, nameIndex := 507, descriptorIndex := 526, attributes := #[] }, { accessFlags := 25, nameIndex := 399, descriptorIndex := 155, attributes := #[] }, { accessFlags := 25, nameIndex := 396, descriptorIndex := 155, attributes := #[] }, { accessFlags := 10, nameIndex := 525, descriptorIndex := 526, attributes := #[] }, { accessFlags := 26, nameIndex := 674, descriptorIndex := 12, attributes := #[] }, { accessFlags := 26, nameIndex := 677, descriptorIndex := 12, attributes := #[] }, { accessFlags := 10, nameIndex := 11, descriptorIndex := 12, attributes := #[] }, { accessFlags := 74, nameIndex := 175, descriptorIndex := 176, attributes := #[] }, { accessFlags := 10, nameIndex := 491, descriptorIndex := 222, attributes := #[] }, { accessFlags := 74, nameIndex := 29, descriptorIndex := 30, attributes := #[] }, { accessFlags := 74, nameIndex := 154, descriptorIndex := 155, attributes := #[] }, { accessFlags := 10, nameIndex := 217, descriptorIndex := 218, attributes := #[] }, { accessFlags := 10, nameIndex := 221, descriptorIndex := 222, attributes := #[] }, { accessFlags := 8, nameIndex := 562, descriptorIndex := 563, attributes := #[] }])
  fields := #[{ name := "in", type := (.object "java/io/InputStream"), accessFlags := 25, slot := 0, constantValue := 0 }, { name := "out", type := (.object "java/io/PrintStream"), accessFlags := 25, slot := 1, constantValue := 0 }, { name := "err", type := (.object "java/io/PrintStream"), accessFlags := 25, slot := 2, constantValue := 0 }, { name := "initialIn", type := (.object "java/io/InputStream"), accessFlags := 10, slot := 3, constantValue := 0 }, { name := "NEVER", type := .int, accessFlags := 26, slot := 4, constantValue := 0 }, { name := "MAYBE", type := .int, accessFlags := 26, slot := 5, constantValue := 0 }, { name := "allowSecurityManager", type := .int, accessFlags := 10, slot := 6, constantValue := 0 }, { name := "security", type := (.object "java/lang/SecurityManager"), accessFlags := 74, slot := 7, constantValue := 0 }, { name := "notSupportedJnuEncoding", type := (.object "java/lang/String"), accessFlags := 10, slot := 8, constantValue := 0 }, { name := "cons", type := (.object "java/io/Console"), accessFlags := 74, slot := 9, constantValue := 0 }, { name := "initialErrStream", type := (.object "java/io/PrintStream"), accessFlags := 74, slot := 10, constantValue := 0 }, { name := "props", type := (.object "java/util/Properties"), accessFlags := 10, slot := 11, constantValue := 0 }, { name := "lineSeparator", type := (.object "java/lang/String"), accessFlags := 10, slot := 12, constantValue := 0 }, { name := "bootLayer", type := (.object "java/lang/ModuleLayer"), accessFlags := 8, slot := 13, constantValue := 0 }]
  methods := #[k15m0, k15m1]
  instanceTypes := #[]
  staticTypes := #[(.object "java/io/InputStream"), (.object "java/io/PrintStream"), (.object "java/io/PrintStream"), (.object "java/io/InputStream"), .int, .int, .int, (.object "java/lang/SecurityManager"), (.object "java/lang/String"), (.object "java/io/Console"), (.object "java/io/PrintStream"), (.object "java/util/Properties"), (.object "java/lang/String"), (.object "java/lang/ModuleLayer")]
  resolved := Array.replicate 834 none
  statics := none }

def pool16 : Array CpInfo := pool [(2, .class_ 4), (1, u "java/lang/Object"), (0, u "<init>"), (0, u "()V"), (1, .class_ 10), (1, u "java/lang/Number"), (2, .class_ 14), (0, u "java/io/Serializable"), (0, u "serialVersionUID"), (0, u "J")] 20

def k16m0 : Method := { name := "<init>", desc := "()V", sig := { parameters := [], returnType := none }, accessFlags := 1, code := none }
/-- java/lang/Number -/
def k16 : Class := { plain "java/lang/Number" (some 0) with
  accessFlags := 1057
  interfaces := #[2]
  cf := some (fileOf pool16 8 #[] #[{ accessFlags := 1, nameIndex := 5, descriptorIndex := 6, attributes := #[] }] 1057 2 #[13] #[{ accessFlags := 26, nameIndex := 15, descriptorIndex := 16, attributes := #[] }])
  fields := #[{ name := "serialVersionUID", type := .long, accessFlags := 26, slot := 0, constantValue := 0 }]
  methods := #[k16m0]
  instanceTypes := #[]
  staticTypes := #[.long]
  resolved := Array.replicate 37 none
  statics := none }

def pool17 : Array CpInfo := pool [(1, .class_ 2), (0, u "java/lang/Integer"), (16, u "digits"), (0, u "[C"), (33, u "(I)I"), (19, u "stringSize"), (2, u "getChars"), (0, u "(II[B)I"), (4, .fieldref 1 84), (0, .nameAndType 85 86), (0, u "DigitOnes"), (0, u "[B"), (0, .fieldref 1 88), (0, .nameAndType 89 86), (0, u "DigitTens"), (99, .class_ 190), (0, u "java/lang/Integer$IntegerCache"), (3, u "I"), (8, .class_ 204), (0, u "java/lang/Number"), (2, u "value"), (94, u "TYPE"), (0, u "Ljava/lang/Class;"), (0, .class_ 305), (0, u "java/lang/Comparable"), (0, .class_ 307), (0, u "java/lang/constant/Constable"), (0, .class_ 309), (0, u "java/lang/constant/ConstantDesc"), (0, u "MIN_VALUE"), (1, u "MAX_VALUE"), (3, u "SIZE"), (1, u "BYTES"), (1, u "serialVersionUID"), (0, u "J")] 131

def k17c0 : Code := { maxStack := 4, maxLocals := 7, code := jdk_33_method_12_code, exceptionTable := #[], attributes := #[] }
def k17m0 : Method := { name := "getChars", desc := "(II[B)I", sig := { parameters := [.int, .int, (.array .byte)], returnType := some .int }, accessFlags := 8, code := some k17c0 }
def k17c1 : Code := { maxStack := 2, maxLocals := 4, code := jdk_33_method_13_code, exceptionTable := #[], attributes := #[] }
def k17m1 : Method := { name := "stringSize", desc := "(I)I", sig := { parameters := [.int], returnType := some .int }, accessFlags := 8, code := some k17c1 }
/-- java/lang/Integer -/
def k17 : Class := { plain "java/lang/Integer" (some 16) with
  accessFlags := 49
  interfaces := #[3, 5, 6]
  cf := some (fileOf pool17 1 #[.nestMembers #[189]] #[{ accessFlags := 8, nameIndex := 77, descriptorIndex := 78, attributes := #[] }, { accessFlags := 8, nameIndex := 74, descriptorIndex := 54, attributes := #[] }] 49 203 #[304, 306, 308] #[{ accessFlags := 25, nameIndex := 310, descriptorIndex := 194, attributes := #[] }, { accessFlags := 25, nameIndex := 312, descriptorIndex := 194, attributes := #[] }, { accessFlags := 25, nameIndex := 302, descriptorIndex := 303, attributes := #[] }, { accessFlags := 24, nameIndex := 19, descriptorIndex := 20, attributes := #[] }, { accessFlags := 24, nameIndex := 89, descriptorIndex := 86, attributes := #[] }, { accessFlags := 24, nameIndex := 85, descriptorIndex := 86, attributes := #[] }, { accessFlags := 18, nameIndex := 207, descriptorIndex := 194, attributes := #[] }, { accessFlags := 25, nameIndex := 316, descriptorIndex := 194, attributes := #[] }, { accessFlags := 25, nameIndex := 318, descriptorIndex := 194, attributes := #[] }, { accessFlags := 26, nameIndex := 320, descriptorIndex := 321, attributes := #[] }])
  fields := #[{ name := "MIN_VALUE", type := .int, accessFlags := 25, slot := 0, constantValue := 0 }, { name := "MAX_VALUE", type := .int, accessFlags := 25, slot := 1, constantValue := 0 }, { name := "TYPE", type := (.object "java/lang/Class"), accessFlags := 25, slot := 2, constantValue := 0 }, { name := "digits", type := (.array .char), accessFlags := 24, slot := 3, constantValue := 0 }, { name := "DigitTens", type := (.array .byte), accessFlags := 24, slot := 4, constantValue := 0 }, { name := "DigitOnes", type := (.array .byte), accessFlags := 24, slot := 5, constantValue := 0 }, { name := "value", type := .int, accessFlags := 18, slot := 0, constantValue := 0 }, { name := "SIZE", type := .int, accessFlags := 25, slot := 6, constantValue := 0 }, { name := "BYTES", type := .int, accessFlags := 25, slot := 7, constantValue := 0 }, { name := "serialVersionUID", type := .long, accessFlags := 26, slot := 8, constantValue := 0 }]
  methods := #[k17m0, k17m1]
  instanceTypes := #[.int]
  staticTypes := #[.int, .int, (.object "java/lang/Class"), (.array .char), (.array .byte), (.array .byte), .int, .int, .long]
  resolved := Array.replicate 453 none
  statics := some 1 }

def pool18 : Array CpInfo := pool [(2, .class_ 4), (1, u "java/lang/Object"), (0, u "<init>"), (0, u "()V"), (7, .class_ 16), (1, u "java/util/Arrays"), (57, .class_ 76), (1, u "java/util/Arrays$NaturalOrder"), (36, .class_ 115), (1, u "java/util/Arrays$LegacyMergeSort"), (1, u "Z"), (21, u "copyOfRange"), (10, .methodref 151 152), (0, .class_ 153), (0, .nameAndType 154 155), (0, u "java/lang/System"), (0, u "arraycopy"), (0, u "(Ljava/lang/Object;ILjava/lang/Object;II)V"), (148, .methodref 305 306), (0, .class_ 307), (0, .nameAndType 308 309), (0, u "java/lang/Math"), (0, u "min"), (0, u "(II)I"), (29, .methodref 14 340), (0, .nameAndType 341 342), (0, u "copyOfRangeByte"), (0, u "([BII)[B"), (0, .methodref 14 344), (0, .nameAndType 345 346), (0, u "checkLength"), (0, u "(II)V"), (28, .class_ 376), (0, u "java/util/Arrays$ArrayList"), (68, u "$assertionsDisabled"), (269, u "MIN_ARRAY_SORT_GRAN"), (0, u "I"), (2, u "INSERTIONSORT_THRESHOLD"), (255, .class_ 976), (0, u "java/util/Arrays$ArrayItr")] 52

def k18m0 : Method := { name := "<init>", desc := "()V", sig := { parameters := [], returnType := none }, accessFlags := 2, code := none }
def k18c1 : Code := { maxStack := 4, maxLocals := 2, code := jdk_65_method_131_code, exceptionTable := #[], attributes := #[] }
def k18m1 : Method := { name := "checkLength", desc := "(II)V", sig := { parameters := [.int, .int], returnType := none }, accessFlags := 10, code := some k18c1 }
def k18c2 : Code := { maxStack := 3, maxLocals := 3, code := jdk_65_method_132_code, exceptionTable := #[], attributes := #[] }
def k18m2 : Method := { name := "copyOfRange", desc := "([BII)[B", sig := { parameters := [(.array .byte), .int, .int], returnType := some (.array .byte) }, accessFlags := 9, code := some k18c2 }
def k18c3 : Code := { maxStack := 6, maxLocals := 5, code := jdk_65_method_133_code, exceptionTable := #[], attributes := #[] }
def k18m3 : Method := { name := "copyOfRangeByte", desc := "([BII)[B", sig := { parameters := [(.array .byte), .int, .int], returnType := some (.array .byte) }, accessFlags := 10, code := some k18c3 }
/-- java/util/Arrays -/
def k18 : Class := { plain "java/util/Arrays" (some 0) with
  accessFlags := 49
  interfaces := #[]
  cf := some (fileOf pool18 14 #[.nestMembers #[975, 375, 113, 74]] #[{ accessFlags := 2, nameIndex := 5, descriptorIndex := 6, attributes := #[] }, { accessFlags := 10, nameIndex := 345, descriptorIndex := 346, attributes := #[] }, { accessFlags := 9, nameIndex := 139, descriptorIndex := 342, attributes := #[] }, { accessFlags := 10, nameIndex := 341, descriptorIndex := 342, attributes := #[] }] 49 2 #[] #[{ accessFlags := 26, nameIndex := 715, descriptorIndex := 716, attributes := #[] }, { accessFlags := 26, nameIndex := 719, descriptorIndex := 716, attributes := #[] }, { accessFlags := 4120, nameIndex := 445, descriptorIndex := 117, attributes := #[] }])
  fields := #[{ name := "MIN_ARRAY_SORT_GRAN", type := .int, accessFlags := 26, slot := 0, constantValue := 0 }, { name := "INSERTIONSORT_THRESHOLD", type := .int, accessFlags := 26, slot := 1, constantValue := 0 }, { name := "$assertionsDisabled", type := .boolean, accessFlags := 4120, slot := 2, constantValue := 0 }]
  methods := #[k18m0, k18m1, k18m2, k18m3]
  instanceTypes := #[]
  staticTypes := #[.int, .int, .boolean]
  resolved := Array.replicate 1029 none
  statics := none }

def pool19 : Array CpInfo := pool [(1, .class_ 2), (0, u "java/lang/Math"), (1, .class_ 6), (1, u "java/lang/Object"), (0, u "<init>"), (0, u "()V"), (89, .class_ 100), (1, u "java/lang/Math$RandomNumberGeneratorHolder"), (71, u "negativeZeroFloatBits"), (0, u "J"), (2, u "negativeZeroDoubleBits"), (24, u "min"), (43, u "$assertionsDisabled"), (0, u "Z"), (88, u "(II)I"), (2, u "twoToTheDoubleScaleDown"), (0, u "D"), (4, u "twoToTheDoubleScaleUp"), (9, u "E"), (3, u "PI"), (2, u "TAU"), (2, u "DEGREES_TO_RADIANS"), (0, u "RADIANS_TO_DEGREES")] 94

def k19m0 : Method := { name := "<init>", desc := "()V", sig := { parameters := [], returnType := none }, accessFlags := 2, code := none }
def k19c1 : Code := { maxStack := 2, maxLocals := 2, code := jdk_29_method_69_code, exceptionTable := #[], attributes := #[] }
def k19m1 : Method := { name := "min", desc := "(II)I", sig := { parameters := [.int, .int], returnType := some .int }, accessFlags := 9, code := some k19c1 }
/-- java/lang/Math -/
def k19 : Class := { plain "java/lang/Math" (some 0) with
  accessFlags := 49
  interfaces := #[]
  cf := some (fileOf pool19 1 #[.nestMembers #[98]] #[{ accessFlags := 2, nameIndex := 7, descriptorIndex := 8, attributes := #[] }, { accessFlags := 9, nameIndex := 201, descriptorIndex := 335, attributes := #[] }] 49 4 #[] #[{ accessFlags := 25, nameIndex := 354, descriptorIndex := 339, attributes := #[] }, { accessFlags := 25, nameIndex := 358, descriptorIndex := 339, attributes := #[] }, { accessFlags := 25, nameIndex := 361, descriptorIndex := 339, attributes := #[] }, { accessFlags := 26, nameIndex := 364, descriptorIndex := 339, attributes := #[] }, { accessFlags := 26, nameIndex := 365, descriptorIndex := 339, attributes := #[] }, { accessFlags := 26, nameIndex := 172, descriptorIndex := 173, attributes := #[] }, { accessFlags := 26, nameIndex := 176, descriptorIndex := 173, attributes := #[] }, { accessFlags := 8, nameIndex := 344, descriptorIndex := 339, attributes := #[] }, { accessFlags := 8, nameIndex := 338, descriptorIndex := 339, attributes := #[] }, { accessFlags := 4120, nameIndex := 245, descriptorIndex := 246, attributes := #[] }])
  fields := #[{ name := "E", type := .double, accessFlags := 25, slot := 0, constantValue := 0 }, { name := "PI", type := .double, accessFlags := 25, slot := 1, constantValue := 0 }, { name := "TAU", type := .double, accessFlags := 25, slot := 2, constantValue := 0 }, { name := "DEGREES_TO_RADIANS", type := .double, accessFlags := 26, slot := 3, constantValue := 0 }, { name := "RADIANS_TO_DEGREES", type := .double, accessFlags := 26, slot := 4, constantValue := 0 }, { name := "negativeZeroFloatBits", type := .long, accessFlags := 26, slot := 5, constantValue := 0 }, { name := "negativeZeroDoubleBits", type := .long, accessFlags := 26, slot := 6, constantValue := 0 }, { name := "twoToTheDoubleScaleUp", type := .double, accessFlags := 8, slot := 7, constantValue := 0 }, { name := "twoToTheDoubleScaleDown", type := .double, accessFlags := 8, slot := 8, constantValue := 0 }, { name := "$assertionsDisabled", type := .boolean, accessFlags := 4120, slot := 9, constantValue := 0 }]
  methods := #[k19m0, k19m1]
  instanceTypes := #[]
  staticTypes := #[.double, .double, .double, .double, .double, .long, .long, .double, .double, .boolean]
  resolved := Array.replicate 460 none
  statics := none }

def pool20 : Array CpInfo := pool [(1, .class_ 2), (0, u "java/lang/String"), (1, .class_ 6), (1, u "java/lang/Object"), (0, u "<init>"), (0, u "()V"), (0, .methodref 1 10), (0, .nameAndType 11 12), (0, u "checkIndex"), (0, u "(II)V"), (1, .class_ 16), (1, u "java/lang/StringLatin1"), (36, u "([BI)C"), (67, u "$assertionsDisabled"), (0, u "Z"), (98, .class_ 223), (1, u "java/lang/StringLatin1$LinesSpliterator"), (28, u "charAt"), (137, .class_ 391), (0, u "java/lang/StringLatin1$CharsSpliterator")] 3

def k20m0 : Method := { name := "<init>", desc := "()V", sig := { parameters := [], returnType := none }, accessFlags := 0, code := none }
def k20c1 : Code := { maxStack := 2, maxLocals := 2, code := jdk_43_method_2_code, exceptionTable := #[], attributes := #[] }
def k20m1 : Method := { name := "charAt", desc := "([BI)C", sig := { parameters := [(.array .byte), .int], returnType := some .char }, accessFlags := 9, code := some k20c1 }
/-- java/lang/StringLatin1 -/
def k20 : Class := { plain "java/lang/StringLatin1" (some 0) with
  accessFlags := 48
  interfaces := #[]
  cf := some (fileOf pool20 14 #[.nestMembers #[390, 221]] #[{ accessFlags := 0, nameIndex := 7, descriptorIndex := 8, attributes := #[] }, { accessFlags := 9, nameIndex := 252, descriptorIndex := 53, attributes := #[] }] 48 4 #[] #[{ accessFlags := 4120, nameIndex := 121, descriptorIndex := 122, attributes := #[] }])
  fields := #[{ name := "$assertionsDisabled", type := .boolean, accessFlags := 4120, slot := 0, constantValue := 0 }]
  methods := #[k20m0, k20m1]
  instanceTypes := #[]
  staticTypes := #[.boolean]
  resolved := Array.replicate 395 none
  statics := none }

def pool21 : Array CpInfo := pool [(2, .class_ 4), (1, u "java/lang/Object"), (0, u "<init>"), (0, u "()V"), (17, .class_ 26), (1, u "jdk/internal/util/Preconditions"), (6, u "checkIndex"), (21, .class_ 56), (0, u "jdk/internal/util/Preconditions$4"), (57, .class_ 115), (0, u "jdk/internal/util/Preconditions$1"), (7, u "SIOOBE_FORMATTER"), (0, u "Ljava/util/function/BiFunction;"), (0, .class_ 126), (0, u "jdk/internal/util/Preconditions$2"), (3, u "AIOOBE_FORMATTER"), (0, .class_ 132), (0, u "jdk/internal/util/Preconditions$3"), (3, u "IOOBE_FORMATTER"), (41, u "(IILjava/util/function/BiFunction;)I")] 15

def k21m0 : Method := { name := "<init>", desc := "()V", sig := { parameters := [], returnType := none }, accessFlags := 1, code := none }
def k21c1 : Code := { maxStack := 3, maxLocals := 3, code := jdk_41_method_11_code, exceptionTable := #[], attributes := #[] }
def k21m1 : Method := { name := "checkIndex", desc := "(IILjava/util/function/BiFunction;)I", sig := { parameters := [.int, .int, (.object "java/util/function/BiFunction")], returnType := some .int }, accessFlags := 9, code := some k21c1 }
/-- jdk/internal/util/Preconditions -/
def k21 : Class := { plain "jdk/internal/util/Preconditions" (some 0) with
  accessFlags := 33
  interfaces := #[]
  cf := some (fileOf pool21 24 #[.nestMembers #[55, 131, 125, 114]] #[{ accessFlags := 1, nameIndex := 5, descriptorIndex := 6, attributes := #[] }, { accessFlags := 9, nameIndex := 33, descriptorIndex := 178, attributes := #[] }] 33 2 #[] #[{ accessFlags := 25, nameIndex := 123, descriptorIndex := 124, attributes := #[] }, { accessFlags := 25, nameIndex := 130, descriptorIndex := 124, attributes := #[] }, { accessFlags := 25, nameIndex := 136, descriptorIndex := 124, attributes := #[] }])
  fields := #[{ name := "SIOOBE_FORMATTER", type := (.object "java/util/function/BiFunction"), accessFlags := 25, slot := 0, constantValue := 0 }, { name := "AIOOBE_FORMATTER", type := (.object "java/util/function/BiFunction"), accessFlags := 25, slot := 1, constantValue := 0 }, { name := "IOOBE_FORMATTER", type := (.object "java/util/function/BiFunction"), accessFlags := 25, slot := 2, constantValue := 0 }]
  methods := #[k21m0, k21m1]
  instanceTypes := #[]
  staticTypes := #[(.object "java/util/function/BiFunction"), (.object "java/util/function/BiFunction"), (.object "java/util/function/BiFunction")]
  resolved := Array.replicate 194 none
  statics := some 2 }

def pool22 : Array CpInfo := pool [(9, u "<init>"), (6, .class_ 18), (1, u "java/lang/Object"), (0, u "()V"), (1, .class_ 23), (1, u "jdk/internal/util/ArraysSupport"), (0, u "LOG2_ARRAY_LONG_INDEX_SCALE"), (0, u "I"), (2, u "U"), (0, u "Ljdk/internal/misc/Unsafe;"), (8, u "BIG_ENDIAN"), (0, u "Z"), (8, u "LOG2_BYTE_BIT_SIZE"), (4, u "LOG2_ARRAY_INT_INDEX_SCALE"), (54, u "JLA"), (0, u "Ljdk/internal/access/JavaLangAccess;"), (11, u "LOG2_ARRAY_BOOLEAN_INDEX_SCALE"), (9, u "LOG2_ARRAY_BYTE_INDEX_SCALE"), (5, u "LOG2_ARRAY_CHAR_INDEX_SCALE"), (5, u "LOG2_ARRAY_SHORT_INDEX_SCALE"), (18, u "LOG2_ARRAY_FLOAT_INDEX_SCALE"), (24, u "LOG2_ARRAY_DOUBLE_INDEX_SCALE"), (89, u "T_BOOLEAN"), (2, u "T_CHAR"), (1, u "T_FLOAT"), (1, u "T_DOUBLE"), (1, u "T_BYTE"), (1, u "T_SHORT"), (1, u "T_INT"), (1, u "T_LONG"), (1, u "SOFT_MAX_ARRAY_LENGTH")] 83

def k22m0 : Method := { name := "<init>", desc := "()V", sig := { parameters := [], returnType := none }, accessFlags := 2, code := none }
/-- jdk/internal/util/ArraysSupport -/
def k22 : Class := { plain "jdk/internal/util/ArraysSupport" (some 0) with
  accessFlags := 33
  interfaces := #[]
  cf := some (fileOf pool22 21 #[] #[{ accessFlags := 2, nameIndex := 9, descriptorIndex := 19, attributes := #[] }] 33 16 #[] #[{ accessFlags := 24, nameIndex := 28, descriptorIndex := 29, attributes := #[] }, { accessFlags := 26, nameIndex := 38, descriptorIndex := 39, attributes := #[] }, { accessFlags := 25, nameIndex := 121, descriptorIndex := 25, attributes := #[] }, { accessFlags := 25, nameIndex := 131, descriptorIndex := 25, attributes := #[] }, { accessFlags := 25, nameIndex := 137, descriptorIndex := 25, attributes := #[] }, { accessFlags := 25, nameIndex := 143, descriptorIndex := 25, attributes := #[] }, { accessFlags := 25, nameIndex := 53, descriptorIndex := 25, attributes := #[] }, { accessFlags := 25, nameIndex := 24, descriptorIndex := 25, attributes := #[] }, { accessFlags := 25, nameIndex := 162, descriptorIndex := 25, attributes := #[] }, { accessFlags := 25, nameIndex := 187, descriptorIndex := 25, attributes := #[] }, { accessFlags := 26, nameIndex := 48, descriptorIndex := 25, attributes := #[] }, { accessFlags := 25, nameIndex := 277, descriptorIndex := 25, attributes := #[] }, { accessFlags := 25, nameIndex := 280, descriptorIndex := 25, attributes := #[] }, { accessFlags := 25, nameIndex := 282, descriptorIndex := 25, attributes := #[] }, { accessFlags := 25, nameIndex := 284, descriptorIndex := 25, attributes := #[] }, { accessFlags := 25, nameIndex := 286, descriptorIndex := 25, attributes := #[] }, { accessFlags := 25, nameIndex := 288, descriptorIndex := 25, attributes := #[] }, { accessFlags := 25, nameIndex := 290, descriptorIndex := 25, attributes := #[] }, { accessFlags := 25, nameIndex := 292, descriptorIndex := 25, attributes := #[] }, { accessFlags := 26, nameIndex := 108, descriptorIndex := 109, attributes := #[] }, { accessFlags := 25, nameIndex := 294, descriptorIndex := 25, attributes := #[] }])
  fields := #[{ name := "U", type := (.object "jdk/internal/misc/Unsafe"), accessFlags := 24, slot := 0, constantValue := 0 }, { name := "BIG_ENDIAN", type := .boolean, accessFlags := 26, slot := 1, constantValue := 0 }, { name := "LOG2_ARRAY_BOOLEAN_INDEX_SCALE", type := .int, accessFlags := 25, slot := 2, constantValue := 0 }, { name := "LOG2_ARRAY_BYTE_INDEX_SCALE", type := .int, accessFlags := 25, slot := 3, constantValue := 0 }, { name := "LOG2_ARRAY_CHAR_INDEX_SCALE", type := .int, accessFlags := 25, slot := 4, constantValue := 0 }, { name := "LOG2_ARRAY_SHORT_INDEX_SCALE", type := .int, accessFlags := 25, slot := 5, constantValue := 0 }, { name := "LOG2_ARRAY_INT_INDEX_SCALE", type := .int, accessFlags := 25, slot := 6, constantValue := 0 }, { name := "LOG2_ARRAY_LONG_INDEX_SCALE", type := .int, accessFlags := 25, slot := 7, constantValue := 0 }, { name := "LOG2_ARRAY_FLOAT_INDEX_SCALE", type := .int, accessFlags := 25, slot := 8, constantValue := 0 }, { name := "LOG2_ARRAY_DOUBLE_INDEX_SCALE", type := .int, accessFlags := 25, slot := 9, constantValue := 0 }, { name := "LOG2_BYTE_BIT_SIZE", type := .int, accessFlags := 26, slot := 10, constantValue := 0 }, { name := "T_BOOLEAN", type := .int, accessFlags := 25, slot := 11, constantValue := 0 }, { name := "T_CHAR", type := .int, accessFlags := 25, slot := 12, constantValue := 0 }, { name := "T_FLOAT", type := .int, accessFlags := 25, slot := 13, constantValue := 0 }, { name := "T_DOUBLE", type := .int, accessFlags := 25, slot := 14, constantValue := 0 }, { name := "T_BYTE", type := .int, accessFlags := 25, slot := 15, constantValue := 0 }, { name := "T_SHORT", type := .int, accessFlags := 25, slot := 16, constantValue := 0 }, { name := "T_INT", type := .int, accessFlags := 25, slot := 17, constantValue := 0 }, { name := "T_LONG", type := .int, accessFlags := 25, slot := 18, constantValue := 0 }, { name := "JLA", type := (.object "jdk/internal/access/JavaLangAccess"), accessFlags := 26, slot := 19, constantValue := 0 }, { name := "SOFT_MAX_ARRAY_LENGTH", type := .int, accessFlags := 25, slot := 20, constantValue := 0 }]
  methods := #[k22m0]
  instanceTypes := #[]
  staticTypes := #[(.object "jdk/internal/misc/Unsafe"), .boolean, .int, .int, .int, .int, .int, .int, .int, .int, .int, .int, .int, .int, .int, .int, .int, .int, .int, (.object "jdk/internal/access/JavaLangAccess"), .int]
  resolved := Array.replicate 378 none
  statics := none }

def pool23 : Array CpInfo := pool [(1, u "java/lang/Cloneable"), (0, .class_ 1), (0, u "java/lang/Object"), (0, .class_ 3)] 3

/-- java/lang/Cloneable -/
def k23 : Class := { plain "java/lang/Cloneable" (some 0) with
  accessFlags := 1537
  interfaces := #[]
  cf := some (fileOf pool23 2 #[] #[] 1537 4 #[] #[])
  fields := #[]
  methods := #[]
  instanceTypes := #[]
  staticTypes := #[]
  resolved := Array.replicate 8 none
  statics := none }

/-- the primitive byte -/
def k24 : Class := { plain "byte" none with kind := .primitive 'B', accessFlags := 0x411 }
/-- [B -/
def k25 : Class := { plain "[B" (some 0) with kind := .array 24 .byte, interfaces := #[23, 2], accessFlags := 1041 }

/-- the primitive char -/
def k26 : Class := { plain "char" none with kind := .primitive 'C', accessFlags := 0x411 }
/-- [C -/
def k27 : Class := { plain "[C" (some 0) with kind := .array 26 .char, interfaces := #[23, 2], accessFlags := 1041 }

/-- the primitive int -/
def k28 : Class := { plain "int" none with kind := .primitive 'I', accessFlags := 0x411 }
/-- [I -/
def k29 : Class := { plain "[I" (some 0) with kind := .array 28 .int, interfaces := #[23, 2], accessFlags := 1041 }

/-- jdk/internal/util/ArraysSupport -/
def k30 : Class := { plain "jdk/internal/util/ArraysSupport" (some 0) with accessFlags := 33 }

def heap : Heap := #[{ cls := 7, slots := #[.long 0, .int 1, .null, .int 0, .null, .int 0, .int 0], vm := .statics 7 },
  { cls := 17, slots := #[.int 0, .int 0, .null, .null, .ref 4, .ref 3, .int 0, .int 0, .long 0], vm := .statics 17 },
  { cls := 21, slots := #[.null, .null, .null], vm := .statics 21 },
  { cls := 25, slots := #[.int 48, .int 49, .int 50, .int 51, .int 52, .int 53, .int 54, .int 55, .int 56, .int 57, .int 48, .int 49, .int 50, .int 51, .int 52, .int 53, .int 54, .int 55, .int 56, .int 57, .int 48, .int 49, .int 50, .int 51, .int 52, .int 53, .int 54, .int 55, .int 56, .int 57, .int 48, .int 49, .int 50, .int 51, .int 52, .int 53, .int 54, .int 55, .int 56, .int 57, .int 48, .int 49, .int 50, .int 51, .int 52, .int 53, .int 54, .int 55, .int 56, .int 57, .int 48, .int 49, .int 50, .int 51, .int 52, .int 53, .int 54, .int 55, .int 56, .int 57, .int 48, .int 49, .int 50, .int 51, .int 52, .int 53, .int 54, .int 55, .int 56, .int 57, .int 48, .int 49, .int 50, .int 51, .int 52, .int 53, .int 54, .int 55, .int 56, .int 57, .int 48, .int 49, .int 50, .int 51, .int 52, .int 53, .int 54, .int 55, .int 56, .int 57, .int 48, .int 49, .int 50, .int 51, .int 52, .int 53, .int 54, .int 55, .int 56, .int 57], vm := .none },
  { cls := 25, slots := #[.int 48, .int 48, .int 48, .int 48, .int 48, .int 48, .int 48, .int 48, .int 48, .int 48, .int 49, .int 49, .int 49, .int 49, .int 49, .int 49, .int 49, .int 49, .int 49, .int 49, .int 50, .int 50, .int 50, .int 50, .int 50, .int 50, .int 50, .int 50, .int 50, .int 50, .int 51, .int 51, .int 51, .int 51, .int 51, .int 51, .int 51, .int 51, .int 51, .int 51, .int 52, .int 52, .int 52, .int 52, .int 52, .int 52, .int 52, .int 52, .int 52, .int 52, .int 53, .int 53, .int 53, .int 53, .int 53, .int 53, .int 53, .int 53, .int 53, .int 53, .int 54, .int 54, .int 54, .int 54, .int 54, .int 54, .int 54, .int 54, .int 54, .int 54, .int 55, .int 55, .int 55, .int 55, .int 55, .int 55, .int 55, .int 55, .int 55, .int 55, .int 56, .int 56, .int 56, .int 56, .int 56, .int 56, .int 56, .int 56, .int 56, .int 56, .int 57, .int 57, .int 57, .int 57, .int 57, .int 57, .int 57, .int 57, .int 57, .int 57], vm := .none }]
def classes : Array Class := #[k0, k1, k2, k3, k4, k5, k6, k7, k8, k9, k10, k11, k12, k13, k14, k15, k16, k17, k18, k19, k20, k21, k22, k23, k24, k25, k26, k27, k28, k29, k30]
def interned : List (Array UInt16 × Addr) := []
def slotsUsed : Nat := 219
def theMethod : MethodId := ⟨1, 1⟩
def args0 : Array Value := #[.int 0, .int 0, .int 0]
def aboutOver (below : List Frame) : State where
  vm := { classes := classes, interned := interned.toArray }
  heap := heap
  slotsUsed := slotsUsed
  threads := #[{ frames := .invoking theMethod args0 :: below }]
def below0 : List Frame := [.native { method := ⟨0, 0⟩, args := #[] }]
def about1 : State := aboutOver below0
def p0 : Program := .bare "" "" ""
def e0 : Env := launch0.env 0 0 0
theorem w_frames : about1.frames = Frame.invoking theMethod args0 :: below0 := rfl
set_option maxRecDepth 65536 in
theorem w_args : argsFit about1.vm theMethod args0 = true := by decide +kernel
set_option maxRecDepth 65536 in
theorem w_heap : heapFits about1 = true := by decide +kernel
set_option maxRecDepth 65536 in
theorem w_runnable : about1.curStatus? = some .runnable := by decide +kernel
set_option maxRecDepth 65536 in
theorem w_alone : about1.alone = true := by decide +kernel
set_option maxRecDepth 65536 in
theorem w_named : about1.methodNamed? x = some theMethod := by decide +kernel
set_option maxRecDepth 65536 in
theorem w_hears : about1.hears theMethod below0 = true := by decide +kernel
set_option maxRecDepth 65536 in
theorem w_ripe : about1.ripe theMethod args0 below0 = true := by decide +kernel
theorem w_running : about1.status = .running := rfl
set_option maxRecDepth 65536 in
theorem w_room : about1.hasRoom e0.platform room_1 = true :=
  launch0.hasRoom_least _ room_1 (by decide +kernel) (by decide +kernel) (by decide +kernel) (by decide +kernel) (by decide +kernel) (by decide +kernel)
theorem allAtoms_all (ts : List Jvm.Cond) (a : Array Jvm.Value) (st : Jvm.State) : (allAtoms ts).before a st = ts.all (fun c => c.before a st) := by
  induction ts with
  | nil => rfl
  | cons c t ih =>
    show (Jvm.Cond.and c (allAtoms t)).before a st = _
    rw [Jvm.Cond.before_and, ih, List.all_cons]
def words1 : List Jvm.Cond := Jvm.Cond.code x code maxLocals ret :: tables_1
/-- a 'code' word, met by the world's own term for the bytes: nothing is compared byte by byte -/
theorem code_word {y : MethodName} {bytes : ByteArray} {mx : Nat} {rt : Option FieldType} {a : Array Value} {s : State} {m : MethodId} {meth : Method} {c : Code} (h1 : s.methodNamed? y = some m) (h2 : s.vm.method? m = some meth) (h3 : meth.code = some c) (h4 : c.code = bytes)
    (h5 : (c.maxLocals == mx && c.exceptionTable.isEmpty && decide (c.maxStack ≤ mostOperands) && decide (meth.sig.returnType = rt) && !meth.locks && decide (parseMethodDescriptor y.desc = some meth.sig)) = true) : (Jvm.Cond.code y bytes mx rt).before a s = true := by
  simp only [Bool.and_eq_true, beq_iff_eq, Bool.not_eq_true', decide_eq_true_eq] at h5
  obtain ⟨⟨⟨⟨⟨g1, g2⟩, g3⟩, g4⟩, g5⟩, g6⟩ := h5
  simp [Cond.before, Cond.holds, Cond.value, h1, h2, h3, h4, g1, g2, g3, g4, g5, g6]
def isCode : Jvm.Cond → Bool
  | .code _ _ _ _ => true
  | _ => false
theorem all_split {L : List Jvm.Cond} {P : Jvm.Cond → Bool} (h1 : L.all (fun c => isCode c || P c) = true) (h2 : ∀ c ∈ L.filter isCode, P c = true) : L.all P = true := by
  refine List.all_eq_true.mpr fun c hc => ?_
  have h := List.all_eq_true.mp h1 c hc
  rcases Bool.eq_false_or_eq_true (isCode c) with hi | hi
  · exact h2 c (List.mem_filter.mpr ⟨hc, hi⟩)
  · simpa [hi] using h
set_option maxRecDepth 65536 in
theorem w_c0 : (Jvm.Cond.code x code maxLocals ret).before args0 about1 = true := code_word (m := ⟨1, 1⟩) (meth := k1m1) (c := k1c1) (by decide +kernel) rfl rfl rfl (by decide +kernel)
set_option maxRecDepth 65536 in
theorem w_c1 : (Jvm.Cond.code ({ cls := "com/example/farcall/farcall/EndpointToStringPinLaw", name := "makeHost", desc := "(ICCC)Ljava/lang/String;" } : Jvm.MethodName) method_3_code (4 : Nat) (Option.some (Jvm.ClassFile.FieldType.object "java/lang/String"))).before args0 about1 = true := code_word (m := ⟨1, 2⟩) (meth := k1m2) (c := k1c2) (by decide +kernel) rfl rfl rfl (by decide +kernel)
set_option maxRecDepth 65536 in
theorem w_c2 : (Jvm.Cond.code ({ cls := "java/lang/String", name := "<init>", desc := "([C)V" } : Jvm.MethodName) jdk_42_method_3_code (2 : Nat) (Option.none : Option Jvm.ClassFile.FieldType)).before args0 about1 = true := code_word (m := ⟨7, 1⟩) (meth := k7m1) (c := k7c1) (by decide +kernel) rfl rfl rfl (by decide +kernel)
set_option maxRecDepth 65536 in
theorem w_c3 : (Jvm.Cond.code ({ cls := "java/lang/String", name := "<init>", desc := "([CIILjava/lang/Void;)V" } : Jvm.MethodName) jdk_42_method_149_code (6 : Nat) (Option.none : Option Jvm.ClassFile.FieldType)).before args0 about1 = true := code_word (m := ⟨7, 6⟩) (meth := k7m6) (c := k7c6) (by decide +kernel) rfl rfl rfl (by decide +kernel)
set_option maxRecDepth 65536 in
theorem w_c4 : (Jvm.Cond.code ({ cls := "java/lang/Object", name := "<init>", desc := "()V" } : Jvm.MethodName) object_method_1_code (1 : Nat) (Option.none : Option Jvm.ClassFile.FieldType)).before args0 about1 = true := code_word (m := ⟨0, 0⟩) (meth := k0m0) (c := k0c0) (by decide +kernel) rfl rfl rfl (by decide +kernel)
set_option maxRecDepth 65536 in
theorem w_c5 : (Jvm.Cond.code ({ cls := "java/lang/StringUTF16", name := "compress", desc := "([CII)[B" } : Jvm.MethodName) jdk_52_method_16_code (6 : Nat) (Option.some (Jvm.ClassFile.FieldType.array Jvm.ClassFile.FieldType.byte))).before args0 about1 = true := code_word (m := ⟨8, 2⟩) (meth := k8m2) (c := k8c2) (by decide +kernel) rfl rfl rfl (by decide +kernel)
set_option maxRecDepth 65536 in
theorem w_c6 : (Jvm.Cond.code ({ cls := "java/lang/StringUTF16", name := "compress", desc := "([CI[BII)I" } : Jvm.MethodName) jdk_52_method_21_code (7 : Nat) (Option.some Jvm.ClassFile.FieldType.int)).before args0 about1 = true := code_word (m := ⟨8, 3⟩) (meth := k8m3) (c := k8c3) (by decide +kernel) rfl rfl rfl (by decide +kernel)
set_option maxRecDepth 65536 in
theorem w_c7 : (Jvm.Cond.code ({ cls := "java/lang/StringUTF16", name := "coderFromArrayLen", desc := "([BI)B" } : Jvm.MethodName) jdk_52_method_15_code (2 : Nat) (Option.some Jvm.ClassFile.FieldType.byte)).before args0 about1 = true := code_word (m := ⟨8, 1⟩) (meth := k8m1) (c := k8c1) (by decide +kernel) rfl rfl rfl (by decide +kernel)
set_option maxRecDepth 65536 in
theorem w_c8 : (Jvm.Cond.code ({ cls := "com/example/farcall/farcall/Endpoint", name := "<init>", desc := "(Ljava/lang/String;I)V" } : Jvm.MethodName) prog_16_method_1_code (3 : Nat) (Option.none : Option Jvm.ClassFile.FieldType)).before args0 about1 = true := code_word (m := ⟨10, 0⟩) (meth := k10m0) (c := k10c0) (by decide +kernel) rfl rfl rfl (by decide +kernel)
set_option maxRecDepth 65536 in
theorem w_c9 : (Jvm.Cond.code ({ cls := "java/lang/Record", name := "<init>", desc := "()V" } : Jvm.MethodName) jdk_30_method_1_code (1 : Nat) (Option.none : Option Jvm.ClassFile.FieldType)).before args0 about1 = true := code_word (m := ⟨9, 0⟩) (meth := k9m0) (c := k9c0) (by decide +kernel) rfl rfl rfl (by decide +kernel)
set_option maxRecDepth 65536 in
theorem w_c10 : (Jvm.Cond.code ({ cls := "java/util/Objects", name := "requireNonNull", desc := "(Ljava/lang/Object;Ljava/lang/String;)Ljava/lang/Object;" } : Jvm.MethodName) jdk_31_method_11_code (2 : Nat) (Option.some (Jvm.ClassFile.FieldType.object "java/lang/Object"))).before args0 about1 = true := code_word (m := ⟨11, 1⟩) (meth := k11m1) (c := k11c1) (by decide +kernel) rfl rfl rfl (by decide +kernel)
set_option maxRecDepth 65536 in
theorem w_c11 : (Jvm.Cond.code ({ cls := "com/example/farcall/farcall/Endpoint", name := "toString", desc := "()Ljava/lang/String;" } : Jvm.MethodName) prog_16_method_2_code (1 : Nat) (Option.some (Jvm.ClassFile.FieldType.object "java/lang/String"))).before args0 about1 = true := code_word (m := ⟨10, 1⟩) (meth := k10m1) (c := k10c1) (by decide +kernel) rfl rfl rfl (by decide +kernel)
set_option maxRecDepth 65536 in
theorem w_c12 : (Jvm.Cond.code ({ cls := "java/lang/StringBuilder", name := "<init>", desc := "()V" } : Jvm.MethodName) jdk_67_method_1_code (1 : Nat) (Option.none : Option Jvm.ClassFile.FieldType)).before args0 about1 = true := code_word (m := ⟨14, 0⟩) (meth := k14m0) (c := k14c0) (by decide +kernel) rfl rfl rfl (by decide +kernel)
set_option maxRecDepth 65536 in
theorem w_c13 : (Jvm.Cond.code ({ cls := "java/lang/AbstractStringBuilder", name := "<init>", desc := "(I)V" } : Jvm.MethodName) jdk_68_method_2_code (2 : Nat) (Option.none : Option Jvm.ClassFile.FieldType)).before args0 about1 = true := code_word (m := ⟨13, 1⟩) (meth := k13m1) (c := k13c1) (by decide +kernel) rfl rfl rfl (by decide +kernel)
set_option maxRecDepth 65536 in
theorem w_c14 : (Jvm.Cond.code ({ cls := "java/lang/StringBuilder", name := "append", desc := "(Ljava/lang/String;)Ljava/lang/StringBuilder;" } : Jvm.MethodName) jdk_67_method_7_code (2 : Nat) (Option.some (Jvm.ClassFile.FieldType.object "java/lang/StringBuilder"))).before args0 about1 = true := code_word (m := ⟨14, 1⟩) (meth := k14m1) (c := k14c1) (by decide +kernel) rfl rfl rfl (by decide +kernel)
set_option maxRecDepth 65536 in
theorem w_c15 : (Jvm.Cond.code ({ cls := "java/lang/AbstractStringBuilder", name := "append", desc := "(Ljava/lang/String;)Ljava/lang/AbstractStringBuilder;" } : Jvm.MethodName) jdk_68_method_22_code (3 : Nat) (Option.some (Jvm.ClassFile.FieldType.object "java/lang/AbstractStringBuilder"))).before args0 about1 = true := code_word (m := ⟨13, 4⟩) (meth := k13m4) (c := k13c4) (by decide +kernel) rfl rfl rfl (by decide +kernel)
set_option maxRecDepth 65536 in
theorem w_c16 : (Jvm.Cond.code ({ cls := "java/lang/String", name := "length", desc := "()I" } : Jvm.MethodName) jdk_42_method_54_code (1 : Nat) (Option.some Jvm.ClassFile.FieldType.int)).before args0 about1 = true := code_word (m := ⟨7, 3⟩) (meth := k7m3) (c := k7c3) (by decide +kernel) rfl rfl rfl (by decide +kernel)
set_option maxRecDepth 65536 in
theorem w_c17 : (Jvm.Cond.code ({ cls := "java/lang/String", name := "coder", desc := "()B" } : Jvm.MethodName) jdk_42_method_152_code (1 : Nat) (Option.some Jvm.ClassFile.FieldType.byte)).before args0 about1 = true := code_word (m := ⟨7, 8⟩) (meth := k7m8) (c := k7c8) (by decide +kernel) rfl rfl rfl (by decide +kernel)
set_option maxRecDepth 65536 in
theorem w_c18 : (Jvm.Cond.code ({ cls := "java/lang/AbstractStringBuilder", name := "ensureCapacityInternal", desc := "(I)V" } : Jvm.MethodName) jdk_68_method_9_code (3 : Nat) (Option.none : Option Jvm.ClassFile.FieldType)).before args0 about1 = true := code_word (m := ⟨13, 3⟩) (meth := k13m3) (c := k13c3) (by decide +kernel) rfl rfl rfl (by decide +kernel)
set_option maxRecDepth 65536 in
theorem w_c19 : (Jvm.Cond.code ({ cls := "java/lang/AbstractStringBuilder", name := "putStringAt", desc := "(ILjava/lang/String;)V" } : Jvm.MethodName) jdk_68_method_73_code (3 : Nat) (Option.none : Option Jvm.ClassFile.FieldType)).before args0 about1 = true := code_word (m := ⟨13, 9⟩) (meth := k13m9) (c := k13c9) (by decide +kernel) rfl rfl rfl (by decide +kernel)
set_option maxRecDepth 65536 in
theorem w_c20 : (Jvm.Cond.code ({ cls := "java/lang/AbstractStringBuilder", name := "inflateIfNeededFor", desc := "(Ljava/lang/String;)V" } : Jvm.MethodName) jdk_68_method_71_code (2 : Nat) (Option.none : Option Jvm.ClassFile.FieldType)).before args0 about1 = true := code_word (m := ⟨13, 8⟩) (meth := k13m8) (c := k13c8) (by decide +kernel) rfl rfl rfl (by decide +kernel)
set_option maxRecDepth 65536 in
theorem w_c21 : (Jvm.Cond.code ({ cls := "java/lang/String", name := "getBytes", desc := "([BIB)V" } : Jvm.MethodName) jdk_42_method_147_code (4 : Nat) (Option.none : Option Jvm.ClassFile.FieldType)).before args0 about1 = true := code_word (m := ⟨7, 5⟩) (meth := k7m5) (c := k7c5) (by decide +kernel) rfl rfl rfl (by decide +kernel)
set_option maxRecDepth 65536 in
theorem w_c22 : (Jvm.Cond.code ({ cls := "java/lang/StringBuilder", name := "append", desc := "(I)Ljava/lang/StringBuilder;" } : Jvm.MethodName) jdk_67_method_15_code (2 : Nat) (Option.some (Jvm.ClassFile.FieldType.object "java/lang/StringBuilder"))).before args0 about1 = true := code_word (m := ⟨14, 2⟩) (meth := k14m2) (c := k14c2) (by decide +kernel) rfl rfl rfl (by decide +kernel)
set_option maxRecDepth 65536 in
theorem w_c23 : (Jvm.Cond.code ({ cls := "java/lang/AbstractStringBuilder", name := "append", desc := "(I)Ljava/lang/AbstractStringBuilder;" } : Jvm.MethodName) jdk_68_method_32_code (4 : Nat) (Option.some (Jvm.ClassFile.FieldType.object "java/lang/AbstractStringBuilder"))).before args0 about1 = true := code_word (m := ⟨13, 5⟩) (meth := k13m5) (c := k13c5) (by decide +kernel) rfl rfl rfl (by decide +kernel)
set_option maxRecDepth 65536 in
theorem w_c24 : (Jvm.Cond.code ({ cls := "java/lang/Integer", name := "stringSize", desc := "(I)I" } : Jvm.MethodName) jdk_33_method_13_code (4 : Nat) (Option.some Jvm.ClassFile.FieldType.int)).before args0 about1 = true := code_word (m := ⟨17, 1⟩) (meth := k17m1) (c := k17c1) (by decide +kernel) rfl rfl rfl (by decide +kernel)
set_option maxRecDepth 65536 in
theorem w_c25 : (Jvm.Cond.code ({ cls := "java/lang/AbstractStringBuilder", name := "isLatin1", desc := "()Z" } : Jvm.MethodName) jdk_68_method_68_code (1 : Nat) (Option.some Jvm.ClassFile.FieldType.boolean)).before args0 about1 = true := code_word (m := ⟨13, 7⟩) (meth := k13m7) (c := k13c7) (by decide +kernel) rfl rfl rfl (by decide +kernel)
set_option maxRecDepth 65536 in
theorem w_c26 : (Jvm.Cond.code ({ cls := "java/lang/Integer", name := "getChars", desc := "(II[B)I" } : Jvm.MethodName) jdk_33_method_12_code (7 : Nat) (Option.some Jvm.ClassFile.FieldType.int)).before args0 about1 = true := code_word (m := ⟨17, 0⟩) (meth := k17m0) (c := k17c0) (by decide +kernel) rfl rfl rfl (by decide +kernel)
set_option maxRecDepth 65536 in
theorem w_c27 : (Jvm.Cond.code ({ cls := "java/lang/StringBuilder", name := "toString", desc := "()Ljava/lang/String;" } : Jvm.MethodName) jdk_67_method_42_code (1 : Nat) (Option.some (Jvm.ClassFile.FieldType.object "java/lang/String"))).before args0 about1 = true := code_word (m := ⟨14, 3⟩) (meth := k14m3) (c := k14c3) (by decide +kernel) rfl rfl rfl (by decide +kernel)
set_option maxRecDepth 65536 in
theorem w_c28 : (Jvm.Cond.code ({ cls := "java/lang/String", name := "<init>", desc := "(Ljava/lang/StringBuilder;)V" } : Jvm.MethodName) jdk_42_method_53_code (2 : Nat) (Option.none : Option Jvm.ClassFile.FieldType)).before args0 about1 = true := code_word (m := ⟨7, 2⟩) (meth := k7m2) (c := k7c2) (by decide +kernel) rfl rfl rfl (by decide +kernel)
set_option maxRecDepth 65536 in
theorem w_c29 : (Jvm.Cond.code ({ cls := "java/lang/String", name := "<init>", desc := "(Ljava/lang/AbstractStringBuilder;Ljava/lang/Void;)V" } : Jvm.MethodName) jdk_42_method_150_code (5 : Nat) (Option.none : Option Jvm.ClassFile.FieldType)).before args0 about1 = true := code_word (m := ⟨7, 7⟩) (meth := k7m7) (c := k7c7) (by decide +kernel) rfl rfl rfl (by decide +kernel)
set_option maxRecDepth 65536 in
theorem w_c30 : (Jvm.Cond.code ({ cls := "java/lang/AbstractStringBuilder", name := "getValue", desc := "()[B" } : Jvm.MethodName) jdk_68_method_64_code (1 : Nat) (Option.some (Jvm.ClassFile.FieldType.array Jvm.ClassFile.FieldType.byte))).before args0 about1 = true := code_word (m := ⟨13, 6⟩) (meth := k13m6) (c := k13c6) (by decide +kernel) rfl rfl rfl (by decide +kernel)
set_option maxRecDepth 65536 in
theorem w_c31 : (Jvm.Cond.code ({ cls := "java/lang/StringBuilder", name := "length", desc := "()I" } : Jvm.MethodName) jdk_67_method_93_code (1 : Nat) (Option.some Jvm.ClassFile.FieldType.int)).before args0 about1 = true := code_word (m := ⟨14, 4⟩) (meth := k14m4) (c := k14c4) (by decide +kernel) rfl rfl rfl (by decide +kernel)
set_option maxRecDepth 65536 in
theorem w_c32 : (Jvm.Cond.code ({ cls := "java/lang/AbstractStringBuilder", name := "length", desc := "()I" } : Jvm.MethodName) jdk_68_method_6_code (1 : Nat) (Option.some Jvm.ClassFile.FieldType.int)).before args0 about1 = true := code_word (m := ⟨13, 2⟩) (meth := k13m2) (c := k13c2) (by decide +kernel) rfl rfl rfl (by decide +kernel)
set_option maxRecDepth 65536 in
theorem w_c33 : (Jvm.Cond.code ({ cls := "java/util/Arrays", name := "copyOfRange", desc := "([BII)[B" } : Jvm.MethodName) jdk_65_method_132_code (3 : Nat) (Option.some (Jvm.ClassFile.FieldType.array Jvm.ClassFile.FieldType.byte))).before args0 about1 = true := code_word (m := ⟨18, 2⟩) (meth := k18m2) (c := k18c2) (by decide +kernel) rfl rfl rfl (by decide +kernel)
set_option maxRecDepth 65536 in
theorem w_c34 : (Jvm.Cond.code ({ cls := "java/util/Arrays", name := "copyOfRangeByte", desc := "([BII)[B" } : Jvm.MethodName) jdk_65_method_133_code (5 : Nat) (Option.some (Jvm.ClassFile.FieldType.array Jvm.ClassFile.FieldType.byte))).before args0 about1 = true := code_word (m := ⟨18, 3⟩) (meth := k18m3) (c := k18c3) (by decide +kernel) rfl rfl rfl (by decide +kernel)
set_option maxRecDepth 65536 in
theorem w_c35 : (Jvm.Cond.code ({ cls := "java/util/Arrays", name := "checkLength", desc := "(II)V" } : Jvm.MethodName) jdk_65_method_131_code (2 : Nat) (Option.none : Option Jvm.ClassFile.FieldType)).before args0 about1 = true := code_word (m := ⟨18, 1⟩) (meth := k18m1) (c := k18c1) (by decide +kernel) rfl rfl rfl (by decide +kernel)
set_option maxRecDepth 65536 in
theorem w_c36 : (Jvm.Cond.code ({ cls := "java/lang/Math", name := "min", desc := "(II)I" } : Jvm.MethodName) jdk_29_method_69_code (2 : Nat) (Option.some Jvm.ClassFile.FieldType.int)).before args0 about1 = true := code_word (m := ⟨19, 1⟩) (meth := k19m1) (c := k19c1) (by decide +kernel) rfl rfl rfl (by decide +kernel)
set_option maxRecDepth 65536 in
theorem w_c37 : (Jvm.Cond.code ({ cls := "java/lang/String", name := "charAt", desc := "(I)C" } : Jvm.MethodName) jdk_42_method_56_code (2 : Nat) (Option.some Jvm.ClassFile.FieldType.char)).before args0 about1 = true := code_word (m := ⟨7, 4⟩) (meth := k7m4) (c := k7c4) (by decide +kernel) rfl rfl rfl (by decide +kernel)
set_option maxRecDepth 65536 in
theorem w_c38 : (Jvm.Cond.code ({ cls := "java/lang/String", name := "isLatin1", desc := "()Z" } : Jvm.MethodName) jdk_42_method_154_code (1 : Nat) (Option.some Jvm.ClassFile.FieldType.boolean)).before args0 about1 = true := code_word (m := ⟨7, 9⟩) (meth := k7m9) (c := k7c9) (by decide +kernel) rfl rfl rfl (by decide +kernel)
set_option maxRecDepth 65536 in
theorem w_c39 : (Jvm.Cond.code ({ cls := "java/lang/StringLatin1", name := "charAt", desc := "([BI)C" } : Jvm.MethodName) jdk_43_method_2_code (2 : Nat) (Option.some Jvm.ClassFile.FieldType.char)).before args0 about1 = true := code_word (m := ⟨20, 1⟩) (meth := k20m1) (c := k20c1) (by decide +kernel) rfl rfl rfl (by decide +kernel)
set_option maxRecDepth 65536 in
theorem w_c40 : (Jvm.Cond.code ({ cls := "java/lang/String", name := "checkIndex", desc := "(II)V" } : Jvm.MethodName) jdk_42_method_155_code (2 : Nat) (Option.none : Option Jvm.ClassFile.FieldType)).before args0 about1 = true := code_word (m := ⟨7, 10⟩) (meth := k7m10) (c := k7c10) (by decide +kernel) rfl rfl rfl (by decide +kernel)
set_option maxRecDepth 65536 in
theorem w_c41 : (Jvm.Cond.code ({ cls := "jdk/internal/util/Preconditions", name := "checkIndex", desc := "(IILjava/util/function/BiFunction;)I" } : Jvm.MethodName) jdk_41_method_11_code (3 : Nat) (Option.some Jvm.ClassFile.FieldType.int)).before args0 about1 = true := code_word (m := ⟨21, 1⟩) (meth := k21m1) (c := k21c1) (by decide +kernel) rfl rfl rfl (by decide +kernel)
set_option maxRecDepth 65536 in
theorem w_c42 : (Jvm.Cond.code ({ cls := "com/example/farcall/farcall/EndpointToStringPinLaw", name := "digit", desc := "(II)C" } : Jvm.MethodName) method_4_code (3 : Nat) (Option.some Jvm.ClassFile.FieldType.char)).before args0 about1 = true := code_word (m := ⟨1, 3⟩) (meth := k1m3) (c := k1c3) (by decide +kernel) rfl rfl rfl (by decide +kernel)
def codes1 : List Jvm.Cond := [Jvm.Cond.code x code maxLocals ret, Jvm.Cond.code ({ cls := "com/example/farcall/farcall/EndpointToStringPinLaw", name := "makeHost", desc := "(ICCC)Ljava/lang/String;" } : Jvm.MethodName) method_3_code (4 : Nat) (Option.some (Jvm.ClassFile.FieldType.object "java/lang/String")), Jvm.Cond.code ({ cls := "java/lang/String", name := "<init>", desc := "([C)V" } : Jvm.MethodName) jdk_42_method_3_code (2 : Nat) (Option.none : Option Jvm.ClassFile.FieldType), Jvm.Cond.code ({ cls := "java/lang/String", name := "<init>", desc := "([CIILjava/lang/Void;)V" } : Jvm.MethodName) jdk_42_method_149_code (6 : Nat) (Option.none : Option Jvm.ClassFile.FieldType), Jvm.Cond.code ({ cls := "java/lang/Object", name := "<init>", desc := "()V" } : Jvm.MethodName) object_method_1_code (1 : Nat) (Option.none : Option Jvm.ClassFile.FieldType), Jvm.Cond.code ({ cls := "java/lang/StringUTF16", name := "compress", desc := "([CII)[B" } : Jvm.MethodName) jdk_52_method_16_code (6 : Nat) (Option.some (Jvm.ClassFile.FieldType.array Jvm.ClassFile.FieldType.byte)), Jvm.Cond.code ({ cls := "java/lang/StringUTF16", name := "compress", desc := "([CI[BII)I" } : Jvm.MethodName) jdk_52_method_21_code (7 : Nat) (Option.some Jvm.ClassFile.FieldType.int), Jvm.Cond.code ({ cls := "java/lang/StringUTF16", name := "coderFromArrayLen", desc := "([BI)B" } : Jvm.MethodName) jdk_52_method_15_code (2 : Nat) (Option.some Jvm.ClassFile.FieldType.byte), Jvm.Cond.code ({ cls := "com/example/farcall/farcall/Endpoint", name := "<init>", desc := "(Ljava/lang/String;I)V" } : Jvm.MethodName) prog_16_method_1_code (3 : Nat) (Option.none : Option Jvm.ClassFile.FieldType), Jvm.Cond.code ({ cls := "java/lang/Record", name := "<init>", desc := "()V" } : Jvm.MethodName) jdk_30_method_1_code (1 : Nat) (Option.none : Option Jvm.ClassFile.FieldType), Jvm.Cond.code ({ cls := "java/util/Objects", name := "requireNonNull", desc := "(Ljava/lang/Object;Ljava/lang/String;)Ljava/lang/Object;" } : Jvm.MethodName) jdk_31_method_11_code (2 : Nat) (Option.some (Jvm.ClassFile.FieldType.object "java/lang/Object")), Jvm.Cond.code ({ cls := "com/example/farcall/farcall/Endpoint", name := "toString", desc := "()Ljava/lang/String;" } : Jvm.MethodName) prog_16_method_2_code (1 : Nat) (Option.some (Jvm.ClassFile.FieldType.object "java/lang/String")), Jvm.Cond.code ({ cls := "java/lang/StringBuilder", name := "<init>", desc := "()V" } : Jvm.MethodName) jdk_67_method_1_code (1 : Nat) (Option.none : Option Jvm.ClassFile.FieldType), Jvm.Cond.code ({ cls := "java/lang/AbstractStringBuilder", name := "<init>", desc := "(I)V" } : Jvm.MethodName) jdk_68_method_2_code (2 : Nat) (Option.none : Option Jvm.ClassFile.FieldType), Jvm.Cond.code ({ cls := "java/lang/StringBuilder", name := "append", desc := "(Ljava/lang/String;)Ljava/lang/StringBuilder;" } : Jvm.MethodName) jdk_67_method_7_code (2 : Nat) (Option.some (Jvm.ClassFile.FieldType.object "java/lang/StringBuilder")), Jvm.Cond.code ({ cls := "java/lang/AbstractStringBuilder", name := "append", desc := "(Ljava/lang/String;)Ljava/lang/AbstractStringBuilder;" } : Jvm.MethodName) jdk_68_method_22_code (3 : Nat) (Option.some (Jvm.ClassFile.FieldType.object "java/lang/AbstractStringBuilder")), Jvm.Cond.code ({ cls := "java/lang/String", name := "length", desc := "()I" } : Jvm.MethodName) jdk_42_method_54_code (1 : Nat) (Option.some Jvm.ClassFile.FieldType.int), Jvm.Cond.code ({ cls := "java/lang/String", name := "coder", desc := "()B" } : Jvm.MethodName) jdk_42_method_152_code (1 : Nat) (Option.some Jvm.ClassFile.FieldType.byte), Jvm.Cond.code ({ cls := "java/lang/AbstractStringBuilder", name := "ensureCapacityInternal", desc := "(I)V" } : Jvm.MethodName) jdk_68_method_9_code (3 : Nat) (Option.none : Option Jvm.ClassFile.FieldType), Jvm.Cond.code ({ cls := "java/lang/AbstractStringBuilder", name := "putStringAt", desc := "(ILjava/lang/String;)V" } : Jvm.MethodName) jdk_68_method_73_code (3 : Nat) (Option.none : Option Jvm.ClassFile.FieldType), Jvm.Cond.code ({ cls := "java/lang/AbstractStringBuilder", name := "inflateIfNeededFor", desc := "(Ljava/lang/String;)V" } : Jvm.MethodName) jdk_68_method_71_code (2 : Nat) (Option.none : Option Jvm.ClassFile.FieldType), Jvm.Cond.code ({ cls := "java/lang/String", name := "getBytes", desc := "([BIB)V" } : Jvm.MethodName) jdk_42_method_147_code (4 : Nat) (Option.none : Option Jvm.ClassFile.FieldType), Jvm.Cond.code ({ cls := "java/lang/StringBuilder", name := "append", desc := "(I)Ljava/lang/StringBuilder;" } : Jvm.MethodName) jdk_67_method_15_code (2 : Nat) (Option.some (Jvm.ClassFile.FieldType.object "java/lang/StringBuilder")), Jvm.Cond.code ({ cls := "java/lang/AbstractStringBuilder", name := "append", desc := "(I)Ljava/lang/AbstractStringBuilder;" } : Jvm.MethodName) jdk_68_method_32_code (4 : Nat) (Option.some (Jvm.ClassFile.FieldType.object "java/lang/AbstractStringBuilder")), Jvm.Cond.code ({ cls := "java/lang/Integer", name := "stringSize", desc := "(I)I" } : Jvm.MethodName) jdk_33_method_13_code (4 : Nat) (Option.some Jvm.ClassFile.FieldType.int), Jvm.Cond.code ({ cls := "java/lang/AbstractStringBuilder", name := "isLatin1", desc := "()Z" } : Jvm.MethodName) jdk_68_method_68_code (1 : Nat) (Option.some Jvm.ClassFile.FieldType.boolean), Jvm.Cond.code ({ cls := "java/lang/Integer", name := "getChars", desc := "(II[B)I" } : Jvm.MethodName) jdk_33_method_12_code (7 : Nat) (Option.some Jvm.ClassFile.FieldType.int), Jvm.Cond.code ({ cls := "java/lang/StringBuilder", name := "toString", desc := "()Ljava/lang/String;" } : Jvm.MethodName) jdk_67_method_42_code (1 : Nat) (Option.some (Jvm.ClassFile.FieldType.object "java/lang/String")), Jvm.Cond.code ({ cls := "java/lang/String", name := "<init>", desc := "(Ljava/lang/StringBuilder;)V" } : Jvm.MethodName) jdk_42_method_53_code (2 : Nat) (Option.none : Option Jvm.ClassFile.FieldType), Jvm.Cond.code ({ cls := "java/lang/String", name := "<init>", desc := "(Ljava/lang/AbstractStringBuilder;Ljava/lang/Void;)V" } : Jvm.MethodName) jdk_42_method_150_code (5 : Nat) (Option.none : Option Jvm.ClassFile.FieldType), Jvm.Cond.code ({ cls := "java/lang/AbstractStringBuilder", name := "getValue", desc := "()[B" } : Jvm.MethodName) jdk_68_method_64_code (1 : Nat) (Option.some (Jvm.ClassFile.FieldType.array Jvm.ClassFile.FieldType.byte)), Jvm.Cond.code ({ cls := "java/lang/StringBuilder", name := "length", desc := "()I" } : Jvm.MethodName) jdk_67_method_93_code (1 : Nat) (Option.some Jvm.ClassFile.FieldType.int), Jvm.Cond.code ({ cls := "java/lang/AbstractStringBuilder", name := "length", desc := "()I" } : Jvm.MethodName) jdk_68_method_6_code (1 : Nat) (Option.some Jvm.ClassFile.FieldType.int), Jvm.Cond.code ({ cls := "java/util/Arrays", name := "copyOfRange", desc := "([BII)[B" } : Jvm.MethodName) jdk_65_method_132_code (3 : Nat) (Option.some (Jvm.ClassFile.FieldType.array Jvm.ClassFile.FieldType.byte)), Jvm.Cond.code ({ cls := "java/util/Arrays", name := "copyOfRangeByte", desc := "([BII)[B" } : Jvm.MethodName) jdk_65_method_133_code (5 : Nat) (Option.some (Jvm.ClassFile.FieldType.array Jvm.ClassFile.FieldType.byte)), Jvm.Cond.code ({ cls := "java/util/Arrays", name := "checkLength", desc := "(II)V" } : Jvm.MethodName) jdk_65_method_131_code (2 : Nat) (Option.none : Option Jvm.ClassFile.FieldType), Jvm.Cond.code ({ cls := "java/lang/Math", name := "min", desc := "(II)I" } : Jvm.MethodName) jdk_29_method_69_code (2 : Nat) (Option.some Jvm.ClassFile.FieldType.int), Jvm.Cond.code ({ cls := "java/lang/String", name := "charAt", desc := "(I)C" } : Jvm.MethodName) jdk_42_method_56_code (2 : Nat) (Option.some Jvm.ClassFile.FieldType.char), Jvm.Cond.code ({ cls := "java/lang/String", name := "isLatin1", desc := "()Z" } : Jvm.MethodName) jdk_42_method_154_code (1 : Nat) (Option.some Jvm.ClassFile.FieldType.boolean), Jvm.Cond.code ({ cls := "java/lang/StringLatin1", name := "charAt", desc := "([BI)C" } : Jvm.MethodName) jdk_43_method_2_code (2 : Nat) (Option.some Jvm.ClassFile.FieldType.char), Jvm.Cond.code ({ cls := "java/lang/String", name := "checkIndex", desc := "(II)V" } : Jvm.MethodName) jdk_42_method_155_code (2 : Nat) (Option.none : Option Jvm.ClassFile.FieldType), Jvm.Cond.code ({ cls := "jdk/internal/util/Preconditions", name := "checkIndex", desc := "(IILjava/util/function/BiFunction;)I" } : Jvm.MethodName) jdk_41_method_11_code (3 : Nat) (Option.some Jvm.ClassFile.FieldType.int), Jvm.Cond.code ({ cls := "com/example/farcall/farcall/EndpointToStringPinLaw", name := "digit", desc := "(II)C" } : Jvm.MethodName) method_4_code (3 : Nat) (Option.some Jvm.ClassFile.FieldType.char)]
set_option maxRecDepth 65536 in
theorem codes_eq : words1.filter isCode = codes1 := rfl
theorem w_codes : ∀ c ∈ words1.filter isCode, c.before args0 about1 = true := by
  rw [codes_eq]
  intro c hc
  simp only [codes1, List.mem_cons, List.not_mem_nil, or_false] at hc
  rcases hc with rfl | rfl | rfl | rfl | rfl | rfl | rfl | rfl | rfl | rfl | rfl | rfl | rfl | rfl | rfl | rfl | rfl | rfl | rfl | rfl | rfl | rfl | rfl | rfl | rfl | rfl | rfl | rfl | rfl | rfl | rfl | rfl | rfl | rfl | rfl | rfl | rfl | rfl | rfl | rfl | rfl | rfl | rfl
  · exact w_c0
  · exact w_c1
  · exact w_c2
  · exact w_c3
  · exact w_c4
  · exact w_c5
  · exact w_c6
  · exact w_c7
  · exact w_c8
  · exact w_c9
  · exact w_c10
  · exact w_c11
  · exact w_c12
  · exact w_c13
  · exact w_c14
  · exact w_c15
  · exact w_c16
  · exact w_c17
  · exact w_c18
  · exact w_c19
  · exact w_c20
  · exact w_c21
  · exact w_c22
  · exact w_c23
  · exact w_c24
  · exact w_c25
  · exact w_c26
  · exact w_c27
  · exact w_c28
  · exact w_c29
  · exact w_c30
  · exact w_c31
  · exact w_c32
  · exact w_c33
  · exact w_c34
  · exact w_c35
  · exact w_c36
  · exact w_c37
  · exact w_c38
  · exact w_c39
  · exact w_c40
  · exact w_c41
  · exact w_c42
set_option maxRecDepth 65536 in
theorem w_t1 : (words1.take 24).all (fun c => isCode c || c.before args0 about1) = true := by decide +kernel
set_option maxRecDepth 65536 in
theorem w_t2 : ((words1.drop 24).take 24).all (fun c => isCode c || c.before args0 about1) = true := by decide +kernel
set_option maxRecDepth 65536 in
theorem w_t3 : (((words1.drop 24).drop 24).take 24).all (fun c => isCode c || c.before args0 about1) = true := by decide +kernel
set_option maxRecDepth 65536 in
theorem w_t4 : ((((words1.drop 24).drop 24).drop 24).take 24).all (fun c => isCode c || c.before args0 about1) = true := by decide +kernel
set_option maxRecDepth 65536 in
theorem w_t5 : (((((words1.drop 24).drop 24).drop 24).drop 24).take 24).all (fun c => isCode c || c.before args0 about1) = true := by decide +kernel
set_option maxRecDepth 65536 in
theorem w_t6 : ((((((words1.drop 24).drop 24).drop 24).drop 24).drop 24).take 24).all (fun c => isCode c || c.before args0 about1) = true := by decide +kernel
set_option maxRecDepth 65536 in
theorem w_t7 : (((((((words1.drop 24).drop 24).drop 24).drop 24).drop 24).drop 24).take 24).all (fun c => isCode c || c.before args0 about1) = true := by decide +kernel
set_option maxRecDepth 65536 in
theorem w_t8 : ((((((((words1.drop 24).drop 24).drop 24).drop 24).drop 24).drop 24).drop 24).take 24).all (fun c => isCode c || c.before args0 about1) = true := by decide +kernel
set_option maxRecDepth 65536 in
theorem w_t9 : (((((((((words1.drop 24).drop 24).drop 24).drop 24).drop 24).drop 24).drop 24).drop 24).take 24).all (fun c => isCode c || c.before args0 about1) = true := by decide +kernel
set_option maxRecDepth 65536 in
theorem w_t10 : (((((((((words1.drop 24).drop 24).drop 24).drop 24).drop 24).drop 24).drop 24).drop 24).drop 24).all (fun c => isCode c || c.before args0 about1) = true := by decide +kernel
theorem w_tables : (allAtoms (Jvm.Cond.code x code maxLocals ret :: tables_1)).before args0 about1 = true := by
  rw [allAtoms_all]
  show words1.all (fun c => c.before args0 about1) = true
  refine all_split ?_ w_codes
  rw [← List.take_append_drop 24 words1, List.all_append, w_t1, ← List.take_append_drop 24 (words1.drop 24), List.all_append, w_t2, ← List.take_append_drop 24 ((words1.drop 24).drop 24), List.all_append, w_t3, ← List.take_append_drop 24 (((words1.drop 24).drop 24).drop 24), List.all_append, w_t4, ← List.take_append_drop 24 ((((words1.drop 24).drop 24).drop 24).drop 24), List.all_append, w_t5, ← List.take_append_drop 24 (((((words1.drop 24).drop 24).drop 24).drop 24).drop 24), List.all_append, w_t6, ← List.take_append_drop 24 ((((((words1.drop 24).drop 24).drop 24).drop 24).drop 24).drop 24), List.all_append, w_t7, ← List.take_append_drop 24 (((((((words1.drop 24).drop 24).drop 24).drop 24).drop 24).drop 24).drop 24), List.all_append, w_t8, ← List.take_append_drop 24 ((((((((words1.drop 24).drop 24).drop 24).drop 24).drop 24).drop 24).drop 24).drop 24), List.all_append, w_t9, w_t10]
  rfl
set_option maxRecDepth 65536 in
theorem w_rest : rest_1_c.before args0 about1 = true := by decide +kernel
set_option maxRecDepth 65536 in
theorem w_case : (Jvm.Cond.and given_1 narrow_1).before args0 about1 = true := by decide +kernel
set_option maxRecDepth 65536 in
theorem w_consts : constsHeld consts_1 about1 := Jvm.Lit.constsHeldB_iff.mp (by decide +kernel)
theorem w_applies : (headSpec (Jvm.Cond.code x code maxLocals ret :: tables_1) room_1).applies x e0.platform about1 = true :=
  (Spec.applies_iff w_frames).mpr ⟨w_running, w_runnable, w_alone, w_named, w_hears, w_ripe, w_room, w_tables⟩
theorem atStart : AtStart classFile x code maxLocals ret World_1 tables_1 room_1 Calls_1 rest_1 Pre_1 launch0 p0 e0 about1 theMethod args0 below0 :=
  ⟨lists_1, trivial, launch0.admits_env _ _ _, launch0.least_env, fairChoices_fair.cas, fairChoices_fair.clock, w_frames, w_args, w_heap, w_applies, ⟨w_consts, trivial⟩, w_rest, w_case⟩
end start1
theorem witness_1 : WitnessClaimed_1 := ⟨start1.p0, start1.e0, start1.about1, start1.theMethod, start1.args0, start1.below0, start1.atStart⟩
end Jvm.Pilot.@@N@@
