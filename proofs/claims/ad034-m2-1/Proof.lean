import JvmDerived
import JvmDerived.Pilot.@@N@@Statement
import JvmDerived.Pilot.@@N@@Code
set_option linter.unusedVariables false
set_option linter.unusedSimpArgs false
namespace Jvm.RoadKit
open Sem ClassFile Op Lib Jvm.Stand Jvm.Free Jvm.LawKit
section OwnKit
/-- what stands at a point of the walk: the law's Stand, its written places all new, the heap named; w: may have interned -/
def own_X (w : Bool) (p : Program) (l : Launch) (e : Env) (R : Room) (s : State) (m : MethodId) (args : Array Value) (below : List Frame) (meth : Method) (c : Code) (Z : State) (T : State) (h : Heap) (k n : Nat) : Prop :=
  ∃ (L : List Loc) (vm : Vm), Stand p l e R (s.setVm vm) m args below meth c T L k n ∧ Fr Z.heap.size L ∧ T.heap = h ∧ (w = false → vm = s.vm) ∧ s.Since vm h.size
def own_Cx (p : Program) (s : State) (m : MethodId) (meth : Method) (c : Code) (Z : State) (own nm : String) (bytes : ByteArray) (maxL : Nat) (ret : Option FieldType) : Prop :=
  p.tables.exec = Jvm.exec ∧ c.code = bytes ∧ c.maxLocals = maxL ∧ meth.sig.returnType = ret ∧ meth.locks = false ∧ Z.Warmed39 s.vm ∧ s.vm.findClass own = some m.cls ∧ meth.name = nm
def own_Go (w : Bool) (p : Program) (l : Launch) (e : Env) (R : Room) (s : State) (m : MethodId) (args : Array Value) (below : List Frame) (meth : Method) (c : Code) (Z : State) (Q : Option Value → Heap → Prop) (T : State) (g : JFrame) : Prop :=
  ∃ (T' : State) (v : Option Value) (h' : Heap) (k' n' : Nat), own_X w p l e R s m args below meth c Z T' h' k' n' ∧ k' ≤ R.cells ∧ n' ≤ R.slots ∧ (meth.sig.returnType = none → v = none) ∧ Q v h' ∧
    ∀ fs, (∀ (f : JFrame) (acts : List Action), f.method = m → f.locked = none → f.entered = [] → (doReturn e (T'.setTop f) acts v).1 = T'.setFrames fs) → Steps p.tables e below (T.setTop g) (T'.setFrames fs)
/-- from the frame g, over the heap h, with k cells and n slots made, the walk comes to a return of which Q holds -/
def own_G (w : Bool) (p : Program) (l : Launch) (e : Env) (R : Room) (s : State) (m : MethodId) (args : Array Value) (below : List Frame) (meth : Method) (c : Code) (Z : State) (Q : Option Value → Heap → Prop) (h : Heap) (k n : Nat) (g : JFrame) : Prop :=
  ∀ T, own_X w p l e R s m args below meth c Z T h k n → own_Go w p l e R s m args below meth c Z Q T g
def own_D (bytes : ByteArray) (pc : Nat) (i : Instr) (len pc' : Nat) : Prop := decode bytes pc = .ok (i, len) ∧ pc' = pc + len
def own_B (bytes : ByteArray) (pc : Nat) (i : Instr) (off : Int) (pcF pcT : Nat) : Prop := decode bytes pc = .ok (i, 3) ∧ pcF = pc + 3 ∧ 0 ≤ (pc : Int) + off ∧ ((pc : Int) + off).toNat = pcT
def own_End (w : Bool) (U : State) (o : Outcome) (U' : State) (L : List Loc) (k n : Nat) : Prop := match w with | false => FrameEnd U o U' L k n | true => ReturnedEndW U o U' L k n
def own_Met (w : Bool) (l : Launch) (Z : State) (y : MethodName) (bytes : ByteArray) (maxL : Nat) (ret : Option FieldType) (ws : List Cond) (rm : Room) (as' : Array Value) (h : Heap) (Q : Option Value → Heap → Prop) : Prop :=
  MetFree l y (head1 (Cond.code y bytes maxL ret :: ws) rm) (fun a U => a = as' ∧ Z.Warmed39 U.vm ∧ U.heap = h) (fun _ _ _ _ _ => True)
    (fun _ U o U' => ∃ v L, o = .returned v ∧ (Q v U'.heap ∧ Fr Z.heap.size L ∧ h.size ≤ U'.heap.size) ∧ own_End w U o U' L rm.cells rm.slots)
/-! ## heap -/
abbrev own_O := Addr × String × List (String × String × String × Value)
abbrev own_A := Addr × FieldType × String × List Value
def own_OK (Z : State) (h : Heap) (o : own_O) : Prop := Exa Z h o.1 o.2.1 ∧ (∀ f ∈ o.2.2, Fld Z h o.1 f.1 f.2.1 f.2.2.1 f.2.2.2) ∧ o.2.2.Pairwise (fun f g => slotOf Z f.1 f.2.1 f.2.2.1 ≠ slotOf Z g.1 g.2.1 g.2.2.1)
def own_AK (Z : State) (h : Heap) (a : own_A) : Prop := ∃ cl : Cell, Arr Z h a.1 cl a.2.1 ∧ cl.slots.toList = a.2.2.2 ∧ (∀ v ∈ a.2.2.2, fits a.2.1 v = true) ∧ (a.2.2.1 ≠ "" → Exa Z h a.1 a.2.2.1) ∧ (∀ C, a.2.1 = .object C → a.2.2.1 ≠ "" → Ovr Z cl.cls C)
/-- the heap h: what stood at the law's start Z stands; the objects os and the arrays as, all new, all apart -/
def own_H (Z : State) (h : Heap) (os : List own_O) (as : List own_A) : Prop :=
  Ext Z.heap h ∧ (∀ o ∈ os, Z.heap.size ≤ o.1 ∧ own_OK Z h o) ∧ (∀ a ∈ as, Z.heap.size ≤ a.1 ∧ own_AK Z h a) ∧ (os.map (·.1) ++ as.map (·.1)).Nodup
variable {w : Bool} {p : Program} {l : Launch} {e : Env} {R : Room} {s : State} {m : MethodId} {args : Array Value} {below : List Frame} {meth : Method} {c : Code} {Z : State} {a0 : Array Value} {own nm : String} {bytes : ByteArray} {maxL : Nat} {ret : Option FieldType} {Q : Option Value → Heap → Prop} {h h' : Heap} {k n k' n' : Nat} {pc pc' pcT : Nat} {Ls Ls' : Array Slot} {st rest : List Value} {os os' : List own_O} {as as' : List own_A} {g g' : JFrame} {tyR : FieldType}
theorem own_H.start (Z : State) : own_H Z Z.heap [] [] := ⟨⟨Nat.le_refl _, fun _ _ q => q⟩, fun _ q => (nomatch q), fun _ q => (nomatch q), List.nodup_nil⟩
theorem own_OK.ext {o : own_O} (E : Ext h h') (F : own_OK Z h o) : own_OK Z h' o := ⟨F.1.ext E, fun f hf => (F.2.1 f hf).ext E, F.2.2⟩
theorem own_AK.ext {a : own_A} (E : Ext h h') (F : own_AK Z h a) : own_AK Z h' a := by
  obtain ⟨cl, h1, h2, h3, h4, h5⟩ := F; exact ⟨cl, h1.ext E, h2, h3, fun q => (h4 q).ext E, h5⟩
theorem own_H.ext (H : own_H Z h os as) (E : Ext h h') : own_H Z h' os as :=
  ⟨⟨Nat.le_trans H.1.1 E.1, fun a c q => E.2 a c (H.1.2 a c q)⟩, fun o ho => ⟨(H.2.1 o ho).1, (H.2.1 o ho).2.ext E⟩, fun a ha => ⟨(H.2.2.1 a ha).1, (H.2.2.1 a ha).2.ext E⟩, H.2.2.2⟩
theorem own_H.ltO (H : own_H Z h os as) {o : own_O} (ho : o ∈ os) : o.1 < h.size := (H.2.1 o ho).2.1.lt
theorem own_H.ltA (H : own_H Z h os as) {a : own_A} (ha : a ∈ as) : a.1 < h.size := by obtain ⟨-, cl, h1, -⟩ := H.2.2.1 a ha; exact h1.lt
theorem own_H.fresh (H : own_H Z h os as) : h.size ∉ os.map (·.1) ++ as.map (·.1) := fun q => by
  rcases List.mem_append.mp q with q | q
  · obtain ⟨o, ho, e⟩ := List.mem_map.mp q; exact absurd (H.ltO ho) (by rw [e]; exact Nat.lt_irrefl _)
  · obtain ⟨o, ho, e⟩ := List.mem_map.mp q; exact absurd (H.ltA ho) (by rw [e]; exact Nat.lt_irrefl _)
theorem own_H.addO (H : own_H Z h os as) (E : Ext h h') {C : String} {fs : List (String × String × String × Value)} (F : own_OK Z h' (h.size, C, fs)) : own_H Z h' ((h.size, C, fs) :: os) as := by
  have H' := H.ext E
  refine ⟨H'.1, fun o ho => ?_, H'.2.2.1, ?_⟩
  · rcases List.mem_cons.mp ho with rfl | ho
    · exact ⟨H.1.1, F⟩
    · exact H'.2.1 o ho
  · exact List.nodup_cons.mpr ⟨H.fresh, H.2.2.2⟩
theorem own_H.addA (H : own_H Z h os as) (E : Ext h h') {ty : FieldType} {ad : String} {vs : List Value} (F : own_AK Z h' (h.size, ty, ad, vs)) : own_H Z h' os ((h.size, ty, ad, vs) :: as) := by
  have H' := H.ext E
  refine ⟨H'.1, H'.2.1, fun o ho => ?_, ?_⟩
  · rcases List.mem_cons.mp ho with rfl | ho
    · exact ⟨H.1.1, F⟩
    · exact H'.2.2.1 o ho
  · have q := H.fresh
    rw [List.mem_append] at q
    have q2 := List.nodup_append.mp H.2.2.2
    refine List.nodup_append.mpr ⟨q2.1, List.nodup_cons.mpr ⟨fun z => q (Or.inr z), q2.2.1⟩, fun x hx y hy => ?_⟩
    rcases List.mem_cons.mp hy with rfl | hy
    · intro z; exact q (Or.inl ((show x = h.size from z) ▸ hx))
    · exact q2.2.2 x hx y hy
theorem own_mem {α : Type} {L : List α} {i : Nat} {x : α} (hx : L[i]? = some x) : x ∈ L := List.mem_of_getElem? hx
theorem own_H.atO (H : own_H Z h os as) {i : Nat} {a : Addr} {C : String} {fs : List (String × String × String × Value)} (ho : os[i]? = some (a, C, fs)) : Exa Z h a C := (H.2.1 _ (own_mem ho)).2.1
theorem own_H.newO (H : own_H Z h os as) {i : Nat} {a : Addr} {C : String} {fs : List (String × String × String × Value)} (ho : os[i]? = some (a, C, fs)) : Z.heap.size ≤ a := (H.2.1 _ (own_mem ho)).1
theorem own_H.fld (H : own_H Z h os as) {i q : Nat} {a : Addr} {C O f d : String} {v : Value} {fs : List (String × String × String × Value)} (ho : os[i]? = some (a, C, fs)) (hf : fs[q]? = some (O, f, d, v)) : Fld Z h a O f d v := (H.2.1 _ (own_mem ho)).2.2.1 _ (own_mem hf)
theorem own_H.neOO (H : own_H Z h os as) {i j : Nat} {x y : own_O} (hx : os[i]? = some x) (hy : os[j]? = some y) (ij : i ≠ j) : x.1 ≠ y.1 := fun e => by
  have q := (List.nodup_append.mp H.2.2.2).1
  have h1 : (os.map (·.1))[i]? = some x.1 := by rw [List.getElem?_map, hx]; rfl
  have h2 : (os.map (·.1))[j]? = some y.1 := by rw [List.getElem?_map, hy]; rfl
  rw [← e] at h2
  have hi := (List.getElem?_eq_some_iff.mp h1).1
  exact ij ((List.getElem?_inj hi q).mp (h1.trans h2.symm))
theorem own_H.neAA (H : own_H Z h os as) {i j : Nat} {x y : own_A} (hx : as[i]? = some x) (hy : as[j]? = some y) (ij : i ≠ j) : x.1 ≠ y.1 := fun e => by
  have q := (List.nodup_append.mp H.2.2.2).2.1
  have h1 : (as.map (·.1))[i]? = some x.1 := by rw [List.getElem?_map, hx]; rfl
  have h2 : (as.map (·.1))[j]? = some y.1 := by rw [List.getElem?_map, hy]; rfl
  rw [← e] at h2
  have hi := (List.getElem?_eq_some_iff.mp h1).1
  exact ij ((List.getElem?_inj hi q).mp (h1.trans h2.symm))
theorem own_H.neOA (H : own_H Z h os as) {x : own_O} {y : own_A} (hx : x ∈ os) (hy : y ∈ as) : x.1 ≠ y.1 :=
  (List.nodup_append.mp H.2.2.2).2.2 _ (List.mem_map.mpr ⟨x, hx, rfl⟩) _ (List.mem_map.mpr ⟨y, hy, rfl⟩)
theorem own_set_map {α β : Type} {L : List α} {f : α → β} {i : Nat} {x x' : α} (hx : L[i]? = some x) (e : f x' = f x) : (L.set i x').map f = L.map f := by
  apply List.ext_getElem?
  intro j
  rw [List.getElem?_map, List.getElem?_map, List.getElem?_set]
  by_cases ij : i = j
  · subst ij; rw [hx]; have := (List.getElem?_eq_some_iff.mp hx).1; simp [this, e]
  · simp [ij]
theorem own_H.wrO (H : own_H Z h os as) {i q : Nat} {a : Addr} {C O f d : String} {v v0 : Value} {fs : List (String × String × String × Value)} (ho : os[i]? = some (a, C, fs)) (hf : fs[q]? = some (O, f, d, v0)) (W : Wr h h' a (slotOf Z O f d) v) :
    own_H Z h' (os.set i (a, C, fs.set q (O, f, d, v))) as := by
  have na := H.newO ho
  have hlen := (List.getElem?_eq_some_iff.mp ho).1
  have hql := (List.getElem?_eq_some_iff.mp hf).1
  refine ⟨?_, fun x hx => ?_, fun y hy => ?_, ?_⟩
  · refine ⟨by rw [Wr.size W]; exact H.1.1, fun b cb hb => ?_⟩
    obtain ⟨cb', e1, -, -, -, e5, -⟩ := wr_at W (H.1.2 b cb hb)
    have : b ≠ a := Nat.ne_of_lt (Nat.lt_of_lt_of_le (Array.getElem?_eq_some_iff.mp hb).1 na)
    rw [← e5 this]; exact e1
  · obtain ⟨j, hj⟩ := List.mem_iff_getElem?.mp hx
    rw [List.getElem?_set] at hj
    by_cases ij : i = j
    · subst ij
      rw [if_pos rfl, if_pos hlen] at hj
      obtain rfl := Option.some.inj hj
      obtain ⟨n1, E, F, Pw⟩ := H.2.1 _ (own_mem ho)
      refine ⟨n1, E.wr W, fun z hz => ?_, ?_⟩
      · obtain ⟨r, hr⟩ := List.mem_iff_getElem?.mp hz
        rw [List.getElem?_set] at hr
        by_cases qr : q = r
        · subst qr
          rw [if_pos rfl, if_pos hql] at hr
          obtain rfl := Option.some.inj hr
          exact Fld.same (w := v0) W (F _ (own_mem (show (a, C, fs).2.2[q]? = some (O, f, d, v0) from hf)))
        · rw [if_neg qr] at hr
          refine Fld.other W (F _ (own_mem hr)) (Or.inr fun e => ?_)
          have P2 : ∀ i j : Nat, i < j → ∀ x y, fs[i]? = some x → fs[j]? = some y → slotOf Z x.1 x.2.1 x.2.2.1 ≠ slotOf Z y.1 y.2.1 y.2.2.1 := fun i j ij x y hx hy => by
            obtain ⟨h1, rfl⟩ := List.getElem?_eq_some_iff.mp hx
            obtain ⟨h2, rfl⟩ := List.getElem?_eq_some_iff.mp hy
            exact List.pairwise_iff_getElem.mp Pw i j h1 h2 ij
          rcases Nat.lt_or_gt_of_ne qr with lt | lt
          · exact P2 q r lt _ _ hf hr e.symm
          · exact P2 r q lt _ _ hr hf e
      · have hm : (fs.set q (O, f, d, v)).map (fun f => slotOf Z f.1 f.2.1 f.2.2.1) = fs.map (fun f => slotOf Z f.1 f.2.1 f.2.2.1) := own_set_map hf rfl
        have t := List.pairwise_map.mpr Pw
        rw [← hm] at t
        exact List.pairwise_map.mp t
    · rw [if_neg ij] at hj
      obtain ⟨n1, E, F, Pw⟩ := H.2.1 _ (own_mem hj)
      exact ⟨n1, E.wr W, fun z hz => Fld.other W (F z hz) (Or.inl (H.neOO hj ho (Ne.symm ij))), Pw⟩
  · obtain ⟨n1, cl, h1, h2, h3, h4, h5⟩ := H.2.2.1 y hy
    exact ⟨n1, cl, h1.other W (Ne.symm (H.neOA (own_mem ho) hy)), h2, h3, fun q => (h4 q).wr W, h5⟩
  · rw [own_set_map (f := fun z => z.1) (x' := (a, C, fs.set q (O, f, d, v))) ho rfl]; exact H.2.2.2
theorem own_H.wrA (H : own_H Z h os as) {i q : Nat} {a : Addr} {ty : FieldType} {ad : String} {v : Value} {vs : List Value} (ha : as[i]? = some (a, ty, ad, vs)) (hq : q < vs.length) (hv : fits ty v = true) (W : Wr h h' a q v) :
    own_H Z h' os (as.set i (a, ty, ad, vs.set q v)) := by
  have na := (H.2.2.1 _ (own_mem ha)).1
  have hlen := (List.getElem?_eq_some_iff.mp ha).1
  refine ⟨?_, fun x hx => ?_, fun y hy => ?_, ?_⟩
  · refine ⟨by rw [Wr.size W]; exact H.1.1, fun b cb hb => ?_⟩
    obtain ⟨cb', e1, -, -, -, e5, -⟩ := wr_at W (H.1.2 b cb hb)
    have : b ≠ a := Nat.ne_of_lt (Nat.lt_of_lt_of_le (Array.getElem?_eq_some_iff.mp hb).1 na)
    rw [← e5 this]; exact e1
  · obtain ⟨n1, E, F, Pw⟩ := H.2.1 _ hx
    exact ⟨n1, E.wr W, fun z hz => Fld.other W (F z hz) (Or.inl (H.neOA hx (own_mem ha))), Pw⟩
  · obtain ⟨j, hj⟩ := List.mem_iff_getElem?.mp hy
    rw [List.getElem?_set] at hj
    by_cases ij : i = j
    · subst ij
      rw [if_pos rfl, if_pos hlen] at hj
      obtain rfl := Option.some.inj hj
      obtain ⟨n1, cl, h1, h2, h3, h4, h5⟩ := H.2.2.1 _ (own_mem ha)
      refine ⟨n1, _, h1.same W, ?_, fun z hz => ?_, fun q => (h4 q).wr W, h5⟩
      · show (cl.setSlot q v).slots.toList = vs.set q v
        rw [show (cl.setSlot q v).slots = cl.slots.setIfInBounds q v from rfl, Array.toList_setIfInBounds, show cl.slots.toList = vs from h2]
      · rcases List.mem_or_eq_of_mem_set hz with hz | rfl
        · exact h3 z hz
        · exact hv
    · rw [if_neg ij] at hj
      obtain ⟨n1, cl, h1, h2, h3, h4, h5⟩ := H.2.2.1 _ (own_mem hj)
      exact ⟨n1, cl, h1.other W (H.neAA hj ha (Ne.symm ij)), h2, h3, fun q => (h4 q).wr W, h5⟩
  · rw [own_set_map (f := fun z => z.1) (x' := (a, ty, ad, vs.set q v)) ha rfl]; exact H.2.2.2
theorem own_le {a b : Nat} (h : Nat.ble a b = true) : a ≤ b := Nat.le_of_ble_eq_true h
theorem own_idx {j : Int32} {q : Nat} (hj : j.toInt = (q : Int)) : j.toNatClampNeg = q := by simp only [Int32.toNatClampNeg, hj]; rfl
theorem own_in {j : Int32} {q N : Nat} (hj : j.toInt = (q : Int)) (hq : q < N) : ¬ (j < 0 ∨ N ≤ j.toNatClampNeg) := by
  rw [own_idx hj, Int32.lt_iff_toInt_lt, hj, show (0 : Int32).toInt = 0 from rfl]; omega
theorem own_len {N : Int32} {q : Nat} (hN : N.toInt = (q : Int)) : q.toInt32 = N := by
  have := Int32.toInt_lt N
  exact Int32.toInt_inj.mp ((len_toInt (by omega)).trans hN.symm)
/-! ## steps -/
theorem own_zw {vm : Vm} (hZ : Z.Warmed39 s.vm) {q : Nat} (hS : s.Since vm q) : Z.Warmed39 (s.setVm vm).vm := State.Warmed39.trans (t := s) hZ hS.1
theorem own_pure (K : own_Cx p s m meth c Z own nm bytes maxL ret)
    (f : ∀ {T : State} {L : List Loc} {vm : Vm}, Stand p l e R (s.setVm vm) m args below meth c T L k n → Z.Warmed39 (s.setVm vm).vm → (s.setVm vm).vm.findClass own = some m.cls → T.heap = h → ∀ target, Steps p.tables e below (T.setTop g') target → Steps p.tables e below (T.setTop g) target)
    (hr : own_G w p l e R s m args below meth c Z Q h k n g') : own_G w p l e R s m args below meth c Z Q h k n g := by
  intro T hX
  obtain ⟨T', v, h', k', n', hX', r1, r2, r3, r4, r5⟩ := hr T hX
  obtain ⟨L, vm, X, -, eT, -, hS⟩ := hX
  exact ⟨T', v, h', k', n', hX', r1, r2, r3, r4, fun fs q => f X (own_zw K.2.2.2.2.2.1 hS) (by rw [show (s.setVm vm).vm = vm from rfl, hS.1.alike.findClass]; exact K.2.2.2.2.2.2.1) eT _ (r5 fs q)⟩
theorem own_since {vm : Vm} {q q' : Nat} (hS : s.Since vm q) (hq : q ≤ q') : s.Since vm q' := ⟨hS.1, hS.2.mono hq⟩
theorem own_step {P : Heap → Prop} (K : own_Cx p s m meth c Z own nm bytes maxL ret)
    (f : ∀ {T : State} {L : List Loc} {vm : Vm}, Stand p l e R (s.setVm vm) m args below meth c T L k n → Z.Warmed39 (s.setVm vm).vm → (s.setVm vm).vm.findClass own = some m.cls → T.heap = h → Fr Z.heap.size L →
      ∃ (T' : State) (h' : Heap) (L' : List Loc), Stand p l e R (s.setVm vm) m args below meth c T' L' k' n' ∧ Fr Z.heap.size L' ∧ T'.heap = h' ∧ h.size ≤ h'.size ∧ P h' ∧ ∀ target, Steps p.tables e below (T'.setTop g') target → Steps p.tables e below (T.setTop g) target)
    (hr : ∀ h', P h' → own_G w p l e R s m args below meth c Z Q h' k' n' g') : own_G w p l e R s m args below meth c Z Q h k n g := by
  intro T hX
  obtain ⟨L, vm, X, N, eT, hw, hS⟩ := hX
  obtain ⟨T1, h1, L1, X1, N1, e1, z1, P1, st⟩ := f X (own_zw K.2.2.2.2.2.1 hS) (by rw [show (s.setVm vm).vm = vm from rfl, hS.1.alike.findClass]; exact K.2.2.2.2.2.2.1) eT N
  obtain ⟨T', v, h', k', n', hX', r1, r2, r3, r4, r5⟩ := hr h1 P1 T1 ⟨L1, vm, X1, N1, e1, hw, own_since hS z1⟩
  exact ⟨T', v, h', k', n', hX', r1, r2, r3, r4, fun fs q => st _ (r5 fs q)⟩
theorem own_iload (K : own_Cx p s m meth c Z own nm bytes maxL ret) {kk : Nat} {v : Int32} (hd : own_D bytes pc (.iload kk) 2 pc') (hl : Ls[kk]? = some (.val (.int v))) (hr : own_G w p l e R s m args below meth c Z Q h k n (mkF m pc' Ls (.int v :: st))) : own_G w p l e R s m args below meth c Z Q h k n (mkF m pc Ls (st)) := by
  obtain ⟨hd, rfl⟩ := hd
  exact own_pure K (fun X _ _ _ _ q => XS.iload X.here K.1 rfl (hb K.2.1 hd) hl q) hr
theorem own_iloadN (K : own_Cx p s m meth c Z own nm bytes maxL ret) {kk : Fin 4} {v : Int32} (hd : own_D bytes pc (.iload_n kk) 1 pc') (hl : Ls[kk.val]? = some (.val (.int v))) (hr : own_G w p l e R s m args below meth c Z Q h k n (mkF m pc' Ls (.int v :: st))) : own_G w p l e R s m args below meth c Z Q h k n (mkF m pc Ls (st)) := by
  obtain ⟨hd, rfl⟩ := hd
  exact own_pure K (fun X _ _ _ _ q => XS.iloadN X.here K.1 rfl (hb K.2.1 hd) hl q) hr
theorem own_istore (K : own_Cx p s m meth c Z own nm bytes maxL ret) {kk : Nat} {v : Int32} (hd : own_D bytes pc (.istore kk) 2 pc') (hl : storeLocals Ls kk (.int v) = some Ls') (hr : own_G w p l e R s m args below meth c Z Q h k n (mkF m pc' Ls' (st))) : own_G w p l e R s m args below meth c Z Q h k n (mkF m pc Ls (.int v :: st)) := by
  obtain ⟨hd, rfl⟩ := hd
  exact own_pure K (fun X _ _ _ _ q => XS.istore X.here K.1 rfl (hb K.2.1 hd) rfl hl q) hr
theorem own_istoreN (K : own_Cx p s m meth c Z own nm bytes maxL ret) {kk : Fin 4} {v : Int32} (hd : own_D bytes pc (.istore_n kk) 1 pc') (hl : storeLocals Ls kk.val (.int v) = some Ls') (hr : own_G w p l e R s m args below meth c Z Q h k n (mkF m pc' Ls' (st))) : own_G w p l e R s m args below meth c Z Q h k n (mkF m pc Ls (.int v :: st)) := by
  obtain ⟨hd, rfl⟩ := hd
  exact own_pure K (fun X _ _ _ _ q => XS.istoreN X.here K.1 rfl (hb K.2.1 hd) rfl hl q) hr
theorem own_lload (K : own_Cx p s m meth c Z own nm bytes maxL ret) {kk : Nat} {v : Int64} (hd : own_D bytes pc (.lload kk) 2 pc') (hl : Ls[kk]? = some (.val (.long v))) (hr : own_G w p l e R s m args below meth c Z Q h k n (mkF m pc' Ls (.long v :: st))) : own_G w p l e R s m args below meth c Z Q h k n (mkF m pc Ls (st)) := by
  obtain ⟨hd, rfl⟩ := hd
  exact own_pure K (fun X _ _ _ _ q => XT.lload X.here K.1 rfl (hb K.2.1 hd) hl q) hr
theorem own_lloadN (K : own_Cx p s m meth c Z own nm bytes maxL ret) {kk : Fin 4} {v : Int64} (hd : own_D bytes pc (.lload_n kk) 1 pc') (hl : Ls[kk.val]? = some (.val (.long v))) (hr : own_G w p l e R s m args below meth c Z Q h k n (mkF m pc' Ls (.long v :: st))) : own_G w p l e R s m args below meth c Z Q h k n (mkF m pc Ls (st)) := by
  obtain ⟨hd, rfl⟩ := hd
  exact own_pure K (fun X _ _ _ _ q => XT.lloadN X.here K.1 rfl (hb K.2.1 hd) hl q) hr
theorem own_lstore (K : own_Cx p s m meth c Z own nm bytes maxL ret) {kk : Nat} {v : Int64} (hd : own_D bytes pc (.lstore kk) 2 pc') (hl : storeLocals Ls kk (.long v) = some Ls') (hr : own_G w p l e R s m args below meth c Z Q h k n (mkF m pc' Ls' (st))) : own_G w p l e R s m args below meth c Z Q h k n (mkF m pc Ls (.long v :: st)) := by
  obtain ⟨hd, rfl⟩ := hd
  exact own_pure K (fun X _ _ _ _ q => XT.lstore X.here K.1 rfl (hb K.2.1 hd) rfl hl q) hr
theorem own_lstoreN (K : own_Cx p s m meth c Z own nm bytes maxL ret) {kk : Fin 4} {v : Int64} (hd : own_D bytes pc (.lstore_n kk) 1 pc') (hl : storeLocals Ls kk.val (.long v) = some Ls') (hr : own_G w p l e R s m args below meth c Z Q h k n (mkF m pc' Ls' (st))) : own_G w p l e R s m args below meth c Z Q h k n (mkF m pc Ls (.long v :: st)) := by
  obtain ⟨hd, rfl⟩ := hd
  exact own_pure K (fun X _ _ _ _ q => XT.lstoreN X.here K.1 rfl (hb K.2.1 hd) rfl hl q) hr
theorem own_dload (K : own_Cx p s m meth c Z own nm bytes maxL ret) {kk : Nat} {v : UInt64} (hd : own_D bytes pc (.dload kk) 2 pc') (hl : Ls[kk]? = some (.val (.double v))) (hr : own_G w p l e R s m args below meth c Z Q h k n (mkF m pc' Ls (.double v :: st))) : own_G w p l e R s m args below meth c Z Q h k n (mkF m pc Ls (st)) := by
  obtain ⟨hd, rfl⟩ := hd
  exact own_pure K (fun X _ _ _ _ q => XS.dload X.here K.1 rfl (hb K.2.1 hd) hl q) hr
theorem own_dloadN (K : own_Cx p s m meth c Z own nm bytes maxL ret) {kk : Fin 4} {v : UInt64} (hd : own_D bytes pc (.dload_n kk) 1 pc') (hl : Ls[kk.val]? = some (.val (.double v))) (hr : own_G w p l e R s m args below meth c Z Q h k n (mkF m pc' Ls (.double v :: st))) : own_G w p l e R s m args below meth c Z Q h k n (mkF m pc Ls (st)) := by
  obtain ⟨hd, rfl⟩ := hd
  exact own_pure K (fun X _ _ _ _ q => XS.dloadN X.here K.1 rfl (hb K.2.1 hd) hl q) hr
theorem own_dstore (K : own_Cx p s m meth c Z own nm bytes maxL ret) {kk : Nat} {v : UInt64} (hd : own_D bytes pc (.dstore kk) 2 pc') (hl : storeLocals Ls kk (.double v) = some Ls') (hr : own_G w p l e R s m args below meth c Z Q h k n (mkF m pc' Ls' (st))) : own_G w p l e R s m args below meth c Z Q h k n (mkF m pc Ls (.double v :: st)) := by
  obtain ⟨hd, rfl⟩ := hd
  exact own_pure K (fun X _ _ _ _ q => XS.dstore X.here K.1 rfl (hb K.2.1 hd) rfl hl q) hr
theorem own_dstoreN (K : own_Cx p s m meth c Z own nm bytes maxL ret) {kk : Fin 4} {v : UInt64} (hd : own_D bytes pc (.dstore_n kk) 1 pc') (hl : storeLocals Ls kk.val (.double v) = some Ls') (hr : own_G w p l e R s m args below meth c Z Q h k n (mkF m pc' Ls' (st))) : own_G w p l e R s m args below meth c Z Q h k n (mkF m pc Ls (.double v :: st)) := by
  obtain ⟨hd, rfl⟩ := hd
  exact own_pure K (fun X _ _ _ _ q => XS.dstoreN X.here K.1 rfl (hb K.2.1 hd) rfl hl q) hr
theorem own_aload (K : own_Cx p s m meth c Z own nm bytes maxL ret) {kk : Nat} {v : Value} (hd : own_D bytes pc (.aload kk) 2 pc') (hl : Ls[kk]? = some (.val v)) (hv : v.isRef = true) (hr : own_G w p l e R s m args below meth c Z Q h k n (mkF m pc' Ls (v :: st))) : own_G w p l e R s m args below meth c Z Q h k n (mkF m pc Ls (st)) := by
  obtain ⟨hd, rfl⟩ := hd
  exact own_pure K (fun X _ _ _ _ q => XS.aload X.here K.1 rfl (hb K.2.1 hd) hl hv q) hr
theorem own_aloadN (K : own_Cx p s m meth c Z own nm bytes maxL ret) {kk : Fin 4} {v : Value} (hd : own_D bytes pc (.aload_n kk) 1 pc') (hl : Ls[kk.val]? = some (.val v)) (hv : v.isRef = true) (hr : own_G w p l e R s m args below meth c Z Q h k n (mkF m pc' Ls (v :: st))) : own_G w p l e R s m args below meth c Z Q h k n (mkF m pc Ls (st)) := by
  obtain ⟨hd, rfl⟩ := hd
  exact own_pure K (fun X _ _ _ _ q => XS.aloadN X.here K.1 rfl (hb K.2.1 hd) hl hv q) hr
theorem own_astore (K : own_Cx p s m meth c Z own nm bytes maxL ret) {kk : Nat} {v : Value} (hd : own_D bytes pc (.astore kk) 2 pc') (hv : v.isRef = true) (hl : storeLocals Ls kk v = some Ls') (hr : own_G w p l e R s m args below meth c Z Q h k n (mkF m pc' Ls' (st))) : own_G w p l e R s m args below meth c Z Q h k n (mkF m pc Ls (v :: st)) := by
  obtain ⟨hd, rfl⟩ := hd
  exact own_pure K (fun X _ _ _ _ q => XS.astore X.here K.1 rfl (hb K.2.1 hd) rfl hv hl q) hr
theorem own_astoreN (K : own_Cx p s m meth c Z own nm bytes maxL ret) {kk : Fin 4} {v : Value} (hd : own_D bytes pc (.astore_n kk) 1 pc') (hv : v.isRef = true) (hl : storeLocals Ls kk.val v = some Ls') (hr : own_G w p l e R s m args below meth c Z Q h k n (mkF m pc' Ls' (st))) : own_G w p l e R s m args below meth c Z Q h k n (mkF m pc Ls (v :: st)) := by
  obtain ⟨hd, rfl⟩ := hd
  exact own_pure K (fun X _ _ _ _ q => XS.astoreN X.here K.1 rfl (hb K.2.1 hd) rfl hv hl q) hr
theorem own_iconst (K : own_Cx p s m meth c Z own nm bytes maxL ret) {i : Int} {v : Int32} (hd : own_D bytes pc (.iconst i) 1 pc') (hv : Int32.ofInt i = v) (hr : own_G w p l e R s m args below meth c Z Q h k n (mkF m pc' Ls (.int v :: st))) : own_G w p l e R s m args below meth c Z Q h k n (mkF m pc Ls st) := by
  obtain ⟨hd, rfl⟩ := hd
  subst hv
  exact own_pure K (fun X _ _ _ _ q => XS.iconst X.here K.1 rfl (hb K.2.1 hd) q) hr
theorem own_bipush (K : own_Cx p s m meth c Z own nm bytes maxL ret) {i : Int} {v : Int32} (hd : own_D bytes pc (.bipush i) 2 pc') (hv : (Int8.ofInt i).toInt32 = v) (hr : own_G w p l e R s m args below meth c Z Q h k n (mkF m pc' Ls (.int v :: st))) : own_G w p l e R s m args below meth c Z Q h k n (mkF m pc Ls st) := by
  obtain ⟨hd, rfl⟩ := hd
  subst hv
  exact own_pure K (fun X _ _ _ _ q => XS.bipush X.here K.1 rfl (hb K.2.1 hd) q) hr
theorem own_sipush (K : own_Cx p s m meth c Z own nm bytes maxL ret) {i : Int} {v : Int32} (hd : own_D bytes pc (.sipush i) 3 pc') (hv : (Int16.ofInt i).toInt32 = v) (hr : own_G w p l e R s m args below meth c Z Q h k n (mkF m pc' Ls (.int v :: st))) : own_G w p l e R s m args below meth c Z Q h k n (mkF m pc Ls st) := by
  obtain ⟨hd, rfl⟩ := hd
  subst hv
  exact own_pure K (fun X _ _ _ _ q => XS.sipush X.here K.1 rfl (hb K.2.1 hd) q) hr
theorem own_lconst (K : own_Cx p s m meth c Z own nm bytes maxL ret) {i : Fin 2} {v : Int64} (hd : own_D bytes pc (.lconst i) 1 pc') (hv : Int64.ofNat i = v) (hr : own_G w p l e R s m args below meth c Z Q h k n (mkF m pc' Ls (.long v :: st))) : own_G w p l e R s m args below meth c Z Q h k n (mkF m pc Ls st) := by
  obtain ⟨hd, rfl⟩ := hd
  subst hv
  exact own_pure K (fun X _ _ _ _ q => XT.lconst X.here K.1 rfl (hb K.2.1 hd) q) hr
theorem own_dconst0 (K : own_Cx p s m meth c Z own nm bytes maxL ret) {v : UInt64} (hd : own_D bytes pc (.dconst 0) 1 pc') (hv : FP.dconst0 = v) (hr : own_G w p l e R s m args below meth c Z Q h k n (mkF m pc' Ls (.double v :: st))) : own_G w p l e R s m args below meth c Z Q h k n (mkF m pc Ls st) := by
  obtain ⟨hd, rfl⟩ := hd
  exact own_pure K (fun X _ _ _ _ q => XS.dconst0 X.here K.1 rfl (hb K.2.1 hd) hv q) hr
theorem own_dconst1 (K : own_Cx p s m meth c Z own nm bytes maxL ret) {v : UInt64} (hd : own_D bytes pc (.dconst 1) 1 pc') (hv : FP.dconst1 = v) (hr : own_G w p l e R s m args below meth c Z Q h k n (mkF m pc' Ls (.double v :: st))) : own_G w p l e R s m args below meth c Z Q h k n (mkF m pc Ls st) := by
  obtain ⟨hd, rfl⟩ := hd
  exact own_pure K (fun X _ _ _ _ q => XS.dconst1 X.here K.1 rfl (hb K.2.1 hd) hv q) hr
theorem own_aconstNull (K : own_Cx p s m meth c Z own nm bytes maxL ret)  (hd : own_D bytes pc (.aconst_null) 1 pc') (hr : own_G w p l e R s m args below meth c Z Q h k n (mkF m pc' Ls (.null :: st))) : own_G w p l e R s m args below meth c Z Q h k n (mkF m pc Ls (st)) := by
  obtain ⟨hd, rfl⟩ := hd
  exact own_pure K (fun X _ _ _ _ q => XS.aconstNull X.here K.1 rfl (hb K.2.1 hd)  q) hr
theorem own_iadd (K : own_Cx p s m meth c Z own nm bytes maxL ret) {x y : Int32} (hd : own_D bytes pc (.iadd) 1 pc') (hr : own_G w p l e R s m args below meth c Z Q h k n (mkF m pc' Ls (.int (x + y) :: st))) : own_G w p l e R s m args below meth c Z Q h k n (mkF m pc Ls (.int y :: .int x :: st)) := by
  obtain ⟨hd, rfl⟩ := hd
  exact own_pure K (fun X _ _ _ _ q => XS.iadd X.here K.1 rfl (hb K.2.1 hd) rfl q) hr
theorem own_isub (K : own_Cx p s m meth c Z own nm bytes maxL ret) {x y : Int32} (hd : own_D bytes pc (.isub) 1 pc') (hr : own_G w p l e R s m args below meth c Z Q h k n (mkF m pc' Ls (.int (x - y) :: st))) : own_G w p l e R s m args below meth c Z Q h k n (mkF m pc Ls (.int y :: .int x :: st)) := by
  obtain ⟨hd, rfl⟩ := hd
  exact own_pure K (fun X _ _ _ _ q => XS.isub X.here K.1 rfl (hb K.2.1 hd) rfl q) hr
theorem own_iand (K : own_Cx p s m meth c Z own nm bytes maxL ret) {x y : Int32} (hd : own_D bytes pc (.iand) 1 pc') (hr : own_G w p l e R s m args below meth c Z Q h k n (mkF m pc' Ls (.int (x &&& y) :: st))) : own_G w p l e R s m args below meth c Z Q h k n (mkF m pc Ls (.int y :: .int x :: st)) := by
  obtain ⟨hd, rfl⟩ := hd
  exact own_pure K (fun X _ _ _ _ q => XS.iand X.here K.1 rfl (hb K.2.1 hd) rfl q) hr
theorem own_imul (K : own_Cx p s m meth c Z own nm bytes maxL ret) {x y : Int32} (hd : own_D bytes pc (.imul) 1 pc') (hr : own_G w p l e R s m args below meth c Z Q h k n (mkF m pc' Ls (.int (x * y) :: st))) : own_G w p l e R s m args below meth c Z Q h k n (mkF m pc Ls (.int y :: .int x :: st)) := by
  obtain ⟨hd, rfl⟩ := hd
  exact own_pure K (fun X _ _ _ _ q => XS.imul X.here K.1 rfl (hb K.2.1 hd) rfl q) hr
theorem own_ixor (K : own_Cx p s m meth c Z own nm bytes maxL ret) {x y : Int32} (hd : own_D bytes pc (.ixor) 1 pc') (hr : own_G w p l e R s m args below meth c Z Q h k n (mkF m pc' Ls (.int (x ^^^ y) :: st))) : own_G w p l e R s m args below meth c Z Q h k n (mkF m pc Ls (.int y :: .int x :: st)) := by
  obtain ⟨hd, rfl⟩ := hd
  exact own_pure K (fun X _ _ _ _ q => XT.ixor X.here K.1 rfl (hb K.2.1 hd) rfl q) hr
theorem own_ior (K : own_Cx p s m meth c Z own nm bytes maxL ret) {x y : Int32} (hd : own_D bytes pc (.ior) 1 pc') (hr : own_G w p l e R s m args below meth c Z Q h k n (mkF m pc' Ls (.int (x ||| y) :: st))) : own_G w p l e R s m args below meth c Z Q h k n (mkF m pc Ls (.int y :: .int x :: st)) := by
  obtain ⟨hd, rfl⟩ := hd
  exact own_pure K (fun X _ _ _ _ q => XT.ior X.here K.1 rfl (hb K.2.1 hd) rfl q) hr
theorem own_ishl (K : own_Cx p s m meth c Z own nm bytes maxL ret) {x y : Int32} (hd : own_D bytes pc (.ishl) 1 pc') (hr : own_G w p l e R s m args below meth c Z Q h k n (mkF m pc' Ls (.int (x <<< (y &&& 31)) :: st))) : own_G w p l e R s m args below meth c Z Q h k n (mkF m pc Ls (.int y :: .int x :: st)) := by
  obtain ⟨hd, rfl⟩ := hd
  exact own_pure K (fun X _ _ _ _ q => XT.ishl X.here K.1 rfl (hb K.2.1 hd) rfl q) hr
theorem own_ishr (K : own_Cx p s m meth c Z own nm bytes maxL ret) {x y : Int32} (hd : own_D bytes pc (.ishr) 1 pc') (hr : own_G w p l e R s m args below meth c Z Q h k n (mkF m pc' Ls (.int (x >>> (y &&& 31)) :: st))) : own_G w p l e R s m args below meth c Z Q h k n (mkF m pc Ls (.int y :: .int x :: st)) := by
  obtain ⟨hd, rfl⟩ := hd
  exact own_pure K (fun X _ _ _ _ q => XT.ishr X.here K.1 rfl (hb K.2.1 hd) rfl q) hr
theorem own_iushr (K : own_Cx p s m meth c Z own nm bytes maxL ret) {x y : Int32} (hd : own_D bytes pc (.iushr) 1 pc') (hr : own_G w p l e R s m args below meth c Z Q h k n (mkF m pc' Ls (.int (XT.ushr x y) :: st))) : own_G w p l e R s m args below meth c Z Q h k n (mkF m pc Ls (.int y :: .int x :: st)) := by
  obtain ⟨hd, rfl⟩ := hd
  exact own_pure K (fun X _ _ _ _ q => XT.iushr X.here K.1 rfl (hb K.2.1 hd) rfl q) hr
theorem own_ladd (K : own_Cx p s m meth c Z own nm bytes maxL ret) {x y : Int64} (hd : own_D bytes pc (.ladd) 1 pc') (hr : own_G w p l e R s m args below meth c Z Q h k n (mkF m pc' Ls (.long (x + y) :: st))) : own_G w p l e R s m args below meth c Z Q h k n (mkF m pc Ls (.long y :: .long x :: st)) := by
  obtain ⟨hd, rfl⟩ := hd
  exact own_pure K (fun X _ _ _ _ q => XT.ladd X.here K.1 rfl (hb K.2.1 hd) rfl q) hr
theorem own_lsub (K : own_Cx p s m meth c Z own nm bytes maxL ret) {x y : Int64} (hd : own_D bytes pc (.lsub) 1 pc') (hr : own_G w p l e R s m args below meth c Z Q h k n (mkF m pc' Ls (.long (x - y) :: st))) : own_G w p l e R s m args below meth c Z Q h k n (mkF m pc Ls (.long y :: .long x :: st)) := by
  obtain ⟨hd, rfl⟩ := hd
  exact own_pure K (fun X _ _ _ _ q => XT.lsub X.here K.1 rfl (hb K.2.1 hd) rfl q) hr
theorem own_lmul (K : own_Cx p s m meth c Z own nm bytes maxL ret) {x y : Int64} (hd : own_D bytes pc (.lmul) 1 pc') (hr : own_G w p l e R s m args below meth c Z Q h k n (mkF m pc' Ls (.long (x * y) :: st))) : own_G w p l e R s m args below meth c Z Q h k n (mkF m pc Ls (.long y :: .long x :: st)) := by
  obtain ⟨hd, rfl⟩ := hd
  exact own_pure K (fun X _ _ _ _ q => XT.lmul X.here K.1 rfl (hb K.2.1 hd) rfl q) hr
theorem own_land (K : own_Cx p s m meth c Z own nm bytes maxL ret) {x y : Int64} (hd : own_D bytes pc (.land) 1 pc') (hr : own_G w p l e R s m args below meth c Z Q h k n (mkF m pc' Ls (.long (x &&& y) :: st))) : own_G w p l e R s m args below meth c Z Q h k n (mkF m pc Ls (.long y :: .long x :: st)) := by
  obtain ⟨hd, rfl⟩ := hd
  exact own_pure K (fun X _ _ _ _ q => XT.land X.here K.1 rfl (hb K.2.1 hd) rfl q) hr
theorem own_lor (K : own_Cx p s m meth c Z own nm bytes maxL ret) {x y : Int64} (hd : own_D bytes pc (.lor) 1 pc') (hr : own_G w p l e R s m args below meth c Z Q h k n (mkF m pc' Ls (.long (x ||| y) :: st))) : own_G w p l e R s m args below meth c Z Q h k n (mkF m pc Ls (.long y :: .long x :: st)) := by
  obtain ⟨hd, rfl⟩ := hd
  exact own_pure K (fun X _ _ _ _ q => XT.lor X.here K.1 rfl (hb K.2.1 hd) rfl q) hr
theorem own_lxor (K : own_Cx p s m meth c Z own nm bytes maxL ret) {x y : Int64} (hd : own_D bytes pc (.lxor) 1 pc') (hr : own_G w p l e R s m args below meth c Z Q h k n (mkF m pc' Ls (.long (x ^^^ y) :: st))) : own_G w p l e R s m args below meth c Z Q h k n (mkF m pc Ls (.long y :: .long x :: st)) := by
  obtain ⟨hd, rfl⟩ := hd
  exact own_pure K (fun X _ _ _ _ q => XT.lxor X.here K.1 rfl (hb K.2.1 hd) rfl q) hr
theorem own_lshl (K : own_Cx p s m meth c Z own nm bytes maxL ret) {x : Int64} {y : Int32} (hd : own_D bytes pc (.lshl) 1 pc') (hr : own_G w p l e R s m args below meth c Z Q h k n (mkF m pc' Ls (.long (x <<< (y.toInt64 &&& 63)) :: st))) : own_G w p l e R s m args below meth c Z Q h k n (mkF m pc Ls (.int y :: .long x :: st)) := by
  obtain ⟨hd, rfl⟩ := hd
  exact own_pure K (fun X _ _ _ _ q => XT.lshl X.here K.1 rfl (hb K.2.1 hd) rfl q) hr
theorem own_lshr (K : own_Cx p s m meth c Z own nm bytes maxL ret) {x : Int64} {y : Int32} (hd : own_D bytes pc (.lshr) 1 pc') (hr : own_G w p l e R s m args below meth c Z Q h k n (mkF m pc' Ls (.long (x >>> (y.toInt64 &&& 63)) :: st))) : own_G w p l e R s m args below meth c Z Q h k n (mkF m pc Ls (.int y :: .long x :: st)) := by
  obtain ⟨hd, rfl⟩ := hd
  exact own_pure K (fun X _ _ _ _ q => XT.lshr X.here K.1 rfl (hb K.2.1 hd) rfl q) hr
theorem own_lushr (K : own_Cx p s m meth c Z own nm bytes maxL ret) {x : Int64} {y : Int32} (hd : own_D bytes pc (.lushr) 1 pc') (hr : own_G w p l e R s m args below meth c Z Q h k n (mkF m pc' Ls (.long (XT.ushrL x y) :: st))) : own_G w p l e R s m args below meth c Z Q h k n (mkF m pc Ls (.int y :: .long x :: st)) := by
  obtain ⟨hd, rfl⟩ := hd
  exact own_pure K (fun X _ _ _ _ q => XT.lushr X.here K.1 rfl (hb K.2.1 hd) rfl q) hr
theorem own_lcmp (K : own_Cx p s m meth c Z own nm bytes maxL ret) {x y : Int64} (hd : own_D bytes pc (.lcmp) 1 pc') (hr : own_G w p l e R s m args below meth c Z Q h k n (mkF m pc' Ls (.int (XT.cmpL x y) :: st))) : own_G w p l e R s m args below meth c Z Q h k n (mkF m pc Ls (.long y :: .long x :: st)) := by
  obtain ⟨hd, rfl⟩ := hd
  exact own_pure K (fun X _ _ _ _ q => XT.lcmp X.here K.1 rfl (hb K.2.1 hd) rfl q) hr
theorem own_idiv (K : own_Cx p s m meth c Z own nm bytes maxL ret) {x y : Int32} (hd : own_D bytes pc (.idiv) 1 pc') (hy : y ≠ 0) (hr : own_G w p l e R s m args below meth c Z Q h k n (mkF m pc' Ls (.int (x / y) :: st))) : own_G w p l e R s m args below meth c Z Q h k n (mkF m pc Ls (.int y :: .int x :: st)) := by
  obtain ⟨hd, rfl⟩ := hd
  exact own_pure K (fun X _ _ _ _ q => XS.idiv X.here K.1 rfl (hb K.2.1 hd) rfl hy q) hr
theorem own_ldiv (K : own_Cx p s m meth c Z own nm bytes maxL ret) {x y : Int64} (hd : own_D bytes pc (.ldiv) 1 pc') (hy : y ≠ 0) (hr : own_G w p l e R s m args below meth c Z Q h k n (mkF m pc' Ls (.long (x / y) :: st))) : own_G w p l e R s m args below meth c Z Q h k n (mkF m pc Ls (.long y :: .long x :: st)) := by
  obtain ⟨hd, rfl⟩ := hd
  exact own_pure K (fun X _ _ _ _ q => XT.ldiv X.here K.1 rfl (hb K.2.1 hd) rfl hy q) hr
theorem own_irem (K : own_Cx p s m meth c Z own nm bytes maxL ret) {x y : Int32} (hd : own_D bytes pc .irem 1 pc') (hy : y ≠ 0) (hr : own_G w p l e R s m args below meth c Z Q h k n (mkF m pc' Ls (.int (x % y) :: st))) : own_G w p l e R s m args below meth c Z Q h k n (mkF m pc Ls (.int y :: .int x :: st)) := by
  obtain ⟨hd, rfl⟩ := hd
  exact own_pure K (fun X _ _ _ _ q => iremM X K.1 rfl (hb K.2.1 hd) rfl hy q) hr
theorem own_ineg (K : own_Cx p s m meth c Z own nm bytes maxL ret) {x : Int32} (hd : own_D bytes pc (.ineg) 1 pc') (hr : own_G w p l e R s m args below meth c Z Q h k n (mkF m pc' Ls (.int (-x) :: st))) : own_G w p l e R s m args below meth c Z Q h k n (mkF m pc Ls (.int x :: st)) := by
  obtain ⟨hd, rfl⟩ := hd
  exact own_pure K (fun X _ _ _ _ q => XS.ineg X.here K.1 rfl (hb K.2.1 hd) rfl q) hr
theorem own_lneg (K : own_Cx p s m meth c Z own nm bytes maxL ret) {x : Int64} (hd : own_D bytes pc (.lneg) 1 pc') (hr : own_G w p l e R s m args below meth c Z Q h k n (mkF m pc' Ls (.long (-x) :: st))) : own_G w p l e R s m args below meth c Z Q h k n (mkF m pc Ls (.long x :: st)) := by
  obtain ⟨hd, rfl⟩ := hd
  exact own_pure K (fun X _ _ _ _ q => XT.lneg X.here K.1 rfl (hb K.2.1 hd) rfl q) hr
theorem own_i2l (K : own_Cx p s m meth c Z own nm bytes maxL ret) {x : Int32} (hd : own_D bytes pc (.i2l) 1 pc') (hr : own_G w p l e R s m args below meth c Z Q h k n (mkF m pc' Ls (.long (x.toInt64) :: st))) : own_G w p l e R s m args below meth c Z Q h k n (mkF m pc Ls (.int x :: st)) := by
  obtain ⟨hd, rfl⟩ := hd
  exact own_pure K (fun X _ _ _ _ q => XT.i2l X.here K.1 rfl (hb K.2.1 hd) rfl q) hr
theorem own_l2i (K : own_Cx p s m meth c Z own nm bytes maxL ret) {x : Int64} (hd : own_D bytes pc (.l2i) 1 pc') (hr : own_G w p l e R s m args below meth c Z Q h k n (mkF m pc' Ls (.int (x.toInt32) :: st))) : own_G w p l e R s m args below meth c Z Q h k n (mkF m pc Ls (.long x :: st)) := by
  obtain ⟨hd, rfl⟩ := hd
  exact own_pure K (fun X _ _ _ _ q => XT.l2i X.here K.1 rfl (hb K.2.1 hd) rfl q) hr
theorem own_i2b (K : own_Cx p s m meth c Z own nm bytes maxL ret) {x : Int32} (hd : own_D bytes pc (.i2b) 1 pc') (hr : own_G w p l e R s m args below meth c Z Q h k n (mkF m pc' Ls (.int (x.toInt8.toInt32) :: st))) : own_G w p l e R s m args below meth c Z Q h k n (mkF m pc Ls (.int x :: st)) := by
  obtain ⟨hd, rfl⟩ := hd
  exact own_pure K (fun X _ _ _ _ q => XT.i2b X.here K.1 rfl (hb K.2.1 hd) rfl q) hr
theorem own_i2c (K : own_Cx p s m meth c Z own nm bytes maxL ret) {x : Int32} (hd : own_D bytes pc (.i2c) 1 pc') (hr : own_G w p l e R s m args below meth c Z Q h k n (mkF m pc' Ls (.int (x.toUInt32.toUInt16.toUInt32.toInt32) :: st))) : own_G w p l e R s m args below meth c Z Q h k n (mkF m pc Ls (.int x :: st)) := by
  obtain ⟨hd, rfl⟩ := hd
  exact own_pure K (fun X _ _ _ _ q => XT.i2c X.here K.1 rfl (hb K.2.1 hd) rfl q) hr
theorem own_i2s (K : own_Cx p s m meth c Z own nm bytes maxL ret) {x : Int32} (hd : own_D bytes pc (.i2s) 1 pc') (hr : own_G w p l e R s m args below meth c Z Q h k n (mkF m pc' Ls (.int (x.toInt16.toInt32) :: st))) : own_G w p l e R s m args below meth c Z Q h k n (mkF m pc Ls (.int x :: st)) := by
  obtain ⟨hd, rfl⟩ := hd
  exact own_pure K (fun X _ _ _ _ q => XT.i2s X.here K.1 rfl (hb K.2.1 hd) rfl q) hr
theorem own_i2d (K : own_Cx p s m meth c Z own nm bytes maxL ret) {x : Int32} (hd : own_D bytes pc (.i2d) 1 pc') (hr : own_G w p l e R s m args below meth c Z Q h k n (mkF m pc' Ls (.double (FP.i2d x) :: st))) : own_G w p l e R s m args below meth c Z Q h k n (mkF m pc Ls (.int x :: st)) := by
  obtain ⟨hd, rfl⟩ := hd
  exact own_pure K (fun X _ _ _ _ q => XS.i2dS X.here K.1 rfl (hb K.2.1 hd) rfl rfl q) hr
theorem own_l2d (K : own_Cx p s m meth c Z own nm bytes maxL ret) {x : Int64} (hd : own_D bytes pc (.l2d) 1 pc') (hr : own_G w p l e R s m args below meth c Z Q h k n (mkF m pc' Ls (.double (FP.l2d x) :: st))) : own_G w p l e R s m args below meth c Z Q h k n (mkF m pc Ls (.long x :: st)) := by
  obtain ⟨hd, rfl⟩ := hd
  exact own_pure K (fun X _ _ _ _ q => XS.l2dS X.here K.1 rfl (hb K.2.1 hd) rfl rfl q) hr
theorem own_dneg (K : own_Cx p s m meth c Z own nm bytes maxL ret) {x : UInt64} (hd : own_D bytes pc (.dneg) 1 pc') (hr : own_G w p l e R s m args below meth c Z Q h k n (mkF m pc' Ls (.double (FP.dneg x) :: st))) : own_G w p l e R s m args below meth c Z Q h k n (mkF m pc Ls (.double x :: st)) := by
  obtain ⟨hd, rfl⟩ := hd
  exact own_pure K (fun X _ _ _ _ q => XS.dnegS X.here K.1 rfl (hb K.2.1 hd) rfl rfl q) hr
theorem own_dcmp (K : own_Cx p s m meth c Z own nm bytes maxL ret) {oo : CmpOp} {x y : UInt64} (hd : own_D bytes pc (.dcmp oo) 1 pc') (hr : own_G w p l e R s m args below meth c Z Q h k n (mkF m pc' Ls (.int (cmpValue (FP.dcmp x y) oo) :: st))) : own_G w p l e R s m args below meth c Z Q h k n (mkF m pc Ls (.double y :: .double x :: st)) := by
  obtain ⟨hd, rfl⟩ := hd
  exact own_pure K (fun X _ _ _ _ q => XS.dcmpS X.here K.1 rfl (hb K.2.1 hd) rfl rfl q) hr
theorem own_dadd (K : own_Cx p s m meth c Z own nm bytes maxL ret) {x y : UInt64} (hd : own_D bytes pc (.dadd) 1 pc') (hn : Jvm.Free.Fl.NoNaN64 (FP.dadd x y)) (hr : own_G w p l e R s m args below meth c Z Q h k n (mkF m pc' Ls (.double (FP.dadd x y) :: st))) : own_G w p l e R s m args below meth c Z Q h k n (mkF m pc Ls (.double y :: .double x :: st)) := by
  obtain ⟨hd, rfl⟩ := hd
  exact own_pure K (fun X _ _ _ _ q => XS.daddS X.here K.1 rfl (hb K.2.1 hd) rfl hn rfl q) hr
theorem own_dsub (K : own_Cx p s m meth c Z own nm bytes maxL ret) {x y : UInt64} (hd : own_D bytes pc (.dsub) 1 pc') (hn : Jvm.Free.Fl.NoNaN64 (FP.dsub x y)) (hr : own_G w p l e R s m args below meth c Z Q h k n (mkF m pc' Ls (.double (FP.dsub x y) :: st))) : own_G w p l e R s m args below meth c Z Q h k n (mkF m pc Ls (.double y :: .double x :: st)) := by
  obtain ⟨hd, rfl⟩ := hd
  exact own_pure K (fun X _ _ _ _ q => XS.dsubS X.here K.1 rfl (hb K.2.1 hd) rfl hn rfl q) hr
theorem own_dmul (K : own_Cx p s m meth c Z own nm bytes maxL ret) {x y : UInt64} (hd : own_D bytes pc (.dmul) 1 pc') (hn : Jvm.Free.Fl.NoNaN64 (FP.dmul x y)) (hr : own_G w p l e R s m args below meth c Z Q h k n (mkF m pc' Ls (.double (FP.dmul x y) :: st))) : own_G w p l e R s m args below meth c Z Q h k n (mkF m pc Ls (.double y :: .double x :: st)) := by
  obtain ⟨hd, rfl⟩ := hd
  exact own_pure K (fun X _ _ _ _ q => XS.dmulS X.here K.1 rfl (hb K.2.1 hd) rfl hn rfl q) hr
theorem own_ddiv (K : own_Cx p s m meth c Z own nm bytes maxL ret) {x y : UInt64} (hd : own_D bytes pc (.ddiv) 1 pc') (hn : Jvm.Free.Fl.NoNaN64 (FP.ddiv x y)) (hr : own_G w p l e R s m args below meth c Z Q h k n (mkF m pc' Ls (.double (FP.ddiv x y) :: st))) : own_G w p l e R s m args below meth c Z Q h k n (mkF m pc Ls (.double y :: .double x :: st)) := by
  obtain ⟨hd, rfl⟩ := hd
  exact own_pure K (fun X _ _ _ _ q => XS.ddivS X.here K.1 rfl (hb K.2.1 hd) rfl hn rfl q) hr
theorem own_dup (K : own_Cx p s m meth c Z own nm bytes maxL ret) {x : Value} (hd : own_D bytes pc (.dup) 1 pc') (hc : x.category = 1) (hr : own_G w p l e R s m args below meth c Z Q h k n (mkF m pc' Ls (x :: x :: st))) : own_G w p l e R s m args below meth c Z Q h k n (mkF m pc Ls (x :: st)) := by
  obtain ⟨hd, rfl⟩ := hd
  exact own_pure K (fun X _ _ _ _ q => XS.dup X.here K.1 rfl (hb K.2.1 hd) rfl hc q) hr
theorem own_pop (K : own_Cx p s m meth c Z own nm bytes maxL ret) {x : Value} (hd : own_D bytes pc (.pop) 1 pc') (hc : x.category = 1) (hr : own_G w p l e R s m args below meth c Z Q h k n (mkF m pc' Ls (st))) : own_G w p l e R s m args below meth c Z Q h k n (mkF m pc Ls (x :: st)) := by
  obtain ⟨hd, rfl⟩ := hd
  exact own_pure K (fun X _ _ _ _ q => XT.pop X.here K.1 rfl (hb K.2.1 hd) rfl hc q) hr
theorem own_dupX1 (K : own_Cx p s m meth c Z own nm bytes maxL ret) {x y : Value} (hd : own_D bytes pc (.dup_x1) 1 pc') (hc : x.category = 1) (hc' : y.category = 1) (hr : own_G w p l e R s m args below meth c Z Q h k n (mkF m pc' Ls (x :: y :: x :: st))) : own_G w p l e R s m args below meth c Z Q h k n (mkF m pc Ls (x :: y :: st)) := by
  obtain ⟨hd, rfl⟩ := hd
  exact own_pure K (fun X _ _ _ _ q => XT.dupX1 X.here K.1 rfl (hb K.2.1 hd) rfl hc hc' q) hr
theorem own_dup2 (K : own_Cx p s m meth c Z own nm bytes maxL ret) {x y : Value} (hd : own_D bytes pc (.dup2) 1 pc') (hc : x.category = 1) (hc' : y.category = 1) (hr : own_G w p l e R s m args below meth c Z Q h k n (mkF m pc' Ls (x :: y :: x :: y :: st))) : own_G w p l e R s m args below meth c Z Q h k n (mkF m pc Ls (x :: y :: st)) := by
  obtain ⟨hd, rfl⟩ := hd
  exact own_pure K (fun X _ _ _ _ q => XT.dup2 X.here K.1 rfl (hb K.2.1 hd) rfl hc hc' q) hr
theorem own_iinc (K : own_Cx p s m meth c Z own nm bytes maxL ret) {kk : Nat} {cst : Int} {x y : Int32} (hd : own_D bytes pc (.iinc kk cst) 3 pc') (hl : Ls[kk]? = some (.val (.int x))) (hy : x + Int32.ofInt cst = y) (hl' : storeLocals Ls kk (.int y) = some Ls') (hr : own_G w p l e R s m args below meth c Z Q h k n (mkF m pc' Ls' st)) : own_G w p l e R s m args below meth c Z Q h k n (mkF m pc Ls st) := by
  obtain ⟨hd, rfl⟩ := hd
  subst hy
  exact own_pure K (fun X _ _ _ _ q => XS.iinc X.here K.1 rfl (hb K.2.1 hd) hl hl' q) hr
theorem own_goto (K : own_Cx p s m meth c Z own nm bytes maxL ret) {off : Int} {pcF : Nat} (hd : own_B bytes pc (.goto off) off pcF pcT) (hr : own_G w p l e R s m args below meth c Z Q h k n (mkF m pcT Ls st)) : own_G w p l e R s m args below meth c Z Q h k n (mkF m pc Ls st) := by
  obtain ⟨hd, -, h1, h2⟩ := hd
  exact own_pure K (fun X _ _ _ _ q => XS.goto X.here K.1 rfl rfl (hb K.2.1 hd) h1 h2 q) hr
theorem own_ldcI (K : own_Cx p s m meth c Z own nm bytes maxL ret) {i : Nat} {v : Int32} (hd : own_D bytes pc (.ldc i) 2 pc') (wc : (Cond.constant own i v).before a0 Z = true) (hr : own_G w p l e R s m args below meth c Z Q h k n (mkF m pc' Ls (.int v :: st))) : own_G w p l e R s m args below meth c Z Q h k n (mkF m pc Ls st) := by
  obtain ⟨hd, rfl⟩ := hd
  exact own_pure K (fun X hZ ho _ _ q => X.ldcI K.1 ho (mvT hZ wc) rfl (hb K.2.1 hd) q) hr
theorem own_ldc2J (K : own_Cx p s m meth c Z own nm bytes maxL ret) {i : Nat} {v : Int64} (hd : own_D bytes pc (.ldc2_w i) 3 pc') (wc : (Cond.constantLong own i v).before a0 Z = true) (hr : own_G w p l e R s m args below meth c Z Q h k n (mkF m pc' Ls (.long v :: st))) : own_G w p l e R s m args below meth c Z Q h k n (mkF m pc Ls st) := by
  obtain ⟨hd, rfl⟩ := hd
  exact own_pure K (fun X hZ ho _ _ q => X.ldc2J K.1 ho (mvT hZ wc) rfl (hb K.2.1 hd) q) hr
theorem own_ldc2D (K : own_Cx p s m meth c Z own nm bytes maxL ret) {i : Nat} {v : UInt64} (hd : own_D bytes pc (.ldc2_w i) 3 pc') (wc : (Cond.constantDouble own i v).before a0 Z = true) (hr : own_G w p l e R s m args below meth c Z Q h k n (mkF m pc' Ls (.double v :: st))) : own_G w p l e R s m args below meth c Z Q h k n (mkF m pc Ls st) := by
  obtain ⟨hd, rfl⟩ := hd
  exact own_pure K (fun X hZ ho _ _ q => X.ldc2DoubleC K.1 ho (mvT hZ wc) (g := mkF m pc Ls st) rfl (hb K.2.1 hd) _ q) hr
theorem own_i0_eq (x : Int32) : (ifCond.holds .eq x = true) = (x = 0) := by simp [ifCond.holds, Int32.lt_iff_toInt_lt, Int32.le_iff_toInt_le]
theorem own_ii_eq (x y : Int32) : (if_icmp.holds .eq x y = true) = (x = y) := by simp [if_icmp.holds, Int32.lt_iff_toInt_lt, Int32.le_iff_toInt_le]
theorem own_ifeq (K : own_Cx p s m meth c Z own nm bytes maxL ret) {off : Int} {pcF : Nat} {x : Int32} (hd : own_B bytes pc (.ifCond .eq off) off pcF pcT) (hT : (x = 0) → own_G w p l e R s m args below meth c Z Q h k n (mkF m pcT Ls st)) (hF : ¬ (x = 0) → own_G w p l e R s m args below meth c Z Q h k n (mkF m pcF Ls st)) : own_G w p l e R s m args below meth c Z Q h k n (mkF m pc Ls (.int x :: st)) := by
  obtain ⟨hd, rfl, h1, h2⟩ := hd
  by_cases q : ifCond.holds .eq x = true
  · exact own_pure K (fun X _ _ _ _ r => XS.ifYes X.here K.1 rfl rfl (hb K.2.1 hd) rfl q h1 h2 r) (hT ((own_i0_eq x).mp q))
  · exact own_pure K (fun X _ _ _ _ r => XS.ifNo X.here K.1 rfl (hb K.2.1 hd) rfl (Bool.eq_false_iff.mpr q) r) (hF fun z => q ((own_i0_eq x).mpr z))
theorem own_icmpeq (K : own_Cx p s m meth c Z own nm bytes maxL ret) {off : Int} {pcF : Nat} {x y : Int32} (hd : own_B bytes pc (.if_icmp .eq off) off pcF pcT) (hT : (x = y) → own_G w p l e R s m args below meth c Z Q h k n (mkF m pcT Ls st)) (hF : ¬ (x = y) → own_G w p l e R s m args below meth c Z Q h k n (mkF m pcF Ls st)) : own_G w p l e R s m args below meth c Z Q h k n (mkF m pc Ls (.int y :: .int x :: st)) := by
  obtain ⟨hd, rfl, h1, h2⟩ := hd
  by_cases q : if_icmp.holds .eq x y = true
  · exact own_pure K (fun X _ _ _ _ r => XS.icmpYes X.here K.1 rfl rfl (hb K.2.1 hd) rfl q h1 h2 r) (hT ((own_ii_eq x y).mp q))
  · exact own_pure K (fun X _ _ _ _ r => XS.icmpNo X.here K.1 rfl (hb K.2.1 hd) rfl (Bool.eq_false_iff.mpr q) r) (hF fun z => q ((own_ii_eq x y).mpr z))
theorem own_i0_ne (x : Int32) : (ifCond.holds .ne x = true) = (x ≠ 0) := by simp [ifCond.holds, Int32.lt_iff_toInt_lt, Int32.le_iff_toInt_le]
theorem own_ii_ne (x y : Int32) : (if_icmp.holds .ne x y = true) = (x ≠ y) := by simp [if_icmp.holds, Int32.lt_iff_toInt_lt, Int32.le_iff_toInt_le]
theorem own_ifne (K : own_Cx p s m meth c Z own nm bytes maxL ret) {off : Int} {pcF : Nat} {x : Int32} (hd : own_B bytes pc (.ifCond .ne off) off pcF pcT) (hT : (x ≠ 0) → own_G w p l e R s m args below meth c Z Q h k n (mkF m pcT Ls st)) (hF : ¬ (x ≠ 0) → own_G w p l e R s m args below meth c Z Q h k n (mkF m pcF Ls st)) : own_G w p l e R s m args below meth c Z Q h k n (mkF m pc Ls (.int x :: st)) := by
  obtain ⟨hd, rfl, h1, h2⟩ := hd
  by_cases q : ifCond.holds .ne x = true
  · exact own_pure K (fun X _ _ _ _ r => XS.ifYes X.here K.1 rfl rfl (hb K.2.1 hd) rfl q h1 h2 r) (hT ((own_i0_ne x).mp q))
  · exact own_pure K (fun X _ _ _ _ r => XS.ifNo X.here K.1 rfl (hb K.2.1 hd) rfl (Bool.eq_false_iff.mpr q) r) (hF fun z => q ((own_i0_ne x).mpr z))
theorem own_icmpne (K : own_Cx p s m meth c Z own nm bytes maxL ret) {off : Int} {pcF : Nat} {x y : Int32} (hd : own_B bytes pc (.if_icmp .ne off) off pcF pcT) (hT : (x ≠ y) → own_G w p l e R s m args below meth c Z Q h k n (mkF m pcT Ls st)) (hF : ¬ (x ≠ y) → own_G w p l e R s m args below meth c Z Q h k n (mkF m pcF Ls st)) : own_G w p l e R s m args below meth c Z Q h k n (mkF m pc Ls (.int y :: .int x :: st)) := by
  obtain ⟨hd, rfl, h1, h2⟩ := hd
  by_cases q : if_icmp.holds .ne x y = true
  · exact own_pure K (fun X _ _ _ _ r => XS.icmpYes X.here K.1 rfl rfl (hb K.2.1 hd) rfl q h1 h2 r) (hT ((own_ii_ne x y).mp q))
  · exact own_pure K (fun X _ _ _ _ r => XS.icmpNo X.here K.1 rfl (hb K.2.1 hd) rfl (Bool.eq_false_iff.mpr q) r) (hF fun z => q ((own_ii_ne x y).mpr z))
theorem own_i0_lt (x : Int32) : (ifCond.holds .lt x = true) = (x.toInt < 0) := by simp [ifCond.holds, Int32.lt_iff_toInt_lt, Int32.le_iff_toInt_le]
theorem own_ii_lt (x y : Int32) : (if_icmp.holds .lt x y = true) = (x.toInt < y.toInt) := by simp [if_icmp.holds, Int32.lt_iff_toInt_lt, Int32.le_iff_toInt_le]
theorem own_iflt (K : own_Cx p s m meth c Z own nm bytes maxL ret) {off : Int} {pcF : Nat} {x : Int32} (hd : own_B bytes pc (.ifCond .lt off) off pcF pcT) (hT : (x.toInt < 0) → own_G w p l e R s m args below meth c Z Q h k n (mkF m pcT Ls st)) (hF : ¬ (x.toInt < 0) → own_G w p l e R s m args below meth c Z Q h k n (mkF m pcF Ls st)) : own_G w p l e R s m args below meth c Z Q h k n (mkF m pc Ls (.int x :: st)) := by
  obtain ⟨hd, rfl, h1, h2⟩ := hd
  by_cases q : ifCond.holds .lt x = true
  · exact own_pure K (fun X _ _ _ _ r => XS.ifYes X.here K.1 rfl rfl (hb K.2.1 hd) rfl q h1 h2 r) (hT ((own_i0_lt x).mp q))
  · exact own_pure K (fun X _ _ _ _ r => XS.ifNo X.here K.1 rfl (hb K.2.1 hd) rfl (Bool.eq_false_iff.mpr q) r) (hF fun z => q ((own_i0_lt x).mpr z))
theorem own_icmplt (K : own_Cx p s m meth c Z own nm bytes maxL ret) {off : Int} {pcF : Nat} {x y : Int32} (hd : own_B bytes pc (.if_icmp .lt off) off pcF pcT) (hT : (x.toInt < y.toInt) → own_G w p l e R s m args below meth c Z Q h k n (mkF m pcT Ls st)) (hF : ¬ (x.toInt < y.toInt) → own_G w p l e R s m args below meth c Z Q h k n (mkF m pcF Ls st)) : own_G w p l e R s m args below meth c Z Q h k n (mkF m pc Ls (.int y :: .int x :: st)) := by
  obtain ⟨hd, rfl, h1, h2⟩ := hd
  by_cases q : if_icmp.holds .lt x y = true
  · exact own_pure K (fun X _ _ _ _ r => XS.icmpYes X.here K.1 rfl rfl (hb K.2.1 hd) rfl q h1 h2 r) (hT ((own_ii_lt x y).mp q))
  · exact own_pure K (fun X _ _ _ _ r => XS.icmpNo X.here K.1 rfl (hb K.2.1 hd) rfl (Bool.eq_false_iff.mpr q) r) (hF fun z => q ((own_ii_lt x y).mpr z))
theorem own_i0_ge (x : Int32) : (ifCond.holds .ge x = true) = (0 ≤ x.toInt) := by simp [ifCond.holds, Int32.lt_iff_toInt_lt, Int32.le_iff_toInt_le]
theorem own_ii_ge (x y : Int32) : (if_icmp.holds .ge x y = true) = (y.toInt ≤ x.toInt) := by simp [if_icmp.holds, Int32.lt_iff_toInt_lt, Int32.le_iff_toInt_le]
theorem own_ifge (K : own_Cx p s m meth c Z own nm bytes maxL ret) {off : Int} {pcF : Nat} {x : Int32} (hd : own_B bytes pc (.ifCond .ge off) off pcF pcT) (hT : (0 ≤ x.toInt) → own_G w p l e R s m args below meth c Z Q h k n (mkF m pcT Ls st)) (hF : ¬ (0 ≤ x.toInt) → own_G w p l e R s m args below meth c Z Q h k n (mkF m pcF Ls st)) : own_G w p l e R s m args below meth c Z Q h k n (mkF m pc Ls (.int x :: st)) := by
  obtain ⟨hd, rfl, h1, h2⟩ := hd
  by_cases q : ifCond.holds .ge x = true
  · exact own_pure K (fun X _ _ _ _ r => XS.ifYes X.here K.1 rfl rfl (hb K.2.1 hd) rfl q h1 h2 r) (hT ((own_i0_ge x).mp q))
  · exact own_pure K (fun X _ _ _ _ r => XS.ifNo X.here K.1 rfl (hb K.2.1 hd) rfl (Bool.eq_false_iff.mpr q) r) (hF fun z => q ((own_i0_ge x).mpr z))
theorem own_icmpge (K : own_Cx p s m meth c Z own nm bytes maxL ret) {off : Int} {pcF : Nat} {x y : Int32} (hd : own_B bytes pc (.if_icmp .ge off) off pcF pcT) (hT : (y.toInt ≤ x.toInt) → own_G w p l e R s m args below meth c Z Q h k n (mkF m pcT Ls st)) (hF : ¬ (y.toInt ≤ x.toInt) → own_G w p l e R s m args below meth c Z Q h k n (mkF m pcF Ls st)) : own_G w p l e R s m args below meth c Z Q h k n (mkF m pc Ls (.int y :: .int x :: st)) := by
  obtain ⟨hd, rfl, h1, h2⟩ := hd
  by_cases q : if_icmp.holds .ge x y = true
  · exact own_pure K (fun X _ _ _ _ r => XS.icmpYes X.here K.1 rfl rfl (hb K.2.1 hd) rfl q h1 h2 r) (hT ((own_ii_ge x y).mp q))
  · exact own_pure K (fun X _ _ _ _ r => XS.icmpNo X.here K.1 rfl (hb K.2.1 hd) rfl (Bool.eq_false_iff.mpr q) r) (hF fun z => q ((own_ii_ge x y).mpr z))
theorem own_i0_gt (x : Int32) : (ifCond.holds .gt x = true) = (0 < x.toInt) := by simp [ifCond.holds, Int32.lt_iff_toInt_lt, Int32.le_iff_toInt_le]
theorem own_ii_gt (x y : Int32) : (if_icmp.holds .gt x y = true) = (y.toInt < x.toInt) := by simp [if_icmp.holds, Int32.lt_iff_toInt_lt, Int32.le_iff_toInt_le]
theorem own_ifgt (K : own_Cx p s m meth c Z own nm bytes maxL ret) {off : Int} {pcF : Nat} {x : Int32} (hd : own_B bytes pc (.ifCond .gt off) off pcF pcT) (hT : (0 < x.toInt) → own_G w p l e R s m args below meth c Z Q h k n (mkF m pcT Ls st)) (hF : ¬ (0 < x.toInt) → own_G w p l e R s m args below meth c Z Q h k n (mkF m pcF Ls st)) : own_G w p l e R s m args below meth c Z Q h k n (mkF m pc Ls (.int x :: st)) := by
  obtain ⟨hd, rfl, h1, h2⟩ := hd
  by_cases q : ifCond.holds .gt x = true
  · exact own_pure K (fun X _ _ _ _ r => XS.ifYes X.here K.1 rfl rfl (hb K.2.1 hd) rfl q h1 h2 r) (hT ((own_i0_gt x).mp q))
  · exact own_pure K (fun X _ _ _ _ r => XS.ifNo X.here K.1 rfl (hb K.2.1 hd) rfl (Bool.eq_false_iff.mpr q) r) (hF fun z => q ((own_i0_gt x).mpr z))
theorem own_icmpgt (K : own_Cx p s m meth c Z own nm bytes maxL ret) {off : Int} {pcF : Nat} {x y : Int32} (hd : own_B bytes pc (.if_icmp .gt off) off pcF pcT) (hT : (y.toInt < x.toInt) → own_G w p l e R s m args below meth c Z Q h k n (mkF m pcT Ls st)) (hF : ¬ (y.toInt < x.toInt) → own_G w p l e R s m args below meth c Z Q h k n (mkF m pcF Ls st)) : own_G w p l e R s m args below meth c Z Q h k n (mkF m pc Ls (.int y :: .int x :: st)) := by
  obtain ⟨hd, rfl, h1, h2⟩ := hd
  by_cases q : if_icmp.holds .gt x y = true
  · exact own_pure K (fun X _ _ _ _ r => XS.icmpYes X.here K.1 rfl rfl (hb K.2.1 hd) rfl q h1 h2 r) (hT ((own_ii_gt x y).mp q))
  · exact own_pure K (fun X _ _ _ _ r => XS.icmpNo X.here K.1 rfl (hb K.2.1 hd) rfl (Bool.eq_false_iff.mpr q) r) (hF fun z => q ((own_ii_gt x y).mpr z))
theorem own_i0_le (x : Int32) : (ifCond.holds .le x = true) = (x.toInt ≤ 0) := by simp [ifCond.holds, Int32.lt_iff_toInt_lt, Int32.le_iff_toInt_le]
theorem own_ii_le (x y : Int32) : (if_icmp.holds .le x y = true) = (x.toInt ≤ y.toInt) := by simp [if_icmp.holds, Int32.lt_iff_toInt_lt, Int32.le_iff_toInt_le]
theorem own_ifle (K : own_Cx p s m meth c Z own nm bytes maxL ret) {off : Int} {pcF : Nat} {x : Int32} (hd : own_B bytes pc (.ifCond .le off) off pcF pcT) (hT : (x.toInt ≤ 0) → own_G w p l e R s m args below meth c Z Q h k n (mkF m pcT Ls st)) (hF : ¬ (x.toInt ≤ 0) → own_G w p l e R s m args below meth c Z Q h k n (mkF m pcF Ls st)) : own_G w p l e R s m args below meth c Z Q h k n (mkF m pc Ls (.int x :: st)) := by
  obtain ⟨hd, rfl, h1, h2⟩ := hd
  by_cases q : ifCond.holds .le x = true
  · exact own_pure K (fun X _ _ _ _ r => XS.ifYes X.here K.1 rfl rfl (hb K.2.1 hd) rfl q h1 h2 r) (hT ((own_i0_le x).mp q))
  · exact own_pure K (fun X _ _ _ _ r => XS.ifNo X.here K.1 rfl (hb K.2.1 hd) rfl (Bool.eq_false_iff.mpr q) r) (hF fun z => q ((own_i0_le x).mpr z))
theorem own_icmple (K : own_Cx p s m meth c Z own nm bytes maxL ret) {off : Int} {pcF : Nat} {x y : Int32} (hd : own_B bytes pc (.if_icmp .le off) off pcF pcT) (hT : (x.toInt ≤ y.toInt) → own_G w p l e R s m args below meth c Z Q h k n (mkF m pcT Ls st)) (hF : ¬ (x.toInt ≤ y.toInt) → own_G w p l e R s m args below meth c Z Q h k n (mkF m pcF Ls st)) : own_G w p l e R s m args below meth c Z Q h k n (mkF m pc Ls (.int y :: .int x :: st)) := by
  obtain ⟨hd, rfl, h1, h2⟩ := hd
  by_cases q : if_icmp.holds .le x y = true
  · exact own_pure K (fun X _ _ _ _ r => XS.icmpYes X.here K.1 rfl rfl (hb K.2.1 hd) rfl q h1 h2 r) (hT ((own_ii_le x y).mp q))
  · exact own_pure K (fun X _ _ _ _ r => XS.icmpNo X.here K.1 rfl (hb K.2.1 hd) rfl (Bool.eq_false_iff.mpr q) r) (hF fun z => q ((own_ii_le x y).mpr z))
theorem own_ifnullN (K : own_Cx p s m meth c Z own nm bytes maxL ret) {off : Int} {pcF : Nat} (hd : own_B bytes pc (.ifnull off) off pcF pcT) (hr : own_G w p l e R s m args below meth c Z Q h k n (mkF m pcT Ls st)) : own_G w p l e R s m args below meth c Z Q h k n (mkF m pc Ls (.null :: st)) := by
  obtain ⟨hd, rfl, h1, h2⟩ := hd
  exact own_pure K (fun X _ _ _ _ r => XS.ifnullYes X.here K.1 rfl rfl (hb K.2.1 hd) rfl h1 h2 r) hr
theorem own_ifnullR (K : own_Cx p s m meth c Z own nm bytes maxL ret) {off : Int} {pcF : Nat} {b : Addr} (hd : own_B bytes pc (.ifnull off) off pcF pcT) (hr : own_G w p l e R s m args below meth c Z Q h k n (mkF m pcF Ls st)) : own_G w p l e R s m args below meth c Z Q h k n (mkF m pc Ls (.ref b :: st)) := by
  obtain ⟨hd, rfl, h1, h2⟩ := hd
  exact own_pure K (fun X _ _ _ _ r => XS.ifnullNo X.here K.1 rfl (hb K.2.1 hd) rfl r) hr
theorem own_ifnonnullN (K : own_Cx p s m meth c Z own nm bytes maxL ret) {off : Int} {pcF : Nat} (hd : own_B bytes pc (.ifnonnull off) off pcF pcT) (hr : own_G w p l e R s m args below meth c Z Q h k n (mkF m pcF Ls st)) : own_G w p l e R s m args below meth c Z Q h k n (mkF m pc Ls (.null :: st)) := by
  obtain ⟨hd, rfl, h1, h2⟩ := hd
  exact own_pure K (fun X _ _ _ _ r => XT.ifnonnullNo X.here K.1 rfl (hb K.2.1 hd) rfl r) hr
theorem own_ifnonnullR (K : own_Cx p s m meth c Z own nm bytes maxL ret) {off : Int} {pcF : Nat} {b : Addr} (hd : own_B bytes pc (.ifnonnull off) off pcF pcT) (hr : own_G w p l e R s m args below meth c Z Q h k n (mkF m pcT Ls st)) : own_G w p l e R s m args below meth c Z Q h k n (mkF m pc Ls (.ref b :: st)) := by
  obtain ⟨hd, rfl, h1, h2⟩ := hd
  exact own_pure K (fun X _ _ _ _ r => XT.ifnonnullYes X.here K.1 rfl rfl (hb K.2.1 hd) rfl h1 h2 r) hr
theorem own_acmpeq (K : own_Cx p s m meth c Z own nm bytes maxL ret) {off : Int} {pcF : Nat} {x y : Value} (hd : own_B bytes pc (.if_acmp .eq off) off pcF pcT) (h1' : x.isRef = true) (h2' : y.isRef = true) (hT : (x = y) → own_G w p l e R s m args below meth c Z Q h k n (mkF m pcT Ls st)) (hF : ¬ (x = y) → own_G w p l e R s m args below meth c Z Q h k n (mkF m pcF Ls st)) : own_G w p l e R s m args below meth c Z Q h k n (mkF m pc Ls (y :: x :: st)) := by
  obtain ⟨hd, rfl, h1, h2⟩ := hd
  by_cases q : x = y
  · exact own_pure K (fun X _ _ _ _ r => XT.acmpYes X.here K.1 rfl rfl (hb K.2.1 hd) rfl h1' h2' (decide_eq_true q) h1 h2 r) (hT q)
  · exact own_pure K (fun X _ _ _ _ r => XT.acmpNo X.here K.1 rfl (hb K.2.1 hd) rfl h1' h2' (decide_eq_false q) r) (hF q)
theorem own_acmpne (K : own_Cx p s m meth c Z own nm bytes maxL ret) {off : Int} {pcF : Nat} {x y : Value} (hd : own_B bytes pc (.if_acmp .ne off) off pcF pcT) (h1' : x.isRef = true) (h2' : y.isRef = true) (hT : (x ≠ y) → own_G w p l e R s m args below meth c Z Q h k n (mkF m pcT Ls st)) (hF : ¬ (x ≠ y) → own_G w p l e R s m args below meth c Z Q h k n (mkF m pcF Ls st)) : own_G w p l e R s m args below meth c Z Q h k n (mkF m pc Ls (y :: x :: st)) := by
  obtain ⟨hd, rfl, h1, h2⟩ := hd
  by_cases q : x ≠ y
  · exact own_pure K (fun X _ _ _ _ r => XT.acmpYes X.here K.1 rfl rfl (hb K.2.1 hd) rfl h1' h2' (decide_eq_true q) h1 h2 r) (hT q)
  · exact own_pure K (fun X _ _ _ _ r => XT.acmpNo X.here K.1 rfl (hb K.2.1 hd) rfl h1' h2' (decide_eq_false q) r) (hF q)
theorem own_getfield (K : own_Cx p s m meth c Z own nm bytes maxL ret) {i j q : Nat} {R0 O f d host C : String} {v : Value} {a : Addr} {fs : List (String × String × String × Value)} (hd : own_D bytes pc (.getfield i) 3 pc') (wl : (Cond.fieldLink own i R0 f d).before a0 Z = true ∨ (Cond.fieldLinkNest own i R0 f d host).before a0 Z = true) (via : Via Z R0 O f d) (H : own_H Z h os as) (ho : os[j]? = some (a, C, fs)) (hf : fs[q]? = some (O, f, d, v)) (hr : own_G w p l e R s m args below meth c Z Q h k n (mkF m pc' Ls (v :: st))) : own_G w p l e R s m args below meth c Z Q h k n (mkF m pc Ls (.ref a :: st)) := by
  obtain ⟨hd, rfl⟩ := hd
  refine own_step K (P := fun h' => h' = h) (fun X hZ hw eT N => ?_) (fun h' e => by subst e; exact hr)
  obtain ⟨T', X', e', st⟩ := getF X K.1 hZ hw wl via eT (H.fld ho hf) (g := mkF m pc Ls (.ref a :: st)) rfl rfl (hb K.2.1 hd)
  exact ⟨T', _, _, X', N, e', Nat.le_refl _, rfl, st⟩
theorem own_putfield (K : own_Cx p s m meth c Z own nm bytes maxL ret) {i j q kk : Nat} {R0 O f d host C : String} {v v0 : Value} {a : Addr} {fs : List (String × String × String × Value)} {ty : FieldType} (hd : own_D bytes pc (.putfield i) 3 pc') (wl : (Cond.fieldLink own i R0 f d).before a0 Z = true ∨ (Cond.fieldLinkNest own i R0 f d host).before a0 Z = true) (via : Via Z R0 O f d) (H : own_H Z h os as) (ho : os[j]? = some (a, C, fs)) (hf : fs[q]? = some (O, f, d, v0))
    (L : (Cond.lays C O f d).before a0 Z = true ∨ ((Cond.laysFinal C O f d).before a0 Z = true ∧ own = O ∧ nm = "<init>")) (wi : (Cond.instantiable C kk).before a0 Z = true) (hty : parseFieldDescriptor d = some ty) (hn : narrow ty v = v) (hfit : fits ty v = true) (hr : ∀ h', own_H Z h' (os.set j (a, C, fs.set q (O, f, d, v))) as → own_G w p l e R s m args below meth c Z Q h' k n (mkF m pc' Ls st)) : own_G w p l e R s m args below meth c Z Q h k n (mkF m pc Ls (v :: .ref a :: st)) := by
  obtain ⟨hd, rfl⟩ := hd
  refine own_step K (P := fun h' => own_H Z h' (os.set j (a, C, fs.set q (O, f, d, v))) as) (fun X hZ hw eT N => ?_) hr
  obtain ⟨T', h', X', e', W, st⟩ := putF X K.1 hZ hw wl via eT (H.fld ho hf) (H.atO ho) (L.imp id (fun z => ⟨z.1, z.2.1, K.2.2.2.2.2.2.2.trans z.2.2⟩)) wi hty hn hfit (g := mkF m pc Ls (v :: .ref a :: st)) rfl rfl (hb K.2.1 hd)
  exact ⟨T', h', _, X', Fr.snoc X' N (H.newO ho), e', Nat.le_of_eq (Wr.size W).symm, H.wrO ho hf W, st⟩
theorem own_new (K : own_Cx p s m meth c Z own nm bytes maxL ret) {i kk : Nat} {C : String} {fs : List (String × String × String × Value)} (hd : own_D bytes pc (.new i) 3 pc') (w1 : (Cond.classLink own i C).before a0 Z = true) (w2 : (Cond.instantiable C kk).before a0 Z = true) (w3 : (Cond.initialized C).before a0 Z = true) (H : own_H Z h os as)
    (hF : ∀ f ∈ fs, Laid Z a0 C f.1 f.2.1 f.2.2.1 ∧ ∃ ty, parseFieldDescriptor f.2.2.1 = some ty ∧ f.2.2.2 = defaultValue ty) (hP : fs.Pairwise (fun f g => slotOf Z f.1 f.2.1 f.2.2.1 ≠ slotOf Z g.1 g.2.1 g.2.2.1)) (hc : k + 1 ≤ R.cells) (hl : n + kk ≤ R.slots)
    (hr : ∀ h' a, own_H Z h' ((a, C, fs) :: os) as → own_G w p l e R s m args below meth c Z Q h' (k + 1) (n + kk) (mkF m pc' Ls (.ref a :: st))) : own_G w p l e R s m args below meth c Z Q h k n (mkF m pc Ls st) := by
  obtain ⟨hd, rfl⟩ := hd
  refine own_step K (P := fun h' => own_H Z h' ((h.size, C, fs) :: os) as) (fun X hZ hw eT N => ?_) (fun h' H' => hr h' _ H')
  obtain ⟨T', h', X', e', E, A, D, -, st⟩ := newO X K.1 hZ hw w1 w2 w3 eT (g := mkF m pc Ls st) rfl (hb K.2.1 hd) hc hl
  exact ⟨T', h', _, X', N, e', E.1, H.addO E ⟨A, fun f hf => by obtain ⟨hL, ty, t1, t2⟩ := hF f hf; show Fld Z h' h.size f.1 f.2.1 f.2.2.1 f.2.2.2; rw [t2]; exact D hL t1, hP⟩, st⟩
theorem own_newarray (K : own_Cx p s m meth c Z own nm bytes maxL ret) {aty : ArrayType} {ty : FieldType} {N : Int32} {q : Nat} {ad : String} {vs : List Value} (hd : own_D bytes pc (.newarray aty) 2 pc') (hty : newarray.typeOf aty = ty) (w1 : (Cond.arrayClass ty).before a0 Z = true) (H : own_H Z h os as) (hN : N.toInt = (q : Int)) (had : "[" ++ ty.toString = ad) (hvs : vs = List.replicate q (defaultValue ty)) (hq : q * 8 ≤ 536870912) (hc : k + 1 ≤ R.cells) (hl : n + q ≤ R.slots)
    (hr : ∀ h' a, own_H Z h' os ((a, ty, ad, vs) :: as) → own_G w p l e R s m args below meth c Z Q h' (k + 1) (n + q) (mkF m pc' Ls (.ref a :: st))) : own_G w p l e R s m args below meth c Z Q h k n (mkF m pc Ls (.int N :: st)) := by
  obtain ⟨hd, rfl⟩ := hd
  subst hty
  refine own_step K (P := fun h' => own_H Z h' os ((h.size, newarray.typeOf aty, ad, vs) :: as)) (fun X hZ hw eT N => ?_) (fun h' H' => hr h' _ H')
  have hNq := own_idx hN
  obtain ⟨T', h', cA, X', e', E, A, Ex, st⟩ := newPE X K.1 hZ w1 eT (g := mkF m pc Ls (.int _ :: st)) rfl (hb K.2.1 hd) rfl (by rw [Int32.lt_iff_toInt_lt, hN, show (0 : Int32).toInt = 0 from rfl]; omega) (cap := q) (Nat.le_of_eq hNq) hq hc hl had
  refine ⟨T', h', _, X', N, e', E.1, H.addA E ⟨_, A, ?_, ?_, fun _ => Ex, fun C hC => ?_⟩, st⟩
  · show (newA cA (newarray.typeOf aty) _).slots.toList = vs
    simp [newA, hNq, hvs]
  · intro v hv
    rw [show v = defaultValue (newarray.typeOf aty) from List.eq_of_mem_replicate (hvs ▸ hv)]
    cases aty <;> rfl
  · cases aty <;> cases hC
theorem own_iaload (K : own_Cx p s m meth c Z own nm bytes maxL ret) {i q : Nat} {a : Addr} {ad : String} {vs : List Value} {v : Value} {j : Int32} (hd : own_D bytes pc .iaload 1 pc') (H : own_H Z h os as) (ha : as[i]? = some (a, .int, ad, vs)) (hj : j.toInt = (q : Int)) (hv : vs[q]? = some v) (hr : own_G w p l e R s m args below meth c Z Q h k n (mkF m pc' Ls (v :: st))) : own_G w p l e R s m args below meth c Z Q h k n (mkF m pc Ls (.int j :: .ref a :: st)) := by
  obtain ⟨hd, rfl⟩ := hd
  obtain ⟨-, cl, A, e1, -⟩ := H.2.2.1 _ (own_mem ha)
  have hq := (List.getElem?_eq_some_iff.mp hv).1
  have hsz : cl.slots.size = vs.length := by rw [← Array.length_toList]; exact congrArg List.length e1
  exact own_pure K (fun X hZ _ eT _ r => X.iaload K.1 (by rw [eT]; exact A.1) (State.isArrayOf_alike hZ.alike A.2.1) A.2.2 (by rw [hsz]; exact own_in hj hq) (by rw [own_idx hj, ← Array.getElem?_toList]; exact (show cl.slots.toList = vs from e1) ▸ hv) (g := mkF m pc Ls (.int j :: .ref a :: st)) rfl rfl (hb K.2.1 hd) _ r) hr
theorem own_laload (K : own_Cx p s m meth c Z own nm bytes maxL ret) {i q : Nat} {a : Addr} {ad : String} {vs : List Value} {v : Value} {j : Int32} (hd : own_D bytes pc .laload 1 pc') (H : own_H Z h os as) (ha : as[i]? = some (a, .long, ad, vs)) (hj : j.toInt = (q : Int)) (hv : vs[q]? = some v) (hr : own_G w p l e R s m args below meth c Z Q h k n (mkF m pc' Ls (v :: st))) : own_G w p l e R s m args below meth c Z Q h k n (mkF m pc Ls (.int j :: .ref a :: st)) := by
  obtain ⟨hd, rfl⟩ := hd
  obtain ⟨-, cl, A, e1, -⟩ := H.2.2.1 _ (own_mem ha)
  have hq := (List.getElem?_eq_some_iff.mp hv).1
  have hsz : cl.slots.size = vs.length := by rw [← Array.length_toList]; exact congrArg List.length e1
  exact own_pure K (fun X hZ _ eT _ r => X.laload K.1 (by rw [eT]; exact A.1) (State.isArrayOf_alike hZ.alike A.2.1) A.2.2 (by rw [hsz]; exact own_in hj hq) (by rw [own_idx hj, ← Array.getElem?_toList]; exact (show cl.slots.toList = vs from e1) ▸ hv) (g := mkF m pc Ls (.int j :: .ref a :: st)) rfl rfl (hb K.2.1 hd) _ r) hr
theorem own_daload (K : own_Cx p s m meth c Z own nm bytes maxL ret) {i q : Nat} {a : Addr} {ad : String} {vs : List Value} {v : Value} {j : Int32} (hd : own_D bytes pc .daload 1 pc') (H : own_H Z h os as) (ha : as[i]? = some (a, .double, ad, vs)) (hj : j.toInt = (q : Int)) (hv : vs[q]? = some v) (hr : own_G w p l e R s m args below meth c Z Q h k n (mkF m pc' Ls (v :: st))) : own_G w p l e R s m args below meth c Z Q h k n (mkF m pc Ls (.int j :: .ref a :: st)) := by
  obtain ⟨hd, rfl⟩ := hd
  obtain ⟨-, cl, A, e1, -⟩ := H.2.2.1 _ (own_mem ha)
  have hq := (List.getElem?_eq_some_iff.mp hv).1
  have hsz : cl.slots.size = vs.length := by rw [← Array.length_toList]; exact congrArg List.length e1
  exact own_pure K (fun X hZ _ eT _ r => X.daload K.1 (by rw [eT]; exact A.1) (State.isArrayOf_alike hZ.alike A.2.1) A.2.2 (by rw [hsz]; exact own_in hj hq) (by rw [own_idx hj, ← Array.getElem?_toList]; exact (show cl.slots.toList = vs from e1) ▸ hv) (g := mkF m pc Ls (.int j :: .ref a :: st)) rfl rfl (hb K.2.1 hd) _ r) hr
theorem own_caload (K : own_Cx p s m meth c Z own nm bytes maxL ret) {i q : Nat} {a : Addr} {ad : String} {vs : List Value} {v : Value} {j : Int32} (hd : own_D bytes pc .caload 1 pc') (H : own_H Z h os as) (ha : as[i]? = some (a, .char, ad, vs)) (hj : j.toInt = (q : Int)) (hv : vs[q]? = some v) (hr : own_G w p l e R s m args below meth c Z Q h k n (mkF m pc' Ls (v :: st))) : own_G w p l e R s m args below meth c Z Q h k n (mkF m pc Ls (.int j :: .ref a :: st)) := by
  obtain ⟨hd, rfl⟩ := hd
  obtain ⟨-, cl, A, e1, -⟩ := H.2.2.1 _ (own_mem ha)
  have hq := (List.getElem?_eq_some_iff.mp hv).1
  have hsz : cl.slots.size = vs.length := by rw [← Array.length_toList]; exact congrArg List.length e1
  exact own_pure K (fun X hZ _ eT _ r => X.caload K.1 (by rw [eT]; exact A.1) (State.isArrayOf_alike hZ.alike A.2.1) A.2.2 (by rw [hsz]; exact own_in hj hq) (by rw [own_idx hj, ← Array.getElem?_toList]; exact (show cl.slots.toList = vs from e1) ▸ hv) (g := mkF m pc Ls (.int j :: .ref a :: st)) rfl rfl (hb K.2.1 hd) _ r) hr
theorem own_baload (K : own_Cx p s m meth c Z own nm bytes maxL ret) {i q : Nat} {a : Addr} {ad : String} {vs : List Value} {v : Value} {j : Int32} (hd : own_D bytes pc .baload 1 pc') (H : own_H Z h os as) (ha : as[i]? = some (a, .byte, ad, vs)) (hj : j.toInt = (q : Int)) (hv : vs[q]? = some v) (hr : own_G w p l e R s m args below meth c Z Q h k n (mkF m pc' Ls (v :: st))) : own_G w p l e R s m args below meth c Z Q h k n (mkF m pc Ls (.int j :: .ref a :: st)) := by
  obtain ⟨hd, rfl⟩ := hd
  obtain ⟨-, cl, A, e1, -⟩ := H.2.2.1 _ (own_mem ha)
  have hq := (List.getElem?_eq_some_iff.mp hv).1
  have hsz : cl.slots.size = vs.length := by rw [← Array.length_toList]; exact congrArg List.length e1
  exact own_pure K (fun X hZ _ eT _ r => X.baloadBytes K.1 (by rw [eT]; exact A.1) (State.isArrayOf_alike hZ.alike A.2.1) A.2.2 (by rw [hsz]; exact own_in hj hq) (by rw [own_idx hj, ← Array.getElem?_toList]; exact (show cl.slots.toList = vs from e1) ▸ hv) (g := mkF m pc Ls (.int j :: .ref a :: st)) rfl rfl (hb K.2.1 hd) _ r) hr
theorem own_aaload (K : own_Cx p s m meth c Z own nm bytes maxL ret) {i q : Nat} {a : Addr} {ad : String} {ty : FieldType} {vs : List Value} {v : Value} {j : Int32} (hd : own_D bytes pc .aaload 1 pc') (H : own_H Z h os as) (ha : as[i]? = some (a, ty, ad, vs)) (hty : ty.isReference = true) (hj : j.toInt = (q : Int)) (hv : vs[q]? = some v) (hr : own_G w p l e R s m args below meth c Z Q h k n (mkF m pc' Ls (v :: st))) : own_G w p l e R s m args below meth c Z Q h k n (mkF m pc Ls (.int j :: .ref a :: st)) := by
  obtain ⟨hd, rfl⟩ := hd
  obtain ⟨-, cl, A, e1, -⟩ := H.2.2.1 _ (own_mem ha)
  have hq := (List.getElem?_eq_some_iff.mp hv).1
  have hsz : cl.slots.size = vs.length := by rw [← Array.length_toList]; exact congrArg List.length e1
  exact own_pure K (fun X hZ _ eT _ r => X.aaload K.1 (by rw [eT]; exact A.1) (State.isArrayOf_alike hZ.alike A.2.1) hty A.2.2 (by rw [hsz]; exact own_in hj hq) (by rw [own_idx hj, ← Array.getElem?_toList]; exact (show cl.slots.toList = vs from e1) ▸ hv) (g := mkF m pc Ls (.int j :: .ref a :: st)) rfl rfl (hb K.2.1 hd) _ r) hr
theorem own_iastore (K : own_Cx p s m meth c Z own nm bytes maxL ret) {i q : Nat} {a : Addr} {ad : String} {vs : List Value} {j : Int32} {x : Int32} (hd : own_D bytes pc .iastore 1 pc') (H : own_H Z h os as) (ha : as[i]? = some (a, .int, ad, vs)) (hj : j.toInt = (q : Int)) (hq : q < vs.length) (hr : ∀ h', own_H Z h' os (as.set i (a, .int, ad, vs.set q (.int x))) → own_G w p l e R s m args below meth c Z Q h' k n (mkF m pc' Ls st)) : own_G w p l e R s m args below meth c Z Q h k n (mkF m pc Ls (.int x :: .int j :: .ref a :: st)) := by
  obtain ⟨hd, rfl⟩ := hd
  obtain ⟨na, cl, A, e1, -⟩ := H.2.2.1 _ (own_mem ha)
  have hsz : cl.slots.size = vs.length := by rw [← Array.length_toList]; exact congrArg List.length e1
  refine own_step K (P := fun h' => own_H Z h' os (as.set i (a, .int, ad, vs.set q (.int x)))) (fun X hZ _ eT N => ?_) hr
  obtain ⟨T', h', X', e', W, st⟩ := stI X K.1 hZ eT A (by rw [hsz]; exact own_in hj hq) (g := mkF m pc Ls (.int x :: .int j :: .ref a :: st)) rfl rfl (hb K.2.1 hd)
  exact ⟨T', h', _, X', Fr.snoc X' N na, e', Nat.le_of_eq (Wr.size W).symm, H.wrA ha hq (rfl) (by rw [own_idx hj] at W; exact W), st⟩
theorem own_lastore (K : own_Cx p s m meth c Z own nm bytes maxL ret) {i q : Nat} {a : Addr} {ad : String} {vs : List Value} {j : Int32} {x : Int64} (hd : own_D bytes pc .lastore 1 pc') (H : own_H Z h os as) (ha : as[i]? = some (a, .long, ad, vs)) (hj : j.toInt = (q : Int)) (hq : q < vs.length) (hr : ∀ h', own_H Z h' os (as.set i (a, .long, ad, vs.set q (.long x))) → own_G w p l e R s m args below meth c Z Q h' k n (mkF m pc' Ls st)) : own_G w p l e R s m args below meth c Z Q h k n (mkF m pc Ls (.long x :: .int j :: .ref a :: st)) := by
  obtain ⟨hd, rfl⟩ := hd
  obtain ⟨na, cl, A, e1, -⟩ := H.2.2.1 _ (own_mem ha)
  have hsz : cl.slots.size = vs.length := by rw [← Array.length_toList]; exact congrArg List.length e1
  refine own_step K (P := fun h' => own_H Z h' os (as.set i (a, .long, ad, vs.set q (.long x)))) (fun X hZ _ eT N => ?_) hr
  obtain ⟨T', h', X', e', W, st⟩ := stJ X K.1 hZ eT A (by rw [hsz]; exact own_in hj hq) (g := mkF m pc Ls (.long x :: .int j :: .ref a :: st)) rfl rfl (hb K.2.1 hd)
  exact ⟨T', h', _, X', Fr.snoc X' N na, e', Nat.le_of_eq (Wr.size W).symm, H.wrA ha hq (rfl) (by rw [own_idx hj] at W; exact W), st⟩
theorem own_dastore (K : own_Cx p s m meth c Z own nm bytes maxL ret) {i q : Nat} {a : Addr} {ad : String} {vs : List Value} {j : Int32} {x : UInt64} (hd : own_D bytes pc .dastore 1 pc') (H : own_H Z h os as) (ha : as[i]? = some (a, .double, ad, vs)) (hj : j.toInt = (q : Int)) (hq : q < vs.length) (hr : ∀ h', own_H Z h' os (as.set i (a, .double, ad, vs.set q (.double x))) → own_G w p l e R s m args below meth c Z Q h' k n (mkF m pc' Ls st)) : own_G w p l e R s m args below meth c Z Q h k n (mkF m pc Ls (.double x :: .int j :: .ref a :: st)) := by
  obtain ⟨hd, rfl⟩ := hd
  obtain ⟨na, cl, A, e1, -⟩ := H.2.2.1 _ (own_mem ha)
  have hsz : cl.slots.size = vs.length := by rw [← Array.length_toList]; exact congrArg List.length e1
  refine own_step K (P := fun h' => own_H Z h' os (as.set i (a, .double, ad, vs.set q (.double x)))) (fun X hZ _ eT N => ?_) hr
  obtain ⟨T', h', X', e', W, st⟩ := stD X K.1 hZ eT A (by rw [hsz]; exact own_in hj hq) (g := mkF m pc Ls (.double x :: .int j :: .ref a :: st)) rfl rfl (hb K.2.1 hd)
  exact ⟨T', h', _, X', Fr.snoc X' N na, e', Nat.le_of_eq (Wr.size W).symm, H.wrA ha hq (rfl) (by rw [own_idx hj] at W; exact W), st⟩
theorem own_castore (K : own_Cx p s m meth c Z own nm bytes maxL ret) {i q : Nat} {a : Addr} {ad : String} {vs : List Value} {j : Int32} {x : Int32} (hd : own_D bytes pc .castore 1 pc') (H : own_H Z h os as) (ha : as[i]? = some (a, .char, ad, vs)) (hj : j.toInt = (q : Int)) (hq : q < vs.length) (hr : ∀ h', own_H Z h' os (as.set i (a, .char, ad, vs.set q (.int (nar .char x)))) → own_G w p l e R s m args below meth c Z Q h' k n (mkF m pc' Ls st)) : own_G w p l e R s m args below meth c Z Q h k n (mkF m pc Ls (.int x :: .int j :: .ref a :: st)) := by
  obtain ⟨hd, rfl⟩ := hd
  obtain ⟨na, cl, A, e1, -⟩ := H.2.2.1 _ (own_mem ha)
  have hsz : cl.slots.size = vs.length := by rw [← Array.length_toList]; exact congrArg List.length e1
  refine own_step K (P := fun h' => own_H Z h' os (as.set i (a, .char, ad, vs.set q (.int (nar .char x))))) (fun X hZ _ eT N => ?_) hr
  obtain ⟨T', h', X', e', W, st⟩ := stC X K.1 hZ eT A (by rw [hsz]; exact own_in hj hq) (g := mkF m pc Ls (.int x :: .int j :: .ref a :: st)) rfl rfl (hb K.2.1 hd)
  exact ⟨T', h', _, X', Fr.snoc X' N na, e', Nat.le_of_eq (Wr.size W).symm, H.wrA ha hq (by first | exact fits_nar_char _ | exact fits_nar_char | (simp [fits_nar_char]; done)) (by rw [own_idx hj] at W; exact W), st⟩
theorem own_bastore (K : own_Cx p s m meth c Z own nm bytes maxL ret) {i q : Nat} {a : Addr} {ad : String} {vs : List Value} {j : Int32} {x : Int32} (hd : own_D bytes pc .bastore 1 pc') (H : own_H Z h os as) (ha : as[i]? = some (a, .byte, ad, vs)) (hj : j.toInt = (q : Int)) (hq : q < vs.length) (hr : ∀ h', own_H Z h' os (as.set i (a, .byte, ad, vs.set q (.int (nar .byte x)))) → own_G w p l e R s m args below meth c Z Q h' k n (mkF m pc' Ls st)) : own_G w p l e R s m args below meth c Z Q h k n (mkF m pc Ls (.int x :: .int j :: .ref a :: st)) := by
  obtain ⟨hd, rfl⟩ := hd
  obtain ⟨na, cl, A, e1, -⟩ := H.2.2.1 _ (own_mem ha)
  have hsz : cl.slots.size = vs.length := by rw [← Array.length_toList]; exact congrArg List.length e1
  refine own_step K (P := fun h' => own_H Z h' os (as.set i (a, .byte, ad, vs.set q (.int (nar .byte x))))) (fun X hZ _ eT N => ?_) hr
  obtain ⟨T', h', X', e', W, st⟩ := stB X K.1 hZ eT A (by rw [hsz]; exact own_in hj hq) (g := mkF m pc Ls (.int x :: .int j :: .ref a :: st)) rfl rfl (hb K.2.1 hd)
  exact ⟨T', h', _, X', Fr.snoc X' N na, e', Nat.le_of_eq (Wr.size W).symm, H.wrA ha hq (by first | exact fits_nar_byte _ | exact fits_nar_byte | (simp [fits_nar_byte]; done)) (by rw [own_idx hj] at W; exact W), st⟩
theorem own_arraylength (K : own_Cx p s m meth c Z own nm bytes maxL ret) {i : Nat} {a : Addr} {ad : String} {ty : FieldType} {vs : List Value} {N : Int32} (hd : own_D bytes pc .arraylength 1 pc') (H : own_H Z h os as) (ha : as[i]? = some (a, ty, ad, vs)) (hN : N.toInt = (vs.length : Int)) (hr : own_G w p l e R s m args below meth c Z Q h k n (mkF m pc' Ls (.int N :: st))) : own_G w p l e R s m args below meth c Z Q h k n (mkF m pc Ls (.ref a :: st)) := by
  obtain ⟨hd, rfl⟩ := hd
  obtain ⟨-, cl, A, e1, -⟩ := H.2.2.1 _ (own_mem ha)
  have hsz : cl.slots.size = vs.length := by rw [← Array.length_toList]; exact congrArg List.length e1
  have e2 : cl.slots.size.toInt32 = N := by rw [hsz]; exact own_len hN
  exact own_pure K (fun X hZ _ eT _ r => X.arraylength K.1 (by rw [eT]; exact A.1) (State.isArrayOf_alike hZ.alike A.2.1) (g := mkF m pc Ls (.ref a :: st)) rfl rfl (hb K.2.1 hd) _ (by rw [e2]; exact r)) hr
theorem own_checkcast (K : own_Cx p s m meth c Z own nm bytes maxL ret) {i : Nat} {a : Addr} {Kn : String} (hd : own_D bytes pc (.checkcast i) 3 pc') (w1 : (Cond.classLink own i Kn).before a0 Z = true) (I : Ins Z h a Kn true) (hr : own_G w p l e R s m args below meth c Z Q h k n (mkF m pc' Ls (.ref a :: st))) : own_G w p l e R s m args below meth c Z Q h k n (mkF m pc Ls (.ref a :: st)) := by
  obtain ⟨hd, rfl⟩ := hd
  refine own_step K (P := fun h' => h' = h) (fun X hZ hw eT N => ?_) (fun h' e => by subst e; exact hr)
  obtain ⟨T', X', e', st⟩ := castY X K.1 hZ hw w1 eT I (g := mkF m pc Ls (.ref a :: st)) rfl rfl (hb K.2.1 hd)
  exact ⟨T', _, _, X', N, e', Nat.le_refl _, rfl, st⟩
theorem own_H.exaA (H : own_H Z h os as) {i : Nat} {a : Addr} {ty : FieldType} {ad : String} {vs : List Value} (ha : as[i]? = some (a, ty, ad, vs)) (hn : ad ≠ "") : Exa Z h a ad := by
  obtain ⟨-, cl, -, -, -, h4, -⟩ := H.2.2.1 _ (own_mem ha); exact h4 hn
theorem own_clone (K : own_Cx p s m meth c Z own nm bytes maxL ret) {i j : Nat} {a : Addr} {ty : FieldType} {ad : String} {vs : List Value} (hd : own_D bytes pc (.invokevirtual i) 3 pc') (w1 : (Cond.methodLink own i ⟨ad, "clone", "()Ljava/lang/Object;"⟩).before a0 Z = true) (w2 : (Cond.sameMethod ad "java/lang/Object" "clone" "()Ljava/lang/Object;").before a0 Z = true) (w3 : (Cond.native ⟨"java/lang/Object", "clone", "()Ljava/lang/Object;"⟩).before a0 Z = true)
    (w4 : (Cond.instanceMethod ⟨"java/lang/Object", "clone", "()Ljava/lang/Object;"⟩).before a0 Z = true) (w5 : (Cond.selects ad ⟨ad, "clone", "()Ljava/lang/Object;"⟩ ⟨"java/lang/Object", "clone", "()Ljava/lang/Object;"⟩).before a0 Z = true) (w6 : (Cond.castable ad "java/lang/Cloneable").before a0 Z = true)
    (H : own_H Z h os as) (ha : as[j]? = some (a, ty, ad, vs)) (hn : ad ≠ "") (hsz : Ls.size = maxL) (hf : 1 ≤ R.frames) {W : Nat} (hW : (st.map fun v => v.category).sum ≤ W) (hl : W + 14 ≤ R.locals) (hc : k + 1 ≤ R.cells) (hsl : n + vs.length ≤ R.slots)
    (hr : ∀ h' b, own_H Z h' os ((b, ty, ad, vs) :: as) → own_G w p l e R s m args below meth c Z Q h' (k + 1) (n + vs.length) (mkF m pc' Ls (.ref b :: st))) : own_G w p l e R s m args below meth c Z Q h k n (mkF m pc Ls (.ref a :: st)) := by
  obtain ⟨hd, rfl⟩ := hd
  obtain ⟨-, cl, A, e1, e3, e4, e5⟩ := H.2.2.1 _ (own_mem ha)
  have hsz' : cl.slots.size = vs.length := by rw [← Array.length_toList]; exact congrArg List.length e1
  have F : FitC Z cl := fun i v hv => by
    obtain ⟨hs, k, hk, comp, hkind⟩ := A.2.1
    have hm : v ∈ vs := by
      have : cl.slots.toList[i]? = some v := by rw [Array.getElem?_toList]; exact hv
      exact (show cl.slots.toList = vs from e1) ▸ own_mem this
    simp [State.fitsSlot, State.slotType?, hk, hkind, show fits ty v = true from e3 v hm]
  refine own_step K (P := fun h' => own_H Z h' os ((h.size, ty, ad, vs) :: as)) (fun X hZ hw eT N => ?_) (fun h' H' => hr h' _ H')
  obtain ⟨T', h', X', e', E, A', Ex, st⟩ := cloneA X K.1 hZ hw w1 w2 w3 w4 w5 w6 eT A (e4 hn) F (g := mkF m pc Ls (.ref a :: st)) rfl (hsz.trans K.2.2.1.symm) rfl (hb K.2.1 hd) hf (W := W) (by show 2 * 0 + _ ≤ W; simpa using hW) hl (cap := vs.length) (Nat.le_of_eq hsz') hc hsl
  exact ⟨T', h', _, X', N, e', E.1, H.addA E ⟨_, A', e1, e3, fun _ => Ex, e5⟩, st⟩
theorem own_initO (K : own_Cx p s m meth c Z own nm bytes maxL ret) {i : Nat} {a : Addr} (hd : own_D bytes pc (.invokespecial i) 3 pc') (w1 : (Cond.methodLink own i Lib.objectInit).before a0 Z = true) (w2 : (Cond.instanceMethod Lib.objectInit).before a0 Z = true) (w3 : (Cond.code Lib.objectInit ⟨#[0xb1]⟩ 1 none).before a0 Z = true) (hsz : Ls.size = maxL) (hf : 1 ≤ R.frames) {W : Nat} (hW : (st.map fun v => v.category).sum ≤ W) (hl : W + 12 ≤ R.locals) (hr : own_G w p l e R s m args below meth c Z Q h k n (mkF m pc' Ls st)) : own_G w p l e R s m args below meth c Z Q h k n (mkF m pc Ls (.ref a :: st)) := by
  obtain ⟨hd, rfl⟩ := hd
  refine own_step K (P := fun h' => h' = h) (fun X hZ hw eT N => ?_) (fun h' e => by subst e; exact hr)
  obtain ⟨T', X', e', st⟩ := initO X K.1 hZ hw w1 w2 w3 eT (g := mkF m pc Ls (.ref a :: st)) rfl (hsz.trans K.2.2.1.symm) rfl (hb K.2.1 hd) hf (W := W) (by show 2 * 0 + _ ≤ W; simpa using hW) hl
  exact ⟨T', _, _, X', N, e', Nat.le_refl _, rfl, st⟩
theorem own_static (K : own_Cx p s m meth c Z own nm bytes maxL ret) {i ml W : Nat} {y : MethodName} {b : ByteArray} {rt : Option FieldType} {rm : Room} {argsL : List Value} {Qc : Option Value → Heap → Prop} {ps : List FieldType} {r : Option FieldType} (hd : own_D bytes pc (.invokestatic i) 3 pc') (w1 : (Cond.methodLink own i y).before a0 Z = true) (w2 : (Cond.static y).before a0 Z = true) (w3 : (Cond.initialized y.cls).before a0 Z = true) (w4 : (Cond.code y b ml rt).before a0 Z = true)
    (hM : own_Met false l Z y b ml rt [] rm argsL.toArray h Qc) (hp : parseMethodDescriptor y.desc = some ⟨ps, r⟩) (hlen : argsL.length = ps.length) (hst : st = argsL.reverse ++ rest) (hsz : Ls.size = maxL) (hy : y.cls ≠ "java/lang/invoke/MethodHandle" ∧ y.cls ≠ "java/lang/invoke/VarHandle") (hW : (rest.map fun v => v.category).sum ≤ W) (hf : rm.frames + 1 ≤ R.frames) (hl : W + (ml + 11) + rm.locals ≤ R.locals) (hc : k + rm.cells ≤ R.cells) (hs : n + rm.slots ≤ R.slots)
    (hr : ∀ v h', Qc v h' → own_G w p l e R s m args below meth c Z Q h' (k + rm.cells) (n + rm.slots) (mkF m (pc') Ls (v.toList ++ rest))) : own_G w p l e R s m args below meth c Z Q h k n (mkF m pc Ls st) := by
  obtain ⟨hd, rfl⟩ := hd
  intro T hX
  obtain ⟨L, vm, X, N, eT, hw, hS⟩ := hX
  have hZ := own_zw K.2.2.2.2.2.1 hS
  have hown : (s.setVm vm).vm.findClass own = some m.cls := by rw [show (s.setVm vm).vm = vm from rfl, hS.1.alike.findClass]; exact K.2.2.2.2.2.2.1
  obtain ⟨v, vm1, ⟨T1, L1, k1, n1⟩, -, X1, ⟨Lc, ⟨hQ, N1, z1⟩, l1, y1, x1⟩, st1⟩ := Jvm.LawKit.callS X K.1 (y := y) hown (mvT hZ w1) (mvT hZ w2) (mvT hZ w3) (mvT hZ w4) hy (backOf (W := W) (Q := fun v h'' L => Qc v h'' ∧ Fr Z.heap.size L ∧ h.size ≤ h''.size) (show MetFree _ _ _ _ _ _ from hM) hZ w4 w3 hf hl) (g := mkF m pc Ls st) rfl (hsz.trans K.2.2.1.symm) (argsL := argsL) (rest := rest) (lenOf hp hlen) hst (by show 2 * 0 + _ ≤ W; simpa using hW) (hb K.2.1 hd) (fun _ _ => ⟨rfl, eT, hc, hs⟩)
  dsimp only [Pt.U, Pt.locs, Pt.cells, Pt.slots] at X1 l1 y1 x1 st1 hQ z1
  subst l1 y1 x1
  obtain ⟨T', v', h', k', n', hX', r1, r2, r3, r4, r5⟩ := hr v T1.heap hQ T1 ⟨_, vm, X1, N.app N1, rfl, hw, own_since hS z1⟩
  exact ⟨T', v', h', k', n', hX', r1, r2, r3, r4, fun fs q => st1 _ (r5 fs q)⟩
theorem own_special (K : own_Cx p s m meth c Z own nm bytes maxL ret) {i ml W : Nat} {y : MethodName} {b : ByteArray} {rm : Room} {a : Addr} {argsL : List Value} {Qc : Option Value → Heap → Prop} {ps : List FieldType} {r : Option FieldType} (hd : own_D bytes pc (.invokespecial i) 3 pc') (hy1 : y.name = "<init>") (w1 : (Cond.methodLink own i y).before a0 Z = true) (w2 : (Cond.instanceMethod y).before a0 Z = true) (w3 : (Cond.initialized y.cls).before a0 Z = true) (w4 : (Cond.code y b ml none).before a0 Z = true)
    (hM : own_Met false l Z y b ml none [] rm (.ref a :: argsL).toArray h Qc) (hp : parseMethodDescriptor y.desc = some ⟨ps, r⟩) (hlen : argsL.length = ps.length) (hst : st = argsL.reverse ++ .ref a :: rest) (hsz : Ls.size = maxL) (hy : y.cls ≠ "java/lang/invoke/MethodHandle" ∧ y.cls ≠ "java/lang/invoke/VarHandle") (hW : (rest.map fun v => v.category).sum ≤ W) (hf : rm.frames + 1 ≤ R.frames) (hl : W + (ml + 11) + rm.locals ≤ R.locals) (hc : k + rm.cells ≤ R.cells) (hs : n + rm.slots ≤ R.slots)
    (hr : ∀ v h', Qc v h' → own_G w p l e R s m args below meth c Z Q h' (k + rm.cells) (n + rm.slots) (mkF m (pc') Ls (v.toList ++ rest))) : own_G w p l e R s m args below meth c Z Q h k n (mkF m pc Ls st) := by
  obtain ⟨hd, rfl⟩ := hd
  intro T hX
  obtain ⟨L, vm, X, N, eT, hw, hS⟩ := hX
  have hZ := own_zw K.2.2.2.2.2.1 hS
  have hown : (s.setVm vm).vm.findClass own = some m.cls := by rw [show (s.setVm vm).vm = vm from rfl, hS.1.alike.findClass]; exact K.2.2.2.2.2.2.1
  obtain ⟨v, vm1, ⟨T1, L1, k1, n1⟩, -, X1, ⟨Lc, ⟨hQ, N1, z1⟩, l1, y1, x1⟩, st1⟩ := X.specialBack K.1 (y := y) hy1 hown (mvT hZ w1) (mvT hZ w2) (mvT hZ w4) hy (backOf (W := W) (Q := fun v h'' L => Qc v h'' ∧ Fr Z.heap.size L ∧ h.size ≤ h''.size) (show MetFree _ _ _ _ _ _ from hM) hZ w4 w3 hf hl) (g := mkF m pc Ls st) rfl (hsz.trans K.2.2.1.symm) (Steps.refl _) (a := a) (argsL := argsL) (rest := rest) (lenOf hp hlen) hst (by show 2 * 0 + _ ≤ W; simpa using hW) (hb K.2.1 hd) (fun _ _ => ⟨rfl, eT, hc, hs⟩)
  dsimp only [Pt.U, Pt.locs, Pt.cells, Pt.slots] at X1 l1 y1 x1 st1 hQ z1
  subst l1 y1 x1
  obtain ⟨T', v', h', k', n', hX', r1, r2, r3, r4, r5⟩ := hr v T1.heap hQ T1 ⟨_, vm, X1, N.app N1, rfl, hw, own_since hS z1⟩
  exact ⟨T', v', h', k', n', hX', r1, r2, r3, r4, fun fs q => st1.trans (r5 fs q)⟩
theorem own_virtual (K : own_Cx p s m meth c Z own nm bytes maxL ret) {i ml W : Nat} {y : MethodName} {C : String} {b : ByteArray} {rt : Option FieldType} {rm : Room} {a : Addr} {argsL : List Value} {Qc : Option Value → Heap → Prop} {ps : List FieldType} {r : Option FieldType} (hd : own_D bytes pc (.invokevirtual i) 3 pc') (w1 : (Cond.methodLink own i y).before a0 Z = true) (w2 : (Cond.declares y).before a0 Z = true) (w5 : (Cond.selects C y y).before a0 Z = true) (w6 : (Cond.instanceMethod y).before a0 Z = true) (w3 : (Cond.initialized y.cls).before a0 Z = true) (w4 : (Cond.code y b ml rt).before a0 Z = true)
    (E : Exa Z h a C) (hM : own_Met false l Z y b ml rt [] rm (.ref a :: argsL).toArray h Qc) (hp : parseMethodDescriptor y.desc = some ⟨ps, r⟩) (hlen : argsL.length = ps.length) (hst : st = argsL.reverse ++ .ref a :: rest) (hsz : Ls.size = maxL) (hy : y.cls ≠ "java/lang/invoke/MethodHandle" ∧ y.cls ≠ "java/lang/invoke/VarHandle") (hW : (rest.map fun v => v.category).sum ≤ W) (hf : rm.frames + 1 ≤ R.frames) (hl : W + (ml + 11) + rm.locals ≤ R.locals) (hc : k + rm.cells ≤ R.cells) (hs : n + rm.slots ≤ R.slots)
    (hr : ∀ v h', Qc v h' → own_G w p l e R s m args below meth c Z Q h' (k + rm.cells) (n + rm.slots) (mkF m (pc') Ls (v.toList ++ rest))) : own_G w p l e R s m args below meth c Z Q h k n (mkF m pc Ls st) := by
  obtain ⟨hd, rfl⟩ := hd
  intro T hX
  obtain ⟨L, vm, X, N, eT, hw, hS⟩ := hX
  have hZ := own_zw K.2.2.2.2.2.1 hS
  have hown : (s.setVm vm).vm.findClass own = some m.cls := by rw [show (s.setVm vm).vm = vm from rfl, hS.1.alike.findClass]; exact K.2.2.2.2.2.2.1
  obtain ⟨cq, kq, qa, qb, qc⟩ := isOf (s := s.setVm vm) hZ eT E
  obtain ⟨v, vm1, ⟨T1, L1, k1, n1⟩, -, X1, ⟨Lc, ⟨hQ, N1, z1⟩, l1, y1, x1⟩, st1⟩ := X.virtualBack K.1 (y := y) (z := y) hown (mvT hZ w1) (mvT hZ w2) (notFace_of_selects (C := C) (args := #[]) (mvT hZ w5)) (mvT hZ w5) (mvT hZ w6) hy (backOf (W := W) (Q := fun v h'' L => Qc v h'' ∧ Fr Z.heap.size L ∧ h.size ≤ h''.size) (show MetFree _ _ _ _ _ _ from hM) hZ w4 w3 hf hl) qa qc (g := mkF m pc Ls st) rfl (hsz.trans K.2.2.1.symm) (Steps.refl _) (argsL := argsL) (rest := rest) (lenOf hp hlen) hst (by show 2 * 0 + _ ≤ W; simpa using hW) (hb K.2.1 hd) (fun _ _ => ⟨rfl, eT, hc, hs⟩)
  dsimp only [Pt.U, Pt.locs, Pt.cells, Pt.slots] at X1 l1 y1 x1 st1 hQ z1
  subst l1 y1 x1
  obtain ⟨T', v', h', k', n', hX', r1, r2, r3, r4, r5⟩ := hr v T1.heap hQ T1 ⟨_, vm, X1, N.app N1, rfl, hw, own_since hS z1⟩
  exact ⟨T', v', h', k', n', hX', r1, r2, r3, r4, fun fs q => st1.trans (r5 fs q)⟩
theorem own_virtualZ (K : own_Cx p s m meth c Z own nm bytes maxL ret) {i ml W : Nat} {y z : MethodName} {C : String} {b : ByteArray} {rt : Option FieldType} {rm : Room} {a : Addr} {argsL : List Value} {Qc : Option Value → Heap → Prop} {ps : List FieldType} {r : Option FieldType} (hd : own_D bytes pc (.invokevirtual i) 3 pc') (w1 : (Cond.methodLink own i y).before a0 Z = true) (w2 : (Cond.declares y).before a0 Z = true) (w5 : (Cond.selects C y z).before a0 Z = true) (w6 : (Cond.instanceMethod z).before a0 Z = true) (w3 : (Cond.initialized z.cls).before a0 Z = true) (w4 : (Cond.code z b ml rt).before a0 Z = true)
    (E : Exa Z h a C) (hnf : ∀ vm, s.Warmed39 vm → NotFace (s.setVm vm) y) (hM : own_Met false l Z z b ml rt [] rm (.ref a :: argsL).toArray h Qc) (hp : parseMethodDescriptor y.desc = some ⟨ps, r⟩) (hlen : argsL.length = ps.length) (hst : st = argsL.reverse ++ .ref a :: rest) (hsz : Ls.size = maxL) (hy : y.cls ≠ "java/lang/invoke/MethodHandle" ∧ y.cls ≠ "java/lang/invoke/VarHandle") (hW : (rest.map fun v => v.category).sum ≤ W) (hf : rm.frames + 1 ≤ R.frames) (hl : W + (ml + 11) + rm.locals ≤ R.locals) (hc : k + rm.cells ≤ R.cells) (hs : n + rm.slots ≤ R.slots)
    (hr : ∀ v h', Qc v h' → own_G w p l e R s m args below meth c Z Q h' (k + rm.cells) (n + rm.slots) (mkF m (pc') Ls (v.toList ++ rest))) : own_G w p l e R s m args below meth c Z Q h k n (mkF m pc Ls st) := by
  obtain ⟨hd, rfl⟩ := hd
  intro T hX
  obtain ⟨L, vm, X, N, eT, hw, hS⟩ := hX
  have hZ := own_zw K.2.2.2.2.2.1 hS
  have hown : (s.setVm vm).vm.findClass own = some m.cls := by rw [show (s.setVm vm).vm = vm from rfl, hS.1.alike.findClass]; exact K.2.2.2.2.2.2.1
  obtain ⟨cq, kq, qa, qb, qc⟩ := isOf (s := s.setVm vm) hZ eT E
  obtain ⟨v, vm1, ⟨T1, L1, k1, n1⟩, -, X1, ⟨Lc, ⟨hQ, N1, z1⟩, l1, y1, x1⟩, st1⟩ := X.virtualBack K.1 (y := y) (z := z) hown (mvT hZ w1) (mvT hZ w2) (hnf vm hS.1) (mvT hZ w5) (mvT hZ w6) hy (backOf (W := W) (Q := fun v h'' L => Qc v h'' ∧ Fr Z.heap.size L ∧ h.size ≤ h''.size) (show MetFree _ _ _ _ _ _ from hM) hZ w4 w3 hf hl) qa qc (g := mkF m pc Ls st) rfl (hsz.trans K.2.2.1.symm) (Steps.refl _) (argsL := argsL) (rest := rest) (lenOf hp hlen) hst (by show 2 * 0 + _ ≤ W; simpa using hW) (hb K.2.1 hd) (fun _ _ => ⟨rfl, eT, hc, hs⟩)
  dsimp only [Pt.U, Pt.locs, Pt.cells, Pt.slots] at X1 l1 y1 x1 st1 hQ z1
  subst l1 y1 x1
  obtain ⟨T', v', h', k', n', hX', r1, r2, r3, r4, r5⟩ := hr v T1.heap hQ T1 ⟨_, vm, X1, N.app N1, rfl, hw, own_since hS z1⟩
  exact ⟨T', v', h', k', n', hX', r1, r2, r3, r4, fun fs q => st1.trans (r5 fs q)⟩
theorem own_retI (K : own_Cx p s m meth c Z own nm bytes maxL (some .int)) {z : Int32} (hd : own_D bytes pc .ireturn 1 pc') (hk : k ≤ R.cells) (hn : n ≤ R.slots) (hQ : Q (some (.int z)) h) : own_G w p l e R s m args below meth c Z Q h k n (mkF m pc Ls (.int z :: st)) := by
  obtain ⟨hd, -⟩ := hd
  intro T hX
  obtain ⟨L, vm, X, N, eT, hw, hS⟩ := hX
  exact ⟨T, some (.int z), h, k, n, ⟨L, vm, X, N, eT, hw, hS⟩, hk, hn, (fun q => by rw [K.2.2.2.1] at q; cases q), hQ, fun fs q => retOut X K.1 K.2.2.2.1 (rfl) (Or.inl ⟨rfl, Or.inl rfl, z, rfl⟩) (hb K.2.1 hd) q⟩
theorem own_retZ (K : own_Cx p s m meth c Z own nm bytes maxL (some .boolean)) {z : Int32} (hz : z = 0 ∨ z = 1) (hd : own_D bytes pc .ireturn 1 pc') (hk : k ≤ R.cells) (hn : n ≤ R.slots) (hQ : Q (some (.int z)) h) : own_G w p l e R s m args below meth c Z Q h k n (mkF m pc Ls (.int z :: st)) := by
  obtain ⟨hd, -⟩ := hd
  intro T hX
  obtain ⟨L, vm, X, N, eT, hw, hS⟩ := hX
  exact ⟨T, some (.int z), h, k, n, ⟨L, vm, X, N, eT, hw, hS⟩, hk, hn, (fun q => by rw [K.2.2.2.1] at q; cases q), hQ, fun fs q => retOut X K.1 K.2.2.2.1 (by rcases hz with rfl | rfl <;> decide) (Or.inl ⟨rfl, Or.inr (Or.inl rfl), z, rfl⟩) (hb K.2.1 hd) q⟩
theorem own_retC (K : own_Cx p s m meth c Z own nm bytes maxL (some .char)) {z : Int32} (hz : narrow .char (.int z) = .int z) (hd : own_D bytes pc .ireturn 1 pc') (hk : k ≤ R.cells) (hn : n ≤ R.slots) (hQ : Q (some (.int z)) h) : own_G w p l e R s m args below meth c Z Q h k n (mkF m pc Ls (.int z :: st)) := by
  obtain ⟨hd, -⟩ := hd
  intro T hX
  obtain ⟨L, vm, X, N, eT, hw, hS⟩ := hX
  exact ⟨T, some (.int z), h, k, n, ⟨L, vm, X, N, eT, hw, hS⟩, hk, hn, (fun q => by rw [K.2.2.2.1] at q; cases q), hQ, fun fs q => retOut X K.1 K.2.2.2.1 (hz) (Or.inl ⟨rfl, Or.inr (Or.inr (Or.inr (Or.inl rfl))), z, rfl⟩) (hb K.2.1 hd) q⟩
theorem own_retBy (K : own_Cx p s m meth c Z own nm bytes maxL (some .byte)) {z : Int32} (hz : narrow .byte (.int z) = .int z) (hd : own_D bytes pc .ireturn 1 pc') (hk : k ≤ R.cells) (hn : n ≤ R.slots) (hQ : Q (some (.int z)) h) : own_G w p l e R s m args below meth c Z Q h k n (mkF m pc Ls (.int z :: st)) := by
  obtain ⟨hd, -⟩ := hd
  intro T hX
  obtain ⟨L, vm, X, N, eT, hw, hS⟩ := hX
  exact ⟨T, some (.int z), h, k, n, ⟨L, vm, X, N, eT, hw, hS⟩, hk, hn, (fun q => by rw [K.2.2.2.1] at q; cases q), hQ, fun fs q => retOut X K.1 K.2.2.2.1 (hz) (Or.inl ⟨rfl, Or.inr (Or.inr (Or.inl rfl)), z, rfl⟩) (hb K.2.1 hd) q⟩
theorem own_retL (K : own_Cx p s m meth c Z own nm bytes maxL (some .long)) {z : Int64} (hd : own_D bytes pc .lreturn 1 pc') (hk : k ≤ R.cells) (hn : n ≤ R.slots) (hQ : Q (some (.long z)) h) : own_G w p l e R s m args below meth c Z Q h k n (mkF m pc Ls (.long z :: st)) := by
  obtain ⟨hd, -⟩ := hd
  intro T hX
  obtain ⟨L, vm, X, N, eT, hw, hS⟩ := hX
  exact ⟨T, some (.long z), h, k, n, ⟨L, vm, X, N, eT, hw, hS⟩, hk, hn, (fun q => by rw [K.2.2.2.1] at q; cases q), hQ, fun fs q => retOut X K.1 K.2.2.2.1 (rfl) (Or.inr (Or.inl ⟨rfl, rfl, z, rfl⟩)) (hb K.2.1 hd) q⟩
theorem own_retD (K : own_Cx p s m meth c Z own nm bytes maxL (some .double)) {z : UInt64} (hd : own_D bytes pc .dreturn 1 pc') (hk : k ≤ R.cells) (hn : n ≤ R.slots) (hQ : Q (some (.double z)) h) : own_G w p l e R s m args below meth c Z Q h k n (mkF m pc Ls (.double z :: st)) := by
  obtain ⟨hd, -⟩ := hd
  intro T hX
  obtain ⟨L, vm, X, N, eT, hw, hS⟩ := hX
  exact ⟨T, some (.double z), h, k, n, ⟨L, vm, X, N, eT, hw, hS⟩, hk, hn, (fun q => by rw [K.2.2.2.1] at q; cases q), hQ, fun fs q => retOut X K.1 K.2.2.2.1 (rfl) (Or.inr (Or.inr (Or.inl ⟨rfl, rfl, z, rfl⟩))) (hb K.2.1 hd) q⟩
theorem own_retA (K : own_Cx p s m meth c Z own nm bytes maxL (some tyR)) {v : Value} (hty : tyR.isReference = true) (hv : v.isRef = true) (hd : own_D bytes pc .areturn 1 pc') (hk : k ≤ R.cells) (hn : n ≤ R.slots) (hQ : Q (some (v)) h) : own_G w p l e R s m args below meth c Z Q h k n (mkF m pc Ls (v :: st)) := by
  obtain ⟨hd, -⟩ := hd
  intro T hX
  obtain ⟨L, vm, X, N, eT, hw, hS⟩ := hX
  exact ⟨T, some (v), h, k, n, ⟨L, vm, X, N, eT, hw, hS⟩, hk, hn, (fun q => by rw [K.2.2.2.1] at q; cases q), hQ, fun fs q => retOut X K.1 K.2.2.2.1 (by rcases ref_cases hv with rfl | ⟨a, rfl⟩ <;> cases tyR <;> first | rfl | cases hty) (Or.inr (Or.inr (Or.inr (Or.inr ⟨rfl, hty, hv⟩)))) (hb K.2.1 hd) q⟩
theorem own_retV (K : own_Cx p s m meth c Z own nm bytes maxL none) (hd : own_D bytes pc .return_ 1 pc') (hk : k ≤ R.cells) (hn : n ≤ R.slots) (hQ : Q none h) : own_G w p l e R s m args below meth c Z Q h k n (mkF m pc Ls []) := by
  obtain ⟨hd, -⟩ := hd
  intro T hX
  obtain ⟨L, vm, X, N, eT, hw, hS⟩ := hX
  exact ⟨T, none, h, k, n, ⟨L, vm, X, N, eT, hw, hS⟩, hk, hn, (fun _ => rfl), hQ, fun fs q => X.returnOut K.1 K.2.2.2.1 (hb K.2.1 hd) q⟩
theorem own_met {y : MethodName} {ws : List Cond} {rm : Room} {as' : Array Value} (hpn : plainFor y = true)
    (body : ∀ (p : Program) (e : Env) (s : State) (m : MethodId) (below : List Frame) (meth : Method) (c : Code), own_Cx p s m meth c Z y.cls y.name bytes maxL ret → own_G w p l e rm s m as' below meth c Z Q h 0 0 (entryFrame m as' maxL)) :
    own_Met w l Z y bytes maxL ret ws rm as' h Q := by
  refine MetFree.of_bodySF hpn hisR ?_
  intro p e s m args below meth c s₁ Bd hml0 hP hK
  obtain ⟨rfl, hZ, hh⟩ := hP
  have X0 : Stand p l e rm s m args below meth c s₁ [] 0 0 := Stand.of_body Bd
  have e0 : s₁.heap = h := by rw [← hh, Bd.state]; rfl
  have hlk : meth.locks = false := BodyLoose.notSynchronized Bd
  obtain ⟨T', v, h', k', n', ⟨L, vm, X, N, eT, hw, hS⟩, r1, r2, r3, r4, r5⟩ := body p e s m below meth c ⟨Bd.exec, Bd.bytes, hml0, Bd.returns, hlk, hZ, findClass_of_methodNamed Bd.named, (name_of_methodNamed Bd.named Bd.method).1⟩ s₁
    ⟨[], s.vm, X0, Fr.nil _, e0, fun _ => rfl, (State.WarmedH.refl s).since _⟩
  have hgr : h.size ≤ h'.size := by rw [← eT, ← hh]; exact X.same.2.1
  cases w with
  | false =>
    obtain rfl := hw rfl
    obtain ⟨fs, hr, hrun, hended, hW, hsame⟩ := Stand.leave (s := s) X r3
    exact ⟨_, _, r5 fs hr, hrun, hended, v, L, rfl, ⟨by show Q v T'.heap; rw [eT]; exact r4, N, by show h.size ≤ T'.heap.size; rw [eT]; exact hgr⟩, ⟨_, rfl⟩, hW, hsame.mono r1 r2⟩
  | true =>
    obtain ⟨fs, hr, hrun, hended, q1, q2, q3, q4⟩ := Stand.leaveW X hS (Nat.le_of_eq (congrArg Array.size eT.symm)) r3
    exact ⟨_, _, r5 fs hr, hrun, hended, v, L, rfl, ⟨by show Q v T'.heap; rw [eT]; exact r4, N, by show h.size ≤ T'.heap.size; rw [eT]; exact hgr⟩, q1, q2, q3, q4.mono r1 r2⟩
theorem own_list_getD {vs : List Value} {cl : Cell} (e : cl.slots.toList = vs) (d : Value) {i : Nat} (hi : i < cl.slots.size) : cl.slots[i]? = some (vs.getD i d) := by
  subst e
  rw [List.getD_eq_getElem?_getD, Array.getElem?_toList, Array.getElem?_eq_getElem hi]; rfl
theorem own_arv {a : Addr} {ty : FieldType} {ad : String} {vs : List Value} (F : own_AK Z h (a, ty, ad, vs)) (hl : vs.length < 2147483648) : ∃ (kc : ClassId) (z : Int32), z.toNatClampNeg = vs.length ∧ ¬ z < 0 ∧ Arv Z h a kc ty z vs .null := by
  obtain ⟨cl, A, e1, e3, -, -⟩ := F
  have e1' : cl.slots.toList = vs := e1
  have hsz : cl.slots.size = vs.length := by rw [← Array.length_toList, e1']
  have q := len_toInt (n := vs.length) (by omega)
  have z0 : ¬ vs.length.toInt32 < 0 := by rw [Int32.lt_iff_toInt_lt, q, show (0 : Int32).toInt = 0 from rfl]; omega
  have zc : vs.length.toInt32.toNatClampNeg = vs.length := by simp only [Int32.toNatClampNeg, q]; rfl
  refine ⟨cl.cls, vs.length.toInt32, zc, z0, cl, A, rfl, by rw [zc]; exact hsz, z0, fun i hi => own_list_getD e1' _ hi, fun i hi => ?_⟩
  have hi' : i < vs.length := by omega
  rw [List.getD_eq_getElem?_getD, List.getElem?_eq_getElem hi']
  exact e3 _ (List.getElem_mem hi')
theorem own_of_arv {a : Addr} {ty : FieldType} {vs : List Value} {kc : ClassId} {z : Int32} {d : Value} (F : Arv Z h a kc ty z vs d) (hz : z.toNatClampNeg = vs.length) : ∃ cl : Cell, Arr Z h a cl ty ∧ cl.cls = kc ∧ cl.slots.toList = vs ∧ ∀ v ∈ vs, fits ty v = true := by
  obtain ⟨cl, A, e1, e2, -, H, G⟩ := F
  have hsz : cl.slots.size = vs.length := e2.trans hz
  refine ⟨cl, A, e1, ?_, fun v hv => ?_⟩
  · apply List.ext_getElem?
    intro i
    rw [Array.getElem?_toList]
    by_cases hi : i < cl.slots.size
    · rw [H i hi, List.getD_eq_getElem?_getD, List.getElem?_eq_getElem (by omega)]; rfl
    · rw [Array.getElem?_eq_none (by omega), List.getElem?_eq_none (by omega)]
  · obtain ⟨i, hi, rfl⟩ := List.getElem_of_mem hv
    have := G i (by omega)
    rw [List.getD_eq_getElem?_getD, List.getElem?_eq_getElem hi] at this
    exact this
theorem own_H.keepA (H : own_H Z h os as) {b : Addr} {ty : FieldType} {ad : String} {vd vd' : List Value} {i : Nat} (hb : as[i]? = some (b, ty, ad, vd)) (Kp : Keep h h' [b]) (F : ∃ cl : Cell, Arr Z h' b cl ty ∧ cl.slots.toList = vd' ∧ ∀ v ∈ vd', fits ty v = true) (hty : ∀ C, ty ≠ .object C) : own_H Z h' os (as.set i (b, ty, ad, vd')) := by
  have nb := (H.2.2.1 _ (own_mem hb)).1
  have hlen := (List.getElem?_eq_some_iff.mp hb).1
  refine ⟨⟨Nat.le_trans H.1.1 Kp.1, fun x cx hx => Kp.2.1 x cx (H.1.2 x cx hx) fun q => ?_⟩, fun o ho => ?_, fun y hy => ?_, ?_⟩
  · cases List.mem_singleton.mp q; exact absurd (Array.getElem?_eq_some_iff.mp hx).1 (Nat.not_lt.mpr nb)
  · obtain ⟨n1, E, F', Pw⟩ := H.2.1 o ho
    exact ⟨n1, E.keep Kp, fun f hf => (F' f hf).keep Kp fun q => H.neOA ho (own_mem hb) (List.mem_singleton.mp q), Pw⟩
  · obtain ⟨j, hj⟩ := List.mem_iff_getElem?.mp hy
    rw [List.getElem?_set] at hj
    by_cases ij : i = j
    · subst ij
      rw [if_pos rfl, if_pos hlen] at hj
      obtain rfl := Option.some.inj hj
      obtain ⟨cl, A, e1, e2⟩ := F
      obtain ⟨-, cl0, -, -, -, e4, -⟩ := H.2.2.1 _ (own_mem hb)
      exact ⟨nb, cl, A, e1, e2, fun q => (e4 q).keep Kp, fun C hC => absurd hC (hty C)⟩
    · rw [if_neg ij] at hj
      obtain ⟨n1, cl, h1, h2, h3, h4, h5⟩ := H.2.2.1 _ (own_mem hj)
      exact ⟨n1, cl, ⟨Kp.2.1 _ _ h1.1 fun q => H.neAA hj hb (Ne.symm ij) (List.mem_singleton.mp q), h1.2⟩, h2, h3, fun q => (h4 q).keep Kp, h5⟩
  · rw [own_set_map (f := fun z => z.1) (x' := (b, ty, ad, vd')) hb rfl]; exact H.2.2.2
theorem own_range_take {vs : List Value} {sq nq : Nat} {d : Value} (hq : sq + nq ≤ vs.length) : (vs.drop sq).take nq = (List.range nq).map fun i => vs.getD (sq + i) d := by
  apply List.ext_getElem?
  intro i
  by_cases hi : i < nq
  · rw [List.getElem?_take_of_lt hi, List.getElem?_drop, List.getElem?_map, List.getElem?_range hi, Option.map_some, List.getD_eq_getElem?_getD, List.getElem?_eq_getElem (by omega)]; rfl
  · rw [List.getElem?_eq_none (by simp; omega), List.getElem?_eq_none (by simp; omega)]
theorem own_arraycopy (K : own_Cx p s m meth c Z own nm bytes maxL ret) {i ia ib : Nat} {a b : Addr} {ty : FieldType} {ada adb : String} {vs vd : List Value} {sp dp nn : Int32} {sq dq nq : Nat} (hd : own_D bytes pc (.invokestatic i) 3 pc') (w1 : (Cond.methodLink own i Jvm.Stand.acN).before a0 Z = true) (w2 : (Cond.native Jvm.Stand.acN).before a0 Z = true) (w3 : (Cond.static Jvm.Stand.acN).before a0 Z = true) (w4 : (Cond.initialized "java/lang/System").before a0 Z = true) (H : own_H Z h os as)
    (ha : as[ia]? = some (a, ty, ada, vs)) (hb' : as[ib]? = some (b, ty, adb, vd)) (hty : refKind ty = false) (hto : ∀ C, ty ≠ .object C) (hsp : sp.toInt = (sq : Int)) (hdp : dp.toInt = (dq : Int)) (hnn : nn.toInt = (nq : Int)) (h4 : sq + nq ≤ vs.length) (h5 : dq + nq ≤ vd.length) (hvl : vs.length < 2147483648) (hvd : vd.length < 2147483648) (hsz : Ls.size = maxL) (hf : 1 ≤ R.frames) {W : Nat} (hW : (st.map fun v => v.category).sum ≤ W) (hlo : W + (nativeFrameWords "java/lang/System" "arraycopy" 5 + 11) ≤ R.locals)
    (hr : ∀ h', own_H Z h' os (as.set ib (b, ty, adb, vd.take dq ++ (vs.drop sq).take nq ++ vd.drop (dq + nq))) → own_G w p l e R s m args below meth c Z Q h' k n (mkF m pc' Ls st)) : own_G w p l e R s m args below meth c Z Q h k n (mkF m pc Ls (.int nn :: .int dp :: .ref b :: .int sp :: .ref a :: st)) := by
  obtain ⟨hd, rfl⟩ := hd
  refine own_step K (P := fun h' => own_H Z h' os (as.set ib (b, ty, adb, vd.take dq ++ (vs.drop sq).take nq ++ vd.drop (dq + nq)))) (fun X hZ hw eT N => ?_) hr
  obtain ⟨ka, za, qa1, qa2, A⟩ := own_arv (H.2.2.1 _ (own_mem ha)).2 hvl
  obtain ⟨kb, zb, qb1, qb2, B⟩ := own_arv (H.2.2.1 _ (own_mem hb')).2 hvd
  have i1 := own_idx hsp
  have i2 := own_idx hdp
  have i3 := own_idx hnn
  have neg : ∀ {x : Int32} {q : Nat}, x.toInt = (q : Int) → ¬ x < 0 := fun {x q} e => by rw [Int32.lt_iff_toInt_lt, e, show (0 : Int32).toInt = 0 from rfl]; omega
  obtain ⟨T', h', L, X', e', N', Kp, A', st⟩ := cpA X K.1 hZ hw w1 w2 w3 w4 eT A B (Or.inl ⟨rfl, hty⟩) (neg hsp) (neg hdp) (neg hnn) (by rw [i1, i3, qa1]; exact h4) (by rw [i2, i3, qb1]; exact h5) (by rw [i1, i3]) (by rw [i2, i3]; exact h5) N (H.2.2.1 _ (own_mem hb')).1 (g := mkF m pc Ls (.int nn :: .int dp :: .ref b :: .int sp :: .ref a :: st)) rfl (hsz.trans K.2.2.1.symm) rfl (hb K.2.1 hd) hf (W := W) (by show 2 * 0 + _ ≤ W; simpa using hW) hlo
  rw [i2, i3, ← own_range_take h4] at A'
  obtain ⟨cl, c1, -, c3, c4⟩ := own_of_arv A' (by rw [qb1]; simp; omega)
  exact ⟨T', h', L, X', N', e', Kp.1, H.keepA hb' Kp ⟨cl, c1, c3, c4⟩ hto, st⟩
theorem own_cast {g g' : JFrame} (q : g = g') (hr : own_G w p l e R s m args below meth c Z Q h k n g') : own_G w p l e R s m args below meth c Z Q h k n g := q ▸ hr
theorem own_topI {x x' : Int32} (q : x = x') (hr : own_G w p l e R s m args below meth c Z Q h k n (mkF m pc Ls (.int x' :: st))) : own_G w p l e R s m args below meth c Z Q h k n (mkF m pc Ls (.int x :: st)) := q ▸ hr
theorem own_topL {x x' : Int64} (q : x = x') (hr : own_G w p l e R s m args below meth c Z Q h k n (mkF m pc Ls (.long x' :: st))) : own_G w p l e R s m args below meth c Z Q h k n (mkF m pc Ls (.long x :: st)) := q ▸ hr
theorem own_topD {x x' : UInt64} (q : x = x') (hr : own_G w p l e R s m args below meth c Z Q h k n (mkF m pc Ls (.double x' :: st))) : own_G w p l e R s m args below meth c Z Q h k n (mkF m pc Ls (.double x :: st)) := q ▸ hr
theorem own_H.perm (H : own_H Z h os as) (po : os.Perm os') (pa : as.Perm as') : own_H Z h os' as' :=
  ⟨H.1, fun o ho => H.2.1 o (po.mem_iff.mpr ho), fun a ha => H.2.2.1 a (pa.mem_iff.mpr ha), ((po.map _).append (pa.map _)).nodup_iff.mp H.2.2.2⟩
theorem own_front {α : Type} {L : List α} {x : α} : ∀ {i : Nat}, L[i]? = some x → L.Perm (x :: L.eraseIdx i) := by
  induction L with
  | nil => intro i hx; cases hx
  | cons y L ih =>
    intro i hx
    cases i with
    | zero => cases hx; exact List.Perm.refl _
    | succ i =>
      have q := ih (i := i) (by simpa using hx)
      exact ((q.cons y).trans (List.Perm.swap x y _))
theorem own_H.frontO (H : own_H Z h os as) (i : Nat) {x : own_O} (hx : os[i]? = some x) : own_H Z h (x :: os.eraseIdx i) as := H.perm (own_front hx) (List.Perm.refl _)
theorem own_H.frontA (H : own_H Z h os as) (i : Nat) {x : own_A} (hx : as[i]? = some x) : own_H Z h os (x :: as.eraseIdx i) := H.perm (List.Perm.refl _) (own_front hx)
end OwnKit
end Jvm.RoadKit
namespace Jvm.Pilot.@@N@@
open Jvm Jvm.ClassFile Sem Op Lib Jvm.Free Jvm.Stand Jvm.LawKit Jvm.RoadKit Bundle Jvm.Pilot.@@N@@.Jvm.D
def own_Z (Z : State) (a0 : Array Value) : Prop := ∀ d ∈ tables_1, d.before a0 Z = true
theorem own_w0 {Z : State} {a0 : Array Value} (hw : own_Z Z a0) : (Jvm.Cond.methodLink "com/example/fielder/fielder/service/ScoredDocumentsMultiplyScoresPinLaw" (7 : Nat) ({ cls := "com/example/fielder/fielder/service/ScoredDocumentsMultiplyScoresPinLaw", name := "drawn", desc := "(JI)I" } : Jvm.MethodName)).before a0 Z = true := hw _ (List.mem_of_getElem? (i := 0) rfl)
theorem own_w1 {Z : State} {a0 : Array Value} (hw : own_Z Z a0) : (Jvm.Cond.static ({ cls := "com/example/fielder/fielder/service/ScoredDocumentsMultiplyScoresPinLaw", name := "drawn", desc := "(JI)I" } : Jvm.MethodName)).before a0 Z = true := hw _ (List.mem_of_getElem? (i := 1) rfl)
theorem own_w2 {Z : State} {a0 : Array Value} (hw : own_Z Z a0) : (Jvm.Cond.initialized "com/example/fielder/fielder/service/ScoredDocumentsMultiplyScoresPinLaw").before a0 Z = true := hw _ (List.mem_of_getElem? (i := 2) rfl)
theorem own_w3 {Z : State} {a0 : Array Value} (hw : own_Z Z a0) : (Jvm.Cond.code ({ cls := "com/example/fielder/fielder/service/ScoredDocumentsMultiplyScoresPinLaw", name := "drawn", desc := "(JI)I" } : Jvm.MethodName) method_3_code (3 : Nat) (Option.some Jvm.ClassFile.FieldType.int)).before a0 Z = true := hw _ (List.mem_of_getElem? (i := 3) rfl)
theorem own_w4 {Z : State} {a0 : Array Value} (hw : own_Z Z a0) : (Jvm.Cond.constantLong "com/example/fielder/fielder/service/ScoredDocumentsMultiplyScoresPinLaw" (32 : Nat) (4095 : Int64)).before a0 Z = true := hw _ (List.mem_of_getElem? (i := 4) rfl)
theorem own_w5 {Z : State} {a0 : Array Value} (hw : own_Z Z a0) : (Jvm.Cond.classLink "com/example/fielder/fielder/service/ScoredDocumentsMultiplyScoresPinLaw" (13 : Nat) "com/example/fielder/fielder/service/ScoredDocuments").before a0 Z = true := hw _ (List.mem_of_getElem? (i := 5) rfl)
theorem own_w6 {Z : State} {a0 : Array Value} (hw : own_Z Z a0) : (Jvm.Cond.instantiable "com/example/fielder/fielder/service/ScoredDocuments" (3 : Nat)).before a0 Z = true := hw _ (List.mem_of_getElem? (i := 6) rfl)
theorem own_w7 {Z : State} {a0 : Array Value} (hw : own_Z Z a0) : (Jvm.Cond.initialized "com/example/fielder/fielder/service/ScoredDocuments").before a0 Z = true := hw _ (List.mem_of_getElem? (i := 7) rfl)
theorem own_w8 {Z : State} {a0 : Array Value} (hw : own_Z Z a0) : (Jvm.Cond.methodLink "com/example/fielder/fielder/service/ScoredDocumentsMultiplyScoresPinLaw" (15 : Nat) ({ cls := "com/example/fielder/fielder/service/ScoredDocuments", name := "<init>", desc := "()V" } : Jvm.MethodName)).before a0 Z = true := hw _ (List.mem_of_getElem? (i := 8) rfl)
theorem own_w9 {Z : State} {a0 : Array Value} (hw : own_Z Z a0) : (Jvm.Cond.instanceMethod ({ cls := "com/example/fielder/fielder/service/ScoredDocuments", name := "<init>", desc := "()V" } : Jvm.MethodName)).before a0 Z = true := hw _ (List.mem_of_getElem? (i := 9) rfl)
theorem own_w10 {Z : State} {a0 : Array Value} (hw : own_Z Z a0) : (Jvm.Cond.code ({ cls := "com/example/fielder/fielder/service/ScoredDocuments", name := "<init>", desc := "()V" } : Jvm.MethodName) prog_38_method_1_code (1 : Nat) (Option.none : Option Jvm.ClassFile.FieldType)).before a0 Z = true := hw _ (List.mem_of_getElem? (i := 10) rfl)
theorem own_w11 {Z : State} {a0 : Array Value} (hw : own_Z Z a0) : (Jvm.Cond.methodLink "com/example/fielder/fielder/service/ScoredDocuments" (1 : Nat) ({ cls := "java/lang/Object", name := "<init>", desc := "()V" } : Jvm.MethodName)).before a0 Z = true := hw _ (List.mem_of_getElem? (i := 11) rfl)
theorem own_w12 {Z : State} {a0 : Array Value} (hw : own_Z Z a0) : (Jvm.Cond.instanceMethod ({ cls := "java/lang/Object", name := "<init>", desc := "()V" } : Jvm.MethodName)).before a0 Z = true := hw _ (List.mem_of_getElem? (i := 12) rfl)
theorem own_w13 {Z : State} {a0 : Array Value} (hw : own_Z Z a0) : (Jvm.Cond.code ({ cls := "java/lang/Object", name := "<init>", desc := "()V" } : Jvm.MethodName) object_method_1_code (1 : Nat) (Option.none : Option Jvm.ClassFile.FieldType)).before a0 Z = true := hw _ (List.mem_of_getElem? (i := 13) rfl)
theorem own_w14 {Z : State} {a0 : Array Value} (hw : own_Z Z a0) : (Jvm.Cond.arrayClass Jvm.ClassFile.FieldType.int).before a0 Z = true := hw _ (List.mem_of_getElem? (i := 14) rfl)
theorem own_w15 {Z : State} {a0 : Array Value} (hw : own_Z Z a0) : (Jvm.Cond.fieldLink "com/example/fielder/fielder/service/ScoredDocuments" (7 : Nat) "com/example/fielder/fielder/service/ScoredDocuments" "documents" "[I").before a0 Z = true := hw _ (List.mem_of_getElem? (i := 15) rfl)
theorem own_w16 {Z : State} {a0 : Array Value} (hw : own_Z Z a0) : (Jvm.Cond.lays "com/example/fielder/fielder/service/ScoredDocuments" "com/example/fielder/fielder/service/ScoredDocuments" "documents" "[I").before a0 Z = true := hw _ (List.mem_of_getElem? (i := 16) rfl)
theorem own_w17 {Z : State} {a0 : Array Value} (hw : own_Z Z a0) : (Jvm.Cond.arrayClass Jvm.ClassFile.FieldType.double).before a0 Z = true := hw _ (List.mem_of_getElem? (i := 17) rfl)
theorem own_w18 {Z : State} {a0 : Array Value} (hw : own_Z Z a0) : (Jvm.Cond.fieldLink "com/example/fielder/fielder/service/ScoredDocuments" (13 : Nat) "com/example/fielder/fielder/service/ScoredDocuments" "scores" "[D").before a0 Z = true := hw _ (List.mem_of_getElem? (i := 18) rfl)
theorem own_w19 {Z : State} {a0 : Array Value} (hw : own_Z Z a0) : (Jvm.Cond.lays "com/example/fielder/fielder/service/ScoredDocuments" "com/example/fielder/fielder/service/ScoredDocuments" "scores" "[D").before a0 Z = true := hw _ (List.mem_of_getElem? (i := 19) rfl)
theorem own_w20 {Z : State} {a0 : Array Value} (hw : own_Z Z a0) : (Jvm.Cond.methodLink "com/example/fielder/fielder/service/ScoredDocumentsMultiplyScoresPinLaw" (20 : Nat) ({ cls := "com/example/fielder/fielder/service/ScoredDocuments", name := "multiplyScores", desc := "(D)V" } : Jvm.MethodName)).before a0 Z = true := hw _ (List.mem_of_getElem? (i := 20) rfl)
theorem own_w21 {Z : State} {a0 : Array Value} (hw : own_Z Z a0) : (Jvm.Cond.declares ({ cls := "com/example/fielder/fielder/service/ScoredDocuments", name := "multiplyScores", desc := "(D)V" } : Jvm.MethodName)).before a0 Z = true := hw _ (List.mem_of_getElem? (i := 21) rfl)
theorem own_w22 {Z : State} {a0 : Array Value} (hw : own_Z Z a0) : (Jvm.Cond.instanceMethod ({ cls := "com/example/fielder/fielder/service/ScoredDocuments", name := "multiplyScores", desc := "(D)V" } : Jvm.MethodName)).before a0 Z = true := hw _ (List.mem_of_getElem? (i := 22) rfl)
theorem own_w23 {Z : State} {a0 : Array Value} (hw : own_Z Z a0) : (Jvm.Cond.selects "com/example/fielder/fielder/service/ScoredDocuments" ({ cls := "com/example/fielder/fielder/service/ScoredDocuments", name := "multiplyScores", desc := "(D)V" } : Jvm.MethodName) ({ cls := "com/example/fielder/fielder/service/ScoredDocuments", name := "multiplyScores", desc := "(D)V" } : Jvm.MethodName)).before a0 Z = true := hw _ (List.mem_of_getElem? (i := 23) rfl)
theorem own_w24 {Z : State} {a0 : Array Value} (hw : own_Z Z a0) : (Jvm.Cond.code ({ cls := "com/example/fielder/fielder/service/ScoredDocuments", name := "multiplyScores", desc := "(D)V" } : Jvm.MethodName) prog_38_method_6_code (4 : Nat) (Option.none : Option Jvm.ClassFile.FieldType)).before a0 Z = true := hw _ (List.mem_of_getElem? (i := 24) rfl)
theorem own_w25 {Z : State} {a0 : Array Value} (hw : own_Z Z a0) : (Jvm.Cond.fieldLink "com/example/fielder/fielder/service/ScoredDocuments" (17 : Nat) "com/example/fielder/fielder/service/ScoredDocuments" "size" "I").before a0 Z = true := hw _ (List.mem_of_getElem? (i := 25) rfl)
theorem own_w26 {Z : State} {a0 : Array Value} (hw : own_Z Z a0) : (Jvm.Cond.lays "com/example/fielder/fielder/service/ScoredDocuments" "com/example/fielder/fielder/service/ScoredDocuments" "size" "I").before a0 Z = true := hw _ (List.mem_of_getElem? (i := 26) rfl)
theorem own_w27 {Z : State} {a0 : Array Value} (hw : own_Z Z a0) : (Jvm.Cond.methodLink "com/example/fielder/fielder/service/ScoredDocumentsMultiplyScoresPinLaw" (24 : Nat) ({ cls := "com/example/fielder/fielder/service/ScoredDocuments", name := "size", desc := "()I" } : Jvm.MethodName)).before a0 Z = true := hw _ (List.mem_of_getElem? (i := 27) rfl)
theorem own_w28 {Z : State} {a0 : Array Value} (hw : own_Z Z a0) : (Jvm.Cond.declares ({ cls := "com/example/fielder/fielder/service/ScoredDocuments", name := "size", desc := "()I" } : Jvm.MethodName)).before a0 Z = true := hw _ (List.mem_of_getElem? (i := 28) rfl)
theorem own_w29 {Z : State} {a0 : Array Value} (hw : own_Z Z a0) : (Jvm.Cond.instanceMethod ({ cls := "com/example/fielder/fielder/service/ScoredDocuments", name := "size", desc := "()I" } : Jvm.MethodName)).before a0 Z = true := hw _ (List.mem_of_getElem? (i := 29) rfl)
theorem own_w30 {Z : State} {a0 : Array Value} (hw : own_Z Z a0) : (Jvm.Cond.selects "com/example/fielder/fielder/service/ScoredDocuments" ({ cls := "com/example/fielder/fielder/service/ScoredDocuments", name := "size", desc := "()I" } : Jvm.MethodName) ({ cls := "com/example/fielder/fielder/service/ScoredDocuments", name := "size", desc := "()I" } : Jvm.MethodName)).before a0 Z = true := hw _ (List.mem_of_getElem? (i := 30) rfl)
theorem own_w31 {Z : State} {a0 : Array Value} (hw : own_Z Z a0) : (Jvm.Cond.code ({ cls := "com/example/fielder/fielder/service/ScoredDocuments", name := "size", desc := "()I" } : Jvm.MethodName) prog_38_method_3_code (1 : Nat) (Option.some Jvm.ClassFile.FieldType.int)).before a0 Z = true := hw _ (List.mem_of_getElem? (i := 31) rfl)
theorem own_w32 {Z : State} {a0 : Array Value} (hw : own_Z Z a0) : (Jvm.Cond.methodLink "com/example/fielder/fielder/service/ScoredDocumentsMultiplyScoresPinLaw" (28 : Nat) ({ cls := "com/example/fielder/fielder/service/ScoredDocumentsMultiplyScoresPinLaw", name := "ok", desc := "(Lcom/example/fielder/fielder/service/ScoredDocuments;IIII)Z" } : Jvm.MethodName)).before a0 Z = true := hw _ (List.mem_of_getElem? (i := 32) rfl)
theorem own_w33 {Z : State} {a0 : Array Value} (hw : own_Z Z a0) : (Jvm.Cond.static ({ cls := "com/example/fielder/fielder/service/ScoredDocumentsMultiplyScoresPinLaw", name := "ok", desc := "(Lcom/example/fielder/fielder/service/ScoredDocuments;IIII)Z" } : Jvm.MethodName)).before a0 Z = true := hw _ (List.mem_of_getElem? (i := 33) rfl)
theorem own_w34 {Z : State} {a0 : Array Value} (hw : own_Z Z a0) : (Jvm.Cond.code ({ cls := "com/example/fielder/fielder/service/ScoredDocumentsMultiplyScoresPinLaw", name := "ok", desc := "(Lcom/example/fielder/fielder/service/ScoredDocuments;IIII)Z" } : Jvm.MethodName) method_4_code (5 : Nat) (Option.some Jvm.ClassFile.FieldType.boolean)).before a0 Z = true := hw _ (List.mem_of_getElem? (i := 34) rfl)
theorem own_w35 {Z : State} {a0 : Array Value} (hw : own_Z Z a0) : (Jvm.Cond.methodLink "com/example/fielder/fielder/service/ScoredDocumentsMultiplyScoresPinLaw" (16 : Nat) ({ cls := "com/example/fielder/fielder/service/ScoredDocuments", name := "add", desc := "(ID)V" } : Jvm.MethodName)).before a0 Z = true := hw _ (List.mem_of_getElem? (i := 35) rfl)
theorem own_w36 {Z : State} {a0 : Array Value} (hw : own_Z Z a0) : (Jvm.Cond.declares ({ cls := "com/example/fielder/fielder/service/ScoredDocuments", name := "add", desc := "(ID)V" } : Jvm.MethodName)).before a0 Z = true := hw _ (List.mem_of_getElem? (i := 36) rfl)
theorem own_w37 {Z : State} {a0 : Array Value} (hw : own_Z Z a0) : (Jvm.Cond.instanceMethod ({ cls := "com/example/fielder/fielder/service/ScoredDocuments", name := "add", desc := "(ID)V" } : Jvm.MethodName)).before a0 Z = true := hw _ (List.mem_of_getElem? (i := 37) rfl)
theorem own_w38 {Z : State} {a0 : Array Value} (hw : own_Z Z a0) : (Jvm.Cond.selects "com/example/fielder/fielder/service/ScoredDocuments" ({ cls := "com/example/fielder/fielder/service/ScoredDocuments", name := "add", desc := "(ID)V" } : Jvm.MethodName) ({ cls := "com/example/fielder/fielder/service/ScoredDocuments", name := "add", desc := "(ID)V" } : Jvm.MethodName)).before a0 Z = true := hw _ (List.mem_of_getElem? (i := 38) rfl)
theorem own_w39 {Z : State} {a0 : Array Value} (hw : own_Z Z a0) : (Jvm.Cond.code ({ cls := "com/example/fielder/fielder/service/ScoredDocuments", name := "add", desc := "(ID)V" } : Jvm.MethodName) prog_38_method_2_code (4 : Nat) (Option.none : Option Jvm.ClassFile.FieldType)).before a0 Z = true := hw _ (List.mem_of_getElem? (i := 39) rfl)
theorem own_w40 {Z : State} {a0 : Array Value} (hw : own_Z Z a0) : (Jvm.Cond.methodLink "com/example/fielder/fielder/service/ScoredDocumentsMultiplyScoresPinLaw" (34 : Nat) ({ cls := "com/example/fielder/fielder/service/ScoredDocuments", name := "score", desc := "(I)D" } : Jvm.MethodName)).before a0 Z = true := hw _ (List.mem_of_getElem? (i := 40) rfl)
theorem own_w41 {Z : State} {a0 : Array Value} (hw : own_Z Z a0) : (Jvm.Cond.declares ({ cls := "com/example/fielder/fielder/service/ScoredDocuments", name := "score", desc := "(I)D" } : Jvm.MethodName)).before a0 Z = true := hw _ (List.mem_of_getElem? (i := 41) rfl)
theorem own_w42 {Z : State} {a0 : Array Value} (hw : own_Z Z a0) : (Jvm.Cond.instanceMethod ({ cls := "com/example/fielder/fielder/service/ScoredDocuments", name := "score", desc := "(I)D" } : Jvm.MethodName)).before a0 Z = true := hw _ (List.mem_of_getElem? (i := 42) rfl)
theorem own_w43 {Z : State} {a0 : Array Value} (hw : own_Z Z a0) : (Jvm.Cond.selects "com/example/fielder/fielder/service/ScoredDocuments" ({ cls := "com/example/fielder/fielder/service/ScoredDocuments", name := "score", desc := "(I)D" } : Jvm.MethodName) ({ cls := "com/example/fielder/fielder/service/ScoredDocuments", name := "score", desc := "(I)D" } : Jvm.MethodName)).before a0 Z = true := hw _ (List.mem_of_getElem? (i := 43) rfl)
theorem own_w44 {Z : State} {a0 : Array Value} (hw : own_Z Z a0) : (Jvm.Cond.code ({ cls := "com/example/fielder/fielder/service/ScoredDocuments", name := "score", desc := "(I)D" } : Jvm.MethodName) prog_38_method_5_code (2 : Nat) (Option.some Jvm.ClassFile.FieldType.double)).before a0 Z = true := hw _ (List.mem_of_getElem? (i := 44) rfl)
theorem own_w45 {Z : State} {a0 : Array Value} (hw : own_Z Z a0) : (Jvm.Cond.methodLink "com/example/fielder/fielder/service/ScoredDocuments" (21 : Nat) ({ cls := "java/util/Arrays", name := "copyOf", desc := "([II)[I" } : Jvm.MethodName)).before a0 Z = true := hw _ (List.mem_of_getElem? (i := 45) rfl)
theorem own_w46 {Z : State} {a0 : Array Value} (hw : own_Z Z a0) : (Jvm.Cond.static ({ cls := "java/util/Arrays", name := "copyOf", desc := "([II)[I" } : Jvm.MethodName)).before a0 Z = true := hw _ (List.mem_of_getElem? (i := 46) rfl)
theorem own_w47 {Z : State} {a0 : Array Value} (hw : own_Z Z a0) : (Jvm.Cond.initialized "java/util/Arrays").before a0 Z = true := hw _ (List.mem_of_getElem? (i := 47) rfl)
theorem own_w48 {Z : State} {a0 : Array Value} (hw : own_Z Z a0) : (Jvm.Cond.code ({ cls := "java/util/Arrays", name := "copyOf", desc := "([II)[I" } : Jvm.MethodName) jdk_65_method_123_code (3 : Nat) (Option.some (Jvm.ClassFile.FieldType.array Jvm.ClassFile.FieldType.int))).before a0 Z = true := hw _ (List.mem_of_getElem? (i := 48) rfl)
theorem own_w49 {Z : State} {a0 : Array Value} (hw : own_Z Z a0) : (Jvm.Cond.methodLink "java/util/Arrays" (304 : Nat) ({ cls := "java/lang/Math", name := "min", desc := "(II)I" } : Jvm.MethodName)).before a0 Z = true := hw _ (List.mem_of_getElem? (i := 49) rfl)
theorem own_w50 {Z : State} {a0 : Array Value} (hw : own_Z Z a0) : (Jvm.Cond.static ({ cls := "java/lang/Math", name := "min", desc := "(II)I" } : Jvm.MethodName)).before a0 Z = true := hw _ (List.mem_of_getElem? (i := 50) rfl)
theorem own_w51 {Z : State} {a0 : Array Value} (hw : own_Z Z a0) : (Jvm.Cond.initialized "java/lang/Math").before a0 Z = true := hw _ (List.mem_of_getElem? (i := 51) rfl)
theorem own_w52 {Z : State} {a0 : Array Value} (hw : own_Z Z a0) : (Jvm.Cond.code ({ cls := "java/lang/Math", name := "min", desc := "(II)I" } : Jvm.MethodName) jdk_29_method_69_code (2 : Nat) (Option.some Jvm.ClassFile.FieldType.int)).before a0 Z = true := hw _ (List.mem_of_getElem? (i := 52) rfl)
theorem own_w53 {Z : State} {a0 : Array Value} (hw : own_Z Z a0) : (Jvm.Cond.methodLink "java/util/Arrays" (150 : Nat) ({ cls := "java/lang/System", name := "arraycopy", desc := "(Ljava/lang/Object;ILjava/lang/Object;II)V" } : Jvm.MethodName)).before a0 Z = true := hw _ (List.mem_of_getElem? (i := 53) rfl)
theorem own_w54 {Z : State} {a0 : Array Value} (hw : own_Z Z a0) : (Jvm.Cond.static ({ cls := "java/lang/System", name := "arraycopy", desc := "(Ljava/lang/Object;ILjava/lang/Object;II)V" } : Jvm.MethodName)).before a0 Z = true := hw _ (List.mem_of_getElem? (i := 54) rfl)
theorem own_w55 {Z : State} {a0 : Array Value} (hw : own_Z Z a0) : (Jvm.Cond.initialized "java/lang/System").before a0 Z = true := hw _ (List.mem_of_getElem? (i := 55) rfl)
theorem own_w56 {Z : State} {a0 : Array Value} (hw : own_Z Z a0) : (Jvm.Cond.native ({ cls := "java/lang/System", name := "arraycopy", desc := "(Ljava/lang/Object;ILjava/lang/Object;II)V" } : Jvm.MethodName)).before a0 Z = true := hw _ (List.mem_of_getElem? (i := 56) rfl)
theorem own_w57 {Z : State} {a0 : Array Value} (hw : own_Z Z a0) : (Jvm.Cond.methodLink "com/example/fielder/fielder/service/ScoredDocuments" (27 : Nat) ({ cls := "java/util/Arrays", name := "copyOf", desc := "([DI)[D" } : Jvm.MethodName)).before a0 Z = true := hw _ (List.mem_of_getElem? (i := 57) rfl)
theorem own_w58 {Z : State} {a0 : Array Value} (hw : own_Z Z a0) : (Jvm.Cond.static ({ cls := "java/util/Arrays", name := "copyOf", desc := "([DI)[D" } : Jvm.MethodName)).before a0 Z = true := hw _ (List.mem_of_getElem? (i := 58) rfl)
theorem own_w59 {Z : State} {a0 : Array Value} (hw : own_Z Z a0) : (Jvm.Cond.code ({ cls := "java/util/Arrays", name := "copyOf", desc := "([DI)[D" } : Jvm.MethodName) jdk_65_method_127_code (3 : Nat) (Option.some (Jvm.ClassFile.FieldType.array Jvm.ClassFile.FieldType.double))).before a0 Z = true := hw _ (List.mem_of_getElem? (i := 59) rfl)
theorem own_d0_0 : own_D method_3_code 0 (.lload_n 0) 1 1 := ⟨by decide +kernel, rfl⟩
theorem own_d0_1 : own_D method_3_code 1 (.bipush 12) 2 3 := ⟨by decide +kernel, rfl⟩
theorem own_d0_3 : own_D method_3_code 3 (.iload_n 2) 1 4 := ⟨by decide +kernel, rfl⟩
theorem own_d0_4 : own_D method_3_code 4 (.imul) 1 5 := ⟨by decide +kernel, rfl⟩
theorem own_d0_5 : own_D method_3_code 5 (.lushr) 1 6 := ⟨by decide +kernel, rfl⟩
theorem own_d0_6 : own_D method_3_code 6 (.ldc2_w 32) 3 9 := ⟨by decide +kernel, rfl⟩
theorem own_d0_9 : own_D method_3_code 9 (.land) 1 10 := ⟨by decide +kernel, rfl⟩
theorem own_d0_10 : own_D method_3_code 10 (.l2i) 1 11 := ⟨by decide +kernel, rfl⟩
theorem own_d0_11 : own_D method_3_code 11 (.sipush 2048) 3 14 := ⟨by decide +kernel, rfl⟩
theorem own_d0_14 : own_D method_3_code 14 (.isub) 1 15 := ⟨by decide +kernel, rfl⟩
theorem own_d0_15 : own_D method_3_code 15 (.ireturn) 1 16 := ⟨by decide +kernel, rfl⟩
theorem own_d1_0 : own_D prog_38_method_1_code 0 (.aload_n 0) 1 1 := ⟨by decide +kernel, rfl⟩
theorem own_d1_1 : own_D prog_38_method_1_code 1 (.invokespecial 1) 3 4 := ⟨by decide +kernel, rfl⟩
theorem own_d1_4 : own_D prog_38_method_1_code 4 (.aload_n 0) 1 5 := ⟨by decide +kernel, rfl⟩
theorem own_d1_5 : own_D prog_38_method_1_code 5 (.iconst 4) 1 6 := ⟨by decide +kernel, rfl⟩
theorem own_d1_6 : own_D prog_38_method_1_code 6 (.newarray .int) 2 8 := ⟨by decide +kernel, rfl⟩
theorem own_d1_8 : own_D prog_38_method_1_code 8 (.putfield 7) 3 11 := ⟨by decide +kernel, rfl⟩
theorem own_d1_11 : own_D prog_38_method_1_code 11 (.aload_n 0) 1 12 := ⟨by decide +kernel, rfl⟩
theorem own_d1_12 : own_D prog_38_method_1_code 12 (.iconst 4) 1 13 := ⟨by decide +kernel, rfl⟩
theorem own_d1_13 : own_D prog_38_method_1_code 13 (.newarray .double) 2 15 := ⟨by decide +kernel, rfl⟩
theorem own_d1_15 : own_D prog_38_method_1_code 15 (.putfield 13) 3 18 := ⟨by decide +kernel, rfl⟩
theorem own_d1_18 : own_D prog_38_method_1_code 18 (.return_) 1 19 := ⟨by decide +kernel, rfl⟩
theorem own_d2_0 : own_D prog_38_method_3_code 0 (.aload_n 0) 1 1 := ⟨by decide +kernel, rfl⟩
theorem own_d2_1 : own_D prog_38_method_3_code 1 (.getfield 17) 3 4 := ⟨by decide +kernel, rfl⟩
theorem own_d2_4 : own_D prog_38_method_3_code 4 (.ireturn) 1 5 := ⟨by decide +kernel, rfl⟩
theorem own_d3_0 : own_D prog_38_method_5_code 0 (.aload_n 0) 1 1 := ⟨by decide +kernel, rfl⟩
theorem own_d3_1 : own_D prog_38_method_5_code 1 (.getfield 13) 3 4 := ⟨by decide +kernel, rfl⟩
theorem own_d3_4 : own_D prog_38_method_5_code 4 (.iload_n 1) 1 5 := ⟨by decide +kernel, rfl⟩
theorem own_d3_5 : own_D prog_38_method_5_code 5 (.daload) 1 6 := ⟨by decide +kernel, rfl⟩
theorem own_d3_6 : own_D prog_38_method_5_code 6 (.dreturn) 1 7 := ⟨by decide +kernel, rfl⟩
theorem own_d4_0 : own_D jdk_29_method_69_code 0 (.iload_n 0) 1 1 := ⟨by decide +kernel, rfl⟩
theorem own_d4_1 : own_D jdk_29_method_69_code 1 (.iload_n 1) 1 2 := ⟨by decide +kernel, rfl⟩
theorem own_d4_2 : own_B jdk_29_method_69_code 2 (.if_icmp .gt 7) 7 5 9 := ⟨by decide +kernel, rfl, by decide, by decide⟩
theorem own_d4_5 : own_D jdk_29_method_69_code 5 (.iload_n 0) 1 6 := ⟨by decide +kernel, rfl⟩
theorem own_d4_6 : own_B jdk_29_method_69_code 6 (.goto 4) 4 9 10 := ⟨by decide +kernel, rfl, by decide, by decide⟩
theorem own_d4_10 : own_D jdk_29_method_69_code 10 (.ireturn) 1 11 := ⟨by decide +kernel, rfl⟩
theorem own_d5_0 : own_D jdk_65_method_123_code 0 (.iload_n 1) 1 1 := ⟨by decide +kernel, rfl⟩
theorem own_d5_1 : own_D jdk_65_method_123_code 1 (.aload_n 0) 1 2 := ⟨by decide +kernel, rfl⟩
theorem own_d5_2 : own_D jdk_65_method_123_code 2 (.arraylength) 1 3 := ⟨by decide +kernel, rfl⟩
theorem own_d5_3 : own_B jdk_65_method_123_code 3 (.if_icmp .ne 11) 11 6 14 := ⟨by decide +kernel, rfl, by decide, by decide⟩
theorem own_d5_14 : own_D jdk_65_method_123_code 14 (.iload_n 1) 1 15 := ⟨by decide +kernel, rfl⟩
theorem own_d5_15 : own_D jdk_65_method_123_code 15 (.newarray .int) 2 17 := ⟨by decide +kernel, rfl⟩
theorem own_d5_17 : own_D jdk_65_method_123_code 17 (.astore_n 2) 1 18 := ⟨by decide +kernel, rfl⟩
theorem own_d5_18 : own_D jdk_65_method_123_code 18 (.aload_n 0) 1 19 := ⟨by decide +kernel, rfl⟩
theorem own_d5_19 : own_D jdk_65_method_123_code 19 (.iconst 0) 1 20 := ⟨by decide +kernel, rfl⟩
theorem own_d5_20 : own_D jdk_65_method_123_code 20 (.aload_n 2) 1 21 := ⟨by decide +kernel, rfl⟩
theorem own_d5_21 : own_D jdk_65_method_123_code 21 (.iconst 0) 1 22 := ⟨by decide +kernel, rfl⟩
theorem own_d5_22 : own_D jdk_65_method_123_code 22 (.aload_n 0) 1 23 := ⟨by decide +kernel, rfl⟩
theorem own_d5_23 : own_D jdk_65_method_123_code 23 (.arraylength) 1 24 := ⟨by decide +kernel, rfl⟩
theorem own_d5_24 : own_D jdk_65_method_123_code 24 (.iload_n 1) 1 25 := ⟨by decide +kernel, rfl⟩
theorem own_d5_25 : own_D jdk_65_method_123_code 25 (.invokestatic 304) 3 28 := ⟨by decide +kernel, rfl⟩
theorem own_d5_28 : own_D jdk_65_method_123_code 28 (.invokestatic 150) 3 31 := ⟨by decide +kernel, rfl⟩
theorem own_d5_31 : own_D jdk_65_method_123_code 31 (.aload_n 2) 1 32 := ⟨by decide +kernel, rfl⟩
theorem own_d5_32 : own_D jdk_65_method_123_code 32 (.areturn) 1 33 := ⟨by decide +kernel, rfl⟩
theorem own_d6_0 : own_D jdk_65_method_127_code 0 (.iload_n 1) 1 1 := ⟨by decide +kernel, rfl⟩
theorem own_d6_1 : own_D jdk_65_method_127_code 1 (.aload_n 0) 1 2 := ⟨by decide +kernel, rfl⟩
theorem own_d6_2 : own_D jdk_65_method_127_code 2 (.arraylength) 1 3 := ⟨by decide +kernel, rfl⟩
theorem own_d6_3 : own_B jdk_65_method_127_code 3 (.if_icmp .ne 11) 11 6 14 := ⟨by decide +kernel, rfl, by decide, by decide⟩
theorem own_d6_14 : own_D jdk_65_method_127_code 14 (.iload_n 1) 1 15 := ⟨by decide +kernel, rfl⟩
theorem own_d6_15 : own_D jdk_65_method_127_code 15 (.newarray .double) 2 17 := ⟨by decide +kernel, rfl⟩
theorem own_d6_17 : own_D jdk_65_method_127_code 17 (.astore_n 2) 1 18 := ⟨by decide +kernel, rfl⟩
theorem own_d6_18 : own_D jdk_65_method_127_code 18 (.aload_n 0) 1 19 := ⟨by decide +kernel, rfl⟩
theorem own_d6_19 : own_D jdk_65_method_127_code 19 (.iconst 0) 1 20 := ⟨by decide +kernel, rfl⟩
theorem own_d6_20 : own_D jdk_65_method_127_code 20 (.aload_n 2) 1 21 := ⟨by decide +kernel, rfl⟩
theorem own_d6_21 : own_D jdk_65_method_127_code 21 (.iconst 0) 1 22 := ⟨by decide +kernel, rfl⟩
theorem own_d6_22 : own_D jdk_65_method_127_code 22 (.aload_n 0) 1 23 := ⟨by decide +kernel, rfl⟩
theorem own_d6_23 : own_D jdk_65_method_127_code 23 (.arraylength) 1 24 := ⟨by decide +kernel, rfl⟩
theorem own_d6_24 : own_D jdk_65_method_127_code 24 (.iload_n 1) 1 25 := ⟨by decide +kernel, rfl⟩
theorem own_d6_25 : own_D jdk_65_method_127_code 25 (.invokestatic 304) 3 28 := ⟨by decide +kernel, rfl⟩
theorem own_d6_28 : own_D jdk_65_method_127_code 28 (.invokestatic 150) 3 31 := ⟨by decide +kernel, rfl⟩
theorem own_d6_31 : own_D jdk_65_method_127_code 31 (.aload_n 2) 1 32 := ⟨by decide +kernel, rfl⟩
theorem own_d6_32 : own_D jdk_65_method_127_code 32 (.areturn) 1 33 := ⟨by decide +kernel, rfl⟩
theorem own_d7_0 : own_D prog_38_method_2_code 0 (.aload_n 0) 1 1 := ⟨by decide +kernel, rfl⟩
theorem own_d7_1 : own_D prog_38_method_2_code 1 (.getfield 17) 3 4 := ⟨by decide +kernel, rfl⟩
theorem own_d7_4 : own_D prog_38_method_2_code 4 (.aload_n 0) 1 5 := ⟨by decide +kernel, rfl⟩
theorem own_d7_5 : own_D prog_38_method_2_code 5 (.getfield 7) 3 8 := ⟨by decide +kernel, rfl⟩
theorem own_d7_8 : own_D prog_38_method_2_code 8 (.arraylength) 1 9 := ⟨by decide +kernel, rfl⟩
theorem own_d7_9 : own_B prog_38_method_2_code 9 (.if_icmp .ne 37) 37 12 46 := ⟨by decide +kernel, rfl, by decide, by decide⟩
theorem own_d7_46 : own_D prog_38_method_2_code 46 (.aload_n 0) 1 47 := ⟨by decide +kernel, rfl⟩
theorem own_d7_47 : own_D prog_38_method_2_code 47 (.getfield 7) 3 50 := ⟨by decide +kernel, rfl⟩
theorem own_d7_50 : own_D prog_38_method_2_code 50 (.aload_n 0) 1 51 := ⟨by decide +kernel, rfl⟩
theorem own_d7_51 : own_D prog_38_method_2_code 51 (.getfield 17) 3 54 := ⟨by decide +kernel, rfl⟩
theorem own_d7_54 : own_D prog_38_method_2_code 54 (.iload_n 1) 1 55 := ⟨by decide +kernel, rfl⟩
theorem own_d7_55 : own_D prog_38_method_2_code 55 (.iastore) 1 56 := ⟨by decide +kernel, rfl⟩
theorem own_d7_56 : own_D prog_38_method_2_code 56 (.aload_n 0) 1 57 := ⟨by decide +kernel, rfl⟩
theorem own_d7_57 : own_D prog_38_method_2_code 57 (.getfield 13) 3 60 := ⟨by decide +kernel, rfl⟩
theorem own_d7_60 : own_D prog_38_method_2_code 60 (.aload_n 0) 1 61 := ⟨by decide +kernel, rfl⟩
theorem own_d7_61 : own_D prog_38_method_2_code 61 (.getfield 17) 3 64 := ⟨by decide +kernel, rfl⟩
theorem own_d7_64 : own_D prog_38_method_2_code 64 (.dload_n 2) 1 65 := ⟨by decide +kernel, rfl⟩
theorem own_d7_65 : own_D prog_38_method_2_code 65 (.dastore) 1 66 := ⟨by decide +kernel, rfl⟩
theorem own_d7_66 : own_D prog_38_method_2_code 66 (.aload_n 0) 1 67 := ⟨by decide +kernel, rfl⟩
theorem own_d7_67 : own_D prog_38_method_2_code 67 (.dup) 1 68 := ⟨by decide +kernel, rfl⟩
theorem own_d7_68 : own_D prog_38_method_2_code 68 (.getfield 17) 3 71 := ⟨by decide +kernel, rfl⟩
theorem own_d7_71 : own_D prog_38_method_2_code 71 (.iconst 1) 1 72 := ⟨by decide +kernel, rfl⟩
theorem own_d7_72 : own_D prog_38_method_2_code 72 (.iadd) 1 73 := ⟨by decide +kernel, rfl⟩
theorem own_d7_73 : own_D prog_38_method_2_code 73 (.putfield 17) 3 76 := ⟨by decide +kernel, rfl⟩
theorem own_d7_76 : own_D prog_38_method_2_code 76 (.return_) 1 77 := ⟨by decide +kernel, rfl⟩
theorem own_d7_12 : own_D prog_38_method_2_code 12 (.aload_n 0) 1 13 := ⟨by decide +kernel, rfl⟩
theorem own_d7_13 : own_D prog_38_method_2_code 13 (.aload_n 0) 1 14 := ⟨by decide +kernel, rfl⟩
theorem own_d7_14 : own_D prog_38_method_2_code 14 (.getfield 7) 3 17 := ⟨by decide +kernel, rfl⟩
theorem own_d7_17 : own_D prog_38_method_2_code 17 (.iconst 2) 1 18 := ⟨by decide +kernel, rfl⟩
theorem own_d7_18 : own_D prog_38_method_2_code 18 (.aload_n 0) 1 19 := ⟨by decide +kernel, rfl⟩
theorem own_d7_19 : own_D prog_38_method_2_code 19 (.getfield 17) 3 22 := ⟨by decide +kernel, rfl⟩
theorem own_d7_22 : own_D prog_38_method_2_code 22 (.imul) 1 23 := ⟨by decide +kernel, rfl⟩
theorem own_d7_23 : own_D prog_38_method_2_code 23 (.invokestatic 21) 3 26 := ⟨by decide +kernel, rfl⟩
theorem own_d7_26 : own_D prog_38_method_2_code 26 (.putfield 7) 3 29 := ⟨by decide +kernel, rfl⟩
theorem own_d7_29 : own_D prog_38_method_2_code 29 (.aload_n 0) 1 30 := ⟨by decide +kernel, rfl⟩
theorem own_d7_30 : own_D prog_38_method_2_code 30 (.aload_n 0) 1 31 := ⟨by decide +kernel, rfl⟩
theorem own_d7_31 : own_D prog_38_method_2_code 31 (.getfield 13) 3 34 := ⟨by decide +kernel, rfl⟩
theorem own_d7_34 : own_D prog_38_method_2_code 34 (.iconst 2) 1 35 := ⟨by decide +kernel, rfl⟩
theorem own_d7_35 : own_D prog_38_method_2_code 35 (.aload_n 0) 1 36 := ⟨by decide +kernel, rfl⟩
theorem own_d7_36 : own_D prog_38_method_2_code 36 (.getfield 17) 3 39 := ⟨by decide +kernel, rfl⟩
theorem own_d7_39 : own_D prog_38_method_2_code 39 (.imul) 1 40 := ⟨by decide +kernel, rfl⟩
theorem own_d7_40 : own_D prog_38_method_2_code 40 (.invokestatic 27) 3 43 := ⟨by decide +kernel, rfl⟩
theorem own_d7_43 : own_D prog_38_method_2_code 43 (.putfield 13) 3 46 := ⟨by decide +kernel, rfl⟩
theorem own_d8_0 : own_D prog_38_method_6_code 0 (.iconst 0) 1 1 := ⟨by decide +kernel, rfl⟩
theorem own_d8_1 : own_D prog_38_method_6_code 1 (.istore_n 3) 1 2 := ⟨by decide +kernel, rfl⟩
theorem own_d8_2 : own_D prog_38_method_6_code 2 (.iload_n 3) 1 3 := ⟨by decide +kernel, rfl⟩
theorem own_d8_3 : own_D prog_38_method_6_code 3 (.aload_n 0) 1 4 := ⟨by decide +kernel, rfl⟩
theorem own_d8_4 : own_D prog_38_method_6_code 4 (.getfield 17) 3 7 := ⟨by decide +kernel, rfl⟩
theorem own_d8_7 : own_B prog_38_method_6_code 7 (.if_icmp .ge 19) 19 10 26 := ⟨by decide +kernel, rfl, by decide, by decide⟩
theorem own_d8_26 : own_D prog_38_method_6_code 26 (.return_) 1 27 := ⟨by decide +kernel, rfl⟩
theorem own_d8_10 : own_D prog_38_method_6_code 10 (.aload_n 0) 1 11 := ⟨by decide +kernel, rfl⟩
theorem own_d8_11 : own_D prog_38_method_6_code 11 (.getfield 13) 3 14 := ⟨by decide +kernel, rfl⟩
theorem own_d8_14 : own_D prog_38_method_6_code 14 (.iload_n 3) 1 15 := ⟨by decide +kernel, rfl⟩
theorem own_d8_15 : own_D prog_38_method_6_code 15 (.dup2) 1 16 := ⟨by decide +kernel, rfl⟩
theorem own_d8_16 : own_D prog_38_method_6_code 16 (.daload) 1 17 := ⟨by decide +kernel, rfl⟩
theorem own_d8_17 : own_D prog_38_method_6_code 17 (.dload_n 1) 1 18 := ⟨by decide +kernel, rfl⟩
theorem own_d8_18 : own_D prog_38_method_6_code 18 (.dmul) 1 19 := ⟨by decide +kernel, rfl⟩
theorem own_d8_19 : own_D prog_38_method_6_code 19 (.dastore) 1 20 := ⟨by decide +kernel, rfl⟩
theorem own_d8_20 : own_D prog_38_method_6_code 20 (.iinc 3 1) 3 23 := ⟨by decide +kernel, rfl⟩
theorem own_d8_23 : own_B prog_38_method_6_code 23 (.goto (-21)) (-21) 26 2 := ⟨by decide +kernel, rfl, by decide, by decide⟩
theorem own_d9_0 : own_D method_4_code 0 (.iload_n 2) 1 1 := ⟨by decide +kernel, rfl⟩
theorem own_d9_1 : own_D method_4_code 1 (.iload_n 1) 1 2 := ⟨by decide +kernel, rfl⟩
theorem own_d9_2 : own_B method_4_code 2 (.if_icmp .ge 19) 19 5 21 := ⟨by decide +kernel, rfl, by decide, by decide⟩
theorem own_d9_21 : own_D method_4_code 21 (.iconst 1) 1 22 := ⟨by decide +kernel, rfl⟩
theorem own_d9_22 : own_B method_4_code 22 (.goto 4) 4 25 26 := ⟨by decide +kernel, rfl, by decide, by decide⟩
theorem own_d9_26 : own_D method_4_code 26 (.ireturn) 1 27 := ⟨by decide +kernel, rfl⟩
theorem own_d9_5 : own_D method_4_code 5 (.aload_n 0) 1 6 := ⟨by decide +kernel, rfl⟩
theorem own_d9_6 : own_D method_4_code 6 (.iload_n 2) 1 7 := ⟨by decide +kernel, rfl⟩
theorem own_d9_7 : own_D method_4_code 7 (.invokevirtual 34) 3 10 := ⟨by decide +kernel, rfl⟩
theorem own_d9_10 : own_D method_4_code 10 (.iload_n 3) 1 11 := ⟨by decide +kernel, rfl⟩
theorem own_d9_11 : own_D method_4_code 11 (.i2l) 1 12 := ⟨by decide +kernel, rfl⟩
theorem own_d9_12 : own_D method_4_code 12 (.iload 4) 2 14 := ⟨by decide +kernel, rfl⟩
theorem own_d9_14 : own_D method_4_code 14 (.i2l) 1 15 := ⟨by decide +kernel, rfl⟩
theorem own_d9_15 : own_D method_4_code 15 (.lmul) 1 16 := ⟨by decide +kernel, rfl⟩
theorem own_d9_16 : own_D method_4_code 16 (.l2d) 1 17 := ⟨by decide +kernel, rfl⟩
theorem own_d9_17 : own_D method_4_code 17 (.dcmp .l) 1 18 := ⟨by decide +kernel, rfl⟩
theorem own_d9_18 : own_B method_4_code 18 (.ifCond .ne 7) 7 21 25 := ⟨by decide +kernel, rfl, by decide, by decide⟩
theorem own_d10_0 : own_D code 0 (.iload_n 0) 1 1 := ⟨by decide +kernel, rfl⟩
theorem own_d10_1 : own_D code 1 (.bipush 7) 2 3 := ⟨by decide +kernel, rfl⟩
theorem own_d10_3 : own_D code 3 (.iand) 1 4 := ⟨by decide +kernel, rfl⟩
theorem own_d10_4 : own_D code 4 (.bipush 6) 2 6 := ⟨by decide +kernel, rfl⟩
theorem own_d10_6 : own_D code 6 (.irem) 1 7 := ⟨by decide +kernel, rfl⟩
theorem own_d10_7 : own_D code 7 (.istore 4) 2 9 := ⟨by decide +kernel, rfl⟩
theorem own_d10_9 : own_D code 9 (.lload_n 1) 1 10 := ⟨by decide +kernel, rfl⟩
theorem own_d10_10 : own_D code 10 (.iconst 0) 1 11 := ⟨by decide +kernel, rfl⟩
theorem own_d10_11 : own_D code 11 (.invokestatic 7) 3 14 := ⟨by decide +kernel, rfl⟩
theorem own_d10_14 : own_D code 14 (.istore 5) 2 16 := ⟨by decide +kernel, rfl⟩
theorem own_d10_16 : own_D code 16 (.lload_n 1) 1 17 := ⟨by decide +kernel, rfl⟩
theorem own_d10_17 : own_D code 17 (.iconst 1) 1 18 := ⟨by decide +kernel, rfl⟩
theorem own_d10_18 : own_D code 18 (.invokestatic 7) 3 21 := ⟨by decide +kernel, rfl⟩
theorem own_d10_21 : own_D code 21 (.istore 6) 2 23 := ⟨by decide +kernel, rfl⟩
theorem own_d10_23 : own_D code 23 (.lload_n 1) 1 24 := ⟨by decide +kernel, rfl⟩
theorem own_d10_24 : own_D code 24 (.iconst 2) 1 25 := ⟨by decide +kernel, rfl⟩
theorem own_d10_25 : own_D code 25 (.invokestatic 7) 3 28 := ⟨by decide +kernel, rfl⟩
theorem own_d10_28 : own_D code 28 (.istore 7) 2 30 := ⟨by decide +kernel, rfl⟩
theorem own_d10_30 : own_D code 30 (.lload_n 1) 1 31 := ⟨by decide +kernel, rfl⟩
theorem own_d10_31 : own_D code 31 (.iconst 3) 1 32 := ⟨by decide +kernel, rfl⟩
theorem own_d10_32 : own_D code 32 (.invokestatic 7) 3 35 := ⟨by decide +kernel, rfl⟩
theorem own_d10_35 : own_D code 35 (.istore 8) 2 37 := ⟨by decide +kernel, rfl⟩
theorem own_d10_37 : own_D code 37 (.lload_n 1) 1 38 := ⟨by decide +kernel, rfl⟩
theorem own_d10_38 : own_D code 38 (.iconst 4) 1 39 := ⟨by decide +kernel, rfl⟩
theorem own_d10_39 : own_D code 39 (.invokestatic 7) 3 42 := ⟨by decide +kernel, rfl⟩
theorem own_d10_42 : own_D code 42 (.istore 9) 2 44 := ⟨by decide +kernel, rfl⟩
theorem own_d10_44 : own_D code 44 (.new 13) 3 47 := ⟨by decide +kernel, rfl⟩
theorem own_d10_47 : own_D code 47 (.dup) 1 48 := ⟨by decide +kernel, rfl⟩
theorem own_d10_48 : own_D code 48 (.invokespecial 15) 3 51 := ⟨by decide +kernel, rfl⟩
theorem own_d10_51 : own_D code 51 (.astore 10) 2 53 := ⟨by decide +kernel, rfl⟩
theorem own_d10_53 : own_D code 53 (.iload 4) 2 55 := ⟨by decide +kernel, rfl⟩
theorem own_d10_55 : own_B code 55 (.ifCond .le 12) 12 58 67 := ⟨by decide +kernel, rfl, by decide, by decide⟩
theorem own_d10_67 : own_D code 67 (.iload 4) 2 69 := ⟨by decide +kernel, rfl⟩
theorem own_d10_69 : own_D code 69 (.iconst 1) 1 70 := ⟨by decide +kernel, rfl⟩
theorem own_d10_70 : own_B code 70 (.if_icmp .le 13) 13 73 83 := ⟨by decide +kernel, rfl, by decide, by decide⟩
theorem own_d10_83 : own_D code 83 (.iload 4) 2 85 := ⟨by decide +kernel, rfl⟩
theorem own_d10_85 : own_D code 85 (.iconst 2) 1 86 := ⟨by decide +kernel, rfl⟩
theorem own_d10_86 : own_B code 86 (.if_icmp .le 13) 13 89 99 := ⟨by decide +kernel, rfl, by decide, by decide⟩
theorem own_d10_99 : own_D code 99 (.iload 4) 2 101 := ⟨by decide +kernel, rfl⟩
theorem own_d10_101 : own_D code 101 (.iconst 3) 1 102 := ⟨by decide +kernel, rfl⟩
theorem own_d10_102 : own_B code 102 (.if_icmp .le 13) 13 105 115 := ⟨by decide +kernel, rfl, by decide, by decide⟩
theorem own_d10_115 : own_D code 115 (.iload 4) 2 117 := ⟨by decide +kernel, rfl⟩
theorem own_d10_117 : own_D code 117 (.iconst 4) 1 118 := ⟨by decide +kernel, rfl⟩
theorem own_d10_118 : own_B code 118 (.if_icmp .le 13) 13 121 131 := ⟨by decide +kernel, rfl, by decide, by decide⟩
theorem own_d10_131 : own_D code 131 (.aload 10) 2 133 := ⟨by decide +kernel, rfl⟩
theorem own_d10_133 : own_D code 133 (.iload_n 3) 1 134 := ⟨by decide +kernel, rfl⟩
theorem own_d10_134 : own_D code 134 (.i2d) 1 135 := ⟨by decide +kernel, rfl⟩
theorem own_d10_135 : own_D code 135 (.invokevirtual 20) 3 138 := ⟨by decide +kernel, rfl⟩
theorem own_d10_138 : own_D code 138 (.aload 10) 2 140 := ⟨by decide +kernel, rfl⟩
theorem own_d10_140 : own_D code 140 (.invokevirtual 24) 3 143 := ⟨by decide +kernel, rfl⟩
theorem own_d10_143 : own_D code 143 (.iload 4) 2 145 := ⟨by decide +kernel, rfl⟩
theorem own_d10_145 : own_B code 145 (.if_icmp .ne 77) 77 148 222 := ⟨by decide +kernel, rfl, by decide, by decide⟩
theorem own_d10_148 : own_D code 148 (.aload 10) 2 150 := ⟨by decide +kernel, rfl⟩
theorem own_d10_150 : own_D code 150 (.iload 4) 2 152 := ⟨by decide +kernel, rfl⟩
theorem own_d10_152 : own_D code 152 (.iconst 0) 1 153 := ⟨by decide +kernel, rfl⟩
theorem own_d10_153 : own_D code 153 (.iload 5) 2 155 := ⟨by decide +kernel, rfl⟩
theorem own_d10_155 : own_D code 155 (.iload_n 3) 1 156 := ⟨by decide +kernel, rfl⟩
theorem own_d10_156 : own_D code 156 (.invokestatic 28) 3 159 := ⟨by decide +kernel, rfl⟩
theorem own_d10_159 : own_B code 159 (.ifCond .eq 63) 63 162 222 := ⟨by decide +kernel, rfl, by decide, by decide⟩
theorem own_d10_162 : own_D code 162 (.aload 10) 2 164 := ⟨by decide +kernel, rfl⟩
theorem own_d10_164 : own_D code 164 (.iload 4) 2 166 := ⟨by decide +kernel, rfl⟩
theorem own_d10_166 : own_D code 166 (.iconst 1) 1 167 := ⟨by decide +kernel, rfl⟩
theorem own_d10_167 : own_D code 167 (.iload 6) 2 169 := ⟨by decide +kernel, rfl⟩
theorem own_d10_169 : own_D code 169 (.iload_n 3) 1 170 := ⟨by decide +kernel, rfl⟩
theorem own_d10_170 : own_D code 170 (.invokestatic 28) 3 173 := ⟨by decide +kernel, rfl⟩
theorem own_d10_173 : own_B code 173 (.ifCond .eq 49) 49 176 222 := ⟨by decide +kernel, rfl, by decide, by decide⟩
theorem own_d10_176 : own_D code 176 (.aload 10) 2 178 := ⟨by decide +kernel, rfl⟩
theorem own_d10_178 : own_D code 178 (.iload 4) 2 180 := ⟨by decide +kernel, rfl⟩
theorem own_d10_180 : own_D code 180 (.iconst 2) 1 181 := ⟨by decide +kernel, rfl⟩
theorem own_d10_181 : own_D code 181 (.iload 7) 2 183 := ⟨by decide +kernel, rfl⟩
theorem own_d10_183 : own_D code 183 (.iload_n 3) 1 184 := ⟨by decide +kernel, rfl⟩
theorem own_d10_184 : own_D code 184 (.invokestatic 28) 3 187 := ⟨by decide +kernel, rfl⟩
theorem own_d10_187 : own_B code 187 (.ifCond .eq 35) 35 190 222 := ⟨by decide +kernel, rfl, by decide, by decide⟩
theorem own_d10_190 : own_D code 190 (.aload 10) 2 192 := ⟨by decide +kernel, rfl⟩
theorem own_d10_192 : own_D code 192 (.iload 4) 2 194 := ⟨by decide +kernel, rfl⟩
theorem own_d10_194 : own_D code 194 (.iconst 3) 1 195 := ⟨by decide +kernel, rfl⟩
theorem own_d10_195 : own_D code 195 (.iload 8) 2 197 := ⟨by decide +kernel, rfl⟩
theorem own_d10_197 : own_D code 197 (.iload_n 3) 1 198 := ⟨by decide +kernel, rfl⟩
theorem own_d10_198 : own_D code 198 (.invokestatic 28) 3 201 := ⟨by decide +kernel, rfl⟩
theorem own_d10_201 : own_B code 201 (.ifCond .eq 21) 21 204 222 := ⟨by decide +kernel, rfl, by decide, by decide⟩
theorem own_d10_204 : own_D code 204 (.aload 10) 2 206 := ⟨by decide +kernel, rfl⟩
theorem own_d10_206 : own_D code 206 (.iload 4) 2 208 := ⟨by decide +kernel, rfl⟩
theorem own_d10_208 : own_D code 208 (.iconst 4) 1 209 := ⟨by decide +kernel, rfl⟩
theorem own_d10_209 : own_D code 209 (.iload 9) 2 211 := ⟨by decide +kernel, rfl⟩
theorem own_d10_211 : own_D code 211 (.iload_n 3) 1 212 := ⟨by decide +kernel, rfl⟩
theorem own_d10_212 : own_D code 212 (.invokestatic 28) 3 215 := ⟨by decide +kernel, rfl⟩
theorem own_d10_215 : own_B code 215 (.ifCond .eq 7) 7 218 222 := ⟨by decide +kernel, rfl, by decide, by decide⟩
theorem own_d10_218 : own_D code 218 (.iconst 1) 1 219 := ⟨by decide +kernel, rfl⟩
theorem own_d10_219 : own_B code 219 (.goto 4) 4 222 223 := ⟨by decide +kernel, rfl, by decide, by decide⟩
theorem own_d10_223 : own_D code 223 (.ireturn) 1 224 := ⟨by decide +kernel, rfl⟩
theorem own_d10_58 : own_D code 58 (.aload 10) 2 60 := ⟨by decide +kernel, rfl⟩
theorem own_d10_60 : own_D code 60 (.iconst 0) 1 61 := ⟨by decide +kernel, rfl⟩
theorem own_d10_61 : own_D code 61 (.iload 5) 2 63 := ⟨by decide +kernel, rfl⟩
theorem own_d10_63 : own_D code 63 (.i2d) 1 64 := ⟨by decide +kernel, rfl⟩
theorem own_d10_64 : own_D code 64 (.invokevirtual 16) 3 67 := ⟨by decide +kernel, rfl⟩
theorem own_d10_73 : own_D code 73 (.aload 10) 2 75 := ⟨by decide +kernel, rfl⟩
theorem own_d10_75 : own_D code 75 (.bipush 10) 2 77 := ⟨by decide +kernel, rfl⟩
theorem own_d10_77 : own_D code 77 (.iload 6) 2 79 := ⟨by decide +kernel, rfl⟩
theorem own_d10_79 : own_D code 79 (.i2d) 1 80 := ⟨by decide +kernel, rfl⟩
theorem own_d10_80 : own_D code 80 (.invokevirtual 16) 3 83 := ⟨by decide +kernel, rfl⟩
theorem own_d10_89 : own_D code 89 (.aload 10) 2 91 := ⟨by decide +kernel, rfl⟩
theorem own_d10_91 : own_D code 91 (.bipush 20) 2 93 := ⟨by decide +kernel, rfl⟩
theorem own_d10_93 : own_D code 93 (.iload 7) 2 95 := ⟨by decide +kernel, rfl⟩
theorem own_d10_95 : own_D code 95 (.i2d) 1 96 := ⟨by decide +kernel, rfl⟩
theorem own_d10_96 : own_D code 96 (.invokevirtual 16) 3 99 := ⟨by decide +kernel, rfl⟩
theorem own_d10_105 : own_D code 105 (.aload 10) 2 107 := ⟨by decide +kernel, rfl⟩
theorem own_d10_107 : own_D code 107 (.bipush 30) 2 109 := ⟨by decide +kernel, rfl⟩
theorem own_d10_109 : own_D code 109 (.iload 8) 2 111 := ⟨by decide +kernel, rfl⟩
theorem own_d10_111 : own_D code 111 (.i2d) 1 112 := ⟨by decide +kernel, rfl⟩
theorem own_d10_112 : own_D code 112 (.invokevirtual 16) 3 115 := ⟨by decide +kernel, rfl⟩
theorem own_d10_121 : own_D code 121 (.aload 10) 2 123 := ⟨by decide +kernel, rfl⟩
theorem own_d10_123 : own_D code 123 (.bipush 40) 2 125 := ⟨by decide +kernel, rfl⟩
theorem own_d10_125 : own_D code 125 (.iload 9) 2 127 := ⟨by decide +kernel, rfl⟩
theorem own_d10_127 : own_D code 127 (.i2d) 1 128 := ⟨by decide +kernel, rfl⟩
theorem own_d10_128 : own_D code 128 (.invokevirtual 16) 3 131 := ⟨by decide +kernel, rfl⟩
theorem own_pd0 : parseMethodDescriptor "(II)I" = some ⟨[.int, .int], some .int⟩ := by decide +kernel
theorem own_pd1 : parseMethodDescriptor "([II)[I" = some ⟨[(.array .int), .int], some (.array .int)⟩ := by decide +kernel
theorem own_pd2 : parseMethodDescriptor "([DI)[D" = some ⟨[(.array .double), .int], some (.array .double)⟩ := by decide +kernel
theorem own_pd3 : parseMethodDescriptor "(I)D" = some ⟨[.int], some .double⟩ := by decide +kernel
theorem own_pd4 : parseMethodDescriptor "(JI)I" = some ⟨[.long, .int], some .int⟩ := by decide +kernel
theorem own_pd5 : parseMethodDescriptor "()V" = some ⟨[], none⟩ := by decide +kernel
theorem own_pd6 : parseMethodDescriptor "(D)V" = some ⟨[.double], none⟩ := by decide +kernel
theorem own_pd7 : parseMethodDescriptor "()I" = some ⟨[], some .int⟩ := by decide +kernel
theorem own_pd8 : parseMethodDescriptor "(Lcom/example/fielder/fielder/service/ScoredDocuments;IIII)Z" = some ⟨[(.object "com/example/fielder/fielder/service/ScoredDocuments"), .int, .int, .int, .int], some .boolean⟩ := by decide +kernel
theorem own_pd9 : parseMethodDescriptor "(ID)V" = some ⟨[.int, .double], none⟩ := by decide +kernel
abbrev own_SD (a : Addr) (f0 f1 f2 : Value) : own_O := (a, "com/example/fielder/fielder/service/ScoredDocuments", [("com/example/fielder/fielder/service/ScoredDocuments", "documents", "[I", f0), ("com/example/fielder/fielder/service/ScoredDocuments", "scores", "[D", f1), ("com/example/fielder/fielder/service/ScoredDocuments", "size", "I", f2)])
theorem own_SD_F {Z : State} {a0 : Array Value} (hw : own_Z Z a0) : ∀ f ∈ ([("com/example/fielder/fielder/service/ScoredDocuments", "documents", "[I", .null), ("com/example/fielder/fielder/service/ScoredDocuments", "scores", "[D", .null), ("com/example/fielder/fielder/service/ScoredDocuments", "size", "I", (.int (0 : Int32)))] : List (String × String × String × Value)), Laid Z a0 "com/example/fielder/fielder/service/ScoredDocuments" f.1 f.2.1 f.2.2.1 ∧ ∃ ty, parseFieldDescriptor f.2.2.1 = some ty ∧ f.2.2.2 = defaultValue ty := by
  intro f hf
  simp only [List.mem_cons, List.not_mem_nil, or_false] at hf
  rcases hf with rfl | rfl | rfl
  · exact ⟨Or.inl (own_w16 hw), (.array .int), by decide +kernel, rfl⟩
  · exact ⟨Or.inl (own_w19 hw), (.array .double), by decide +kernel, rfl⟩
  · exact ⟨Or.inl (own_w26 hw), .int, by decide +kernel, rfl⟩
theorem own_SD_P {Z : State} {a0 : Array Value} (hw : own_Z Z a0) : ([("com/example/fielder/fielder/service/ScoredDocuments", "documents", "[I", .null), ("com/example/fielder/fielder/service/ScoredDocuments", "scores", "[D", .null), ("com/example/fielder/fielder/service/ScoredDocuments", "size", "I", (.int (0 : Int32)))] : List (String × String × String × Value)).Pairwise (fun f g => Jvm.RoadKit.slotOf Z f.1 f.2.1 f.2.2.1 ≠ Jvm.RoadKit.slotOf Z g.1 g.2.1 g.2.2.1) := by
  simp only [List.pairwise_cons, List.mem_cons, List.not_mem_nil, or_false, forall_eq_or_imp, forall_eq, List.Pairwise.nil, and_true, false_implies, implies_true]
  exact ⟨⟨slot_ne (C := "com/example/fielder/fielder/service/ScoredDocuments") (Or.inl (own_w16 hw)) (Or.inl (own_w19 hw)) (by decide) (t := (.array .int)) (by decide +kernel) (t' := (.array .double)) (by decide +kernel), slot_ne (C := "com/example/fielder/fielder/service/ScoredDocuments") (Or.inl (own_w16 hw)) (Or.inl (own_w26 hw)) (by decide) (t := (.array .int)) (by decide +kernel) (t' := .int) (by decide +kernel)⟩, slot_ne (C := "com/example/fielder/fielder/service/ScoredDocuments") (Or.inl (own_w19 hw)) (Or.inl (own_w26 hw)) (by decide) (t := (.array .double)) (by decide +kernel) (t' := .int) (by decide +kernel)⟩

theorem own_and3 (k : Int32) : k &&& 3 = 0 ∨ k &&& 3 = 1 ∨ k &&& 3 = 2 ∨ k &&& 3 = 3 := by
  have h : ∀ b : BitVec 32, b &&& 3#32 = 0#32 ∨ b &&& 3#32 = 1#32 ∨ b &&& 3#32 = 2#32 ∨ b &&& 3#32 = 3#32 := by
    intro b
    have q : (b &&& 3#32).toNat ≤ 3 := by rw [BitVec.toNat_and]; exact Nat.and_le_right
    bv_omega
  rcases h k.toBitVec with q | q | q | q
  · exact Or.inl (Int32.toBitVec_inj.mp q)
  · exact Or.inr (Or.inl (Int32.toBitVec_inj.mp q))
  · exact Or.inr (Or.inr (Or.inl (Int32.toBitVec_inj.mp q)))
  · exact Or.inr (Or.inr (Or.inr (Int32.toBitVec_inj.mp q)))
theorem own_and_bound (a b : Int32) (hb : 0 ≤ b.toInt) : 0 ≤ (a &&& b).toInt ∧ (a &&& b).toInt ≤ b.toInt := by
  have q : (a &&& b).toBitVec.toNat ≤ b.toBitVec.toNat := by
    show (a.toBitVec &&& b.toBitVec).toNat ≤ _
    rw [BitVec.toNat_and]; exact Nat.and_le_right
  have hb' : b.toInt = (b.toBitVec.toNat : Int) := by
    have : b.toInt = b.toBitVec.toInt := rfl
    rw [this] at hb ⊢
    rw [BitVec.toInt_eq_toNat_cond] at hb ⊢
    have := b.toBitVec.isLt
    split at hb <;> split <;> omega
  have hlt : 2 * b.toBitVec.toNat < 2 ^ 32 := by have := Int32.toInt_lt b; omega
  have : (a &&& b).toInt = (a &&& b).toBitVec.toInt := rfl
  rw [this, BitVec.toInt_eq_toNat_cond]
  split <;> omega
theorem own_add32 {a b : Int32} (h1 : -2147483648 ≤ a.toInt + b.toInt) (h2 : a.toInt + b.toInt ≤ 2147483647) : (a + b).toInt = a.toInt + b.toInt := by
  rw [Int32.toInt_add]; exact Int.bmod_eq_of_le (by omega) (by omega)
theorem own_sub32 {a b : Int32} (h1 : -2147483648 ≤ a.toInt - b.toInt) (h2 : a.toInt - b.toInt ≤ 2147483647) : (a - b).toInt = a.toInt - b.toInt := by
  rw [Int32.toInt_sub]; exact Int.bmod_eq_of_le (by omega) (by omega)
theorem own_mul32 {a b : Int32} (h1 : -2147483648 ≤ a.toInt * b.toInt) (h2 : a.toInt * b.toInt ≤ 2147483647) : (a * b).toInt = a.toInt * b.toInt := by
  rw [Int32.toInt_mul]; exact Int.bmod_eq_of_le (by omega) (by omega)
theorem own_rem32 {a b : Int32} (ha : 0 ≤ a.toInt) (hb : 0 < b.toInt) : 0 ≤ (a % b).toInt ∧ (a % b).toInt < b.toInt := by
  rw [Int32.toInt_mod]
  have h1 := Int.tmod_nonneg b.toInt ha
  have h2 := Int.tmod_lt_of_pos a.toInt hb
  omega
theorem own_i64 (a : Int32) : a.toInt64.toInt = a.toInt := by simp

theorem own_drawn (x : Int64) : -2048 ≤ ((x &&& 4095).toInt32 - 2048).toInt ∧ ((x &&& 4095).toInt32 - 2048).toInt ≤ 2047 := by
  have q : (x &&& 4095).toBitVec.toNat ≤ 4095 := by
    show (x.toBitVec &&& 4095#64).toNat ≤ _
    rw [BitVec.toNat_and]; exact Nat.and_le_right
  have e1 : (x &&& 4095).toInt = ((x &&& 4095).toBitVec.toNat : Int) := by
    show (x &&& 4095).toBitVec.toInt = _
    rw [BitVec.toInt_eq_toNat_cond]; split <;> omega
  have e2 : (x &&& 4095).toInt32.toInt = (x &&& 4095).toInt := by
    rw [Int64.toInt_toInt32]; exact Int.bmod_eq_of_le (by omega) (by omega)
  have e3 : (2048 : Int32).toInt = 2048 := rfl
  rw [own_sub32 (by omega) (by omega)]; omega
theorem own_prod {s f : Int32} (h1 : -2048 ≤ s.toInt) (h2 : s.toInt ≤ 2047) : cmpValue (FP.dcmp (FP.dmul (FP.i2d s) (FP.i2d f)) (FP.l2d (s.toInt64 * f.toInt64))) .l = 0 := by
  have f1 := Int32.toInt_lt f
  have f2 := Int32.le_toInt f
  have es := own_i64 s
  have ef := own_i64 f
  have bs : B53 s.toInt64 := by unfold B53; omega
  have bf : B53 f.toInt64 := by unfold B53; omega
  rw [i2d_w, i2d_w]
  by_cases z : s.toInt64 = 0 ∨ f.toInt64 = 0
  · have e0 : s.toInt64 * f.toInt64 = 0 := by rcases z with z | z <;> simp [z]
    rw [e0, dmul_z bs bf z, l2d_zero]
    split <;> decide +kernel
  · have hm : (s.toInt64.toInt * f.toInt64.toInt).natAbs ≤ 2048 * 2147483648 := by
      rw [Int.natAbs_mul]; exact Nat.mul_le_mul (by omega) (by omega)
    rw [dmul_w bs bf (fun q => z (Or.inl q)) (fun q => z (Or.inr q)) (by omega) (by omega)]
    exact dcmpV_self (Fl.l2d_fin _).noNaN _

set_option maxRecDepth 65536 in
set_option maxHeartbeats 40000000 in
theorem own_drawn_m_ef (m : MethodId) (x0 : Int64) (x1 : Int32) : entryFrame m #[(.long x0), (.int x1)] 3 = mkF m 0 #[.val (.long x0), .second, .val (.int x1)] [] := by first | (simp [entryFrame, mkF, argsToLocals, Value.category]; done) | rfl
set_option maxRecDepth 65536 in
set_option maxHeartbeats 40000000 in
theorem own_drawn_m {l : Launch} {Z : State} {a0 : Array Value} (hw : own_Z Z a0) {h : Heap} {pk : Int64} {i : Int32} : own_Met false l Z (⟨"com/example/fielder/fielder/service/ScoredDocumentsMultiplyScoresPinLaw", "drawn", "(JI)I"⟩ : MethodName) method_3_code 3 (some .int) [] ({ frames := 0, cells := 0, slots := 0, locals := 0 } : Room) #[(.long pk), (.int i)] h (fun v h' => (∃ z : Int32, v = some (.int z) ∧ -2048 ≤ z.toInt ∧ z.toInt ≤ 2047) ∧ h = h') := by
  refine own_met (by first | exact plainFor_of_name (by decide +kernel) | decide +kernel) ?_
  intro p e s m below meth c K
  refine own_cast (own_drawn_m_ef m _ _) ?_
  refine own_lloadN K own_d0_0 rfl ?_
  refine own_bipush K own_d0_1 (v := (12 : Int32)) rfl ?_
  refine own_iloadN K own_d0_3 rfl ?_
  refine own_imul K own_d0_4 ?_
  refine own_lushr K own_d0_5 ?_
  refine own_ldc2J K own_d0_6 (v := (4095 : Int64)) (own_w4 hw) ?_
  refine own_land K own_d0_9 ?_
  refine own_l2i K own_d0_10 ?_
  refine own_sipush K own_d0_11 (v := (2048 : Int32)) rfl ?_
  refine own_isub K own_d0_14 ?_
  exact own_retI K own_d0_15 (by decide) (by decide) (⟨⟨_, rfl, own_drawn _⟩, rfl⟩)
set_option maxRecDepth 65536 in
set_option maxHeartbeats 40000000 in
theorem own_init_ef (m : MethodId) (x0 : Addr) : entryFrame m #[(.ref x0)] 1 = mkF m 0 #[.val (.ref x0)] [] := by first | (simp [entryFrame, mkF, argsToLocals, Value.category]; done) | rfl
set_option maxRecDepth 65536 in
set_option maxHeartbeats 40000000 in
theorem own_init {l : Launch} {Z : State} {a0 : Array Value} (hw : own_Z Z a0) {h : Heap} {os : List own_O} {as : List own_A} {a : Addr} (H : own_H Z h (own_SD a .null .null (.int (0 : Int32)) :: os) as) : own_Met false l Z (⟨"com/example/fielder/fielder/service/ScoredDocuments", "<init>", "()V"⟩ : MethodName) prog_38_method_1_code 1 none [] ({ frames := 1, cells := 2, slots := 8, locals := 12 } : Room) #[(.ref a)] h (fun v h' => v = none ∧ ∃ sa da, own_H Z h' (own_SD a (.ref da) (.ref sa) (.int (0 : Int32)) :: os) ((sa, .double, "[D", [(.double (0 : UInt64)), (.double (0 : UInt64)), (.double (0 : UInt64)), (.double (0 : UInt64))]) :: (da, .int, "[I", [(.int (0 : Int32)), (.int (0 : Int32)), (.int (0 : Int32)), (.int (0 : Int32))]) :: as)) := by
  refine own_met (by first | exact plainFor_of_name (by decide +kernel) | decide +kernel) ?_
  intro p e s m below meth c K
  refine own_cast (own_init_ef m _) ?_
  refine own_aloadN K own_d1_0 rfl rfl ?_
  refine own_initO K own_d1_1 (own_w11 hw) (own_w12 hw) (own_w13 hw) rfl (by decide) (W := 0) (Nat.le_of_eq rfl) (by decide) ?_
  refine own_aloadN K own_d1_4 rfl rfl ?_
  refine own_iconst K own_d1_5 (v := (4 : Int32)) rfl ?_
  refine own_newarray K own_d1_6 (ty := .int) rfl (own_w14 hw) H (q := 4) (by decide) (ad := "[I") (by decide +kernel) (vs := [(.int (0 : Int32)), (.int (0 : Int32)), (.int (0 : Int32)), (.int (0 : Int32))]) rfl (by decide) (by decide) (by decide) ?_
  intro h1 a3 H2
  replace H2 : own_H Z h1 (own_SD a .null .null (.int (0 : Int32)) :: os) ((a3, .int, "[I", [(.int (0 : Int32)), (.int (0 : Int32)), (.int (0 : Int32)), (.int (0 : Int32))]) :: as) := H2
  refine own_putfield K own_d1_8 (host := "") (Or.inl (own_w15 hw)) Via.refl H2 (j := 0) rfl (q := 0) rfl (Or.inl (own_w16 hw)) (own_w6 hw) (ty := (.array .int)) (by decide +kernel) (rfl) rfl ?_
  intro h4 H5
  replace H5 : own_H Z h4 (own_SD a (.ref a3) .null (.int (0 : Int32)) :: os) ((a3, .int, "[I", [(.int (0 : Int32)), (.int (0 : Int32)), (.int (0 : Int32)), (.int (0 : Int32))]) :: as) := H5
  refine own_aloadN K own_d1_11 rfl rfl ?_
  refine own_iconst K own_d1_12 (v := (4 : Int32)) rfl ?_
  refine own_newarray K own_d1_13 (ty := .double) rfl (own_w17 hw) H5 (q := 4) (by decide) (ad := "[D") (by decide +kernel) (vs := [(.double (0 : UInt64)), (.double (0 : UInt64)), (.double (0 : UInt64)), (.double (0 : UInt64))]) rfl (by decide) (by decide) (by decide) ?_
  intro h6 a8 H7
  replace H7 : own_H Z h6 (own_SD a (.ref a3) .null (.int (0 : Int32)) :: os) ((a8, .double, "[D", [(.double (0 : UInt64)), (.double (0 : UInt64)), (.double (0 : UInt64)), (.double (0 : UInt64))]) :: (a3, .int, "[I", [(.int (0 : Int32)), (.int (0 : Int32)), (.int (0 : Int32)), (.int (0 : Int32))]) :: as) := H7
  refine own_putfield K own_d1_15 (host := "") (Or.inl (own_w18 hw)) Via.refl H7 (j := 0) rfl (q := 1) rfl (Or.inl (own_w19 hw)) (own_w6 hw) (ty := (.array .double)) (by decide +kernel) (rfl) rfl ?_
  intro h9 H10
  replace H10 : own_H Z h9 (own_SD a (.ref a3) (.ref a8) (.int (0 : Int32)) :: os) ((a8, .double, "[D", [(.double (0 : UInt64)), (.double (0 : UInt64)), (.double (0 : UInt64)), (.double (0 : UInt64))]) :: (a3, .int, "[I", [(.int (0 : Int32)), (.int (0 : Int32)), (.int (0 : Int32)), (.int (0 : Int32))]) :: as) := H10
  exact own_retV K own_d1_18 (by decide) (by decide) (⟨rfl, _, _, H10⟩)
set_option maxRecDepth 65536 in
set_option maxHeartbeats 40000000 in
theorem own_size_ef (m : MethodId) (x0 : Addr) : entryFrame m #[(.ref x0)] 1 = mkF m 0 #[.val (.ref x0)] [] := by first | (simp [entryFrame, mkF, argsToLocals, Value.category]; done) | rfl
set_option maxRecDepth 65536 in
set_option maxHeartbeats 40000000 in
theorem own_size {l : Launch} {Z : State} {a0 : Array Value} (hw : own_Z Z a0) {h : Heap} {os : List own_O} {as : List own_A} {a da sa : Addr} {n : Int32} (H : own_H Z h (own_SD a (.ref da) (.ref sa) (.int n) :: os) as) : own_Met false l Z (⟨"com/example/fielder/fielder/service/ScoredDocuments", "size", "()I"⟩ : MethodName) prog_38_method_3_code 1 (some .int) [] ({ frames := 0, cells := 0, slots := 0, locals := 0 } : Room) #[(.ref a)] h (fun v h' => v = some (.int n) ∧ h = h') := by
  refine own_met (by first | exact plainFor_of_name (by decide +kernel) | decide +kernel) ?_
  intro p e s m below meth c K
  refine own_cast (own_size_ef m _) ?_
  refine own_aloadN K own_d2_0 rfl rfl ?_
  refine own_getfield K own_d2_1 (host := "") (Or.inl (own_w25 hw)) Via.refl H (j := 0) rfl (q := 2) rfl ?_
  exact own_retI K own_d2_4 (by decide) (by decide) (⟨rfl, rfl⟩)
set_option maxRecDepth 65536 in
set_option maxHeartbeats 40000000 in
theorem own_score_ef (m : MethodId) (x0 : Addr) (x1 : Int32) : entryFrame m #[(.ref x0), (.int x1)] 2 = mkF m 0 #[.val (.ref x0), .val (.int x1)] [] := by first | (simp [entryFrame, mkF, argsToLocals, Value.category]; done) | rfl
set_option maxRecDepth 65536 in
set_option maxHeartbeats 40000000 in
theorem own_score {l : Launch} {Z : State} {a0 : Array Value} (hw : own_Z Z a0) {h : Heap} {os : List own_O} {as : List own_A} {a da sa : Addr} {n i : Int32} {vs : List Value} {q : Nat} {d : UInt64} (H : own_H Z h (own_SD a (.ref da) (.ref sa) (.int n) :: os) ((sa, .double, "[D", vs) :: as)) (hi : i.toInt = (q : Int)) (hv : vs[q]? = some (.double d)) : own_Met false l Z (⟨"com/example/fielder/fielder/service/ScoredDocuments", "score", "(I)D"⟩ : MethodName) prog_38_method_5_code 2 (some .double) [] ({ frames := 0, cells := 0, slots := 0, locals := 0 } : Room) #[(.ref a), (.int i)] h (fun v h' => v = some (.double d) ∧ h = h') := by
  refine own_met (by first | exact plainFor_of_name (by decide +kernel) | decide +kernel) ?_
  intro p e s m below meth c K
  refine own_cast (own_score_ef m _ _) ?_
  refine own_aloadN K own_d3_0 rfl rfl ?_
  refine own_getfield K own_d3_1 (host := "") (Or.inl (own_w18 hw)) Via.refl H (j := 0) rfl (q := 1) rfl ?_
  refine own_iloadN K own_d3_4 rfl ?_
  refine own_daload K own_d3_5 H (i := 0) rfl (q := q) (hi) (hv) ?_
  exact own_retD K own_d3_6 (by decide) (by decide) (⟨rfl, rfl⟩)
set_option maxRecDepth 65536 in
set_option maxHeartbeats 40000000 in
theorem own_min_ef (m : MethodId) (x0 : Int32) (x1 : Int32) : entryFrame m #[(.int x0), (.int x1)] 2 = mkF m 0 #[.val (.int x0), .val (.int x1)] [] := by first | (simp [entryFrame, mkF, argsToLocals, Value.category]; done) | rfl
set_option maxRecDepth 65536 in
set_option maxHeartbeats 40000000 in
theorem own_min {l : Launch} {Z : State} {a0 : Array Value} (hw : own_Z Z a0) {h : Heap} {x y : Int32} (hxy : x.toInt ≤ y.toInt) : own_Met false l Z (⟨"java/lang/Math", "min", "(II)I"⟩ : MethodName) jdk_29_method_69_code 2 (some .int) [] ({ frames := 0, cells := 0, slots := 0, locals := 0 } : Room) #[(.int x), (.int y)] h (fun v h' => v = some (.int x) ∧ h = h') := by
  refine own_met (by first | exact plainFor_of_name (by decide +kernel) | decide +kernel) ?_
  intro p e s m below meth c K
  refine own_cast (own_min_ef m _ _) ?_
  refine own_iloadN K own_d4_0 rfl ?_
  refine own_iloadN K own_d4_1 rfl ?_
  refine own_icmpgt K own_d4_2 (fun q => absurd q (Int.not_lt.mpr hxy)) (fun _ => ?_)
  refine own_iloadN K own_d4_5 rfl ?_
  refine own_goto K own_d4_6 ?_
  exact own_retI K own_d4_10 (by decide) (by decide) (⟨rfl, rfl⟩)
set_option maxRecDepth 65536 in
set_option maxHeartbeats 40000000 in
theorem own_cpi_ef (m : MethodId) (x0 : Addr) (x1 : Int32) : entryFrame m #[(.ref x0), (.int x1)] 3 = mkF m 0 #[.val (.ref x0), .val (.int x1), .unset] [] := by first | (simp [entryFrame, mkF, argsToLocals, Value.category]; done) | rfl
set_option maxRecDepth 65536 in
set_option maxHeartbeats 40000000 in
theorem own_cpi {l : Launch} {Z : State} {a0 : Array Value} (hw : own_Z Z a0) {h : Heap} {os : List own_O} {as : List own_A} {r : Addr} {x0 x1 x2 x3 : Value} (H : own_H Z h os ((r, .int, "[I", [x0, x1, x2, x3]) :: as)) : own_Met false l Z (⟨"java/util/Arrays", "copyOf", "([II)[I"⟩ : MethodName) jdk_65_method_123_code 3 (some (.array .int)) [] ({ frames := 1, cells := 1, slots := 8, locals := 40 } : Room) #[(.ref r), (.int (8 : Int32))] h (fun v h' => ∃ b, v = some (.ref b) ∧ own_H Z h' os ((b, .int, "[I", [x0, x1, x2, x3, (.int (0 : Int32)), (.int (0 : Int32)), (.int (0 : Int32)), (.int (0 : Int32))]) :: (r, .int, "[I", [x0, x1, x2, x3]) :: as)) := by
  refine own_met (by first | exact plainFor_of_name (by decide +kernel) | decide +kernel) ?_
  intro p e s m below meth c K
  refine own_cast (own_cpi_ef m _ _) ?_
  refine own_iloadN K own_d5_0 rfl ?_
  refine own_aloadN K own_d5_1 rfl rfl ?_
  refine own_arraylength K own_d5_2 H (i := 0) rfl (N := (4 : Int32)) (rfl) ?_
  refine own_icmpne K own_d5_3 (fun _ => ?_) (fun q => absurd (by decide) q)
  refine own_iloadN K own_d5_14 rfl ?_
  refine own_newarray K own_d5_15 (ty := .int) rfl (own_w14 hw) H (q := 8) (by decide) (ad := "[I") (by decide +kernel) (vs := [(.int (0 : Int32)), (.int (0 : Int32)), (.int (0 : Int32)), (.int (0 : Int32)), (.int (0 : Int32)), (.int (0 : Int32)), (.int (0 : Int32)), (.int (0 : Int32))]) rfl (by decide) (by decide) (by decide) ?_
  intro h1 a3 H2
  replace H2 : own_H Z h1 (os) ((a3, .int, "[I", [(.int (0 : Int32)), (.int (0 : Int32)), (.int (0 : Int32)), (.int (0 : Int32)), (.int (0 : Int32)), (.int (0 : Int32)), (.int (0 : Int32)), (.int (0 : Int32))]) :: (r, .int, "[I", [x0, x1, x2, x3]) :: as) := H2
  refine own_astoreN K own_d5_17 rfl (Ls' := #[.val (.ref r), .val (.int (8 : Int32)), .val (.ref a3)]) rfl ?_
  refine own_aloadN K own_d5_18 rfl rfl ?_
  refine own_iconst K own_d5_19 (v := (0 : Int32)) rfl ?_
  refine own_aloadN K own_d5_20 rfl rfl ?_
  refine own_iconst K own_d5_21 (v := (0 : Int32)) rfl ?_
  refine own_aloadN K own_d5_22 rfl rfl ?_
  refine own_arraylength K own_d5_23 H2 (i := 1) rfl (N := (4 : Int32)) (rfl) ?_
  refine own_iloadN K own_d5_24 rfl ?_
  refine own_static K own_d5_25 (own_w49 hw) (own_w50 hw) (own_w51 hw) (own_w52 hw) (argsL := [(.int (4 : Int32)), (.int (8 : Int32))]) (rest := [(.int (0 : Int32)), (.ref a3), (.int (0 : Int32)), (.ref r)]) (own_min hw (by decide)) own_pd0 rfl rfl rfl (by decide) (W := 4) (Nat.le_of_eq rfl) (by decide) (by decide) (by decide) (by decide) ?_
  intro v6 h4 q5
  obtain ⟨rfl, rfl⟩ := q5
  refine own_arraycopy K own_d5_28 (own_w53 hw) (own_w56 hw) (own_w54 hw) (own_w55 hw) H2 (ia := 1) rfl (ib := 0) rfl rfl (by intro C q; cases q) (sq := 0) (by decide) (dq := 0) (by decide) (nq := 4) (by decide) (own_le rfl) (own_le rfl) (own_le rfl) (own_le rfl) rfl (by decide) (W := 0) (Nat.le_of_eq rfl) (by decide) ?_
  intro h7 H8
  replace H8 : own_H Z h7 (os) ((a3, .int, "[I", [x0, x1, x2, x3, (.int (0 : Int32)), (.int (0 : Int32)), (.int (0 : Int32)), (.int (0 : Int32))]) :: (r, .int, "[I", [x0, x1, x2, x3]) :: as) := H8
  refine own_aloadN K own_d5_31 rfl rfl ?_
  exact own_retA K rfl rfl own_d5_32 (by decide) (by decide) (⟨_, rfl, H8⟩)
set_option maxRecDepth 65536 in
set_option maxHeartbeats 40000000 in
theorem own_cpd_ef (m : MethodId) (x0 : Addr) (x1 : Int32) : entryFrame m #[(.ref x0), (.int x1)] 3 = mkF m 0 #[.val (.ref x0), .val (.int x1), .unset] [] := by first | (simp [entryFrame, mkF, argsToLocals, Value.category]; done) | rfl
set_option maxRecDepth 65536 in
set_option maxHeartbeats 40000000 in
theorem own_cpd {l : Launch} {Z : State} {a0 : Array Value} (hw : own_Z Z a0) {h : Heap} {os : List own_O} {as : List own_A} {r : Addr} {x0 x1 x2 x3 : Value} (H : own_H Z h os ((r, .double, "[D", [x0, x1, x2, x3]) :: as)) : own_Met false l Z (⟨"java/util/Arrays", "copyOf", "([DI)[D"⟩ : MethodName) jdk_65_method_127_code 3 (some (.array .double)) [] ({ frames := 1, cells := 1, slots := 8, locals := 40 } : Room) #[(.ref r), (.int (8 : Int32))] h (fun v h' => ∃ b, v = some (.ref b) ∧ own_H Z h' os ((b, .double, "[D", [x0, x1, x2, x3, (.double (0 : UInt64)), (.double (0 : UInt64)), (.double (0 : UInt64)), (.double (0 : UInt64))]) :: (r, .double, "[D", [x0, x1, x2, x3]) :: as)) := by
  refine own_met (by first | exact plainFor_of_name (by decide +kernel) | decide +kernel) ?_
  intro p e s m below meth c K
  refine own_cast (own_cpd_ef m _ _) ?_
  refine own_iloadN K own_d6_0 rfl ?_
  refine own_aloadN K own_d6_1 rfl rfl ?_
  refine own_arraylength K own_d6_2 H (i := 0) rfl (N := (4 : Int32)) (rfl) ?_
  refine own_icmpne K own_d6_3 (fun _ => ?_) (fun q => absurd (by decide) q)
  refine own_iloadN K own_d6_14 rfl ?_
  refine own_newarray K own_d6_15 (ty := .double) rfl (own_w17 hw) H (q := 8) (by decide) (ad := "[D") (by decide +kernel) (vs := [(.double (0 : UInt64)), (.double (0 : UInt64)), (.double (0 : UInt64)), (.double (0 : UInt64)), (.double (0 : UInt64)), (.double (0 : UInt64)), (.double (0 : UInt64)), (.double (0 : UInt64))]) rfl (by decide) (by decide) (by decide) ?_
  intro h1 a3 H2
  replace H2 : own_H Z h1 (os) ((a3, .double, "[D", [(.double (0 : UInt64)), (.double (0 : UInt64)), (.double (0 : UInt64)), (.double (0 : UInt64)), (.double (0 : UInt64)), (.double (0 : UInt64)), (.double (0 : UInt64)), (.double (0 : UInt64))]) :: (r, .double, "[D", [x0, x1, x2, x3]) :: as) := H2
  refine own_astoreN K own_d6_17 rfl (Ls' := #[.val (.ref r), .val (.int (8 : Int32)), .val (.ref a3)]) rfl ?_
  refine own_aloadN K own_d6_18 rfl rfl ?_
  refine own_iconst K own_d6_19 (v := (0 : Int32)) rfl ?_
  refine own_aloadN K own_d6_20 rfl rfl ?_
  refine own_iconst K own_d6_21 (v := (0 : Int32)) rfl ?_
  refine own_aloadN K own_d6_22 rfl rfl ?_
  refine own_arraylength K own_d6_23 H2 (i := 1) rfl (N := (4 : Int32)) (rfl) ?_
  refine own_iloadN K own_d6_24 rfl ?_
  refine own_static K own_d6_25 (own_w49 hw) (own_w50 hw) (own_w51 hw) (own_w52 hw) (argsL := [(.int (4 : Int32)), (.int (8 : Int32))]) (rest := [(.int (0 : Int32)), (.ref a3), (.int (0 : Int32)), (.ref r)]) (own_min hw (by decide)) own_pd0 rfl rfl rfl (by decide) (W := 4) (Nat.le_of_eq rfl) (by decide) (by decide) (by decide) (by decide) ?_
  intro v6 h4 q5
  obtain ⟨rfl, rfl⟩ := q5
  refine own_arraycopy K own_d6_28 (own_w53 hw) (own_w56 hw) (own_w54 hw) (own_w55 hw) H2 (ia := 1) rfl (ib := 0) rfl rfl (by intro C q; cases q) (sq := 0) (by decide) (dq := 0) (by decide) (nq := 4) (by decide) (own_le rfl) (own_le rfl) (own_le rfl) (own_le rfl) rfl (by decide) (W := 0) (Nat.le_of_eq rfl) (by decide) ?_
  intro h7 H8
  replace H8 : own_H Z h7 (os) ((a3, .double, "[D", [x0, x1, x2, x3, (.double (0 : UInt64)), (.double (0 : UInt64)), (.double (0 : UInt64)), (.double (0 : UInt64))]) :: (r, .double, "[D", [x0, x1, x2, x3]) :: as) := H8
  refine own_aloadN K own_d6_31 rfl rfl ?_
  exact own_retA K rfl rfl own_d6_32 (by decide) (by decide) (⟨_, rfl, H8⟩)
set_option maxRecDepth 65536 in
set_option maxHeartbeats 40000000 in
theorem own_add0_ef (m : MethodId) (x0 : Addr) (x1 : Int32) (x2 : UInt64) : entryFrame m #[(.ref x0), (.int x1), (.double x2)] 4 = mkF m 0 #[.val (.ref x0), .val (.int x1), .val (.double x2), .second] [] := by first | (simp [entryFrame, mkF, argsToLocals, Value.category]; done) | rfl
set_option maxRecDepth 65536 in
set_option maxHeartbeats 40000000 in
theorem own_add0 {l : Launch} {Z : State} {a0 : Array Value} (hw : own_Z Z a0) {h : Heap} {os : List own_O} {as : List own_A} {a da sa : Addr} {dc : Int32} {sc : UInt64} {x0 x1 x2 x3 y0 y1 y2 y3 : Value} (H : own_H Z h (own_SD a (.ref da) (.ref sa) (.int (0 : Int32)) :: os) ((da, .int, "[I", [x0, x1, x2, x3]) :: (sa, .double, "[D", [y0, y1, y2, y3]) :: as)) : own_Met false l Z (⟨"com/example/fielder/fielder/service/ScoredDocuments", "add", "(ID)V"⟩ : MethodName) prog_38_method_2_code 4 none [] ({ frames := 0, cells := 0, slots := 0, locals := 0 } : Room) #[(.ref a), (.int dc), (.double sc)] h (fun v h' => v = none ∧ own_H Z h' (own_SD a (.ref da) (.ref sa) (.int (1 : Int32)) :: os) ((da, .int, "[I", [(.int dc), x1, x2, x3]) :: (sa, .double, "[D", [(.double sc), y1, y2, y3]) :: as)) := by
  refine own_met (by first | exact plainFor_of_name (by decide +kernel) | decide +kernel) ?_
  intro p e s m below meth c K
  refine own_cast (own_add0_ef m _ _ _) ?_
  refine own_aloadN K own_d7_0 rfl rfl ?_
  refine own_getfield K own_d7_1 (host := "") (Or.inl (own_w25 hw)) Via.refl H (j := 0) rfl (q := 2) rfl ?_
  refine own_aloadN K own_d7_4 rfl rfl ?_
  refine own_getfield K own_d7_5 (host := "") (Or.inl (own_w15 hw)) Via.refl H (j := 0) rfl (q := 0) rfl ?_
  refine own_arraylength K own_d7_8 H (i := 0) rfl (N := (4 : Int32)) (rfl) ?_
  refine own_icmpne K own_d7_9 (fun _ => ?_) (fun q => absurd (by decide) q)
  refine own_aloadN K own_d7_46 rfl rfl ?_
  refine own_getfield K own_d7_47 (host := "") (Or.inl (own_w15 hw)) Via.refl H (j := 0) rfl (q := 0) rfl ?_
  refine own_aloadN K own_d7_50 rfl rfl ?_
  refine own_getfield K own_d7_51 (host := "") (Or.inl (own_w25 hw)) Via.refl H (j := 0) rfl (q := 2) rfl ?_
  refine own_iloadN K own_d7_54 rfl ?_
  refine own_iastore K own_d7_55 H (i := 0) rfl (q := 0) (by decide) (own_le rfl) ?_
  intro h1 H2
  replace H2 : own_H Z h1 (own_SD a (.ref da) (.ref sa) (.int (0 : Int32)) :: os) ((da, .int, "[I", [(.int dc), x1, x2, x3]) :: (sa, .double, "[D", [y0, y1, y2, y3]) :: as) := H2
  refine own_aloadN K own_d7_56 rfl rfl ?_
  refine own_getfield K own_d7_57 (host := "") (Or.inl (own_w18 hw)) Via.refl H2 (j := 0) rfl (q := 1) rfl ?_
  refine own_aloadN K own_d7_60 rfl rfl ?_
  refine own_getfield K own_d7_61 (host := "") (Or.inl (own_w25 hw)) Via.refl H2 (j := 0) rfl (q := 2) rfl ?_
  refine own_dloadN K own_d7_64 rfl ?_
  refine own_dastore K own_d7_65 H2 (i := 1) rfl (q := 0) (by decide) (own_le rfl) ?_
  intro h3 H4
  replace H4 : own_H Z h3 (own_SD a (.ref da) (.ref sa) (.int (0 : Int32)) :: os) ((da, .int, "[I", [(.int dc), x1, x2, x3]) :: (sa, .double, "[D", [(.double sc), y1, y2, y3]) :: as) := H4
  refine own_aloadN K own_d7_66 rfl rfl ?_
  refine own_dup K own_d7_67 rfl ?_
  refine own_getfield K own_d7_68 (host := "") (Or.inl (own_w25 hw)) Via.refl H4 (j := 0) rfl (q := 2) rfl ?_
  refine own_iconst K own_d7_71 (v := (1 : Int32)) rfl ?_
  refine own_iadd K own_d7_72 ?_
  refine own_topI (x' := (1 : Int32)) (by decide) ?_
  refine own_putfield K own_d7_73 (host := "") (Or.inl (own_w25 hw)) Via.refl H4 (j := 0) rfl (q := 2) rfl (Or.inl (own_w26 hw)) (own_w6 hw) (ty := .int) (by decide +kernel) (rfl) rfl ?_
  intro h5 H6
  replace H6 : own_H Z h5 (own_SD a (.ref da) (.ref sa) (.int (1 : Int32)) :: os) ((da, .int, "[I", [(.int dc), x1, x2, x3]) :: (sa, .double, "[D", [(.double sc), y1, y2, y3]) :: as) := H6
  exact own_retV K own_d7_76 (by decide) (by decide) (⟨rfl, H6⟩)
set_option maxRecDepth 65536 in
set_option maxHeartbeats 40000000 in
theorem own_add1_ef (m : MethodId) (x0 : Addr) (x1 : Int32) (x2 : UInt64) : entryFrame m #[(.ref x0), (.int x1), (.double x2)] 4 = mkF m 0 #[.val (.ref x0), .val (.int x1), .val (.double x2), .second] [] := by first | (simp [entryFrame, mkF, argsToLocals, Value.category]; done) | rfl
set_option maxRecDepth 65536 in
set_option maxHeartbeats 40000000 in
theorem own_add1 {l : Launch} {Z : State} {a0 : Array Value} (hw : own_Z Z a0) {h : Heap} {os : List own_O} {as : List own_A} {a da sa : Addr} {dc : Int32} {sc : UInt64} {x0 x1 x2 x3 y0 y1 y2 y3 : Value} (H : own_H Z h (own_SD a (.ref da) (.ref sa) (.int (1 : Int32)) :: os) ((da, .int, "[I", [x0, x1, x2, x3]) :: (sa, .double, "[D", [y0, y1, y2, y3]) :: as)) : own_Met false l Z (⟨"com/example/fielder/fielder/service/ScoredDocuments", "add", "(ID)V"⟩ : MethodName) prog_38_method_2_code 4 none [] ({ frames := 0, cells := 0, slots := 0, locals := 0 } : Room) #[(.ref a), (.int dc), (.double sc)] h (fun v h' => v = none ∧ own_H Z h' (own_SD a (.ref da) (.ref sa) (.int (2 : Int32)) :: os) ((da, .int, "[I", [x0, (.int dc), x2, x3]) :: (sa, .double, "[D", [y0, (.double sc), y2, y3]) :: as)) := by
  refine own_met (by first | exact plainFor_of_name (by decide +kernel) | decide +kernel) ?_
  intro p e s m below meth c K
  refine own_cast (own_add1_ef m _ _ _) ?_
  refine own_aloadN K own_d7_0 rfl rfl ?_
  refine own_getfield K own_d7_1 (host := "") (Or.inl (own_w25 hw)) Via.refl H (j := 0) rfl (q := 2) rfl ?_
  refine own_aloadN K own_d7_4 rfl rfl ?_
  refine own_getfield K own_d7_5 (host := "") (Or.inl (own_w15 hw)) Via.refl H (j := 0) rfl (q := 0) rfl ?_
  refine own_arraylength K own_d7_8 H (i := 0) rfl (N := (4 : Int32)) (rfl) ?_
  refine own_icmpne K own_d7_9 (fun _ => ?_) (fun q => absurd (by decide) q)
  refine own_aloadN K own_d7_46 rfl rfl ?_
  refine own_getfield K own_d7_47 (host := "") (Or.inl (own_w15 hw)) Via.refl H (j := 0) rfl (q := 0) rfl ?_
  refine own_aloadN K own_d7_50 rfl rfl ?_
  refine own_getfield K own_d7_51 (host := "") (Or.inl (own_w25 hw)) Via.refl H (j := 0) rfl (q := 2) rfl ?_
  refine own_iloadN K own_d7_54 rfl ?_
  refine own_iastore K own_d7_55 H (i := 0) rfl (q := 1) (by decide) (own_le rfl) ?_
  intro h1 H2
  replace H2 : own_H Z h1 (own_SD a (.ref da) (.ref sa) (.int (1 : Int32)) :: os) ((da, .int, "[I", [x0, (.int dc), x2, x3]) :: (sa, .double, "[D", [y0, y1, y2, y3]) :: as) := H2
  refine own_aloadN K own_d7_56 rfl rfl ?_
  refine own_getfield K own_d7_57 (host := "") (Or.inl (own_w18 hw)) Via.refl H2 (j := 0) rfl (q := 1) rfl ?_
  refine own_aloadN K own_d7_60 rfl rfl ?_
  refine own_getfield K own_d7_61 (host := "") (Or.inl (own_w25 hw)) Via.refl H2 (j := 0) rfl (q := 2) rfl ?_
  refine own_dloadN K own_d7_64 rfl ?_
  refine own_dastore K own_d7_65 H2 (i := 1) rfl (q := 1) (by decide) (own_le rfl) ?_
  intro h3 H4
  replace H4 : own_H Z h3 (own_SD a (.ref da) (.ref sa) (.int (1 : Int32)) :: os) ((da, .int, "[I", [x0, (.int dc), x2, x3]) :: (sa, .double, "[D", [y0, (.double sc), y2, y3]) :: as) := H4
  refine own_aloadN K own_d7_66 rfl rfl ?_
  refine own_dup K own_d7_67 rfl ?_
  refine own_getfield K own_d7_68 (host := "") (Or.inl (own_w25 hw)) Via.refl H4 (j := 0) rfl (q := 2) rfl ?_
  refine own_iconst K own_d7_71 (v := (1 : Int32)) rfl ?_
  refine own_iadd K own_d7_72 ?_
  refine own_topI (x' := (2 : Int32)) (by decide) ?_
  refine own_putfield K own_d7_73 (host := "") (Or.inl (own_w25 hw)) Via.refl H4 (j := 0) rfl (q := 2) rfl (Or.inl (own_w26 hw)) (own_w6 hw) (ty := .int) (by decide +kernel) (rfl) rfl ?_
  intro h5 H6
  replace H6 : own_H Z h5 (own_SD a (.ref da) (.ref sa) (.int (2 : Int32)) :: os) ((da, .int, "[I", [x0, (.int dc), x2, x3]) :: (sa, .double, "[D", [y0, (.double sc), y2, y3]) :: as) := H6
  exact own_retV K own_d7_76 (by decide) (by decide) (⟨rfl, H6⟩)
set_option maxRecDepth 65536 in
set_option maxHeartbeats 40000000 in
theorem own_add2_ef (m : MethodId) (x0 : Addr) (x1 : Int32) (x2 : UInt64) : entryFrame m #[(.ref x0), (.int x1), (.double x2)] 4 = mkF m 0 #[.val (.ref x0), .val (.int x1), .val (.double x2), .second] [] := by first | (simp [entryFrame, mkF, argsToLocals, Value.category]; done) | rfl
set_option maxRecDepth 65536 in
set_option maxHeartbeats 40000000 in
theorem own_add2 {l : Launch} {Z : State} {a0 : Array Value} (hw : own_Z Z a0) {h : Heap} {os : List own_O} {as : List own_A} {a da sa : Addr} {dc : Int32} {sc : UInt64} {x0 x1 x2 x3 y0 y1 y2 y3 : Value} (H : own_H Z h (own_SD a (.ref da) (.ref sa) (.int (2 : Int32)) :: os) ((da, .int, "[I", [x0, x1, x2, x3]) :: (sa, .double, "[D", [y0, y1, y2, y3]) :: as)) : own_Met false l Z (⟨"com/example/fielder/fielder/service/ScoredDocuments", "add", "(ID)V"⟩ : MethodName) prog_38_method_2_code 4 none [] ({ frames := 0, cells := 0, slots := 0, locals := 0 } : Room) #[(.ref a), (.int dc), (.double sc)] h (fun v h' => v = none ∧ own_H Z h' (own_SD a (.ref da) (.ref sa) (.int (3 : Int32)) :: os) ((da, .int, "[I", [x0, x1, (.int dc), x3]) :: (sa, .double, "[D", [y0, y1, (.double sc), y3]) :: as)) := by
  refine own_met (by first | exact plainFor_of_name (by decide +kernel) | decide +kernel) ?_
  intro p e s m below meth c K
  refine own_cast (own_add2_ef m _ _ _) ?_
  refine own_aloadN K own_d7_0 rfl rfl ?_
  refine own_getfield K own_d7_1 (host := "") (Or.inl (own_w25 hw)) Via.refl H (j := 0) rfl (q := 2) rfl ?_
  refine own_aloadN K own_d7_4 rfl rfl ?_
  refine own_getfield K own_d7_5 (host := "") (Or.inl (own_w15 hw)) Via.refl H (j := 0) rfl (q := 0) rfl ?_
  refine own_arraylength K own_d7_8 H (i := 0) rfl (N := (4 : Int32)) (rfl) ?_
  refine own_icmpne K own_d7_9 (fun _ => ?_) (fun q => absurd (by decide) q)
  refine own_aloadN K own_d7_46 rfl rfl ?_
  refine own_getfield K own_d7_47 (host := "") (Or.inl (own_w15 hw)) Via.refl H (j := 0) rfl (q := 0) rfl ?_
  refine own_aloadN K own_d7_50 rfl rfl ?_
  refine own_getfield K own_d7_51 (host := "") (Or.inl (own_w25 hw)) Via.refl H (j := 0) rfl (q := 2) rfl ?_
  refine own_iloadN K own_d7_54 rfl ?_
  refine own_iastore K own_d7_55 H (i := 0) rfl (q := 2) (by decide) (own_le rfl) ?_
  intro h1 H2
  replace H2 : own_H Z h1 (own_SD a (.ref da) (.ref sa) (.int (2 : Int32)) :: os) ((da, .int, "[I", [x0, x1, (.int dc), x3]) :: (sa, .double, "[D", [y0, y1, y2, y3]) :: as) := H2
  refine own_aloadN K own_d7_56 rfl rfl ?_
  refine own_getfield K own_d7_57 (host := "") (Or.inl (own_w18 hw)) Via.refl H2 (j := 0) rfl (q := 1) rfl ?_
  refine own_aloadN K own_d7_60 rfl rfl ?_
  refine own_getfield K own_d7_61 (host := "") (Or.inl (own_w25 hw)) Via.refl H2 (j := 0) rfl (q := 2) rfl ?_
  refine own_dloadN K own_d7_64 rfl ?_
  refine own_dastore K own_d7_65 H2 (i := 1) rfl (q := 2) (by decide) (own_le rfl) ?_
  intro h3 H4
  replace H4 : own_H Z h3 (own_SD a (.ref da) (.ref sa) (.int (2 : Int32)) :: os) ((da, .int, "[I", [x0, x1, (.int dc), x3]) :: (sa, .double, "[D", [y0, y1, (.double sc), y3]) :: as) := H4
  refine own_aloadN K own_d7_66 rfl rfl ?_
  refine own_dup K own_d7_67 rfl ?_
  refine own_getfield K own_d7_68 (host := "") (Or.inl (own_w25 hw)) Via.refl H4 (j := 0) rfl (q := 2) rfl ?_
  refine own_iconst K own_d7_71 (v := (1 : Int32)) rfl ?_
  refine own_iadd K own_d7_72 ?_
  refine own_topI (x' := (3 : Int32)) (by decide) ?_
  refine own_putfield K own_d7_73 (host := "") (Or.inl (own_w25 hw)) Via.refl H4 (j := 0) rfl (q := 2) rfl (Or.inl (own_w26 hw)) (own_w6 hw) (ty := .int) (by decide +kernel) (rfl) rfl ?_
  intro h5 H6
  replace H6 : own_H Z h5 (own_SD a (.ref da) (.ref sa) (.int (3 : Int32)) :: os) ((da, .int, "[I", [x0, x1, (.int dc), x3]) :: (sa, .double, "[D", [y0, y1, (.double sc), y3]) :: as) := H6
  exact own_retV K own_d7_76 (by decide) (by decide) (⟨rfl, H6⟩)
set_option maxRecDepth 65536 in
set_option maxHeartbeats 40000000 in
theorem own_add3_ef (m : MethodId) (x0 : Addr) (x1 : Int32) (x2 : UInt64) : entryFrame m #[(.ref x0), (.int x1), (.double x2)] 4 = mkF m 0 #[.val (.ref x0), .val (.int x1), .val (.double x2), .second] [] := by first | (simp [entryFrame, mkF, argsToLocals, Value.category]; done) | rfl
set_option maxRecDepth 65536 in
set_option maxHeartbeats 40000000 in
theorem own_add3 {l : Launch} {Z : State} {a0 : Array Value} (hw : own_Z Z a0) {h : Heap} {os : List own_O} {as : List own_A} {a da sa : Addr} {dc : Int32} {sc : UInt64} {x0 x1 x2 x3 y0 y1 y2 y3 : Value} (H : own_H Z h (own_SD a (.ref da) (.ref sa) (.int (3 : Int32)) :: os) ((da, .int, "[I", [x0, x1, x2, x3]) :: (sa, .double, "[D", [y0, y1, y2, y3]) :: as)) : own_Met false l Z (⟨"com/example/fielder/fielder/service/ScoredDocuments", "add", "(ID)V"⟩ : MethodName) prog_38_method_2_code 4 none [] ({ frames := 0, cells := 0, slots := 0, locals := 0 } : Room) #[(.ref a), (.int dc), (.double sc)] h (fun v h' => v = none ∧ own_H Z h' (own_SD a (.ref da) (.ref sa) (.int (4 : Int32)) :: os) ((da, .int, "[I", [x0, x1, x2, (.int dc)]) :: (sa, .double, "[D", [y0, y1, y2, (.double sc)]) :: as)) := by
  refine own_met (by first | exact plainFor_of_name (by decide +kernel) | decide +kernel) ?_
  intro p e s m below meth c K
  refine own_cast (own_add3_ef m _ _ _) ?_
  refine own_aloadN K own_d7_0 rfl rfl ?_
  refine own_getfield K own_d7_1 (host := "") (Or.inl (own_w25 hw)) Via.refl H (j := 0) rfl (q := 2) rfl ?_
  refine own_aloadN K own_d7_4 rfl rfl ?_
  refine own_getfield K own_d7_5 (host := "") (Or.inl (own_w15 hw)) Via.refl H (j := 0) rfl (q := 0) rfl ?_
  refine own_arraylength K own_d7_8 H (i := 0) rfl (N := (4 : Int32)) (rfl) ?_
  refine own_icmpne K own_d7_9 (fun _ => ?_) (fun q => absurd (by decide) q)
  refine own_aloadN K own_d7_46 rfl rfl ?_
  refine own_getfield K own_d7_47 (host := "") (Or.inl (own_w15 hw)) Via.refl H (j := 0) rfl (q := 0) rfl ?_
  refine own_aloadN K own_d7_50 rfl rfl ?_
  refine own_getfield K own_d7_51 (host := "") (Or.inl (own_w25 hw)) Via.refl H (j := 0) rfl (q := 2) rfl ?_
  refine own_iloadN K own_d7_54 rfl ?_
  refine own_iastore K own_d7_55 H (i := 0) rfl (q := 3) (by decide) (own_le rfl) ?_
  intro h1 H2
  replace H2 : own_H Z h1 (own_SD a (.ref da) (.ref sa) (.int (3 : Int32)) :: os) ((da, .int, "[I", [x0, x1, x2, (.int dc)]) :: (sa, .double, "[D", [y0, y1, y2, y3]) :: as) := H2
  refine own_aloadN K own_d7_56 rfl rfl ?_
  refine own_getfield K own_d7_57 (host := "") (Or.inl (own_w18 hw)) Via.refl H2 (j := 0) rfl (q := 1) rfl ?_
  refine own_aloadN K own_d7_60 rfl rfl ?_
  refine own_getfield K own_d7_61 (host := "") (Or.inl (own_w25 hw)) Via.refl H2 (j := 0) rfl (q := 2) rfl ?_
  refine own_dloadN K own_d7_64 rfl ?_
  refine own_dastore K own_d7_65 H2 (i := 1) rfl (q := 3) (by decide) (own_le rfl) ?_
  intro h3 H4
  replace H4 : own_H Z h3 (own_SD a (.ref da) (.ref sa) (.int (3 : Int32)) :: os) ((da, .int, "[I", [x0, x1, x2, (.int dc)]) :: (sa, .double, "[D", [y0, y1, y2, (.double sc)]) :: as) := H4
  refine own_aloadN K own_d7_66 rfl rfl ?_
  refine own_dup K own_d7_67 rfl ?_
  refine own_getfield K own_d7_68 (host := "") (Or.inl (own_w25 hw)) Via.refl H4 (j := 0) rfl (q := 2) rfl ?_
  refine own_iconst K own_d7_71 (v := (1 : Int32)) rfl ?_
  refine own_iadd K own_d7_72 ?_
  refine own_topI (x' := (4 : Int32)) (by decide) ?_
  refine own_putfield K own_d7_73 (host := "") (Or.inl (own_w25 hw)) Via.refl H4 (j := 0) rfl (q := 2) rfl (Or.inl (own_w26 hw)) (own_w6 hw) (ty := .int) (by decide +kernel) (rfl) rfl ?_
  intro h5 H6
  replace H6 : own_H Z h5 (own_SD a (.ref da) (.ref sa) (.int (4 : Int32)) :: os) ((da, .int, "[I", [x0, x1, x2, (.int dc)]) :: (sa, .double, "[D", [y0, y1, y2, (.double sc)]) :: as) := H6
  exact own_retV K own_d7_76 (by decide) (by decide) (⟨rfl, H6⟩)
set_option maxRecDepth 65536 in
set_option maxHeartbeats 40000000 in
theorem own_add4_ef (m : MethodId) (x0 : Addr) (x1 : Int32) (x2 : UInt64) : entryFrame m #[(.ref x0), (.int x1), (.double x2)] 4 = mkF m 0 #[.val (.ref x0), .val (.int x1), .val (.double x2), .second] [] := by first | (simp [entryFrame, mkF, argsToLocals, Value.category]; done) | rfl
set_option maxRecDepth 65536 in
set_option maxHeartbeats 40000000 in
theorem own_add4 {l : Launch} {Z : State} {a0 : Array Value} (hw : own_Z Z a0) {h : Heap} {os : List own_O} {as : List own_A} {a da sa : Addr} {dc : Int32} {sc : UInt64} {x0 x1 x2 x3 y0 y1 y2 y3 : Value} (H : own_H Z h (own_SD a (.ref da) (.ref sa) (.int (4 : Int32)) :: os) ((da, .int, "[I", [x0, x1, x2, x3]) :: (sa, .double, "[D", [y0, y1, y2, y3]) :: as)) : own_Met false l Z (⟨"com/example/fielder/fielder/service/ScoredDocuments", "add", "(ID)V"⟩ : MethodName) prog_38_method_2_code 4 none [] ({ frames := 2, cells := 2, slots := 16, locals := 60 } : Room) #[(.ref a), (.int dc), (.double sc)] h (fun v h' => v = none ∧ ∃ da' sa' : Addr, ∃ as' : List own_A, ∃ xs' : List Value, own_H Z h' (own_SD a (.ref da') (.ref sa') (.int (5 : Int32)) :: os) ((sa', .double, "[D", [y0, y1, y2, y3, (.double sc), (.double (0 : UInt64)), (.double (0 : UInt64)), (.double (0 : UInt64))]) :: (da', .int, "[I", xs') :: as')) := by
  refine own_met (by first | exact plainFor_of_name (by decide +kernel) | decide +kernel) ?_
  intro p e s m below meth c K
  refine own_cast (own_add4_ef m _ _ _) ?_
  refine own_aloadN K own_d7_0 rfl rfl ?_
  refine own_getfield K own_d7_1 (host := "") (Or.inl (own_w25 hw)) Via.refl H (j := 0) rfl (q := 2) rfl ?_
  refine own_aloadN K own_d7_4 rfl rfl ?_
  refine own_getfield K own_d7_5 (host := "") (Or.inl (own_w15 hw)) Via.refl H (j := 0) rfl (q := 0) rfl ?_
  refine own_arraylength K own_d7_8 H (i := 0) rfl (N := (4 : Int32)) (rfl) ?_
  refine own_icmpne K own_d7_9 (fun q => absurd q (by decide)) (fun _ => ?_)
  refine own_aloadN K own_d7_12 rfl rfl ?_
  refine own_aloadN K own_d7_13 rfl rfl ?_
  refine own_getfield K own_d7_14 (host := "") (Or.inl (own_w15 hw)) Via.refl H (j := 0) rfl (q := 0) rfl ?_
  refine own_iconst K own_d7_17 (v := (2 : Int32)) rfl ?_
  refine own_aloadN K own_d7_18 rfl rfl ?_
  refine own_getfield K own_d7_19 (host := "") (Or.inl (own_w25 hw)) Via.refl H (j := 0) rfl (q := 2) rfl ?_
  refine own_imul K own_d7_22 ?_
  refine own_topI (x' := (8 : Int32)) (by decide) ?_
  refine own_static K own_d7_23 (own_w45 hw) (own_w46 hw) (own_w47 hw) (own_w48 hw) (argsL := [(.ref da), (.int (8 : Int32))]) (rest := [(.ref a)]) (own_cpi hw H) own_pd1 rfl rfl rfl (by decide) (W := 1) (Nat.le_of_eq rfl) (by decide) (by decide) (by decide) (by decide) ?_
  intro v3 h1 q2
  obtain ⟨b4, rfl, H5⟩ := q2
  replace H5 : own_H Z h1 (own_SD a (.ref da) (.ref sa) (.int (4 : Int32)) :: os) ((b4, .int, "[I", [x0, x1, x2, x3, (.int (0 : Int32)), (.int (0 : Int32)), (.int (0 : Int32)), (.int (0 : Int32))]) :: (da, .int, "[I", [x0, x1, x2, x3]) :: (sa, .double, "[D", [y0, y1, y2, y3]) :: as) := H5
  refine own_putfield K own_d7_26 (host := "") (Or.inl (own_w15 hw)) Via.refl H5 (j := 0) rfl (q := 0) rfl (Or.inl (own_w16 hw)) (own_w6 hw) (ty := (.array .int)) (by decide +kernel) (rfl) rfl ?_
  intro h6 H7
  replace H7 : own_H Z h6 (own_SD a (.ref b4) (.ref sa) (.int (4 : Int32)) :: os) ((b4, .int, "[I", [x0, x1, x2, x3, (.int (0 : Int32)), (.int (0 : Int32)), (.int (0 : Int32)), (.int (0 : Int32))]) :: (da, .int, "[I", [x0, x1, x2, x3]) :: (sa, .double, "[D", [y0, y1, y2, y3]) :: as) := H7
  refine own_aloadN K own_d7_29 rfl rfl ?_
  refine own_aloadN K own_d7_30 rfl rfl ?_
  refine own_getfield K own_d7_31 (host := "") (Or.inl (own_w18 hw)) Via.refl H7 (j := 0) rfl (q := 1) rfl ?_
  refine own_iconst K own_d7_34 (v := (2 : Int32)) rfl ?_
  refine own_aloadN K own_d7_35 rfl rfl ?_
  refine own_getfield K own_d7_36 (host := "") (Or.inl (own_w25 hw)) Via.refl H7 (j := 0) rfl (q := 2) rfl ?_
  refine own_imul K own_d7_39 ?_
  refine own_topI (x' := (8 : Int32)) (by decide) ?_
  have H8 := H7.frontA 2 rfl
  replace H8 : own_H Z h6 (own_SD a (.ref b4) (.ref sa) (.int (4 : Int32)) :: os) ((sa, .double, "[D", [y0, y1, y2, y3]) :: (b4, .int, "[I", [x0, x1, x2, x3, (.int (0 : Int32)), (.int (0 : Int32)), (.int (0 : Int32)), (.int (0 : Int32))]) :: (da, .int, "[I", [x0, x1, x2, x3]) :: as) := H8
  refine own_static K own_d7_40 (own_w57 hw) (own_w58 hw) (own_w47 hw) (own_w59 hw) (argsL := [(.ref sa), (.int (8 : Int32))]) (rest := [(.ref a)]) (own_cpd hw H8) own_pd2 rfl rfl rfl (by decide) (W := 1) (Nat.le_of_eq rfl) (by decide) (by decide) (by decide) (by decide) ?_
  intro v11 h9 q10
  obtain ⟨b12, rfl, H13⟩ := q10
  replace H13 : own_H Z h9 (own_SD a (.ref b4) (.ref sa) (.int (4 : Int32)) :: os) ((b12, .double, "[D", [y0, y1, y2, y3, (.double (0 : UInt64)), (.double (0 : UInt64)), (.double (0 : UInt64)), (.double (0 : UInt64))]) :: (sa, .double, "[D", [y0, y1, y2, y3]) :: (b4, .int, "[I", [x0, x1, x2, x3, (.int (0 : Int32)), (.int (0 : Int32)), (.int (0 : Int32)), (.int (0 : Int32))]) :: (da, .int, "[I", [x0, x1, x2, x3]) :: as) := H13
  refine own_putfield K own_d7_43 (host := "") (Or.inl (own_w18 hw)) Via.refl H13 (j := 0) rfl (q := 1) rfl (Or.inl (own_w19 hw)) (own_w6 hw) (ty := (.array .double)) (by decide +kernel) (rfl) rfl ?_
  intro h14 H15
  replace H15 : own_H Z h14 (own_SD a (.ref b4) (.ref b12) (.int (4 : Int32)) :: os) ((b12, .double, "[D", [y0, y1, y2, y3, (.double (0 : UInt64)), (.double (0 : UInt64)), (.double (0 : UInt64)), (.double (0 : UInt64))]) :: (sa, .double, "[D", [y0, y1, y2, y3]) :: (b4, .int, "[I", [x0, x1, x2, x3, (.int (0 : Int32)), (.int (0 : Int32)), (.int (0 : Int32)), (.int (0 : Int32))]) :: (da, .int, "[I", [x0, x1, x2, x3]) :: as) := H15
  refine own_aloadN K own_d7_46 rfl rfl ?_
  refine own_getfield K own_d7_47 (host := "") (Or.inl (own_w15 hw)) Via.refl H15 (j := 0) rfl (q := 0) rfl ?_
  refine own_aloadN K own_d7_50 rfl rfl ?_
  refine own_getfield K own_d7_51 (host := "") (Or.inl (own_w25 hw)) Via.refl H15 (j := 0) rfl (q := 2) rfl ?_
  refine own_iloadN K own_d7_54 rfl ?_
  refine own_iastore K own_d7_55 H15 (i := 2) rfl (q := 4) (by decide) (own_le rfl) ?_
  intro h16 H17
  replace H17 : own_H Z h16 (own_SD a (.ref b4) (.ref b12) (.int (4 : Int32)) :: os) ((b12, .double, "[D", [y0, y1, y2, y3, (.double (0 : UInt64)), (.double (0 : UInt64)), (.double (0 : UInt64)), (.double (0 : UInt64))]) :: (sa, .double, "[D", [y0, y1, y2, y3]) :: (b4, .int, "[I", [x0, x1, x2, x3, (.int dc), (.int (0 : Int32)), (.int (0 : Int32)), (.int (0 : Int32))]) :: (da, .int, "[I", [x0, x1, x2, x3]) :: as) := H17
  refine own_aloadN K own_d7_56 rfl rfl ?_
  refine own_getfield K own_d7_57 (host := "") (Or.inl (own_w18 hw)) Via.refl H17 (j := 0) rfl (q := 1) rfl ?_
  refine own_aloadN K own_d7_60 rfl rfl ?_
  refine own_getfield K own_d7_61 (host := "") (Or.inl (own_w25 hw)) Via.refl H17 (j := 0) rfl (q := 2) rfl ?_
  refine own_dloadN K own_d7_64 rfl ?_
  refine own_dastore K own_d7_65 H17 (i := 0) rfl (q := 4) (by decide) (own_le rfl) ?_
  intro h18 H19
  replace H19 : own_H Z h18 (own_SD a (.ref b4) (.ref b12) (.int (4 : Int32)) :: os) ((b12, .double, "[D", [y0, y1, y2, y3, (.double sc), (.double (0 : UInt64)), (.double (0 : UInt64)), (.double (0 : UInt64))]) :: (sa, .double, "[D", [y0, y1, y2, y3]) :: (b4, .int, "[I", [x0, x1, x2, x3, (.int dc), (.int (0 : Int32)), (.int (0 : Int32)), (.int (0 : Int32))]) :: (da, .int, "[I", [x0, x1, x2, x3]) :: as) := H19
  refine own_aloadN K own_d7_66 rfl rfl ?_
  refine own_dup K own_d7_67 rfl ?_
  refine own_getfield K own_d7_68 (host := "") (Or.inl (own_w25 hw)) Via.refl H19 (j := 0) rfl (q := 2) rfl ?_
  refine own_iconst K own_d7_71 (v := (1 : Int32)) rfl ?_
  refine own_iadd K own_d7_72 ?_
  refine own_topI (x' := (5 : Int32)) (by decide) ?_
  refine own_putfield K own_d7_73 (host := "") (Or.inl (own_w25 hw)) Via.refl H19 (j := 0) rfl (q := 2) rfl (Or.inl (own_w26 hw)) (own_w6 hw) (ty := .int) (by decide +kernel) (rfl) rfl ?_
  intro h20 H21
  replace H21 : own_H Z h20 (own_SD a (.ref b4) (.ref b12) (.int (5 : Int32)) :: os) ((b12, .double, "[D", [y0, y1, y2, y3, (.double sc), (.double (0 : UInt64)), (.double (0 : UInt64)), (.double (0 : UInt64))]) :: (sa, .double, "[D", [y0, y1, y2, y3]) :: (b4, .int, "[I", [x0, x1, x2, x3, (.int dc), (.int (0 : Int32)), (.int (0 : Int32)), (.int (0 : Int32))]) :: (da, .int, "[I", [x0, x1, x2, x3]) :: as) := H21
  have H22 := H21.frontA 2 rfl
  replace H22 : own_H Z h20 (own_SD a (.ref b4) (.ref b12) (.int (5 : Int32)) :: os) ((b4, .int, "[I", [x0, x1, x2, x3, (.int dc), (.int (0 : Int32)), (.int (0 : Int32)), (.int (0 : Int32))]) :: (b12, .double, "[D", [y0, y1, y2, y3, (.double sc), (.double (0 : UInt64)), (.double (0 : UInt64)), (.double (0 : UInt64))]) :: (sa, .double, "[D", [y0, y1, y2, y3]) :: (da, .int, "[I", [x0, x1, x2, x3]) :: as) := H22
  have H23 := H22.frontA 1 rfl
  replace H23 : own_H Z h20 (own_SD a (.ref b4) (.ref b12) (.int (5 : Int32)) :: os) ((b12, .double, "[D", [y0, y1, y2, y3, (.double sc), (.double (0 : UInt64)), (.double (0 : UInt64)), (.double (0 : UInt64))]) :: (b4, .int, "[I", [x0, x1, x2, x3, (.int dc), (.int (0 : Int32)), (.int (0 : Int32)), (.int (0 : Int32))]) :: (sa, .double, "[D", [y0, y1, y2, y3]) :: (da, .int, "[I", [x0, x1, x2, x3]) :: as) := H23
  exact own_retV K own_d7_76 (by decide) (by decide) (⟨rfl, _, _, _, _, H23⟩)
set_option maxRecDepth 65536 in
set_option maxHeartbeats 40000000 in
theorem own_mul0_ef (m : MethodId) (x0 : Addr) (x1 : UInt64) : entryFrame m #[(.ref x0), (.double x1)] 4 = mkF m 0 #[.val (.ref x0), .val (.double x1), .second, .unset] [] := by first | (simp [entryFrame, mkF, argsToLocals, Value.category]; done) | rfl
set_option maxRecDepth 65536 in
set_option maxHeartbeats 40000000 in
theorem own_mul0 {l : Launch} {Z : State} {a0 : Array Value} (hw : own_Z Z a0) {h : Heap} {os : List own_O} {as : List own_A} {a da sa : Addr} {f : UInt64} {t0 t1 t2 t3 : Value} (H : own_H Z h (own_SD a (.ref da) (.ref sa) (.int (0 : Int32)) :: os) ((sa, .double, "[D", [t0, t1, t2, t3]) :: as)) (ff : Fl.Fin64 f)  : own_Met false l Z (⟨"com/example/fielder/fielder/service/ScoredDocuments", "multiplyScores", "(D)V"⟩ : MethodName) prog_38_method_6_code 4 none [] ({ frames := 0, cells := 0, slots := 0, locals := 0 } : Room) #[(.ref a), (.double f)] h (fun v h' => v = none ∧ own_H Z h' (own_SD a (.ref da) (.ref sa) (.int (0 : Int32)) :: os) ((sa, .double, "[D", [t0, t1, t2, t3]) :: as)) := by
  refine own_met (by first | exact plainFor_of_name (by decide +kernel) | decide +kernel) ?_
  intro p e s m below meth c K
  refine own_cast (own_mul0_ef m _ _) ?_
  refine own_iconst K own_d8_0 (v := (0 : Int32)) rfl ?_
  refine own_istoreN K own_d8_1 (Ls' := #[.val (.ref a), .val (.double f), .second, .val (.int (0 : Int32))]) rfl ?_
  refine own_iloadN K own_d8_2 rfl ?_
  refine own_aloadN K own_d8_3 rfl rfl ?_
  refine own_getfield K own_d8_4 (host := "") (Or.inl (own_w25 hw)) Via.refl H (j := 0) rfl (q := 2) rfl ?_
  refine own_icmpge K own_d8_7 (fun _ => ?_) (fun q => absurd (by decide) q)
  exact own_retV K own_d8_26 (by decide) (by decide) (⟨rfl, H⟩)
set_option maxRecDepth 65536 in
set_option maxHeartbeats 40000000 in
theorem own_mul1_ef (m : MethodId) (x0 : Addr) (x1 : UInt64) : entryFrame m #[(.ref x0), (.double x1)] 4 = mkF m 0 #[.val (.ref x0), .val (.double x1), .second, .unset] [] := by first | (simp [entryFrame, mkF, argsToLocals, Value.category]; done) | rfl
set_option maxRecDepth 65536 in
set_option maxHeartbeats 40000000 in
theorem own_mul1 {l : Launch} {Z : State} {a0 : Array Value} (hw : own_Z Z a0) {h : Heap} {os : List own_O} {as : List own_A} {a da sa : Addr} {f y0 : UInt64} {t1 t2 t3 : Value} (H : own_H Z h (own_SD a (.ref da) (.ref sa) (.int (1 : Int32)) :: os) ((sa, .double, "[D", [(.double y0), t1, t2, t3]) :: as)) (ff : Fl.Fin64 f) (f0 : Fl.Fin64 y0) : own_Met false l Z (⟨"com/example/fielder/fielder/service/ScoredDocuments", "multiplyScores", "(D)V"⟩ : MethodName) prog_38_method_6_code 4 none [] ({ frames := 0, cells := 0, slots := 0, locals := 0 } : Room) #[(.ref a), (.double f)] h (fun v h' => v = none ∧ own_H Z h' (own_SD a (.ref da) (.ref sa) (.int (1 : Int32)) :: os) ((sa, .double, "[D", [(.double (FP.dmul y0 f)), t1, t2, t3]) :: as)) := by
  refine own_met (by first | exact plainFor_of_name (by decide +kernel) | decide +kernel) ?_
  intro p e s m below meth c K
  refine own_cast (own_mul1_ef m _ _) ?_
  refine own_iconst K own_d8_0 (v := (0 : Int32)) rfl ?_
  refine own_istoreN K own_d8_1 (Ls' := #[.val (.ref a), .val (.double f), .second, .val (.int (0 : Int32))]) rfl ?_
  refine own_iloadN K own_d8_2 rfl ?_
  refine own_aloadN K own_d8_3 rfl rfl ?_
  refine own_getfield K own_d8_4 (host := "") (Or.inl (own_w25 hw)) Via.refl H (j := 0) rfl (q := 2) rfl ?_
  refine own_icmpge K own_d8_7 (fun q => absurd q (by decide)) (fun _ => ?_)
  refine own_aloadN K own_d8_10 rfl rfl ?_
  refine own_getfield K own_d8_11 (host := "") (Or.inl (own_w18 hw)) Via.refl H (j := 0) rfl (q := 1) rfl ?_
  refine own_iloadN K own_d8_14 rfl ?_
  refine own_dup2 K own_d8_15 rfl rfl ?_
  refine own_daload K own_d8_16 H (i := 0) rfl (q := 0) (by decide) (rfl) ?_
  refine own_dloadN K own_d8_17 rfl ?_
  refine own_dmul K own_d8_18 (Fl.dmul_out f0 ff) ?_
  refine own_dastore K own_d8_19 H (i := 0) rfl (q := 0) (by decide) (own_le rfl) ?_
  intro h1 H2
  replace H2 : own_H Z h1 (own_SD a (.ref da) (.ref sa) (.int (1 : Int32)) :: os) ((sa, .double, "[D", [(.double (FP.dmul y0 f)), t1, t2, t3]) :: as) := H2
  refine own_iinc K own_d8_20 rfl (y := (1 : Int32)) (by decide) (Ls' := #[.val (.ref a), .val (.double f), .second, .val (.int (1 : Int32))]) rfl ?_
  refine own_goto K own_d8_23 ?_
  refine own_iloadN K own_d8_2 rfl ?_
  refine own_aloadN K own_d8_3 rfl rfl ?_
  refine own_getfield K own_d8_4 (host := "") (Or.inl (own_w25 hw)) Via.refl H2 (j := 0) rfl (q := 2) rfl ?_
  refine own_icmpge K own_d8_7 (fun _ => ?_) (fun q => absurd (by decide) q)
  exact own_retV K own_d8_26 (by decide) (by decide) (⟨rfl, H2⟩)
set_option maxRecDepth 65536 in
set_option maxHeartbeats 40000000 in
theorem own_mul2_ef (m : MethodId) (x0 : Addr) (x1 : UInt64) : entryFrame m #[(.ref x0), (.double x1)] 4 = mkF m 0 #[.val (.ref x0), .val (.double x1), .second, .unset] [] := by first | (simp [entryFrame, mkF, argsToLocals, Value.category]; done) | rfl
set_option maxRecDepth 65536 in
set_option maxHeartbeats 40000000 in
theorem own_mul2 {l : Launch} {Z : State} {a0 : Array Value} (hw : own_Z Z a0) {h : Heap} {os : List own_O} {as : List own_A} {a da sa : Addr} {f y0 y1 : UInt64} {t2 t3 : Value} (H : own_H Z h (own_SD a (.ref da) (.ref sa) (.int (2 : Int32)) :: os) ((sa, .double, "[D", [(.double y0), (.double y1), t2, t3]) :: as)) (ff : Fl.Fin64 f) (f0 : Fl.Fin64 y0) (f1 : Fl.Fin64 y1) : own_Met false l Z (⟨"com/example/fielder/fielder/service/ScoredDocuments", "multiplyScores", "(D)V"⟩ : MethodName) prog_38_method_6_code 4 none [] ({ frames := 0, cells := 0, slots := 0, locals := 0 } : Room) #[(.ref a), (.double f)] h (fun v h' => v = none ∧ own_H Z h' (own_SD a (.ref da) (.ref sa) (.int (2 : Int32)) :: os) ((sa, .double, "[D", [(.double (FP.dmul y0 f)), (.double (FP.dmul y1 f)), t2, t3]) :: as)) := by
  refine own_met (by first | exact plainFor_of_name (by decide +kernel) | decide +kernel) ?_
  intro p e s m below meth c K
  refine own_cast (own_mul2_ef m _ _) ?_
  refine own_iconst K own_d8_0 (v := (0 : Int32)) rfl ?_
  refine own_istoreN K own_d8_1 (Ls' := #[.val (.ref a), .val (.double f), .second, .val (.int (0 : Int32))]) rfl ?_
  refine own_iloadN K own_d8_2 rfl ?_
  refine own_aloadN K own_d8_3 rfl rfl ?_
  refine own_getfield K own_d8_4 (host := "") (Or.inl (own_w25 hw)) Via.refl H (j := 0) rfl (q := 2) rfl ?_
  refine own_icmpge K own_d8_7 (fun q => absurd q (by decide)) (fun _ => ?_)
  refine own_aloadN K own_d8_10 rfl rfl ?_
  refine own_getfield K own_d8_11 (host := "") (Or.inl (own_w18 hw)) Via.refl H (j := 0) rfl (q := 1) rfl ?_
  refine own_iloadN K own_d8_14 rfl ?_
  refine own_dup2 K own_d8_15 rfl rfl ?_
  refine own_daload K own_d8_16 H (i := 0) rfl (q := 0) (by decide) (rfl) ?_
  refine own_dloadN K own_d8_17 rfl ?_
  refine own_dmul K own_d8_18 (Fl.dmul_out f0 ff) ?_
  refine own_dastore K own_d8_19 H (i := 0) rfl (q := 0) (by decide) (own_le rfl) ?_
  intro h1 H2
  replace H2 : own_H Z h1 (own_SD a (.ref da) (.ref sa) (.int (2 : Int32)) :: os) ((sa, .double, "[D", [(.double (FP.dmul y0 f)), (.double y1), t2, t3]) :: as) := H2
  refine own_iinc K own_d8_20 rfl (y := (1 : Int32)) (by decide) (Ls' := #[.val (.ref a), .val (.double f), .second, .val (.int (1 : Int32))]) rfl ?_
  refine own_goto K own_d8_23 ?_
  refine own_iloadN K own_d8_2 rfl ?_
  refine own_aloadN K own_d8_3 rfl rfl ?_
  refine own_getfield K own_d8_4 (host := "") (Or.inl (own_w25 hw)) Via.refl H2 (j := 0) rfl (q := 2) rfl ?_
  refine own_icmpge K own_d8_7 (fun q => absurd q (by decide)) (fun _ => ?_)
  refine own_aloadN K own_d8_10 rfl rfl ?_
  refine own_getfield K own_d8_11 (host := "") (Or.inl (own_w18 hw)) Via.refl H2 (j := 0) rfl (q := 1) rfl ?_
  refine own_iloadN K own_d8_14 rfl ?_
  refine own_dup2 K own_d8_15 rfl rfl ?_
  refine own_daload K own_d8_16 H2 (i := 0) rfl (q := 1) (by decide) (rfl) ?_
  refine own_dloadN K own_d8_17 rfl ?_
  refine own_dmul K own_d8_18 (Fl.dmul_out f1 ff) ?_
  refine own_dastore K own_d8_19 H2 (i := 0) rfl (q := 1) (by decide) (own_le rfl) ?_
  intro h3 H4
  replace H4 : own_H Z h3 (own_SD a (.ref da) (.ref sa) (.int (2 : Int32)) :: os) ((sa, .double, "[D", [(.double (FP.dmul y0 f)), (.double (FP.dmul y1 f)), t2, t3]) :: as) := H4
  refine own_iinc K own_d8_20 rfl (y := (2 : Int32)) (by decide) (Ls' := #[.val (.ref a), .val (.double f), .second, .val (.int (2 : Int32))]) rfl ?_
  refine own_goto K own_d8_23 ?_
  refine own_iloadN K own_d8_2 rfl ?_
  refine own_aloadN K own_d8_3 rfl rfl ?_
  refine own_getfield K own_d8_4 (host := "") (Or.inl (own_w25 hw)) Via.refl H4 (j := 0) rfl (q := 2) rfl ?_
  refine own_icmpge K own_d8_7 (fun _ => ?_) (fun q => absurd (by decide) q)
  exact own_retV K own_d8_26 (by decide) (by decide) (⟨rfl, H4⟩)
set_option maxRecDepth 65536 in
set_option maxHeartbeats 40000000 in
theorem own_mul3_ef (m : MethodId) (x0 : Addr) (x1 : UInt64) : entryFrame m #[(.ref x0), (.double x1)] 4 = mkF m 0 #[.val (.ref x0), .val (.double x1), .second, .unset] [] := by first | (simp [entryFrame, mkF, argsToLocals, Value.category]; done) | rfl
set_option maxRecDepth 65536 in
set_option maxHeartbeats 40000000 in
theorem own_mul3 {l : Launch} {Z : State} {a0 : Array Value} (hw : own_Z Z a0) {h : Heap} {os : List own_O} {as : List own_A} {a da sa : Addr} {f y0 y1 y2 : UInt64} {t3 : Value} (H : own_H Z h (own_SD a (.ref da) (.ref sa) (.int (3 : Int32)) :: os) ((sa, .double, "[D", [(.double y0), (.double y1), (.double y2), t3]) :: as)) (ff : Fl.Fin64 f) (f0 : Fl.Fin64 y0) (f1 : Fl.Fin64 y1) (f2 : Fl.Fin64 y2) : own_Met false l Z (⟨"com/example/fielder/fielder/service/ScoredDocuments", "multiplyScores", "(D)V"⟩ : MethodName) prog_38_method_6_code 4 none [] ({ frames := 0, cells := 0, slots := 0, locals := 0 } : Room) #[(.ref a), (.double f)] h (fun v h' => v = none ∧ own_H Z h' (own_SD a (.ref da) (.ref sa) (.int (3 : Int32)) :: os) ((sa, .double, "[D", [(.double (FP.dmul y0 f)), (.double (FP.dmul y1 f)), (.double (FP.dmul y2 f)), t3]) :: as)) := by
  refine own_met (by first | exact plainFor_of_name (by decide +kernel) | decide +kernel) ?_
  intro p e s m below meth c K
  refine own_cast (own_mul3_ef m _ _) ?_
  refine own_iconst K own_d8_0 (v := (0 : Int32)) rfl ?_
  refine own_istoreN K own_d8_1 (Ls' := #[.val (.ref a), .val (.double f), .second, .val (.int (0 : Int32))]) rfl ?_
  refine own_iloadN K own_d8_2 rfl ?_
  refine own_aloadN K own_d8_3 rfl rfl ?_
  refine own_getfield K own_d8_4 (host := "") (Or.inl (own_w25 hw)) Via.refl H (j := 0) rfl (q := 2) rfl ?_
  refine own_icmpge K own_d8_7 (fun q => absurd q (by decide)) (fun _ => ?_)
  refine own_aloadN K own_d8_10 rfl rfl ?_
  refine own_getfield K own_d8_11 (host := "") (Or.inl (own_w18 hw)) Via.refl H (j := 0) rfl (q := 1) rfl ?_
  refine own_iloadN K own_d8_14 rfl ?_
  refine own_dup2 K own_d8_15 rfl rfl ?_
  refine own_daload K own_d8_16 H (i := 0) rfl (q := 0) (by decide) (rfl) ?_
  refine own_dloadN K own_d8_17 rfl ?_
  refine own_dmul K own_d8_18 (Fl.dmul_out f0 ff) ?_
  refine own_dastore K own_d8_19 H (i := 0) rfl (q := 0) (by decide) (own_le rfl) ?_
  intro h1 H2
  replace H2 : own_H Z h1 (own_SD a (.ref da) (.ref sa) (.int (3 : Int32)) :: os) ((sa, .double, "[D", [(.double (FP.dmul y0 f)), (.double y1), (.double y2), t3]) :: as) := H2
  refine own_iinc K own_d8_20 rfl (y := (1 : Int32)) (by decide) (Ls' := #[.val (.ref a), .val (.double f), .second, .val (.int (1 : Int32))]) rfl ?_
  refine own_goto K own_d8_23 ?_
  refine own_iloadN K own_d8_2 rfl ?_
  refine own_aloadN K own_d8_3 rfl rfl ?_
  refine own_getfield K own_d8_4 (host := "") (Or.inl (own_w25 hw)) Via.refl H2 (j := 0) rfl (q := 2) rfl ?_
  refine own_icmpge K own_d8_7 (fun q => absurd q (by decide)) (fun _ => ?_)
  refine own_aloadN K own_d8_10 rfl rfl ?_
  refine own_getfield K own_d8_11 (host := "") (Or.inl (own_w18 hw)) Via.refl H2 (j := 0) rfl (q := 1) rfl ?_
  refine own_iloadN K own_d8_14 rfl ?_
  refine own_dup2 K own_d8_15 rfl rfl ?_
  refine own_daload K own_d8_16 H2 (i := 0) rfl (q := 1) (by decide) (rfl) ?_
  refine own_dloadN K own_d8_17 rfl ?_
  refine own_dmul K own_d8_18 (Fl.dmul_out f1 ff) ?_
  refine own_dastore K own_d8_19 H2 (i := 0) rfl (q := 1) (by decide) (own_le rfl) ?_
  intro h3 H4
  replace H4 : own_H Z h3 (own_SD a (.ref da) (.ref sa) (.int (3 : Int32)) :: os) ((sa, .double, "[D", [(.double (FP.dmul y0 f)), (.double (FP.dmul y1 f)), (.double y2), t3]) :: as) := H4
  refine own_iinc K own_d8_20 rfl (y := (2 : Int32)) (by decide) (Ls' := #[.val (.ref a), .val (.double f), .second, .val (.int (2 : Int32))]) rfl ?_
  refine own_goto K own_d8_23 ?_
  refine own_iloadN K own_d8_2 rfl ?_
  refine own_aloadN K own_d8_3 rfl rfl ?_
  refine own_getfield K own_d8_4 (host := "") (Or.inl (own_w25 hw)) Via.refl H4 (j := 0) rfl (q := 2) rfl ?_
  refine own_icmpge K own_d8_7 (fun q => absurd q (by decide)) (fun _ => ?_)
  refine own_aloadN K own_d8_10 rfl rfl ?_
  refine own_getfield K own_d8_11 (host := "") (Or.inl (own_w18 hw)) Via.refl H4 (j := 0) rfl (q := 1) rfl ?_
  refine own_iloadN K own_d8_14 rfl ?_
  refine own_dup2 K own_d8_15 rfl rfl ?_
  refine own_daload K own_d8_16 H4 (i := 0) rfl (q := 2) (by decide) (rfl) ?_
  refine own_dloadN K own_d8_17 rfl ?_
  refine own_dmul K own_d8_18 (Fl.dmul_out f2 ff) ?_
  refine own_dastore K own_d8_19 H4 (i := 0) rfl (q := 2) (by decide) (own_le rfl) ?_
  intro h5 H6
  replace H6 : own_H Z h5 (own_SD a (.ref da) (.ref sa) (.int (3 : Int32)) :: os) ((sa, .double, "[D", [(.double (FP.dmul y0 f)), (.double (FP.dmul y1 f)), (.double (FP.dmul y2 f)), t3]) :: as) := H6
  refine own_iinc K own_d8_20 rfl (y := (3 : Int32)) (by decide) (Ls' := #[.val (.ref a), .val (.double f), .second, .val (.int (3 : Int32))]) rfl ?_
  refine own_goto K own_d8_23 ?_
  refine own_iloadN K own_d8_2 rfl ?_
  refine own_aloadN K own_d8_3 rfl rfl ?_
  refine own_getfield K own_d8_4 (host := "") (Or.inl (own_w25 hw)) Via.refl H6 (j := 0) rfl (q := 2) rfl ?_
  refine own_icmpge K own_d8_7 (fun _ => ?_) (fun q => absurd (by decide) q)
  exact own_retV K own_d8_26 (by decide) (by decide) (⟨rfl, H6⟩)
set_option maxRecDepth 65536 in
set_option maxHeartbeats 40000000 in
theorem own_mul4_ef (m : MethodId) (x0 : Addr) (x1 : UInt64) : entryFrame m #[(.ref x0), (.double x1)] 4 = mkF m 0 #[.val (.ref x0), .val (.double x1), .second, .unset] [] := by first | (simp [entryFrame, mkF, argsToLocals, Value.category]; done) | rfl
set_option maxRecDepth 65536 in
set_option maxHeartbeats 40000000 in
theorem own_mul4 {l : Launch} {Z : State} {a0 : Array Value} (hw : own_Z Z a0) {h : Heap} {os : List own_O} {as : List own_A} {a da sa : Addr} {f y0 y1 y2 y3 : UInt64}  (H : own_H Z h (own_SD a (.ref da) (.ref sa) (.int (4 : Int32)) :: os) ((sa, .double, "[D", [(.double y0), (.double y1), (.double y2), (.double y3)]) :: as)) (ff : Fl.Fin64 f) (f0 : Fl.Fin64 y0) (f1 : Fl.Fin64 y1) (f2 : Fl.Fin64 y2) (f3 : Fl.Fin64 y3) : own_Met false l Z (⟨"com/example/fielder/fielder/service/ScoredDocuments", "multiplyScores", "(D)V"⟩ : MethodName) prog_38_method_6_code 4 none [] ({ frames := 0, cells := 0, slots := 0, locals := 0 } : Room) #[(.ref a), (.double f)] h (fun v h' => v = none ∧ own_H Z h' (own_SD a (.ref da) (.ref sa) (.int (4 : Int32)) :: os) ((sa, .double, "[D", [(.double (FP.dmul y0 f)), (.double (FP.dmul y1 f)), (.double (FP.dmul y2 f)), (.double (FP.dmul y3 f))]) :: as)) := by
  refine own_met (by first | exact plainFor_of_name (by decide +kernel) | decide +kernel) ?_
  intro p e s m below meth c K
  refine own_cast (own_mul4_ef m _ _) ?_
  refine own_iconst K own_d8_0 (v := (0 : Int32)) rfl ?_
  refine own_istoreN K own_d8_1 (Ls' := #[.val (.ref a), .val (.double f), .second, .val (.int (0 : Int32))]) rfl ?_
  refine own_iloadN K own_d8_2 rfl ?_
  refine own_aloadN K own_d8_3 rfl rfl ?_
  refine own_getfield K own_d8_4 (host := "") (Or.inl (own_w25 hw)) Via.refl H (j := 0) rfl (q := 2) rfl ?_
  refine own_icmpge K own_d8_7 (fun q => absurd q (by decide)) (fun _ => ?_)
  refine own_aloadN K own_d8_10 rfl rfl ?_
  refine own_getfield K own_d8_11 (host := "") (Or.inl (own_w18 hw)) Via.refl H (j := 0) rfl (q := 1) rfl ?_
  refine own_iloadN K own_d8_14 rfl ?_
  refine own_dup2 K own_d8_15 rfl rfl ?_
  refine own_daload K own_d8_16 H (i := 0) rfl (q := 0) (by decide) (rfl) ?_
  refine own_dloadN K own_d8_17 rfl ?_
  refine own_dmul K own_d8_18 (Fl.dmul_out f0 ff) ?_
  refine own_dastore K own_d8_19 H (i := 0) rfl (q := 0) (by decide) (own_le rfl) ?_
  intro h1 H2
  replace H2 : own_H Z h1 (own_SD a (.ref da) (.ref sa) (.int (4 : Int32)) :: os) ((sa, .double, "[D", [(.double (FP.dmul y0 f)), (.double y1), (.double y2), (.double y3)]) :: as) := H2
  refine own_iinc K own_d8_20 rfl (y := (1 : Int32)) (by decide) (Ls' := #[.val (.ref a), .val (.double f), .second, .val (.int (1 : Int32))]) rfl ?_
  refine own_goto K own_d8_23 ?_
  refine own_iloadN K own_d8_2 rfl ?_
  refine own_aloadN K own_d8_3 rfl rfl ?_
  refine own_getfield K own_d8_4 (host := "") (Or.inl (own_w25 hw)) Via.refl H2 (j := 0) rfl (q := 2) rfl ?_
  refine own_icmpge K own_d8_7 (fun q => absurd q (by decide)) (fun _ => ?_)
  refine own_aloadN K own_d8_10 rfl rfl ?_
  refine own_getfield K own_d8_11 (host := "") (Or.inl (own_w18 hw)) Via.refl H2 (j := 0) rfl (q := 1) rfl ?_
  refine own_iloadN K own_d8_14 rfl ?_
  refine own_dup2 K own_d8_15 rfl rfl ?_
  refine own_daload K own_d8_16 H2 (i := 0) rfl (q := 1) (by decide) (rfl) ?_
  refine own_dloadN K own_d8_17 rfl ?_
  refine own_dmul K own_d8_18 (Fl.dmul_out f1 ff) ?_
  refine own_dastore K own_d8_19 H2 (i := 0) rfl (q := 1) (by decide) (own_le rfl) ?_
  intro h3 H4
  replace H4 : own_H Z h3 (own_SD a (.ref da) (.ref sa) (.int (4 : Int32)) :: os) ((sa, .double, "[D", [(.double (FP.dmul y0 f)), (.double (FP.dmul y1 f)), (.double y2), (.double y3)]) :: as) := H4
  refine own_iinc K own_d8_20 rfl (y := (2 : Int32)) (by decide) (Ls' := #[.val (.ref a), .val (.double f), .second, .val (.int (2 : Int32))]) rfl ?_
  refine own_goto K own_d8_23 ?_
  refine own_iloadN K own_d8_2 rfl ?_
  refine own_aloadN K own_d8_3 rfl rfl ?_
  refine own_getfield K own_d8_4 (host := "") (Or.inl (own_w25 hw)) Via.refl H4 (j := 0) rfl (q := 2) rfl ?_
  refine own_icmpge K own_d8_7 (fun q => absurd q (by decide)) (fun _ => ?_)
  refine own_aloadN K own_d8_10 rfl rfl ?_
  refine own_getfield K own_d8_11 (host := "") (Or.inl (own_w18 hw)) Via.refl H4 (j := 0) rfl (q := 1) rfl ?_
  refine own_iloadN K own_d8_14 rfl ?_
  refine own_dup2 K own_d8_15 rfl rfl ?_
  refine own_daload K own_d8_16 H4 (i := 0) rfl (q := 2) (by decide) (rfl) ?_
  refine own_dloadN K own_d8_17 rfl ?_
  refine own_dmul K own_d8_18 (Fl.dmul_out f2 ff) ?_
  refine own_dastore K own_d8_19 H4 (i := 0) rfl (q := 2) (by decide) (own_le rfl) ?_
  intro h5 H6
  replace H6 : own_H Z h5 (own_SD a (.ref da) (.ref sa) (.int (4 : Int32)) :: os) ((sa, .double, "[D", [(.double (FP.dmul y0 f)), (.double (FP.dmul y1 f)), (.double (FP.dmul y2 f)), (.double y3)]) :: as) := H6
  refine own_iinc K own_d8_20 rfl (y := (3 : Int32)) (by decide) (Ls' := #[.val (.ref a), .val (.double f), .second, .val (.int (3 : Int32))]) rfl ?_
  refine own_goto K own_d8_23 ?_
  refine own_iloadN K own_d8_2 rfl ?_
  refine own_aloadN K own_d8_3 rfl rfl ?_
  refine own_getfield K own_d8_4 (host := "") (Or.inl (own_w25 hw)) Via.refl H6 (j := 0) rfl (q := 2) rfl ?_
  refine own_icmpge K own_d8_7 (fun q => absurd q (by decide)) (fun _ => ?_)
  refine own_aloadN K own_d8_10 rfl rfl ?_
  refine own_getfield K own_d8_11 (host := "") (Or.inl (own_w18 hw)) Via.refl H6 (j := 0) rfl (q := 1) rfl ?_
  refine own_iloadN K own_d8_14 rfl ?_
  refine own_dup2 K own_d8_15 rfl rfl ?_
  refine own_daload K own_d8_16 H6 (i := 0) rfl (q := 3) (by decide) (rfl) ?_
  refine own_dloadN K own_d8_17 rfl ?_
  refine own_dmul K own_d8_18 (Fl.dmul_out f3 ff) ?_
  refine own_dastore K own_d8_19 H6 (i := 0) rfl (q := 3) (by decide) (own_le rfl) ?_
  intro h7 H8
  replace H8 : own_H Z h7 (own_SD a (.ref da) (.ref sa) (.int (4 : Int32)) :: os) ((sa, .double, "[D", [(.double (FP.dmul y0 f)), (.double (FP.dmul y1 f)), (.double (FP.dmul y2 f)), (.double (FP.dmul y3 f))]) :: as) := H8
  refine own_iinc K own_d8_20 rfl (y := (4 : Int32)) (by decide) (Ls' := #[.val (.ref a), .val (.double f), .second, .val (.int (4 : Int32))]) rfl ?_
  refine own_goto K own_d8_23 ?_
  refine own_iloadN K own_d8_2 rfl ?_
  refine own_aloadN K own_d8_3 rfl rfl ?_
  refine own_getfield K own_d8_4 (host := "") (Or.inl (own_w25 hw)) Via.refl H8 (j := 0) rfl (q := 2) rfl ?_
  refine own_icmpge K own_d8_7 (fun _ => ?_) (fun q => absurd (by decide) q)
  exact own_retV K own_d8_26 (by decide) (by decide) (⟨rfl, H8⟩)
set_option maxRecDepth 65536 in
set_option maxHeartbeats 40000000 in
theorem own_mul5_ef (m : MethodId) (x0 : Addr) (x1 : UInt64) : entryFrame m #[(.ref x0), (.double x1)] 4 = mkF m 0 #[.val (.ref x0), .val (.double x1), .second, .unset] [] := by first | (simp [entryFrame, mkF, argsToLocals, Value.category]; done) | rfl
set_option maxRecDepth 65536 in
set_option maxHeartbeats 40000000 in
theorem own_mul5 {l : Launch} {Z : State} {a0 : Array Value} (hw : own_Z Z a0) {h : Heap} {os : List own_O} {as : List own_A} {a da sa : Addr} {f y0 y1 y2 y3 y4 : UInt64} {t5 t6 t7 : Value} (H : own_H Z h (own_SD a (.ref da) (.ref sa) (.int (5 : Int32)) :: os) ((sa, .double, "[D", [(.double y0), (.double y1), (.double y2), (.double y3), (.double y4), t5, t6, t7]) :: as)) (ff : Fl.Fin64 f) (f0 : Fl.Fin64 y0) (f1 : Fl.Fin64 y1) (f2 : Fl.Fin64 y2) (f3 : Fl.Fin64 y3) (f4 : Fl.Fin64 y4) : own_Met false l Z (⟨"com/example/fielder/fielder/service/ScoredDocuments", "multiplyScores", "(D)V"⟩ : MethodName) prog_38_method_6_code 4 none [] ({ frames := 0, cells := 0, slots := 0, locals := 0 } : Room) #[(.ref a), (.double f)] h (fun v h' => v = none ∧ own_H Z h' (own_SD a (.ref da) (.ref sa) (.int (5 : Int32)) :: os) ((sa, .double, "[D", [(.double (FP.dmul y0 f)), (.double (FP.dmul y1 f)), (.double (FP.dmul y2 f)), (.double (FP.dmul y3 f)), (.double (FP.dmul y4 f)), t5, t6, t7]) :: as)) := by
  refine own_met (by first | exact plainFor_of_name (by decide +kernel) | decide +kernel) ?_
  intro p e s m below meth c K
  refine own_cast (own_mul5_ef m _ _) ?_
  refine own_iconst K own_d8_0 (v := (0 : Int32)) rfl ?_
  refine own_istoreN K own_d8_1 (Ls' := #[.val (.ref a), .val (.double f), .second, .val (.int (0 : Int32))]) rfl ?_
  refine own_iloadN K own_d8_2 rfl ?_
  refine own_aloadN K own_d8_3 rfl rfl ?_
  refine own_getfield K own_d8_4 (host := "") (Or.inl (own_w25 hw)) Via.refl H (j := 0) rfl (q := 2) rfl ?_
  refine own_icmpge K own_d8_7 (fun q => absurd q (by decide)) (fun _ => ?_)
  refine own_aloadN K own_d8_10 rfl rfl ?_
  refine own_getfield K own_d8_11 (host := "") (Or.inl (own_w18 hw)) Via.refl H (j := 0) rfl (q := 1) rfl ?_
  refine own_iloadN K own_d8_14 rfl ?_
  refine own_dup2 K own_d8_15 rfl rfl ?_
  refine own_daload K own_d8_16 H (i := 0) rfl (q := 0) (by decide) (rfl) ?_
  refine own_dloadN K own_d8_17 rfl ?_
  refine own_dmul K own_d8_18 (Fl.dmul_out f0 ff) ?_
  refine own_dastore K own_d8_19 H (i := 0) rfl (q := 0) (by decide) (own_le rfl) ?_
  intro h1 H2
  replace H2 : own_H Z h1 (own_SD a (.ref da) (.ref sa) (.int (5 : Int32)) :: os) ((sa, .double, "[D", [(.double (FP.dmul y0 f)), (.double y1), (.double y2), (.double y3), (.double y4), t5, t6, t7]) :: as) := H2
  refine own_iinc K own_d8_20 rfl (y := (1 : Int32)) (by decide) (Ls' := #[.val (.ref a), .val (.double f), .second, .val (.int (1 : Int32))]) rfl ?_
  refine own_goto K own_d8_23 ?_
  refine own_iloadN K own_d8_2 rfl ?_
  refine own_aloadN K own_d8_3 rfl rfl ?_
  refine own_getfield K own_d8_4 (host := "") (Or.inl (own_w25 hw)) Via.refl H2 (j := 0) rfl (q := 2) rfl ?_
  refine own_icmpge K own_d8_7 (fun q => absurd q (by decide)) (fun _ => ?_)
  refine own_aloadN K own_d8_10 rfl rfl ?_
  refine own_getfield K own_d8_11 (host := "") (Or.inl (own_w18 hw)) Via.refl H2 (j := 0) rfl (q := 1) rfl ?_
  refine own_iloadN K own_d8_14 rfl ?_
  refine own_dup2 K own_d8_15 rfl rfl ?_
  refine own_daload K own_d8_16 H2 (i := 0) rfl (q := 1) (by decide) (rfl) ?_
  refine own_dloadN K own_d8_17 rfl ?_
  refine own_dmul K own_d8_18 (Fl.dmul_out f1 ff) ?_
  refine own_dastore K own_d8_19 H2 (i := 0) rfl (q := 1) (by decide) (own_le rfl) ?_
  intro h3 H4
  replace H4 : own_H Z h3 (own_SD a (.ref da) (.ref sa) (.int (5 : Int32)) :: os) ((sa, .double, "[D", [(.double (FP.dmul y0 f)), (.double (FP.dmul y1 f)), (.double y2), (.double y3), (.double y4), t5, t6, t7]) :: as) := H4
  refine own_iinc K own_d8_20 rfl (y := (2 : Int32)) (by decide) (Ls' := #[.val (.ref a), .val (.double f), .second, .val (.int (2 : Int32))]) rfl ?_
  refine own_goto K own_d8_23 ?_
  refine own_iloadN K own_d8_2 rfl ?_
  refine own_aloadN K own_d8_3 rfl rfl ?_
  refine own_getfield K own_d8_4 (host := "") (Or.inl (own_w25 hw)) Via.refl H4 (j := 0) rfl (q := 2) rfl ?_
  refine own_icmpge K own_d8_7 (fun q => absurd q (by decide)) (fun _ => ?_)
  refine own_aloadN K own_d8_10 rfl rfl ?_
  refine own_getfield K own_d8_11 (host := "") (Or.inl (own_w18 hw)) Via.refl H4 (j := 0) rfl (q := 1) rfl ?_
  refine own_iloadN K own_d8_14 rfl ?_
  refine own_dup2 K own_d8_15 rfl rfl ?_
  refine own_daload K own_d8_16 H4 (i := 0) rfl (q := 2) (by decide) (rfl) ?_
  refine own_dloadN K own_d8_17 rfl ?_
  refine own_dmul K own_d8_18 (Fl.dmul_out f2 ff) ?_
  refine own_dastore K own_d8_19 H4 (i := 0) rfl (q := 2) (by decide) (own_le rfl) ?_
  intro h5 H6
  replace H6 : own_H Z h5 (own_SD a (.ref da) (.ref sa) (.int (5 : Int32)) :: os) ((sa, .double, "[D", [(.double (FP.dmul y0 f)), (.double (FP.dmul y1 f)), (.double (FP.dmul y2 f)), (.double y3), (.double y4), t5, t6, t7]) :: as) := H6
  refine own_iinc K own_d8_20 rfl (y := (3 : Int32)) (by decide) (Ls' := #[.val (.ref a), .val (.double f), .second, .val (.int (3 : Int32))]) rfl ?_
  refine own_goto K own_d8_23 ?_
  refine own_iloadN K own_d8_2 rfl ?_
  refine own_aloadN K own_d8_3 rfl rfl ?_
  refine own_getfield K own_d8_4 (host := "") (Or.inl (own_w25 hw)) Via.refl H6 (j := 0) rfl (q := 2) rfl ?_
  refine own_icmpge K own_d8_7 (fun q => absurd q (by decide)) (fun _ => ?_)
  refine own_aloadN K own_d8_10 rfl rfl ?_
  refine own_getfield K own_d8_11 (host := "") (Or.inl (own_w18 hw)) Via.refl H6 (j := 0) rfl (q := 1) rfl ?_
  refine own_iloadN K own_d8_14 rfl ?_
  refine own_dup2 K own_d8_15 rfl rfl ?_
  refine own_daload K own_d8_16 H6 (i := 0) rfl (q := 3) (by decide) (rfl) ?_
  refine own_dloadN K own_d8_17 rfl ?_
  refine own_dmul K own_d8_18 (Fl.dmul_out f3 ff) ?_
  refine own_dastore K own_d8_19 H6 (i := 0) rfl (q := 3) (by decide) (own_le rfl) ?_
  intro h7 H8
  replace H8 : own_H Z h7 (own_SD a (.ref da) (.ref sa) (.int (5 : Int32)) :: os) ((sa, .double, "[D", [(.double (FP.dmul y0 f)), (.double (FP.dmul y1 f)), (.double (FP.dmul y2 f)), (.double (FP.dmul y3 f)), (.double y4), t5, t6, t7]) :: as) := H8
  refine own_iinc K own_d8_20 rfl (y := (4 : Int32)) (by decide) (Ls' := #[.val (.ref a), .val (.double f), .second, .val (.int (4 : Int32))]) rfl ?_
  refine own_goto K own_d8_23 ?_
  refine own_iloadN K own_d8_2 rfl ?_
  refine own_aloadN K own_d8_3 rfl rfl ?_
  refine own_getfield K own_d8_4 (host := "") (Or.inl (own_w25 hw)) Via.refl H8 (j := 0) rfl (q := 2) rfl ?_
  refine own_icmpge K own_d8_7 (fun q => absurd q (by decide)) (fun _ => ?_)
  refine own_aloadN K own_d8_10 rfl rfl ?_
  refine own_getfield K own_d8_11 (host := "") (Or.inl (own_w18 hw)) Via.refl H8 (j := 0) rfl (q := 1) rfl ?_
  refine own_iloadN K own_d8_14 rfl ?_
  refine own_dup2 K own_d8_15 rfl rfl ?_
  refine own_daload K own_d8_16 H8 (i := 0) rfl (q := 4) (by decide) (rfl) ?_
  refine own_dloadN K own_d8_17 rfl ?_
  refine own_dmul K own_d8_18 (Fl.dmul_out f4 ff) ?_
  refine own_dastore K own_d8_19 H8 (i := 0) rfl (q := 4) (by decide) (own_le rfl) ?_
  intro h9 H10
  replace H10 : own_H Z h9 (own_SD a (.ref da) (.ref sa) (.int (5 : Int32)) :: os) ((sa, .double, "[D", [(.double (FP.dmul y0 f)), (.double (FP.dmul y1 f)), (.double (FP.dmul y2 f)), (.double (FP.dmul y3 f)), (.double (FP.dmul y4 f)), t5, t6, t7]) :: as) := H10
  refine own_iinc K own_d8_20 rfl (y := (5 : Int32)) (by decide) (Ls' := #[.val (.ref a), .val (.double f), .second, .val (.int (5 : Int32))]) rfl ?_
  refine own_goto K own_d8_23 ?_
  refine own_iloadN K own_d8_2 rfl ?_
  refine own_aloadN K own_d8_3 rfl rfl ?_
  refine own_getfield K own_d8_4 (host := "") (Or.inl (own_w25 hw)) Via.refl H10 (j := 0) rfl (q := 2) rfl ?_
  refine own_icmpge K own_d8_7 (fun _ => ?_) (fun q => absurd (by decide) q)
  exact own_retV K own_d8_26 (by decide) (by decide) (⟨rfl, H10⟩)
set_option maxRecDepth 65536 in
set_option maxHeartbeats 40000000 in
theorem own_ok_ef (m : MethodId) (x0 : Addr) (x1 : Int32) (x2 : Int32) (x3 : Int32) (x4 : Int32) : entryFrame m #[(.ref x0), (.int x1), (.int x2), (.int x3), (.int x4)] 5 = mkF m 0 #[.val (.ref x0), .val (.int x1), .val (.int x2), .val (.int x3), .val (.int x4)] [] := by first | (simp [entryFrame, mkF, argsToLocals, Value.category]; done) | rfl
set_option maxRecDepth 65536 in
set_option maxHeartbeats 40000000 in
theorem own_ok {l : Launch} {Z : State} {a0 : Array Value} (hw : own_Z Z a0) {h : Heap} {os : List own_O} {as : List own_A} {a da sa : Addr} {n i z f : Int32} {vs : List Value} (H : own_H Z h (own_SD a (.ref da) (.ref sa) (.int n) :: os) ((sa, .double, "[D", vs) :: as)) (g1 : -2048 ≤ z.toInt) (g2 : z.toInt ≤ 2047) (hk : i.toInt < n.toInt → ∃ q : Nat, i.toInt = (q : Int) ∧ vs[q]? = some (.double (FP.dmul (FP.i2d z) (FP.i2d f)))) : own_Met false l Z (⟨"com/example/fielder/fielder/service/ScoredDocumentsMultiplyScoresPinLaw", "ok", "(Lcom/example/fielder/fielder/service/ScoredDocuments;IIII)Z"⟩ : MethodName) method_4_code 5 (some .boolean) [] ({ frames := 1, cells := 0, slots := 0, locals := 13 } : Room) #[(.ref a), (.int n), (.int i), (.int z), (.int f)] h (fun v h' => v = some (.int 1) ∧ h = h') := by
  refine own_met (by first | exact plainFor_of_name (by decide +kernel) | decide +kernel) ?_
  intro p e s m below meth c K
  refine own_cast (own_ok_ef m _ _ _ _ _) ?_
  refine own_iloadN K own_d9_0 rfl ?_
  refine own_iloadN K own_d9_1 rfl ?_
  refine own_icmpge K own_d9_2 (fun g => ?_) (fun g => ?_)
  · refine own_iconst K own_d9_21 (v := (1 : Int32)) rfl ?_
    refine own_goto K own_d9_22 ?_
    exact own_retZ K (by first | exact Or.inl rfl | exact Or.inr rfl | decide) own_d9_26 (by decide) (by decide) (⟨rfl, rfl⟩)
  · refine own_aloadN K own_d9_5 rfl rfl ?_
    refine own_iloadN K own_d9_6 rfl ?_
    obtain ⟨q, hq, hv⟩ := hk (Int.lt_of_not_ge g)
    refine own_virtual K own_d9_7 (own_w40 hw) (own_w41 hw) (own_w43 hw) (own_w42 hw) (own_w7 hw) (own_w44 hw) (H.atO (i := 0) rfl) (a := a) (argsL := [(.int i)]) (rest := []) (own_score hw H hq hv) own_pd3 rfl rfl rfl (by decide) (W := 0) (Nat.le_of_eq rfl) (by decide) (by decide) (by decide) (by decide) ?_
    intro v3 h1 q2
    obtain ⟨rfl, rfl⟩ := q2
    refine own_iloadN K own_d9_10 rfl ?_
    refine own_i2l K own_d9_11 ?_
    refine own_iload K own_d9_12 rfl ?_
    refine own_i2l K own_d9_14 ?_
    refine own_lmul K own_d9_15 ?_
    refine own_l2d K own_d9_16 ?_
    refine own_dcmp K own_d9_17 ?_
    refine own_ifne K own_d9_18 (fun q => absurd q (fun r => r (own_prod g1 g2))) (fun _ => ?_)
    refine own_iconst K own_d9_21 (v := (1 : Int32)) rfl ?_
    refine own_goto K own_d9_22 ?_
    exact own_retZ K (by first | exact Or.inl rfl | exact Or.inr rfl | decide) own_d9_26 (by decide) (by decide) (⟨rfl, rfl⟩)
theorem own_six (a : Int32) : (a &&& 7) % 6 = 0 ∨ (a &&& 7) % 6 = 1 ∨ (a &&& 7) % 6 = 2 ∨ (a &&& 7) % 6 = 3 ∨ (a &&& 7) % 6 = 4 ∨ (a &&& 7) % 6 = 5 := by
  have h := own_rem32 (a := a &&& 7) (b := 6) (own_and_bound a 7 (by decide)).1 (by decide)
  have e6 : (6 : Int32).toInt = 6 := rfl
  have e0 : (0 : Int32).toInt = 0 := rfl
  have e1 : (1 : Int32).toInt = 1 := rfl
  have e2 : (2 : Int32).toInt = 2 := rfl
  have e3 : (3 : Int32).toInt = 3 := rfl
  have e4 : (4 : Int32).toInt = 4 := rfl
  have e5 : (5 : Int32).toInt = 5 := rfl
  simp only [← Int32.toInt_inj]
  omega
set_option maxRecDepth 65536 in
set_option maxHeartbeats 40000000 in
theorem own_law_ef (m : MethodId) (x0 : Int32) (x1 : Int64) (x2 : Int32) : entryFrame m #[(.int x0), (.long x1), (.int x2)] 11 = mkF m 0 #[.val (.int x0), .val (.long x1), .second, .val (.int x2), .unset, .unset, .unset, .unset, .unset, .unset, .unset] [] := by first | (simp [entryFrame, mkF, argsToLocals, Value.category]; done) | rfl
set_option maxRecDepth 65536 in
set_option maxHeartbeats 40000000 in
theorem own_law {l : Launch} {Z : State} {a0 : Array Value} (hw : own_Z Z a0) {ct : Int32} {pk : Int64} {fc : Int32} : own_Met false l Z (⟨"com/example/fielder/fielder/service/ScoredDocumentsMultiplyScoresPinLaw", "law", "(IJI)Z"⟩ : MethodName) code 11 (some .boolean) tables_1 room_1 #[(.int ct), (.long pk), (.int fc)] Z.heap (fun v h' => v = some (.int 1)) := by
  refine own_met (by first | exact plainFor_of_name (by decide +kernel) | decide +kernel) ?_
  intro p e s m below meth c K
  refine own_cast (own_law_ef m _ _ _) ?_
  have H := own_H.start Z
  rcases own_six ct with q | q | q | q | q | q
  · refine own_iloadN K own_d10_0 rfl ?_
    refine own_bipush K own_d10_1 (v := (7 : Int32)) rfl ?_
    refine own_iand K own_d10_3 ?_
    refine own_bipush K own_d10_4 (v := (6 : Int32)) rfl ?_
    refine own_irem K own_d10_6 (by decide) ?_
    refine own_topI (x' := (0 : Int32)) (q) ?_
    refine own_istore K own_d10_7 (Ls' := #[.val (.int ct), .val (.long pk), .second, .val (.int fc), .val (.int (0 : Int32)), .unset, .unset, .unset, .unset, .unset, .unset]) rfl ?_
    refine own_lloadN K own_d10_9 rfl ?_
    refine own_iconst K own_d10_10 (v := (0 : Int32)) rfl ?_
    refine own_static K own_d10_11 (own_w0 hw) (own_w1 hw) (own_w2 hw) (own_w3 hw) (argsL := [(.long pk), (.int (0 : Int32))]) (rest := []) (own_drawn_m hw) own_pd4 rfl rfl rfl (by decide) (W := 0) (Nat.le_of_eq rfl) (by decide) (by decide) (by decide) (by decide) ?_
    intro v3 h1 q2
    obtain ⟨⟨z0, rfl, z0_1, z0_2⟩, rfl⟩ := q2
    refine own_istore K own_d10_14 (Ls' := #[.val (.int ct), .val (.long pk), .second, .val (.int fc), .val (.int (0 : Int32)), .val (.int z0), .unset, .unset, .unset, .unset, .unset]) rfl ?_
    refine own_lloadN K own_d10_16 rfl ?_
    refine own_iconst K own_d10_17 (v := (1 : Int32)) rfl ?_
    refine own_static K own_d10_18 (own_w0 hw) (own_w1 hw) (own_w2 hw) (own_w3 hw) (argsL := [(.long pk), (.int (1 : Int32))]) (rest := []) (own_drawn_m hw) own_pd4 rfl rfl rfl (by decide) (W := 0) (Nat.le_of_eq rfl) (by decide) (by decide) (by decide) (by decide) ?_
    intro v6 h4 q5
    obtain ⟨⟨z1, rfl, z1_1, z1_2⟩, rfl⟩ := q5
    refine own_istore K own_d10_21 (Ls' := #[.val (.int ct), .val (.long pk), .second, .val (.int fc), .val (.int (0 : Int32)), .val (.int z0), .val (.int z1), .unset, .unset, .unset, .unset]) rfl ?_
    refine own_lloadN K own_d10_23 rfl ?_
    refine own_iconst K own_d10_24 (v := (2 : Int32)) rfl ?_
    refine own_static K own_d10_25 (own_w0 hw) (own_w1 hw) (own_w2 hw) (own_w3 hw) (argsL := [(.long pk), (.int (2 : Int32))]) (rest := []) (own_drawn_m hw) own_pd4 rfl rfl rfl (by decide) (W := 0) (Nat.le_of_eq rfl) (by decide) (by decide) (by decide) (by decide) ?_
    intro v9 h7 q8
    obtain ⟨⟨z2, rfl, z2_1, z2_2⟩, rfl⟩ := q8
    refine own_istore K own_d10_28 (Ls' := #[.val (.int ct), .val (.long pk), .second, .val (.int fc), .val (.int (0 : Int32)), .val (.int z0), .val (.int z1), .val (.int z2), .unset, .unset, .unset]) rfl ?_
    refine own_lloadN K own_d10_30 rfl ?_
    refine own_iconst K own_d10_31 (v := (3 : Int32)) rfl ?_
    refine own_static K own_d10_32 (own_w0 hw) (own_w1 hw) (own_w2 hw) (own_w3 hw) (argsL := [(.long pk), (.int (3 : Int32))]) (rest := []) (own_drawn_m hw) own_pd4 rfl rfl rfl (by decide) (W := 0) (Nat.le_of_eq rfl) (by decide) (by decide) (by decide) (by decide) ?_
    intro v12 h10 q11
    obtain ⟨⟨z3, rfl, z3_1, z3_2⟩, rfl⟩ := q11
    refine own_istore K own_d10_35 (Ls' := #[.val (.int ct), .val (.long pk), .second, .val (.int fc), .val (.int (0 : Int32)), .val (.int z0), .val (.int z1), .val (.int z2), .val (.int z3), .unset, .unset]) rfl ?_
    refine own_lloadN K own_d10_37 rfl ?_
    refine own_iconst K own_d10_38 (v := (4 : Int32)) rfl ?_
    refine own_static K own_d10_39 (own_w0 hw) (own_w1 hw) (own_w2 hw) (own_w3 hw) (argsL := [(.long pk), (.int (4 : Int32))]) (rest := []) (own_drawn_m hw) own_pd4 rfl rfl rfl (by decide) (W := 0) (Nat.le_of_eq rfl) (by decide) (by decide) (by decide) (by decide) ?_
    intro v15 h13 q14
    obtain ⟨⟨z4, rfl, z4_1, z4_2⟩, rfl⟩ := q14
    refine own_istore K own_d10_42 (Ls' := #[.val (.int ct), .val (.long pk), .second, .val (.int fc), .val (.int (0 : Int32)), .val (.int z0), .val (.int z1), .val (.int z2), .val (.int z3), .val (.int z4), .unset]) rfl ?_
    refine own_new K own_d10_44 (own_w5 hw) (own_w6 hw) (own_w7 hw) H (own_SD_F hw) (own_SD_P hw) (by decide) (by decide) ?_
    intro h16 a18 H17
    replace H17 : own_H Z h16 (own_SD a18 .null .null (.int (0 : Int32)) :: []) ([]) := H17
    refine own_dup K own_d10_47 rfl ?_
    refine own_special K own_d10_48 rfl (own_w8 hw) (own_w9 hw) (own_w7 hw) (own_w10 hw) (a := a18) (argsL := []) (rest := [(.ref a18)]) (own_init hw H17) own_pd5 rfl rfl rfl (by decide) (W := 1) (Nat.le_of_eq rfl) (by decide) (by decide) (by decide) (by decide) ?_
    intro v21 h19 q20
    obtain ⟨rfl, sa22, da23, H24⟩ := q20
    replace H24 : own_H Z h19 (own_SD a18 (.ref da23) (.ref sa22) (.int (0 : Int32)) :: []) ((sa22, .double, "[D", [(.double (0 : UInt64)), (.double (0 : UInt64)), (.double (0 : UInt64)), (.double (0 : UInt64))]) :: (da23, .int, "[I", [(.int (0 : Int32)), (.int (0 : Int32)), (.int (0 : Int32)), (.int (0 : Int32))]) :: []) := H24
    refine own_astore K own_d10_51 rfl (Ls' := #[.val (.int ct), .val (.long pk), .second, .val (.int fc), .val (.int (0 : Int32)), .val (.int z0), .val (.int z1), .val (.int z2), .val (.int z3), .val (.int z4), .val (.ref a18)]) rfl ?_
    refine own_iload K own_d10_53 rfl ?_
    refine own_ifle K own_d10_55 (fun _ => ?_) (fun q => absurd (by decide) q)
    refine own_iload K own_d10_67 rfl ?_
    refine own_iconst K own_d10_69 (v := (1 : Int32)) rfl ?_
    refine own_icmple K own_d10_70 (fun _ => ?_) (fun q => absurd (by decide) q)
    refine own_iload K own_d10_83 rfl ?_
    refine own_iconst K own_d10_85 (v := (2 : Int32)) rfl ?_
    refine own_icmple K own_d10_86 (fun _ => ?_) (fun q => absurd (by decide) q)
    refine own_iload K own_d10_99 rfl ?_
    refine own_iconst K own_d10_101 (v := (3 : Int32)) rfl ?_
    refine own_icmple K own_d10_102 (fun _ => ?_) (fun q => absurd (by decide) q)
    refine own_iload K own_d10_115 rfl ?_
    refine own_iconst K own_d10_117 (v := (4 : Int32)) rfl ?_
    refine own_icmple K own_d10_118 (fun _ => ?_) (fun q => absurd (by decide) q)
    refine own_aload K own_d10_131 rfl rfl ?_
    refine own_iloadN K own_d10_133 rfl ?_
    refine own_i2d K own_d10_134 ?_
    refine own_virtual K own_d10_135 (own_w20 hw) (own_w21 hw) (own_w23 hw) (own_w22 hw) (own_w7 hw) (own_w24 hw) (H24.atO (i := 0) rfl) (a := a18) (argsL := [(.double (FP.i2d fc))]) (rest := []) (own_mul0 hw H24 (Fl.i2d_fin _) ) own_pd6 rfl rfl rfl (by decide) (W := 0) (Nat.le_of_eq rfl) (by decide) (by decide) (by decide) (by decide) ?_
    intro v27 h25 q26
    obtain ⟨rfl, H28⟩ := q26
    replace H28 : own_H Z h25 (own_SD a18 (.ref da23) (.ref sa22) (.int (0 : Int32)) :: []) ((sa22, .double, "[D", [(.double (0 : UInt64)), (.double (0 : UInt64)), (.double (0 : UInt64)), (.double (0 : UInt64))]) :: (da23, .int, "[I", [(.int (0 : Int32)), (.int (0 : Int32)), (.int (0 : Int32)), (.int (0 : Int32))]) :: []) := H28
    refine own_aload K own_d10_138 rfl rfl ?_
    refine own_virtual K own_d10_140 (own_w27 hw) (own_w28 hw) (own_w30 hw) (own_w29 hw) (own_w7 hw) (own_w31 hw) (H28.atO (i := 0) rfl) (a := a18) (argsL := []) (rest := []) (own_size hw H28) own_pd7 rfl rfl rfl (by decide) (W := 0) (Nat.le_of_eq rfl) (by decide) (by decide) (by decide) (by decide) ?_
    intro v31 h29 q30
    obtain ⟨rfl, rfl⟩ := q30
    refine own_iload K own_d10_143 rfl ?_
    refine own_icmpne K own_d10_145 (fun q => absurd q (by decide)) (fun _ => ?_)
    refine own_aload K own_d10_148 rfl rfl ?_
    refine own_iload K own_d10_150 rfl ?_
    refine own_iconst K own_d10_152 (v := (0 : Int32)) rfl ?_
    refine own_iload K own_d10_153 rfl ?_
    refine own_iloadN K own_d10_155 rfl ?_
    refine own_static K own_d10_156 (own_w32 hw) (own_w33 hw) (own_w2 hw) (own_w34 hw) (argsL := [(.ref a18), (.int (0 : Int32)), (.int (0 : Int32)), (.int z0), (.int fc)]) (rest := []) (own_ok hw H28 z0_1 z0_2 (fun q => absurd q (by decide))) own_pd8 rfl rfl rfl (by decide) (W := 0) (Nat.le_of_eq rfl) (by decide) (by decide) (by decide) (by decide) ?_
    intro v34 h32 q33
    obtain ⟨rfl, rfl⟩ := q33
    refine own_ifeq K own_d10_159 (fun q => absurd q (by decide)) (fun _ => ?_)
    refine own_aload K own_d10_162 rfl rfl ?_
    refine own_iload K own_d10_164 rfl ?_
    refine own_iconst K own_d10_166 (v := (1 : Int32)) rfl ?_
    refine own_iload K own_d10_167 rfl ?_
    refine own_iloadN K own_d10_169 rfl ?_
    refine own_static K own_d10_170 (own_w32 hw) (own_w33 hw) (own_w2 hw) (own_w34 hw) (argsL := [(.ref a18), (.int (0 : Int32)), (.int (1 : Int32)), (.int z1), (.int fc)]) (rest := []) (own_ok hw H28 z1_1 z1_2 (fun q => absurd q (by decide))) own_pd8 rfl rfl rfl (by decide) (W := 0) (Nat.le_of_eq rfl) (by decide) (by decide) (by decide) (by decide) ?_
    intro v37 h35 q36
    obtain ⟨rfl, rfl⟩ := q36
    refine own_ifeq K own_d10_173 (fun q => absurd q (by decide)) (fun _ => ?_)
    refine own_aload K own_d10_176 rfl rfl ?_
    refine own_iload K own_d10_178 rfl ?_
    refine own_iconst K own_d10_180 (v := (2 : Int32)) rfl ?_
    refine own_iload K own_d10_181 rfl ?_
    refine own_iloadN K own_d10_183 rfl ?_
    refine own_static K own_d10_184 (own_w32 hw) (own_w33 hw) (own_w2 hw) (own_w34 hw) (argsL := [(.ref a18), (.int (0 : Int32)), (.int (2 : Int32)), (.int z2), (.int fc)]) (rest := []) (own_ok hw H28 z2_1 z2_2 (fun q => absurd q (by decide))) own_pd8 rfl rfl rfl (by decide) (W := 0) (Nat.le_of_eq rfl) (by decide) (by decide) (by decide) (by decide) ?_
    intro v40 h38 q39
    obtain ⟨rfl, rfl⟩ := q39
    refine own_ifeq K own_d10_187 (fun q => absurd q (by decide)) (fun _ => ?_)
    refine own_aload K own_d10_190 rfl rfl ?_
    refine own_iload K own_d10_192 rfl ?_
    refine own_iconst K own_d10_194 (v := (3 : Int32)) rfl ?_
    refine own_iload K own_d10_195 rfl ?_
    refine own_iloadN K own_d10_197 rfl ?_
    refine own_static K own_d10_198 (own_w32 hw) (own_w33 hw) (own_w2 hw) (own_w34 hw) (argsL := [(.ref a18), (.int (0 : Int32)), (.int (3 : Int32)), (.int z3), (.int fc)]) (rest := []) (own_ok hw H28 z3_1 z3_2 (fun q => absurd q (by decide))) own_pd8 rfl rfl rfl (by decide) (W := 0) (Nat.le_of_eq rfl) (by decide) (by decide) (by decide) (by decide) ?_
    intro v43 h41 q42
    obtain ⟨rfl, rfl⟩ := q42
    refine own_ifeq K own_d10_201 (fun q => absurd q (by decide)) (fun _ => ?_)
    refine own_aload K own_d10_204 rfl rfl ?_
    refine own_iload K own_d10_206 rfl ?_
    refine own_iconst K own_d10_208 (v := (4 : Int32)) rfl ?_
    refine own_iload K own_d10_209 rfl ?_
    refine own_iloadN K own_d10_211 rfl ?_
    refine own_static K own_d10_212 (own_w32 hw) (own_w33 hw) (own_w2 hw) (own_w34 hw) (argsL := [(.ref a18), (.int (0 : Int32)), (.int (4 : Int32)), (.int z4), (.int fc)]) (rest := []) (own_ok hw H28 z4_1 z4_2 (fun q => absurd q (by decide))) own_pd8 rfl rfl rfl (by decide) (W := 0) (Nat.le_of_eq rfl) (by decide) (by decide) (by decide) (by decide) ?_
    intro v46 h44 q45
    obtain ⟨rfl, rfl⟩ := q45
    refine own_ifeq K own_d10_215 (fun q => absurd q (by decide)) (fun _ => ?_)
    refine own_iconst K own_d10_218 (v := (1 : Int32)) rfl ?_
    refine own_goto K own_d10_219 ?_
    exact own_retZ K (by first | exact Or.inl rfl | exact Or.inr rfl | decide) own_d10_223 (by decide) (by decide) (rfl)
  · refine own_iloadN K own_d10_0 rfl ?_
    refine own_bipush K own_d10_1 (v := (7 : Int32)) rfl ?_
    refine own_iand K own_d10_3 ?_
    refine own_bipush K own_d10_4 (v := (6 : Int32)) rfl ?_
    refine own_irem K own_d10_6 (by decide) ?_
    refine own_topI (x' := (1 : Int32)) (q) ?_
    refine own_istore K own_d10_7 (Ls' := #[.val (.int ct), .val (.long pk), .second, .val (.int fc), .val (.int (1 : Int32)), .unset, .unset, .unset, .unset, .unset, .unset]) rfl ?_
    refine own_lloadN K own_d10_9 rfl ?_
    refine own_iconst K own_d10_10 (v := (0 : Int32)) rfl ?_
    refine own_static K own_d10_11 (own_w0 hw) (own_w1 hw) (own_w2 hw) (own_w3 hw) (argsL := [(.long pk), (.int (0 : Int32))]) (rest := []) (own_drawn_m hw) own_pd4 rfl rfl rfl (by decide) (W := 0) (Nat.le_of_eq rfl) (by decide) (by decide) (by decide) (by decide) ?_
    intro v3 h1 q2
    obtain ⟨⟨z0, rfl, z0_1, z0_2⟩, rfl⟩ := q2
    refine own_istore K own_d10_14 (Ls' := #[.val (.int ct), .val (.long pk), .second, .val (.int fc), .val (.int (1 : Int32)), .val (.int z0), .unset, .unset, .unset, .unset, .unset]) rfl ?_
    refine own_lloadN K own_d10_16 rfl ?_
    refine own_iconst K own_d10_17 (v := (1 : Int32)) rfl ?_
    refine own_static K own_d10_18 (own_w0 hw) (own_w1 hw) (own_w2 hw) (own_w3 hw) (argsL := [(.long pk), (.int (1 : Int32))]) (rest := []) (own_drawn_m hw) own_pd4 rfl rfl rfl (by decide) (W := 0) (Nat.le_of_eq rfl) (by decide) (by decide) (by decide) (by decide) ?_
    intro v6 h4 q5
    obtain ⟨⟨z1, rfl, z1_1, z1_2⟩, rfl⟩ := q5
    refine own_istore K own_d10_21 (Ls' := #[.val (.int ct), .val (.long pk), .second, .val (.int fc), .val (.int (1 : Int32)), .val (.int z0), .val (.int z1), .unset, .unset, .unset, .unset]) rfl ?_
    refine own_lloadN K own_d10_23 rfl ?_
    refine own_iconst K own_d10_24 (v := (2 : Int32)) rfl ?_
    refine own_static K own_d10_25 (own_w0 hw) (own_w1 hw) (own_w2 hw) (own_w3 hw) (argsL := [(.long pk), (.int (2 : Int32))]) (rest := []) (own_drawn_m hw) own_pd4 rfl rfl rfl (by decide) (W := 0) (Nat.le_of_eq rfl) (by decide) (by decide) (by decide) (by decide) ?_
    intro v9 h7 q8
    obtain ⟨⟨z2, rfl, z2_1, z2_2⟩, rfl⟩ := q8
    refine own_istore K own_d10_28 (Ls' := #[.val (.int ct), .val (.long pk), .second, .val (.int fc), .val (.int (1 : Int32)), .val (.int z0), .val (.int z1), .val (.int z2), .unset, .unset, .unset]) rfl ?_
    refine own_lloadN K own_d10_30 rfl ?_
    refine own_iconst K own_d10_31 (v := (3 : Int32)) rfl ?_
    refine own_static K own_d10_32 (own_w0 hw) (own_w1 hw) (own_w2 hw) (own_w3 hw) (argsL := [(.long pk), (.int (3 : Int32))]) (rest := []) (own_drawn_m hw) own_pd4 rfl rfl rfl (by decide) (W := 0) (Nat.le_of_eq rfl) (by decide) (by decide) (by decide) (by decide) ?_
    intro v12 h10 q11
    obtain ⟨⟨z3, rfl, z3_1, z3_2⟩, rfl⟩ := q11
    refine own_istore K own_d10_35 (Ls' := #[.val (.int ct), .val (.long pk), .second, .val (.int fc), .val (.int (1 : Int32)), .val (.int z0), .val (.int z1), .val (.int z2), .val (.int z3), .unset, .unset]) rfl ?_
    refine own_lloadN K own_d10_37 rfl ?_
    refine own_iconst K own_d10_38 (v := (4 : Int32)) rfl ?_
    refine own_static K own_d10_39 (own_w0 hw) (own_w1 hw) (own_w2 hw) (own_w3 hw) (argsL := [(.long pk), (.int (4 : Int32))]) (rest := []) (own_drawn_m hw) own_pd4 rfl rfl rfl (by decide) (W := 0) (Nat.le_of_eq rfl) (by decide) (by decide) (by decide) (by decide) ?_
    intro v15 h13 q14
    obtain ⟨⟨z4, rfl, z4_1, z4_2⟩, rfl⟩ := q14
    refine own_istore K own_d10_42 (Ls' := #[.val (.int ct), .val (.long pk), .second, .val (.int fc), .val (.int (1 : Int32)), .val (.int z0), .val (.int z1), .val (.int z2), .val (.int z3), .val (.int z4), .unset]) rfl ?_
    refine own_new K own_d10_44 (own_w5 hw) (own_w6 hw) (own_w7 hw) H (own_SD_F hw) (own_SD_P hw) (by decide) (by decide) ?_
    intro h16 a18 H17
    replace H17 : own_H Z h16 (own_SD a18 .null .null (.int (0 : Int32)) :: []) ([]) := H17
    refine own_dup K own_d10_47 rfl ?_
    refine own_special K own_d10_48 rfl (own_w8 hw) (own_w9 hw) (own_w7 hw) (own_w10 hw) (a := a18) (argsL := []) (rest := [(.ref a18)]) (own_init hw H17) own_pd5 rfl rfl rfl (by decide) (W := 1) (Nat.le_of_eq rfl) (by decide) (by decide) (by decide) (by decide) ?_
    intro v21 h19 q20
    obtain ⟨rfl, sa22, da23, H24⟩ := q20
    replace H24 : own_H Z h19 (own_SD a18 (.ref da23) (.ref sa22) (.int (0 : Int32)) :: []) ((sa22, .double, "[D", [(.double (0 : UInt64)), (.double (0 : UInt64)), (.double (0 : UInt64)), (.double (0 : UInt64))]) :: (da23, .int, "[I", [(.int (0 : Int32)), (.int (0 : Int32)), (.int (0 : Int32)), (.int (0 : Int32))]) :: []) := H24
    refine own_astore K own_d10_51 rfl (Ls' := #[.val (.int ct), .val (.long pk), .second, .val (.int fc), .val (.int (1 : Int32)), .val (.int z0), .val (.int z1), .val (.int z2), .val (.int z3), .val (.int z4), .val (.ref a18)]) rfl ?_
    refine own_iload K own_d10_53 rfl ?_
    refine own_ifle K own_d10_55 (fun q => absurd q (by decide)) (fun _ => ?_)
    refine own_aload K own_d10_58 rfl rfl ?_
    refine own_iconst K own_d10_60 (v := (0 : Int32)) rfl ?_
    refine own_iload K own_d10_61 rfl ?_
    refine own_i2d K own_d10_63 ?_
    have H25 := H24.frontA 1 rfl
    replace H25 : own_H Z h19 (own_SD a18 (.ref da23) (.ref sa22) (.int (0 : Int32)) :: []) ((da23, .int, "[I", [(.int (0 : Int32)), (.int (0 : Int32)), (.int (0 : Int32)), (.int (0 : Int32))]) :: (sa22, .double, "[D", [(.double (0 : UInt64)), (.double (0 : UInt64)), (.double (0 : UInt64)), (.double (0 : UInt64))]) :: []) := H25
    refine own_virtual K own_d10_64 (own_w35 hw) (own_w36 hw) (own_w38 hw) (own_w37 hw) (own_w7 hw) (own_w39 hw) (H25.atO (i := 0) rfl) (a := a18) (argsL := [(.int (0 : Int32)), (.double (FP.i2d z0))]) (rest := []) (own_add0 hw H25) own_pd9 rfl rfl rfl (by decide) (W := 0) (Nat.le_of_eq rfl) (by decide) (by decide) (by decide) (by decide) ?_
    intro v28 h26 q27
    obtain ⟨rfl, H29⟩ := q27
    replace H29 : own_H Z h26 (own_SD a18 (.ref da23) (.ref sa22) (.int (1 : Int32)) :: []) ((da23, .int, "[I", [(.int (0 : Int32)), (.int (0 : Int32)), (.int (0 : Int32)), (.int (0 : Int32))]) :: (sa22, .double, "[D", [(.double (FP.i2d z0)), (.double (0 : UInt64)), (.double (0 : UInt64)), (.double (0 : UInt64))]) :: []) := H29
    refine own_iload K own_d10_67 rfl ?_
    refine own_iconst K own_d10_69 (v := (1 : Int32)) rfl ?_
    refine own_icmple K own_d10_70 (fun _ => ?_) (fun q => absurd (by decide) q)
    refine own_iload K own_d10_83 rfl ?_
    refine own_iconst K own_d10_85 (v := (2 : Int32)) rfl ?_
    refine own_icmple K own_d10_86 (fun _ => ?_) (fun q => absurd (by decide) q)
    refine own_iload K own_d10_99 rfl ?_
    refine own_iconst K own_d10_101 (v := (3 : Int32)) rfl ?_
    refine own_icmple K own_d10_102 (fun _ => ?_) (fun q => absurd (by decide) q)
    refine own_iload K own_d10_115 rfl ?_
    refine own_iconst K own_d10_117 (v := (4 : Int32)) rfl ?_
    refine own_icmple K own_d10_118 (fun _ => ?_) (fun q => absurd (by decide) q)
    refine own_aload K own_d10_131 rfl rfl ?_
    refine own_iloadN K own_d10_133 rfl ?_
    refine own_i2d K own_d10_134 ?_
    have H30 := H29.frontA 1 rfl
    replace H30 : own_H Z h26 (own_SD a18 (.ref da23) (.ref sa22) (.int (1 : Int32)) :: []) ((sa22, .double, "[D", [(.double (FP.i2d z0)), (.double (0 : UInt64)), (.double (0 : UInt64)), (.double (0 : UInt64))]) :: (da23, .int, "[I", [(.int (0 : Int32)), (.int (0 : Int32)), (.int (0 : Int32)), (.int (0 : Int32))]) :: []) := H30
    refine own_virtual K own_d10_135 (own_w20 hw) (own_w21 hw) (own_w23 hw) (own_w22 hw) (own_w7 hw) (own_w24 hw) (H30.atO (i := 0) rfl) (a := a18) (argsL := [(.double (FP.i2d fc))]) (rest := []) (own_mul1 hw H30 (Fl.i2d_fin _) (Fl.i2d_fin _)) own_pd6 rfl rfl rfl (by decide) (W := 0) (Nat.le_of_eq rfl) (by decide) (by decide) (by decide) (by decide) ?_
    intro v33 h31 q32
    obtain ⟨rfl, H34⟩ := q32
    replace H34 : own_H Z h31 (own_SD a18 (.ref da23) (.ref sa22) (.int (1 : Int32)) :: []) ((sa22, .double, "[D", [(.double (FP.dmul (FP.i2d z0) (FP.i2d fc))), (.double (0 : UInt64)), (.double (0 : UInt64)), (.double (0 : UInt64))]) :: (da23, .int, "[I", [(.int (0 : Int32)), (.int (0 : Int32)), (.int (0 : Int32)), (.int (0 : Int32))]) :: []) := H34
    refine own_aload K own_d10_138 rfl rfl ?_
    refine own_virtual K own_d10_140 (own_w27 hw) (own_w28 hw) (own_w30 hw) (own_w29 hw) (own_w7 hw) (own_w31 hw) (H34.atO (i := 0) rfl) (a := a18) (argsL := []) (rest := []) (own_size hw H34) own_pd7 rfl rfl rfl (by decide) (W := 0) (Nat.le_of_eq rfl) (by decide) (by decide) (by decide) (by decide) ?_
    intro v37 h35 q36
    obtain ⟨rfl, rfl⟩ := q36
    refine own_iload K own_d10_143 rfl ?_
    refine own_icmpne K own_d10_145 (fun q => absurd q (by decide)) (fun _ => ?_)
    refine own_aload K own_d10_148 rfl rfl ?_
    refine own_iload K own_d10_150 rfl ?_
    refine own_iconst K own_d10_152 (v := (0 : Int32)) rfl ?_
    refine own_iload K own_d10_153 rfl ?_
    refine own_iloadN K own_d10_155 rfl ?_
    refine own_static K own_d10_156 (own_w32 hw) (own_w33 hw) (own_w2 hw) (own_w34 hw) (argsL := [(.ref a18), (.int (1 : Int32)), (.int (0 : Int32)), (.int z0), (.int fc)]) (rest := []) (own_ok hw H34 z0_1 z0_2 (fun _ => ⟨0, rfl, rfl⟩)) own_pd8 rfl rfl rfl (by decide) (W := 0) (Nat.le_of_eq rfl) (by decide) (by decide) (by decide) (by decide) ?_
    intro v40 h38 q39
    obtain ⟨rfl, rfl⟩ := q39
    refine own_ifeq K own_d10_159 (fun q => absurd q (by decide)) (fun _ => ?_)
    refine own_aload K own_d10_162 rfl rfl ?_
    refine own_iload K own_d10_164 rfl ?_
    refine own_iconst K own_d10_166 (v := (1 : Int32)) rfl ?_
    refine own_iload K own_d10_167 rfl ?_
    refine own_iloadN K own_d10_169 rfl ?_
    refine own_static K own_d10_170 (own_w32 hw) (own_w33 hw) (own_w2 hw) (own_w34 hw) (argsL := [(.ref a18), (.int (1 : Int32)), (.int (1 : Int32)), (.int z1), (.int fc)]) (rest := []) (own_ok hw H34 z1_1 z1_2 (fun q => absurd q (by decide))) own_pd8 rfl rfl rfl (by decide) (W := 0) (Nat.le_of_eq rfl) (by decide) (by decide) (by decide) (by decide) ?_
    intro v43 h41 q42
    obtain ⟨rfl, rfl⟩ := q42
    refine own_ifeq K own_d10_173 (fun q => absurd q (by decide)) (fun _ => ?_)
    refine own_aload K own_d10_176 rfl rfl ?_
    refine own_iload K own_d10_178 rfl ?_
    refine own_iconst K own_d10_180 (v := (2 : Int32)) rfl ?_
    refine own_iload K own_d10_181 rfl ?_
    refine own_iloadN K own_d10_183 rfl ?_
    refine own_static K own_d10_184 (own_w32 hw) (own_w33 hw) (own_w2 hw) (own_w34 hw) (argsL := [(.ref a18), (.int (1 : Int32)), (.int (2 : Int32)), (.int z2), (.int fc)]) (rest := []) (own_ok hw H34 z2_1 z2_2 (fun q => absurd q (by decide))) own_pd8 rfl rfl rfl (by decide) (W := 0) (Nat.le_of_eq rfl) (by decide) (by decide) (by decide) (by decide) ?_
    intro v46 h44 q45
    obtain ⟨rfl, rfl⟩ := q45
    refine own_ifeq K own_d10_187 (fun q => absurd q (by decide)) (fun _ => ?_)
    refine own_aload K own_d10_190 rfl rfl ?_
    refine own_iload K own_d10_192 rfl ?_
    refine own_iconst K own_d10_194 (v := (3 : Int32)) rfl ?_
    refine own_iload K own_d10_195 rfl ?_
    refine own_iloadN K own_d10_197 rfl ?_
    refine own_static K own_d10_198 (own_w32 hw) (own_w33 hw) (own_w2 hw) (own_w34 hw) (argsL := [(.ref a18), (.int (1 : Int32)), (.int (3 : Int32)), (.int z3), (.int fc)]) (rest := []) (own_ok hw H34 z3_1 z3_2 (fun q => absurd q (by decide))) own_pd8 rfl rfl rfl (by decide) (W := 0) (Nat.le_of_eq rfl) (by decide) (by decide) (by decide) (by decide) ?_
    intro v49 h47 q48
    obtain ⟨rfl, rfl⟩ := q48
    refine own_ifeq K own_d10_201 (fun q => absurd q (by decide)) (fun _ => ?_)
    refine own_aload K own_d10_204 rfl rfl ?_
    refine own_iload K own_d10_206 rfl ?_
    refine own_iconst K own_d10_208 (v := (4 : Int32)) rfl ?_
    refine own_iload K own_d10_209 rfl ?_
    refine own_iloadN K own_d10_211 rfl ?_
    refine own_static K own_d10_212 (own_w32 hw) (own_w33 hw) (own_w2 hw) (own_w34 hw) (argsL := [(.ref a18), (.int (1 : Int32)), (.int (4 : Int32)), (.int z4), (.int fc)]) (rest := []) (own_ok hw H34 z4_1 z4_2 (fun q => absurd q (by decide))) own_pd8 rfl rfl rfl (by decide) (W := 0) (Nat.le_of_eq rfl) (by decide) (by decide) (by decide) (by decide) ?_
    intro v52 h50 q51
    obtain ⟨rfl, rfl⟩ := q51
    refine own_ifeq K own_d10_215 (fun q => absurd q (by decide)) (fun _ => ?_)
    refine own_iconst K own_d10_218 (v := (1 : Int32)) rfl ?_
    refine own_goto K own_d10_219 ?_
    exact own_retZ K (by first | exact Or.inl rfl | exact Or.inr rfl | decide) own_d10_223 (by decide) (by decide) (rfl)
  · refine own_iloadN K own_d10_0 rfl ?_
    refine own_bipush K own_d10_1 (v := (7 : Int32)) rfl ?_
    refine own_iand K own_d10_3 ?_
    refine own_bipush K own_d10_4 (v := (6 : Int32)) rfl ?_
    refine own_irem K own_d10_6 (by decide) ?_
    refine own_topI (x' := (2 : Int32)) (q) ?_
    refine own_istore K own_d10_7 (Ls' := #[.val (.int ct), .val (.long pk), .second, .val (.int fc), .val (.int (2 : Int32)), .unset, .unset, .unset, .unset, .unset, .unset]) rfl ?_
    refine own_lloadN K own_d10_9 rfl ?_
    refine own_iconst K own_d10_10 (v := (0 : Int32)) rfl ?_
    refine own_static K own_d10_11 (own_w0 hw) (own_w1 hw) (own_w2 hw) (own_w3 hw) (argsL := [(.long pk), (.int (0 : Int32))]) (rest := []) (own_drawn_m hw) own_pd4 rfl rfl rfl (by decide) (W := 0) (Nat.le_of_eq rfl) (by decide) (by decide) (by decide) (by decide) ?_
    intro v3 h1 q2
    obtain ⟨⟨z0, rfl, z0_1, z0_2⟩, rfl⟩ := q2
    refine own_istore K own_d10_14 (Ls' := #[.val (.int ct), .val (.long pk), .second, .val (.int fc), .val (.int (2 : Int32)), .val (.int z0), .unset, .unset, .unset, .unset, .unset]) rfl ?_
    refine own_lloadN K own_d10_16 rfl ?_
    refine own_iconst K own_d10_17 (v := (1 : Int32)) rfl ?_
    refine own_static K own_d10_18 (own_w0 hw) (own_w1 hw) (own_w2 hw) (own_w3 hw) (argsL := [(.long pk), (.int (1 : Int32))]) (rest := []) (own_drawn_m hw) own_pd4 rfl rfl rfl (by decide) (W := 0) (Nat.le_of_eq rfl) (by decide) (by decide) (by decide) (by decide) ?_
    intro v6 h4 q5
    obtain ⟨⟨z1, rfl, z1_1, z1_2⟩, rfl⟩ := q5
    refine own_istore K own_d10_21 (Ls' := #[.val (.int ct), .val (.long pk), .second, .val (.int fc), .val (.int (2 : Int32)), .val (.int z0), .val (.int z1), .unset, .unset, .unset, .unset]) rfl ?_
    refine own_lloadN K own_d10_23 rfl ?_
    refine own_iconst K own_d10_24 (v := (2 : Int32)) rfl ?_
    refine own_static K own_d10_25 (own_w0 hw) (own_w1 hw) (own_w2 hw) (own_w3 hw) (argsL := [(.long pk), (.int (2 : Int32))]) (rest := []) (own_drawn_m hw) own_pd4 rfl rfl rfl (by decide) (W := 0) (Nat.le_of_eq rfl) (by decide) (by decide) (by decide) (by decide) ?_
    intro v9 h7 q8
    obtain ⟨⟨z2, rfl, z2_1, z2_2⟩, rfl⟩ := q8
    refine own_istore K own_d10_28 (Ls' := #[.val (.int ct), .val (.long pk), .second, .val (.int fc), .val (.int (2 : Int32)), .val (.int z0), .val (.int z1), .val (.int z2), .unset, .unset, .unset]) rfl ?_
    refine own_lloadN K own_d10_30 rfl ?_
    refine own_iconst K own_d10_31 (v := (3 : Int32)) rfl ?_
    refine own_static K own_d10_32 (own_w0 hw) (own_w1 hw) (own_w2 hw) (own_w3 hw) (argsL := [(.long pk), (.int (3 : Int32))]) (rest := []) (own_drawn_m hw) own_pd4 rfl rfl rfl (by decide) (W := 0) (Nat.le_of_eq rfl) (by decide) (by decide) (by decide) (by decide) ?_
    intro v12 h10 q11
    obtain ⟨⟨z3, rfl, z3_1, z3_2⟩, rfl⟩ := q11
    refine own_istore K own_d10_35 (Ls' := #[.val (.int ct), .val (.long pk), .second, .val (.int fc), .val (.int (2 : Int32)), .val (.int z0), .val (.int z1), .val (.int z2), .val (.int z3), .unset, .unset]) rfl ?_
    refine own_lloadN K own_d10_37 rfl ?_
    refine own_iconst K own_d10_38 (v := (4 : Int32)) rfl ?_
    refine own_static K own_d10_39 (own_w0 hw) (own_w1 hw) (own_w2 hw) (own_w3 hw) (argsL := [(.long pk), (.int (4 : Int32))]) (rest := []) (own_drawn_m hw) own_pd4 rfl rfl rfl (by decide) (W := 0) (Nat.le_of_eq rfl) (by decide) (by decide) (by decide) (by decide) ?_
    intro v15 h13 q14
    obtain ⟨⟨z4, rfl, z4_1, z4_2⟩, rfl⟩ := q14
    refine own_istore K own_d10_42 (Ls' := #[.val (.int ct), .val (.long pk), .second, .val (.int fc), .val (.int (2 : Int32)), .val (.int z0), .val (.int z1), .val (.int z2), .val (.int z3), .val (.int z4), .unset]) rfl ?_
    refine own_new K own_d10_44 (own_w5 hw) (own_w6 hw) (own_w7 hw) H (own_SD_F hw) (own_SD_P hw) (by decide) (by decide) ?_
    intro h16 a18 H17
    replace H17 : own_H Z h16 (own_SD a18 .null .null (.int (0 : Int32)) :: []) ([]) := H17
    refine own_dup K own_d10_47 rfl ?_
    refine own_special K own_d10_48 rfl (own_w8 hw) (own_w9 hw) (own_w7 hw) (own_w10 hw) (a := a18) (argsL := []) (rest := [(.ref a18)]) (own_init hw H17) own_pd5 rfl rfl rfl (by decide) (W := 1) (Nat.le_of_eq rfl) (by decide) (by decide) (by decide) (by decide) ?_
    intro v21 h19 q20
    obtain ⟨rfl, sa22, da23, H24⟩ := q20
    replace H24 : own_H Z h19 (own_SD a18 (.ref da23) (.ref sa22) (.int (0 : Int32)) :: []) ((sa22, .double, "[D", [(.double (0 : UInt64)), (.double (0 : UInt64)), (.double (0 : UInt64)), (.double (0 : UInt64))]) :: (da23, .int, "[I", [(.int (0 : Int32)), (.int (0 : Int32)), (.int (0 : Int32)), (.int (0 : Int32))]) :: []) := H24
    refine own_astore K own_d10_51 rfl (Ls' := #[.val (.int ct), .val (.long pk), .second, .val (.int fc), .val (.int (2 : Int32)), .val (.int z0), .val (.int z1), .val (.int z2), .val (.int z3), .val (.int z4), .val (.ref a18)]) rfl ?_
    refine own_iload K own_d10_53 rfl ?_
    refine own_ifle K own_d10_55 (fun q => absurd q (by decide)) (fun _ => ?_)
    refine own_aload K own_d10_58 rfl rfl ?_
    refine own_iconst K own_d10_60 (v := (0 : Int32)) rfl ?_
    refine own_iload K own_d10_61 rfl ?_
    refine own_i2d K own_d10_63 ?_
    have H25 := H24.frontA 1 rfl
    replace H25 : own_H Z h19 (own_SD a18 (.ref da23) (.ref sa22) (.int (0 : Int32)) :: []) ((da23, .int, "[I", [(.int (0 : Int32)), (.int (0 : Int32)), (.int (0 : Int32)), (.int (0 : Int32))]) :: (sa22, .double, "[D", [(.double (0 : UInt64)), (.double (0 : UInt64)), (.double (0 : UInt64)), (.double (0 : UInt64))]) :: []) := H25
    refine own_virtual K own_d10_64 (own_w35 hw) (own_w36 hw) (own_w38 hw) (own_w37 hw) (own_w7 hw) (own_w39 hw) (H25.atO (i := 0) rfl) (a := a18) (argsL := [(.int (0 : Int32)), (.double (FP.i2d z0))]) (rest := []) (own_add0 hw H25) own_pd9 rfl rfl rfl (by decide) (W := 0) (Nat.le_of_eq rfl) (by decide) (by decide) (by decide) (by decide) ?_
    intro v28 h26 q27
    obtain ⟨rfl, H29⟩ := q27
    replace H29 : own_H Z h26 (own_SD a18 (.ref da23) (.ref sa22) (.int (1 : Int32)) :: []) ((da23, .int, "[I", [(.int (0 : Int32)), (.int (0 : Int32)), (.int (0 : Int32)), (.int (0 : Int32))]) :: (sa22, .double, "[D", [(.double (FP.i2d z0)), (.double (0 : UInt64)), (.double (0 : UInt64)), (.double (0 : UInt64))]) :: []) := H29
    refine own_iload K own_d10_67 rfl ?_
    refine own_iconst K own_d10_69 (v := (1 : Int32)) rfl ?_
    refine own_icmple K own_d10_70 (fun q => absurd q (by decide)) (fun _ => ?_)
    refine own_aload K own_d10_73 rfl rfl ?_
    refine own_bipush K own_d10_75 (v := (10 : Int32)) rfl ?_
    refine own_iload K own_d10_77 rfl ?_
    refine own_i2d K own_d10_79 ?_
    have H30 := H29.frontA 1 rfl
    replace H30 : own_H Z h26 (own_SD a18 (.ref da23) (.ref sa22) (.int (1 : Int32)) :: []) ((sa22, .double, "[D", [(.double (FP.i2d z0)), (.double (0 : UInt64)), (.double (0 : UInt64)), (.double (0 : UInt64))]) :: (da23, .int, "[I", [(.int (0 : Int32)), (.int (0 : Int32)), (.int (0 : Int32)), (.int (0 : Int32))]) :: []) := H30
    have H31 := H30.frontA 1 rfl
    replace H31 : own_H Z h26 (own_SD a18 (.ref da23) (.ref sa22) (.int (1 : Int32)) :: []) ((da23, .int, "[I", [(.int (0 : Int32)), (.int (0 : Int32)), (.int (0 : Int32)), (.int (0 : Int32))]) :: (sa22, .double, "[D", [(.double (FP.i2d z0)), (.double (0 : UInt64)), (.double (0 : UInt64)), (.double (0 : UInt64))]) :: []) := H31
    refine own_virtual K own_d10_80 (own_w35 hw) (own_w36 hw) (own_w38 hw) (own_w37 hw) (own_w7 hw) (own_w39 hw) (H31.atO (i := 0) rfl) (a := a18) (argsL := [(.int (10 : Int32)), (.double (FP.i2d z1))]) (rest := []) (own_add1 hw H31) own_pd9 rfl rfl rfl (by decide) (W := 0) (Nat.le_of_eq rfl) (by decide) (by decide) (by decide) (by decide) ?_
    intro v34 h32 q33
    obtain ⟨rfl, H35⟩ := q33
    replace H35 : own_H Z h32 (own_SD a18 (.ref da23) (.ref sa22) (.int (2 : Int32)) :: []) ((da23, .int, "[I", [(.int (0 : Int32)), (.int (10 : Int32)), (.int (0 : Int32)), (.int (0 : Int32))]) :: (sa22, .double, "[D", [(.double (FP.i2d z0)), (.double (FP.i2d z1)), (.double (0 : UInt64)), (.double (0 : UInt64))]) :: []) := H35
    refine own_iload K own_d10_83 rfl ?_
    refine own_iconst K own_d10_85 (v := (2 : Int32)) rfl ?_
    refine own_icmple K own_d10_86 (fun _ => ?_) (fun q => absurd (by decide) q)
    refine own_iload K own_d10_99 rfl ?_
    refine own_iconst K own_d10_101 (v := (3 : Int32)) rfl ?_
    refine own_icmple K own_d10_102 (fun _ => ?_) (fun q => absurd (by decide) q)
    refine own_iload K own_d10_115 rfl ?_
    refine own_iconst K own_d10_117 (v := (4 : Int32)) rfl ?_
    refine own_icmple K own_d10_118 (fun _ => ?_) (fun q => absurd (by decide) q)
    refine own_aload K own_d10_131 rfl rfl ?_
    refine own_iloadN K own_d10_133 rfl ?_
    refine own_i2d K own_d10_134 ?_
    have H36 := H35.frontA 1 rfl
    replace H36 : own_H Z h32 (own_SD a18 (.ref da23) (.ref sa22) (.int (2 : Int32)) :: []) ((sa22, .double, "[D", [(.double (FP.i2d z0)), (.double (FP.i2d z1)), (.double (0 : UInt64)), (.double (0 : UInt64))]) :: (da23, .int, "[I", [(.int (0 : Int32)), (.int (10 : Int32)), (.int (0 : Int32)), (.int (0 : Int32))]) :: []) := H36
    refine own_virtual K own_d10_135 (own_w20 hw) (own_w21 hw) (own_w23 hw) (own_w22 hw) (own_w7 hw) (own_w24 hw) (H36.atO (i := 0) rfl) (a := a18) (argsL := [(.double (FP.i2d fc))]) (rest := []) (own_mul2 hw H36 (Fl.i2d_fin _) (Fl.i2d_fin _) (Fl.i2d_fin _)) own_pd6 rfl rfl rfl (by decide) (W := 0) (Nat.le_of_eq rfl) (by decide) (by decide) (by decide) (by decide) ?_
    intro v39 h37 q38
    obtain ⟨rfl, H40⟩ := q38
    replace H40 : own_H Z h37 (own_SD a18 (.ref da23) (.ref sa22) (.int (2 : Int32)) :: []) ((sa22, .double, "[D", [(.double (FP.dmul (FP.i2d z0) (FP.i2d fc))), (.double (FP.dmul (FP.i2d z1) (FP.i2d fc))), (.double (0 : UInt64)), (.double (0 : UInt64))]) :: (da23, .int, "[I", [(.int (0 : Int32)), (.int (10 : Int32)), (.int (0 : Int32)), (.int (0 : Int32))]) :: []) := H40
    refine own_aload K own_d10_138 rfl rfl ?_
    refine own_virtual K own_d10_140 (own_w27 hw) (own_w28 hw) (own_w30 hw) (own_w29 hw) (own_w7 hw) (own_w31 hw) (H40.atO (i := 0) rfl) (a := a18) (argsL := []) (rest := []) (own_size hw H40) own_pd7 rfl rfl rfl (by decide) (W := 0) (Nat.le_of_eq rfl) (by decide) (by decide) (by decide) (by decide) ?_
    intro v43 h41 q42
    obtain ⟨rfl, rfl⟩ := q42
    refine own_iload K own_d10_143 rfl ?_
    refine own_icmpne K own_d10_145 (fun q => absurd q (by decide)) (fun _ => ?_)
    refine own_aload K own_d10_148 rfl rfl ?_
    refine own_iload K own_d10_150 rfl ?_
    refine own_iconst K own_d10_152 (v := (0 : Int32)) rfl ?_
    refine own_iload K own_d10_153 rfl ?_
    refine own_iloadN K own_d10_155 rfl ?_
    refine own_static K own_d10_156 (own_w32 hw) (own_w33 hw) (own_w2 hw) (own_w34 hw) (argsL := [(.ref a18), (.int (2 : Int32)), (.int (0 : Int32)), (.int z0), (.int fc)]) (rest := []) (own_ok hw H40 z0_1 z0_2 (fun _ => ⟨0, rfl, rfl⟩)) own_pd8 rfl rfl rfl (by decide) (W := 0) (Nat.le_of_eq rfl) (by decide) (by decide) (by decide) (by decide) ?_
    intro v46 h44 q45
    obtain ⟨rfl, rfl⟩ := q45
    refine own_ifeq K own_d10_159 (fun q => absurd q (by decide)) (fun _ => ?_)
    refine own_aload K own_d10_162 rfl rfl ?_
    refine own_iload K own_d10_164 rfl ?_
    refine own_iconst K own_d10_166 (v := (1 : Int32)) rfl ?_
    refine own_iload K own_d10_167 rfl ?_
    refine own_iloadN K own_d10_169 rfl ?_
    refine own_static K own_d10_170 (own_w32 hw) (own_w33 hw) (own_w2 hw) (own_w34 hw) (argsL := [(.ref a18), (.int (2 : Int32)), (.int (1 : Int32)), (.int z1), (.int fc)]) (rest := []) (own_ok hw H40 z1_1 z1_2 (fun _ => ⟨1, rfl, rfl⟩)) own_pd8 rfl rfl rfl (by decide) (W := 0) (Nat.le_of_eq rfl) (by decide) (by decide) (by decide) (by decide) ?_
    intro v49 h47 q48
    obtain ⟨rfl, rfl⟩ := q48
    refine own_ifeq K own_d10_173 (fun q => absurd q (by decide)) (fun _ => ?_)
    refine own_aload K own_d10_176 rfl rfl ?_
    refine own_iload K own_d10_178 rfl ?_
    refine own_iconst K own_d10_180 (v := (2 : Int32)) rfl ?_
    refine own_iload K own_d10_181 rfl ?_
    refine own_iloadN K own_d10_183 rfl ?_
    refine own_static K own_d10_184 (own_w32 hw) (own_w33 hw) (own_w2 hw) (own_w34 hw) (argsL := [(.ref a18), (.int (2 : Int32)), (.int (2 : Int32)), (.int z2), (.int fc)]) (rest := []) (own_ok hw H40 z2_1 z2_2 (fun q => absurd q (by decide))) own_pd8 rfl rfl rfl (by decide) (W := 0) (Nat.le_of_eq rfl) (by decide) (by decide) (by decide) (by decide) ?_
    intro v52 h50 q51
    obtain ⟨rfl, rfl⟩ := q51
    refine own_ifeq K own_d10_187 (fun q => absurd q (by decide)) (fun _ => ?_)
    refine own_aload K own_d10_190 rfl rfl ?_
    refine own_iload K own_d10_192 rfl ?_
    refine own_iconst K own_d10_194 (v := (3 : Int32)) rfl ?_
    refine own_iload K own_d10_195 rfl ?_
    refine own_iloadN K own_d10_197 rfl ?_
    refine own_static K own_d10_198 (own_w32 hw) (own_w33 hw) (own_w2 hw) (own_w34 hw) (argsL := [(.ref a18), (.int (2 : Int32)), (.int (3 : Int32)), (.int z3), (.int fc)]) (rest := []) (own_ok hw H40 z3_1 z3_2 (fun q => absurd q (by decide))) own_pd8 rfl rfl rfl (by decide) (W := 0) (Nat.le_of_eq rfl) (by decide) (by decide) (by decide) (by decide) ?_
    intro v55 h53 q54
    obtain ⟨rfl, rfl⟩ := q54
    refine own_ifeq K own_d10_201 (fun q => absurd q (by decide)) (fun _ => ?_)
    refine own_aload K own_d10_204 rfl rfl ?_
    refine own_iload K own_d10_206 rfl ?_
    refine own_iconst K own_d10_208 (v := (4 : Int32)) rfl ?_
    refine own_iload K own_d10_209 rfl ?_
    refine own_iloadN K own_d10_211 rfl ?_
    refine own_static K own_d10_212 (own_w32 hw) (own_w33 hw) (own_w2 hw) (own_w34 hw) (argsL := [(.ref a18), (.int (2 : Int32)), (.int (4 : Int32)), (.int z4), (.int fc)]) (rest := []) (own_ok hw H40 z4_1 z4_2 (fun q => absurd q (by decide))) own_pd8 rfl rfl rfl (by decide) (W := 0) (Nat.le_of_eq rfl) (by decide) (by decide) (by decide) (by decide) ?_
    intro v58 h56 q57
    obtain ⟨rfl, rfl⟩ := q57
    refine own_ifeq K own_d10_215 (fun q => absurd q (by decide)) (fun _ => ?_)
    refine own_iconst K own_d10_218 (v := (1 : Int32)) rfl ?_
    refine own_goto K own_d10_219 ?_
    exact own_retZ K (by first | exact Or.inl rfl | exact Or.inr rfl | decide) own_d10_223 (by decide) (by decide) (rfl)
  · refine own_iloadN K own_d10_0 rfl ?_
    refine own_bipush K own_d10_1 (v := (7 : Int32)) rfl ?_
    refine own_iand K own_d10_3 ?_
    refine own_bipush K own_d10_4 (v := (6 : Int32)) rfl ?_
    refine own_irem K own_d10_6 (by decide) ?_
    refine own_topI (x' := (3 : Int32)) (q) ?_
    refine own_istore K own_d10_7 (Ls' := #[.val (.int ct), .val (.long pk), .second, .val (.int fc), .val (.int (3 : Int32)), .unset, .unset, .unset, .unset, .unset, .unset]) rfl ?_
    refine own_lloadN K own_d10_9 rfl ?_
    refine own_iconst K own_d10_10 (v := (0 : Int32)) rfl ?_
    refine own_static K own_d10_11 (own_w0 hw) (own_w1 hw) (own_w2 hw) (own_w3 hw) (argsL := [(.long pk), (.int (0 : Int32))]) (rest := []) (own_drawn_m hw) own_pd4 rfl rfl rfl (by decide) (W := 0) (Nat.le_of_eq rfl) (by decide) (by decide) (by decide) (by decide) ?_
    intro v3 h1 q2
    obtain ⟨⟨z0, rfl, z0_1, z0_2⟩, rfl⟩ := q2
    refine own_istore K own_d10_14 (Ls' := #[.val (.int ct), .val (.long pk), .second, .val (.int fc), .val (.int (3 : Int32)), .val (.int z0), .unset, .unset, .unset, .unset, .unset]) rfl ?_
    refine own_lloadN K own_d10_16 rfl ?_
    refine own_iconst K own_d10_17 (v := (1 : Int32)) rfl ?_
    refine own_static K own_d10_18 (own_w0 hw) (own_w1 hw) (own_w2 hw) (own_w3 hw) (argsL := [(.long pk), (.int (1 : Int32))]) (rest := []) (own_drawn_m hw) own_pd4 rfl rfl rfl (by decide) (W := 0) (Nat.le_of_eq rfl) (by decide) (by decide) (by decide) (by decide) ?_
    intro v6 h4 q5
    obtain ⟨⟨z1, rfl, z1_1, z1_2⟩, rfl⟩ := q5
    refine own_istore K own_d10_21 (Ls' := #[.val (.int ct), .val (.long pk), .second, .val (.int fc), .val (.int (3 : Int32)), .val (.int z0), .val (.int z1), .unset, .unset, .unset, .unset]) rfl ?_
    refine own_lloadN K own_d10_23 rfl ?_
    refine own_iconst K own_d10_24 (v := (2 : Int32)) rfl ?_
    refine own_static K own_d10_25 (own_w0 hw) (own_w1 hw) (own_w2 hw) (own_w3 hw) (argsL := [(.long pk), (.int (2 : Int32))]) (rest := []) (own_drawn_m hw) own_pd4 rfl rfl rfl (by decide) (W := 0) (Nat.le_of_eq rfl) (by decide) (by decide) (by decide) (by decide) ?_
    intro v9 h7 q8
    obtain ⟨⟨z2, rfl, z2_1, z2_2⟩, rfl⟩ := q8
    refine own_istore K own_d10_28 (Ls' := #[.val (.int ct), .val (.long pk), .second, .val (.int fc), .val (.int (3 : Int32)), .val (.int z0), .val (.int z1), .val (.int z2), .unset, .unset, .unset]) rfl ?_
    refine own_lloadN K own_d10_30 rfl ?_
    refine own_iconst K own_d10_31 (v := (3 : Int32)) rfl ?_
    refine own_static K own_d10_32 (own_w0 hw) (own_w1 hw) (own_w2 hw) (own_w3 hw) (argsL := [(.long pk), (.int (3 : Int32))]) (rest := []) (own_drawn_m hw) own_pd4 rfl rfl rfl (by decide) (W := 0) (Nat.le_of_eq rfl) (by decide) (by decide) (by decide) (by decide) ?_
    intro v12 h10 q11
    obtain ⟨⟨z3, rfl, z3_1, z3_2⟩, rfl⟩ := q11
    refine own_istore K own_d10_35 (Ls' := #[.val (.int ct), .val (.long pk), .second, .val (.int fc), .val (.int (3 : Int32)), .val (.int z0), .val (.int z1), .val (.int z2), .val (.int z3), .unset, .unset]) rfl ?_
    refine own_lloadN K own_d10_37 rfl ?_
    refine own_iconst K own_d10_38 (v := (4 : Int32)) rfl ?_
    refine own_static K own_d10_39 (own_w0 hw) (own_w1 hw) (own_w2 hw) (own_w3 hw) (argsL := [(.long pk), (.int (4 : Int32))]) (rest := []) (own_drawn_m hw) own_pd4 rfl rfl rfl (by decide) (W := 0) (Nat.le_of_eq rfl) (by decide) (by decide) (by decide) (by decide) ?_
    intro v15 h13 q14
    obtain ⟨⟨z4, rfl, z4_1, z4_2⟩, rfl⟩ := q14
    refine own_istore K own_d10_42 (Ls' := #[.val (.int ct), .val (.long pk), .second, .val (.int fc), .val (.int (3 : Int32)), .val (.int z0), .val (.int z1), .val (.int z2), .val (.int z3), .val (.int z4), .unset]) rfl ?_
    refine own_new K own_d10_44 (own_w5 hw) (own_w6 hw) (own_w7 hw) H (own_SD_F hw) (own_SD_P hw) (by decide) (by decide) ?_
    intro h16 a18 H17
    replace H17 : own_H Z h16 (own_SD a18 .null .null (.int (0 : Int32)) :: []) ([]) := H17
    refine own_dup K own_d10_47 rfl ?_
    refine own_special K own_d10_48 rfl (own_w8 hw) (own_w9 hw) (own_w7 hw) (own_w10 hw) (a := a18) (argsL := []) (rest := [(.ref a18)]) (own_init hw H17) own_pd5 rfl rfl rfl (by decide) (W := 1) (Nat.le_of_eq rfl) (by decide) (by decide) (by decide) (by decide) ?_
    intro v21 h19 q20
    obtain ⟨rfl, sa22, da23, H24⟩ := q20
    replace H24 : own_H Z h19 (own_SD a18 (.ref da23) (.ref sa22) (.int (0 : Int32)) :: []) ((sa22, .double, "[D", [(.double (0 : UInt64)), (.double (0 : UInt64)), (.double (0 : UInt64)), (.double (0 : UInt64))]) :: (da23, .int, "[I", [(.int (0 : Int32)), (.int (0 : Int32)), (.int (0 : Int32)), (.int (0 : Int32))]) :: []) := H24
    refine own_astore K own_d10_51 rfl (Ls' := #[.val (.int ct), .val (.long pk), .second, .val (.int fc), .val (.int (3 : Int32)), .val (.int z0), .val (.int z1), .val (.int z2), .val (.int z3), .val (.int z4), .val (.ref a18)]) rfl ?_
    refine own_iload K own_d10_53 rfl ?_
    refine own_ifle K own_d10_55 (fun q => absurd q (by decide)) (fun _ => ?_)
    refine own_aload K own_d10_58 rfl rfl ?_
    refine own_iconst K own_d10_60 (v := (0 : Int32)) rfl ?_
    refine own_iload K own_d10_61 rfl ?_
    refine own_i2d K own_d10_63 ?_
    have H25 := H24.frontA 1 rfl
    replace H25 : own_H Z h19 (own_SD a18 (.ref da23) (.ref sa22) (.int (0 : Int32)) :: []) ((da23, .int, "[I", [(.int (0 : Int32)), (.int (0 : Int32)), (.int (0 : Int32)), (.int (0 : Int32))]) :: (sa22, .double, "[D", [(.double (0 : UInt64)), (.double (0 : UInt64)), (.double (0 : UInt64)), (.double (0 : UInt64))]) :: []) := H25
    refine own_virtual K own_d10_64 (own_w35 hw) (own_w36 hw) (own_w38 hw) (own_w37 hw) (own_w7 hw) (own_w39 hw) (H25.atO (i := 0) rfl) (a := a18) (argsL := [(.int (0 : Int32)), (.double (FP.i2d z0))]) (rest := []) (own_add0 hw H25) own_pd9 rfl rfl rfl (by decide) (W := 0) (Nat.le_of_eq rfl) (by decide) (by decide) (by decide) (by decide) ?_
    intro v28 h26 q27
    obtain ⟨rfl, H29⟩ := q27
    replace H29 : own_H Z h26 (own_SD a18 (.ref da23) (.ref sa22) (.int (1 : Int32)) :: []) ((da23, .int, "[I", [(.int (0 : Int32)), (.int (0 : Int32)), (.int (0 : Int32)), (.int (0 : Int32))]) :: (sa22, .double, "[D", [(.double (FP.i2d z0)), (.double (0 : UInt64)), (.double (0 : UInt64)), (.double (0 : UInt64))]) :: []) := H29
    refine own_iload K own_d10_67 rfl ?_
    refine own_iconst K own_d10_69 (v := (1 : Int32)) rfl ?_
    refine own_icmple K own_d10_70 (fun q => absurd q (by decide)) (fun _ => ?_)
    refine own_aload K own_d10_73 rfl rfl ?_
    refine own_bipush K own_d10_75 (v := (10 : Int32)) rfl ?_
    refine own_iload K own_d10_77 rfl ?_
    refine own_i2d K own_d10_79 ?_
    have H30 := H29.frontA 1 rfl
    replace H30 : own_H Z h26 (own_SD a18 (.ref da23) (.ref sa22) (.int (1 : Int32)) :: []) ((sa22, .double, "[D", [(.double (FP.i2d z0)), (.double (0 : UInt64)), (.double (0 : UInt64)), (.double (0 : UInt64))]) :: (da23, .int, "[I", [(.int (0 : Int32)), (.int (0 : Int32)), (.int (0 : Int32)), (.int (0 : Int32))]) :: []) := H30
    have H31 := H30.frontA 1 rfl
    replace H31 : own_H Z h26 (own_SD a18 (.ref da23) (.ref sa22) (.int (1 : Int32)) :: []) ((da23, .int, "[I", [(.int (0 : Int32)), (.int (0 : Int32)), (.int (0 : Int32)), (.int (0 : Int32))]) :: (sa22, .double, "[D", [(.double (FP.i2d z0)), (.double (0 : UInt64)), (.double (0 : UInt64)), (.double (0 : UInt64))]) :: []) := H31
    refine own_virtual K own_d10_80 (own_w35 hw) (own_w36 hw) (own_w38 hw) (own_w37 hw) (own_w7 hw) (own_w39 hw) (H31.atO (i := 0) rfl) (a := a18) (argsL := [(.int (10 : Int32)), (.double (FP.i2d z1))]) (rest := []) (own_add1 hw H31) own_pd9 rfl rfl rfl (by decide) (W := 0) (Nat.le_of_eq rfl) (by decide) (by decide) (by decide) (by decide) ?_
    intro v34 h32 q33
    obtain ⟨rfl, H35⟩ := q33
    replace H35 : own_H Z h32 (own_SD a18 (.ref da23) (.ref sa22) (.int (2 : Int32)) :: []) ((da23, .int, "[I", [(.int (0 : Int32)), (.int (10 : Int32)), (.int (0 : Int32)), (.int (0 : Int32))]) :: (sa22, .double, "[D", [(.double (FP.i2d z0)), (.double (FP.i2d z1)), (.double (0 : UInt64)), (.double (0 : UInt64))]) :: []) := H35
    refine own_iload K own_d10_83 rfl ?_
    refine own_iconst K own_d10_85 (v := (2 : Int32)) rfl ?_
    refine own_icmple K own_d10_86 (fun q => absurd q (by decide)) (fun _ => ?_)
    refine own_aload K own_d10_89 rfl rfl ?_
    refine own_bipush K own_d10_91 (v := (20 : Int32)) rfl ?_
    refine own_iload K own_d10_93 rfl ?_
    refine own_i2d K own_d10_95 ?_
    have H36 := H35.frontA 1 rfl
    replace H36 : own_H Z h32 (own_SD a18 (.ref da23) (.ref sa22) (.int (2 : Int32)) :: []) ((sa22, .double, "[D", [(.double (FP.i2d z0)), (.double (FP.i2d z1)), (.double (0 : UInt64)), (.double (0 : UInt64))]) :: (da23, .int, "[I", [(.int (0 : Int32)), (.int (10 : Int32)), (.int (0 : Int32)), (.int (0 : Int32))]) :: []) := H36
    have H37 := H36.frontA 1 rfl
    replace H37 : own_H Z h32 (own_SD a18 (.ref da23) (.ref sa22) (.int (2 : Int32)) :: []) ((da23, .int, "[I", [(.int (0 : Int32)), (.int (10 : Int32)), (.int (0 : Int32)), (.int (0 : Int32))]) :: (sa22, .double, "[D", [(.double (FP.i2d z0)), (.double (FP.i2d z1)), (.double (0 : UInt64)), (.double (0 : UInt64))]) :: []) := H37
    refine own_virtual K own_d10_96 (own_w35 hw) (own_w36 hw) (own_w38 hw) (own_w37 hw) (own_w7 hw) (own_w39 hw) (H37.atO (i := 0) rfl) (a := a18) (argsL := [(.int (20 : Int32)), (.double (FP.i2d z2))]) (rest := []) (own_add2 hw H37) own_pd9 rfl rfl rfl (by decide) (W := 0) (Nat.le_of_eq rfl) (by decide) (by decide) (by decide) (by decide) ?_
    intro v40 h38 q39
    obtain ⟨rfl, H41⟩ := q39
    replace H41 : own_H Z h38 (own_SD a18 (.ref da23) (.ref sa22) (.int (3 : Int32)) :: []) ((da23, .int, "[I", [(.int (0 : Int32)), (.int (10 : Int32)), (.int (20 : Int32)), (.int (0 : Int32))]) :: (sa22, .double, "[D", [(.double (FP.i2d z0)), (.double (FP.i2d z1)), (.double (FP.i2d z2)), (.double (0 : UInt64))]) :: []) := H41
    refine own_iload K own_d10_99 rfl ?_
    refine own_iconst K own_d10_101 (v := (3 : Int32)) rfl ?_
    refine own_icmple K own_d10_102 (fun _ => ?_) (fun q => absurd (by decide) q)
    refine own_iload K own_d10_115 rfl ?_
    refine own_iconst K own_d10_117 (v := (4 : Int32)) rfl ?_
    refine own_icmple K own_d10_118 (fun _ => ?_) (fun q => absurd (by decide) q)
    refine own_aload K own_d10_131 rfl rfl ?_
    refine own_iloadN K own_d10_133 rfl ?_
    refine own_i2d K own_d10_134 ?_
    have H42 := H41.frontA 1 rfl
    replace H42 : own_H Z h38 (own_SD a18 (.ref da23) (.ref sa22) (.int (3 : Int32)) :: []) ((sa22, .double, "[D", [(.double (FP.i2d z0)), (.double (FP.i2d z1)), (.double (FP.i2d z2)), (.double (0 : UInt64))]) :: (da23, .int, "[I", [(.int (0 : Int32)), (.int (10 : Int32)), (.int (20 : Int32)), (.int (0 : Int32))]) :: []) := H42
    refine own_virtual K own_d10_135 (own_w20 hw) (own_w21 hw) (own_w23 hw) (own_w22 hw) (own_w7 hw) (own_w24 hw) (H42.atO (i := 0) rfl) (a := a18) (argsL := [(.double (FP.i2d fc))]) (rest := []) (own_mul3 hw H42 (Fl.i2d_fin _) (Fl.i2d_fin _) (Fl.i2d_fin _) (Fl.i2d_fin _)) own_pd6 rfl rfl rfl (by decide) (W := 0) (Nat.le_of_eq rfl) (by decide) (by decide) (by decide) (by decide) ?_
    intro v45 h43 q44
    obtain ⟨rfl, H46⟩ := q44
    replace H46 : own_H Z h43 (own_SD a18 (.ref da23) (.ref sa22) (.int (3 : Int32)) :: []) ((sa22, .double, "[D", [(.double (FP.dmul (FP.i2d z0) (FP.i2d fc))), (.double (FP.dmul (FP.i2d z1) (FP.i2d fc))), (.double (FP.dmul (FP.i2d z2) (FP.i2d fc))), (.double (0 : UInt64))]) :: (da23, .int, "[I", [(.int (0 : Int32)), (.int (10 : Int32)), (.int (20 : Int32)), (.int (0 : Int32))]) :: []) := H46
    refine own_aload K own_d10_138 rfl rfl ?_
    refine own_virtual K own_d10_140 (own_w27 hw) (own_w28 hw) (own_w30 hw) (own_w29 hw) (own_w7 hw) (own_w31 hw) (H46.atO (i := 0) rfl) (a := a18) (argsL := []) (rest := []) (own_size hw H46) own_pd7 rfl rfl rfl (by decide) (W := 0) (Nat.le_of_eq rfl) (by decide) (by decide) (by decide) (by decide) ?_
    intro v49 h47 q48
    obtain ⟨rfl, rfl⟩ := q48
    refine own_iload K own_d10_143 rfl ?_
    refine own_icmpne K own_d10_145 (fun q => absurd q (by decide)) (fun _ => ?_)
    refine own_aload K own_d10_148 rfl rfl ?_
    refine own_iload K own_d10_150 rfl ?_
    refine own_iconst K own_d10_152 (v := (0 : Int32)) rfl ?_
    refine own_iload K own_d10_153 rfl ?_
    refine own_iloadN K own_d10_155 rfl ?_
    refine own_static K own_d10_156 (own_w32 hw) (own_w33 hw) (own_w2 hw) (own_w34 hw) (argsL := [(.ref a18), (.int (3 : Int32)), (.int (0 : Int32)), (.int z0), (.int fc)]) (rest := []) (own_ok hw H46 z0_1 z0_2 (fun _ => ⟨0, rfl, rfl⟩)) own_pd8 rfl rfl rfl (by decide) (W := 0) (Nat.le_of_eq rfl) (by decide) (by decide) (by decide) (by decide) ?_
    intro v52 h50 q51
    obtain ⟨rfl, rfl⟩ := q51
    refine own_ifeq K own_d10_159 (fun q => absurd q (by decide)) (fun _ => ?_)
    refine own_aload K own_d10_162 rfl rfl ?_
    refine own_iload K own_d10_164 rfl ?_
    refine own_iconst K own_d10_166 (v := (1 : Int32)) rfl ?_
    refine own_iload K own_d10_167 rfl ?_
    refine own_iloadN K own_d10_169 rfl ?_
    refine own_static K own_d10_170 (own_w32 hw) (own_w33 hw) (own_w2 hw) (own_w34 hw) (argsL := [(.ref a18), (.int (3 : Int32)), (.int (1 : Int32)), (.int z1), (.int fc)]) (rest := []) (own_ok hw H46 z1_1 z1_2 (fun _ => ⟨1, rfl, rfl⟩)) own_pd8 rfl rfl rfl (by decide) (W := 0) (Nat.le_of_eq rfl) (by decide) (by decide) (by decide) (by decide) ?_
    intro v55 h53 q54
    obtain ⟨rfl, rfl⟩ := q54
    refine own_ifeq K own_d10_173 (fun q => absurd q (by decide)) (fun _ => ?_)
    refine own_aload K own_d10_176 rfl rfl ?_
    refine own_iload K own_d10_178 rfl ?_
    refine own_iconst K own_d10_180 (v := (2 : Int32)) rfl ?_
    refine own_iload K own_d10_181 rfl ?_
    refine own_iloadN K own_d10_183 rfl ?_
    refine own_static K own_d10_184 (own_w32 hw) (own_w33 hw) (own_w2 hw) (own_w34 hw) (argsL := [(.ref a18), (.int (3 : Int32)), (.int (2 : Int32)), (.int z2), (.int fc)]) (rest := []) (own_ok hw H46 z2_1 z2_2 (fun _ => ⟨2, rfl, rfl⟩)) own_pd8 rfl rfl rfl (by decide) (W := 0) (Nat.le_of_eq rfl) (by decide) (by decide) (by decide) (by decide) ?_
    intro v58 h56 q57
    obtain ⟨rfl, rfl⟩ := q57
    refine own_ifeq K own_d10_187 (fun q => absurd q (by decide)) (fun _ => ?_)
    refine own_aload K own_d10_190 rfl rfl ?_
    refine own_iload K own_d10_192 rfl ?_
    refine own_iconst K own_d10_194 (v := (3 : Int32)) rfl ?_
    refine own_iload K own_d10_195 rfl ?_
    refine own_iloadN K own_d10_197 rfl ?_
    refine own_static K own_d10_198 (own_w32 hw) (own_w33 hw) (own_w2 hw) (own_w34 hw) (argsL := [(.ref a18), (.int (3 : Int32)), (.int (3 : Int32)), (.int z3), (.int fc)]) (rest := []) (own_ok hw H46 z3_1 z3_2 (fun q => absurd q (by decide))) own_pd8 rfl rfl rfl (by decide) (W := 0) (Nat.le_of_eq rfl) (by decide) (by decide) (by decide) (by decide) ?_
    intro v61 h59 q60
    obtain ⟨rfl, rfl⟩ := q60
    refine own_ifeq K own_d10_201 (fun q => absurd q (by decide)) (fun _ => ?_)
    refine own_aload K own_d10_204 rfl rfl ?_
    refine own_iload K own_d10_206 rfl ?_
    refine own_iconst K own_d10_208 (v := (4 : Int32)) rfl ?_
    refine own_iload K own_d10_209 rfl ?_
    refine own_iloadN K own_d10_211 rfl ?_
    refine own_static K own_d10_212 (own_w32 hw) (own_w33 hw) (own_w2 hw) (own_w34 hw) (argsL := [(.ref a18), (.int (3 : Int32)), (.int (4 : Int32)), (.int z4), (.int fc)]) (rest := []) (own_ok hw H46 z4_1 z4_2 (fun q => absurd q (by decide))) own_pd8 rfl rfl rfl (by decide) (W := 0) (Nat.le_of_eq rfl) (by decide) (by decide) (by decide) (by decide) ?_
    intro v64 h62 q63
    obtain ⟨rfl, rfl⟩ := q63
    refine own_ifeq K own_d10_215 (fun q => absurd q (by decide)) (fun _ => ?_)
    refine own_iconst K own_d10_218 (v := (1 : Int32)) rfl ?_
    refine own_goto K own_d10_219 ?_
    exact own_retZ K (by first | exact Or.inl rfl | exact Or.inr rfl | decide) own_d10_223 (by decide) (by decide) (rfl)
  · refine own_iloadN K own_d10_0 rfl ?_
    refine own_bipush K own_d10_1 (v := (7 : Int32)) rfl ?_
    refine own_iand K own_d10_3 ?_
    refine own_bipush K own_d10_4 (v := (6 : Int32)) rfl ?_
    refine own_irem K own_d10_6 (by decide) ?_
    refine own_topI (x' := (4 : Int32)) (q) ?_
    refine own_istore K own_d10_7 (Ls' := #[.val (.int ct), .val (.long pk), .second, .val (.int fc), .val (.int (4 : Int32)), .unset, .unset, .unset, .unset, .unset, .unset]) rfl ?_
    refine own_lloadN K own_d10_9 rfl ?_
    refine own_iconst K own_d10_10 (v := (0 : Int32)) rfl ?_
    refine own_static K own_d10_11 (own_w0 hw) (own_w1 hw) (own_w2 hw) (own_w3 hw) (argsL := [(.long pk), (.int (0 : Int32))]) (rest := []) (own_drawn_m hw) own_pd4 rfl rfl rfl (by decide) (W := 0) (Nat.le_of_eq rfl) (by decide) (by decide) (by decide) (by decide) ?_
    intro v3 h1 q2
    obtain ⟨⟨z0, rfl, z0_1, z0_2⟩, rfl⟩ := q2
    refine own_istore K own_d10_14 (Ls' := #[.val (.int ct), .val (.long pk), .second, .val (.int fc), .val (.int (4 : Int32)), .val (.int z0), .unset, .unset, .unset, .unset, .unset]) rfl ?_
    refine own_lloadN K own_d10_16 rfl ?_
    refine own_iconst K own_d10_17 (v := (1 : Int32)) rfl ?_
    refine own_static K own_d10_18 (own_w0 hw) (own_w1 hw) (own_w2 hw) (own_w3 hw) (argsL := [(.long pk), (.int (1 : Int32))]) (rest := []) (own_drawn_m hw) own_pd4 rfl rfl rfl (by decide) (W := 0) (Nat.le_of_eq rfl) (by decide) (by decide) (by decide) (by decide) ?_
    intro v6 h4 q5
    obtain ⟨⟨z1, rfl, z1_1, z1_2⟩, rfl⟩ := q5
    refine own_istore K own_d10_21 (Ls' := #[.val (.int ct), .val (.long pk), .second, .val (.int fc), .val (.int (4 : Int32)), .val (.int z0), .val (.int z1), .unset, .unset, .unset, .unset]) rfl ?_
    refine own_lloadN K own_d10_23 rfl ?_
    refine own_iconst K own_d10_24 (v := (2 : Int32)) rfl ?_
    refine own_static K own_d10_25 (own_w0 hw) (own_w1 hw) (own_w2 hw) (own_w3 hw) (argsL := [(.long pk), (.int (2 : Int32))]) (rest := []) (own_drawn_m hw) own_pd4 rfl rfl rfl (by decide) (W := 0) (Nat.le_of_eq rfl) (by decide) (by decide) (by decide) (by decide) ?_
    intro v9 h7 q8
    obtain ⟨⟨z2, rfl, z2_1, z2_2⟩, rfl⟩ := q8
    refine own_istore K own_d10_28 (Ls' := #[.val (.int ct), .val (.long pk), .second, .val (.int fc), .val (.int (4 : Int32)), .val (.int z0), .val (.int z1), .val (.int z2), .unset, .unset, .unset]) rfl ?_
    refine own_lloadN K own_d10_30 rfl ?_
    refine own_iconst K own_d10_31 (v := (3 : Int32)) rfl ?_
    refine own_static K own_d10_32 (own_w0 hw) (own_w1 hw) (own_w2 hw) (own_w3 hw) (argsL := [(.long pk), (.int (3 : Int32))]) (rest := []) (own_drawn_m hw) own_pd4 rfl rfl rfl (by decide) (W := 0) (Nat.le_of_eq rfl) (by decide) (by decide) (by decide) (by decide) ?_
    intro v12 h10 q11
    obtain ⟨⟨z3, rfl, z3_1, z3_2⟩, rfl⟩ := q11
    refine own_istore K own_d10_35 (Ls' := #[.val (.int ct), .val (.long pk), .second, .val (.int fc), .val (.int (4 : Int32)), .val (.int z0), .val (.int z1), .val (.int z2), .val (.int z3), .unset, .unset]) rfl ?_
    refine own_lloadN K own_d10_37 rfl ?_
    refine own_iconst K own_d10_38 (v := (4 : Int32)) rfl ?_
    refine own_static K own_d10_39 (own_w0 hw) (own_w1 hw) (own_w2 hw) (own_w3 hw) (argsL := [(.long pk), (.int (4 : Int32))]) (rest := []) (own_drawn_m hw) own_pd4 rfl rfl rfl (by decide) (W := 0) (Nat.le_of_eq rfl) (by decide) (by decide) (by decide) (by decide) ?_
    intro v15 h13 q14
    obtain ⟨⟨z4, rfl, z4_1, z4_2⟩, rfl⟩ := q14
    refine own_istore K own_d10_42 (Ls' := #[.val (.int ct), .val (.long pk), .second, .val (.int fc), .val (.int (4 : Int32)), .val (.int z0), .val (.int z1), .val (.int z2), .val (.int z3), .val (.int z4), .unset]) rfl ?_
    refine own_new K own_d10_44 (own_w5 hw) (own_w6 hw) (own_w7 hw) H (own_SD_F hw) (own_SD_P hw) (by decide) (by decide) ?_
    intro h16 a18 H17
    replace H17 : own_H Z h16 (own_SD a18 .null .null (.int (0 : Int32)) :: []) ([]) := H17
    refine own_dup K own_d10_47 rfl ?_
    refine own_special K own_d10_48 rfl (own_w8 hw) (own_w9 hw) (own_w7 hw) (own_w10 hw) (a := a18) (argsL := []) (rest := [(.ref a18)]) (own_init hw H17) own_pd5 rfl rfl rfl (by decide) (W := 1) (Nat.le_of_eq rfl) (by decide) (by decide) (by decide) (by decide) ?_
    intro v21 h19 q20
    obtain ⟨rfl, sa22, da23, H24⟩ := q20
    replace H24 : own_H Z h19 (own_SD a18 (.ref da23) (.ref sa22) (.int (0 : Int32)) :: []) ((sa22, .double, "[D", [(.double (0 : UInt64)), (.double (0 : UInt64)), (.double (0 : UInt64)), (.double (0 : UInt64))]) :: (da23, .int, "[I", [(.int (0 : Int32)), (.int (0 : Int32)), (.int (0 : Int32)), (.int (0 : Int32))]) :: []) := H24
    refine own_astore K own_d10_51 rfl (Ls' := #[.val (.int ct), .val (.long pk), .second, .val (.int fc), .val (.int (4 : Int32)), .val (.int z0), .val (.int z1), .val (.int z2), .val (.int z3), .val (.int z4), .val (.ref a18)]) rfl ?_
    refine own_iload K own_d10_53 rfl ?_
    refine own_ifle K own_d10_55 (fun q => absurd q (by decide)) (fun _ => ?_)
    refine own_aload K own_d10_58 rfl rfl ?_
    refine own_iconst K own_d10_60 (v := (0 : Int32)) rfl ?_
    refine own_iload K own_d10_61 rfl ?_
    refine own_i2d K own_d10_63 ?_
    have H25 := H24.frontA 1 rfl
    replace H25 : own_H Z h19 (own_SD a18 (.ref da23) (.ref sa22) (.int (0 : Int32)) :: []) ((da23, .int, "[I", [(.int (0 : Int32)), (.int (0 : Int32)), (.int (0 : Int32)), (.int (0 : Int32))]) :: (sa22, .double, "[D", [(.double (0 : UInt64)), (.double (0 : UInt64)), (.double (0 : UInt64)), (.double (0 : UInt64))]) :: []) := H25
    refine own_virtual K own_d10_64 (own_w35 hw) (own_w36 hw) (own_w38 hw) (own_w37 hw) (own_w7 hw) (own_w39 hw) (H25.atO (i := 0) rfl) (a := a18) (argsL := [(.int (0 : Int32)), (.double (FP.i2d z0))]) (rest := []) (own_add0 hw H25) own_pd9 rfl rfl rfl (by decide) (W := 0) (Nat.le_of_eq rfl) (by decide) (by decide) (by decide) (by decide) ?_
    intro v28 h26 q27
    obtain ⟨rfl, H29⟩ := q27
    replace H29 : own_H Z h26 (own_SD a18 (.ref da23) (.ref sa22) (.int (1 : Int32)) :: []) ((da23, .int, "[I", [(.int (0 : Int32)), (.int (0 : Int32)), (.int (0 : Int32)), (.int (0 : Int32))]) :: (sa22, .double, "[D", [(.double (FP.i2d z0)), (.double (0 : UInt64)), (.double (0 : UInt64)), (.double (0 : UInt64))]) :: []) := H29
    refine own_iload K own_d10_67 rfl ?_
    refine own_iconst K own_d10_69 (v := (1 : Int32)) rfl ?_
    refine own_icmple K own_d10_70 (fun q => absurd q (by decide)) (fun _ => ?_)
    refine own_aload K own_d10_73 rfl rfl ?_
    refine own_bipush K own_d10_75 (v := (10 : Int32)) rfl ?_
    refine own_iload K own_d10_77 rfl ?_
    refine own_i2d K own_d10_79 ?_
    have H30 := H29.frontA 1 rfl
    replace H30 : own_H Z h26 (own_SD a18 (.ref da23) (.ref sa22) (.int (1 : Int32)) :: []) ((sa22, .double, "[D", [(.double (FP.i2d z0)), (.double (0 : UInt64)), (.double (0 : UInt64)), (.double (0 : UInt64))]) :: (da23, .int, "[I", [(.int (0 : Int32)), (.int (0 : Int32)), (.int (0 : Int32)), (.int (0 : Int32))]) :: []) := H30
    have H31 := H30.frontA 1 rfl
    replace H31 : own_H Z h26 (own_SD a18 (.ref da23) (.ref sa22) (.int (1 : Int32)) :: []) ((da23, .int, "[I", [(.int (0 : Int32)), (.int (0 : Int32)), (.int (0 : Int32)), (.int (0 : Int32))]) :: (sa22, .double, "[D", [(.double (FP.i2d z0)), (.double (0 : UInt64)), (.double (0 : UInt64)), (.double (0 : UInt64))]) :: []) := H31
    refine own_virtual K own_d10_80 (own_w35 hw) (own_w36 hw) (own_w38 hw) (own_w37 hw) (own_w7 hw) (own_w39 hw) (H31.atO (i := 0) rfl) (a := a18) (argsL := [(.int (10 : Int32)), (.double (FP.i2d z1))]) (rest := []) (own_add1 hw H31) own_pd9 rfl rfl rfl (by decide) (W := 0) (Nat.le_of_eq rfl) (by decide) (by decide) (by decide) (by decide) ?_
    intro v34 h32 q33
    obtain ⟨rfl, H35⟩ := q33
    replace H35 : own_H Z h32 (own_SD a18 (.ref da23) (.ref sa22) (.int (2 : Int32)) :: []) ((da23, .int, "[I", [(.int (0 : Int32)), (.int (10 : Int32)), (.int (0 : Int32)), (.int (0 : Int32))]) :: (sa22, .double, "[D", [(.double (FP.i2d z0)), (.double (FP.i2d z1)), (.double (0 : UInt64)), (.double (0 : UInt64))]) :: []) := H35
    refine own_iload K own_d10_83 rfl ?_
    refine own_iconst K own_d10_85 (v := (2 : Int32)) rfl ?_
    refine own_icmple K own_d10_86 (fun q => absurd q (by decide)) (fun _ => ?_)
    refine own_aload K own_d10_89 rfl rfl ?_
    refine own_bipush K own_d10_91 (v := (20 : Int32)) rfl ?_
    refine own_iload K own_d10_93 rfl ?_
    refine own_i2d K own_d10_95 ?_
    have H36 := H35.frontA 1 rfl
    replace H36 : own_H Z h32 (own_SD a18 (.ref da23) (.ref sa22) (.int (2 : Int32)) :: []) ((sa22, .double, "[D", [(.double (FP.i2d z0)), (.double (FP.i2d z1)), (.double (0 : UInt64)), (.double (0 : UInt64))]) :: (da23, .int, "[I", [(.int (0 : Int32)), (.int (10 : Int32)), (.int (0 : Int32)), (.int (0 : Int32))]) :: []) := H36
    have H37 := H36.frontA 1 rfl
    replace H37 : own_H Z h32 (own_SD a18 (.ref da23) (.ref sa22) (.int (2 : Int32)) :: []) ((da23, .int, "[I", [(.int (0 : Int32)), (.int (10 : Int32)), (.int (0 : Int32)), (.int (0 : Int32))]) :: (sa22, .double, "[D", [(.double (FP.i2d z0)), (.double (FP.i2d z1)), (.double (0 : UInt64)), (.double (0 : UInt64))]) :: []) := H37
    refine own_virtual K own_d10_96 (own_w35 hw) (own_w36 hw) (own_w38 hw) (own_w37 hw) (own_w7 hw) (own_w39 hw) (H37.atO (i := 0) rfl) (a := a18) (argsL := [(.int (20 : Int32)), (.double (FP.i2d z2))]) (rest := []) (own_add2 hw H37) own_pd9 rfl rfl rfl (by decide) (W := 0) (Nat.le_of_eq rfl) (by decide) (by decide) (by decide) (by decide) ?_
    intro v40 h38 q39
    obtain ⟨rfl, H41⟩ := q39
    replace H41 : own_H Z h38 (own_SD a18 (.ref da23) (.ref sa22) (.int (3 : Int32)) :: []) ((da23, .int, "[I", [(.int (0 : Int32)), (.int (10 : Int32)), (.int (20 : Int32)), (.int (0 : Int32))]) :: (sa22, .double, "[D", [(.double (FP.i2d z0)), (.double (FP.i2d z1)), (.double (FP.i2d z2)), (.double (0 : UInt64))]) :: []) := H41
    refine own_iload K own_d10_99 rfl ?_
    refine own_iconst K own_d10_101 (v := (3 : Int32)) rfl ?_
    refine own_icmple K own_d10_102 (fun q => absurd q (by decide)) (fun _ => ?_)
    refine own_aload K own_d10_105 rfl rfl ?_
    refine own_bipush K own_d10_107 (v := (30 : Int32)) rfl ?_
    refine own_iload K own_d10_109 rfl ?_
    refine own_i2d K own_d10_111 ?_
    have H42 := H41.frontA 1 rfl
    replace H42 : own_H Z h38 (own_SD a18 (.ref da23) (.ref sa22) (.int (3 : Int32)) :: []) ((sa22, .double, "[D", [(.double (FP.i2d z0)), (.double (FP.i2d z1)), (.double (FP.i2d z2)), (.double (0 : UInt64))]) :: (da23, .int, "[I", [(.int (0 : Int32)), (.int (10 : Int32)), (.int (20 : Int32)), (.int (0 : Int32))]) :: []) := H42
    have H43 := H42.frontA 1 rfl
    replace H43 : own_H Z h38 (own_SD a18 (.ref da23) (.ref sa22) (.int (3 : Int32)) :: []) ((da23, .int, "[I", [(.int (0 : Int32)), (.int (10 : Int32)), (.int (20 : Int32)), (.int (0 : Int32))]) :: (sa22, .double, "[D", [(.double (FP.i2d z0)), (.double (FP.i2d z1)), (.double (FP.i2d z2)), (.double (0 : UInt64))]) :: []) := H43
    refine own_virtual K own_d10_112 (own_w35 hw) (own_w36 hw) (own_w38 hw) (own_w37 hw) (own_w7 hw) (own_w39 hw) (H43.atO (i := 0) rfl) (a := a18) (argsL := [(.int (30 : Int32)), (.double (FP.i2d z3))]) (rest := []) (own_add3 hw H43) own_pd9 rfl rfl rfl (by decide) (W := 0) (Nat.le_of_eq rfl) (by decide) (by decide) (by decide) (by decide) ?_
    intro v46 h44 q45
    obtain ⟨rfl, H47⟩ := q45
    replace H47 : own_H Z h44 (own_SD a18 (.ref da23) (.ref sa22) (.int (4 : Int32)) :: []) ((da23, .int, "[I", [(.int (0 : Int32)), (.int (10 : Int32)), (.int (20 : Int32)), (.int (30 : Int32))]) :: (sa22, .double, "[D", [(.double (FP.i2d z0)), (.double (FP.i2d z1)), (.double (FP.i2d z2)), (.double (FP.i2d z3))]) :: []) := H47
    refine own_iload K own_d10_115 rfl ?_
    refine own_iconst K own_d10_117 (v := (4 : Int32)) rfl ?_
    refine own_icmple K own_d10_118 (fun _ => ?_) (fun q => absurd (by decide) q)
    refine own_aload K own_d10_131 rfl rfl ?_
    refine own_iloadN K own_d10_133 rfl ?_
    refine own_i2d K own_d10_134 ?_
    have H48 := H47.frontA 1 rfl
    replace H48 : own_H Z h44 (own_SD a18 (.ref da23) (.ref sa22) (.int (4 : Int32)) :: []) ((sa22, .double, "[D", [(.double (FP.i2d z0)), (.double (FP.i2d z1)), (.double (FP.i2d z2)), (.double (FP.i2d z3))]) :: (da23, .int, "[I", [(.int (0 : Int32)), (.int (10 : Int32)), (.int (20 : Int32)), (.int (30 : Int32))]) :: []) := H48
    refine own_virtual K own_d10_135 (own_w20 hw) (own_w21 hw) (own_w23 hw) (own_w22 hw) (own_w7 hw) (own_w24 hw) (H48.atO (i := 0) rfl) (a := a18) (argsL := [(.double (FP.i2d fc))]) (rest := []) (own_mul4 hw H48 (Fl.i2d_fin _) (Fl.i2d_fin _) (Fl.i2d_fin _) (Fl.i2d_fin _) (Fl.i2d_fin _)) own_pd6 rfl rfl rfl (by decide) (W := 0) (Nat.le_of_eq rfl) (by decide) (by decide) (by decide) (by decide) ?_
    intro v51 h49 q50
    obtain ⟨rfl, H52⟩ := q50
    replace H52 : own_H Z h49 (own_SD a18 (.ref da23) (.ref sa22) (.int (4 : Int32)) :: []) ((sa22, .double, "[D", [(.double (FP.dmul (FP.i2d z0) (FP.i2d fc))), (.double (FP.dmul (FP.i2d z1) (FP.i2d fc))), (.double (FP.dmul (FP.i2d z2) (FP.i2d fc))), (.double (FP.dmul (FP.i2d z3) (FP.i2d fc)))]) :: (da23, .int, "[I", [(.int (0 : Int32)), (.int (10 : Int32)), (.int (20 : Int32)), (.int (30 : Int32))]) :: []) := H52
    refine own_aload K own_d10_138 rfl rfl ?_
    refine own_virtual K own_d10_140 (own_w27 hw) (own_w28 hw) (own_w30 hw) (own_w29 hw) (own_w7 hw) (own_w31 hw) (H52.atO (i := 0) rfl) (a := a18) (argsL := []) (rest := []) (own_size hw H52) own_pd7 rfl rfl rfl (by decide) (W := 0) (Nat.le_of_eq rfl) (by decide) (by decide) (by decide) (by decide) ?_
    intro v55 h53 q54
    obtain ⟨rfl, rfl⟩ := q54
    refine own_iload K own_d10_143 rfl ?_
    refine own_icmpne K own_d10_145 (fun q => absurd q (by decide)) (fun _ => ?_)
    refine own_aload K own_d10_148 rfl rfl ?_
    refine own_iload K own_d10_150 rfl ?_
    refine own_iconst K own_d10_152 (v := (0 : Int32)) rfl ?_
    refine own_iload K own_d10_153 rfl ?_
    refine own_iloadN K own_d10_155 rfl ?_
    refine own_static K own_d10_156 (own_w32 hw) (own_w33 hw) (own_w2 hw) (own_w34 hw) (argsL := [(.ref a18), (.int (4 : Int32)), (.int (0 : Int32)), (.int z0), (.int fc)]) (rest := []) (own_ok hw H52 z0_1 z0_2 (fun _ => ⟨0, rfl, rfl⟩)) own_pd8 rfl rfl rfl (by decide) (W := 0) (Nat.le_of_eq rfl) (by decide) (by decide) (by decide) (by decide) ?_
    intro v58 h56 q57
    obtain ⟨rfl, rfl⟩ := q57
    refine own_ifeq K own_d10_159 (fun q => absurd q (by decide)) (fun _ => ?_)
    refine own_aload K own_d10_162 rfl rfl ?_
    refine own_iload K own_d10_164 rfl ?_
    refine own_iconst K own_d10_166 (v := (1 : Int32)) rfl ?_
    refine own_iload K own_d10_167 rfl ?_
    refine own_iloadN K own_d10_169 rfl ?_
    refine own_static K own_d10_170 (own_w32 hw) (own_w33 hw) (own_w2 hw) (own_w34 hw) (argsL := [(.ref a18), (.int (4 : Int32)), (.int (1 : Int32)), (.int z1), (.int fc)]) (rest := []) (own_ok hw H52 z1_1 z1_2 (fun _ => ⟨1, rfl, rfl⟩)) own_pd8 rfl rfl rfl (by decide) (W := 0) (Nat.le_of_eq rfl) (by decide) (by decide) (by decide) (by decide) ?_
    intro v61 h59 q60
    obtain ⟨rfl, rfl⟩ := q60
    refine own_ifeq K own_d10_173 (fun q => absurd q (by decide)) (fun _ => ?_)
    refine own_aload K own_d10_176 rfl rfl ?_
    refine own_iload K own_d10_178 rfl ?_
    refine own_iconst K own_d10_180 (v := (2 : Int32)) rfl ?_
    refine own_iload K own_d10_181 rfl ?_
    refine own_iloadN K own_d10_183 rfl ?_
    refine own_static K own_d10_184 (own_w32 hw) (own_w33 hw) (own_w2 hw) (own_w34 hw) (argsL := [(.ref a18), (.int (4 : Int32)), (.int (2 : Int32)), (.int z2), (.int fc)]) (rest := []) (own_ok hw H52 z2_1 z2_2 (fun _ => ⟨2, rfl, rfl⟩)) own_pd8 rfl rfl rfl (by decide) (W := 0) (Nat.le_of_eq rfl) (by decide) (by decide) (by decide) (by decide) ?_
    intro v64 h62 q63
    obtain ⟨rfl, rfl⟩ := q63
    refine own_ifeq K own_d10_187 (fun q => absurd q (by decide)) (fun _ => ?_)
    refine own_aload K own_d10_190 rfl rfl ?_
    refine own_iload K own_d10_192 rfl ?_
    refine own_iconst K own_d10_194 (v := (3 : Int32)) rfl ?_
    refine own_iload K own_d10_195 rfl ?_
    refine own_iloadN K own_d10_197 rfl ?_
    refine own_static K own_d10_198 (own_w32 hw) (own_w33 hw) (own_w2 hw) (own_w34 hw) (argsL := [(.ref a18), (.int (4 : Int32)), (.int (3 : Int32)), (.int z3), (.int fc)]) (rest := []) (own_ok hw H52 z3_1 z3_2 (fun _ => ⟨3, rfl, rfl⟩)) own_pd8 rfl rfl rfl (by decide) (W := 0) (Nat.le_of_eq rfl) (by decide) (by decide) (by decide) (by decide) ?_
    intro v67 h65 q66
    obtain ⟨rfl, rfl⟩ := q66
    refine own_ifeq K own_d10_201 (fun q => absurd q (by decide)) (fun _ => ?_)
    refine own_aload K own_d10_204 rfl rfl ?_
    refine own_iload K own_d10_206 rfl ?_
    refine own_iconst K own_d10_208 (v := (4 : Int32)) rfl ?_
    refine own_iload K own_d10_209 rfl ?_
    refine own_iloadN K own_d10_211 rfl ?_
    refine own_static K own_d10_212 (own_w32 hw) (own_w33 hw) (own_w2 hw) (own_w34 hw) (argsL := [(.ref a18), (.int (4 : Int32)), (.int (4 : Int32)), (.int z4), (.int fc)]) (rest := []) (own_ok hw H52 z4_1 z4_2 (fun q => absurd q (by decide))) own_pd8 rfl rfl rfl (by decide) (W := 0) (Nat.le_of_eq rfl) (by decide) (by decide) (by decide) (by decide) ?_
    intro v70 h68 q69
    obtain ⟨rfl, rfl⟩ := q69
    refine own_ifeq K own_d10_215 (fun q => absurd q (by decide)) (fun _ => ?_)
    refine own_iconst K own_d10_218 (v := (1 : Int32)) rfl ?_
    refine own_goto K own_d10_219 ?_
    exact own_retZ K (by first | exact Or.inl rfl | exact Or.inr rfl | decide) own_d10_223 (by decide) (by decide) (rfl)
  · refine own_iloadN K own_d10_0 rfl ?_
    refine own_bipush K own_d10_1 (v := (7 : Int32)) rfl ?_
    refine own_iand K own_d10_3 ?_
    refine own_bipush K own_d10_4 (v := (6 : Int32)) rfl ?_
    refine own_irem K own_d10_6 (by decide) ?_
    refine own_topI (x' := (5 : Int32)) (q) ?_
    refine own_istore K own_d10_7 (Ls' := #[.val (.int ct), .val (.long pk), .second, .val (.int fc), .val (.int (5 : Int32)), .unset, .unset, .unset, .unset, .unset, .unset]) rfl ?_
    refine own_lloadN K own_d10_9 rfl ?_
    refine own_iconst K own_d10_10 (v := (0 : Int32)) rfl ?_
    refine own_static K own_d10_11 (own_w0 hw) (own_w1 hw) (own_w2 hw) (own_w3 hw) (argsL := [(.long pk), (.int (0 : Int32))]) (rest := []) (own_drawn_m hw) own_pd4 rfl rfl rfl (by decide) (W := 0) (Nat.le_of_eq rfl) (by decide) (by decide) (by decide) (by decide) ?_
    intro v3 h1 q2
    obtain ⟨⟨z0, rfl, z0_1, z0_2⟩, rfl⟩ := q2
    refine own_istore K own_d10_14 (Ls' := #[.val (.int ct), .val (.long pk), .second, .val (.int fc), .val (.int (5 : Int32)), .val (.int z0), .unset, .unset, .unset, .unset, .unset]) rfl ?_
    refine own_lloadN K own_d10_16 rfl ?_
    refine own_iconst K own_d10_17 (v := (1 : Int32)) rfl ?_
    refine own_static K own_d10_18 (own_w0 hw) (own_w1 hw) (own_w2 hw) (own_w3 hw) (argsL := [(.long pk), (.int (1 : Int32))]) (rest := []) (own_drawn_m hw) own_pd4 rfl rfl rfl (by decide) (W := 0) (Nat.le_of_eq rfl) (by decide) (by decide) (by decide) (by decide) ?_
    intro v6 h4 q5
    obtain ⟨⟨z1, rfl, z1_1, z1_2⟩, rfl⟩ := q5
    refine own_istore K own_d10_21 (Ls' := #[.val (.int ct), .val (.long pk), .second, .val (.int fc), .val (.int (5 : Int32)), .val (.int z0), .val (.int z1), .unset, .unset, .unset, .unset]) rfl ?_
    refine own_lloadN K own_d10_23 rfl ?_
    refine own_iconst K own_d10_24 (v := (2 : Int32)) rfl ?_
    refine own_static K own_d10_25 (own_w0 hw) (own_w1 hw) (own_w2 hw) (own_w3 hw) (argsL := [(.long pk), (.int (2 : Int32))]) (rest := []) (own_drawn_m hw) own_pd4 rfl rfl rfl (by decide) (W := 0) (Nat.le_of_eq rfl) (by decide) (by decide) (by decide) (by decide) ?_
    intro v9 h7 q8
    obtain ⟨⟨z2, rfl, z2_1, z2_2⟩, rfl⟩ := q8
    refine own_istore K own_d10_28 (Ls' := #[.val (.int ct), .val (.long pk), .second, .val (.int fc), .val (.int (5 : Int32)), .val (.int z0), .val (.int z1), .val (.int z2), .unset, .unset, .unset]) rfl ?_
    refine own_lloadN K own_d10_30 rfl ?_
    refine own_iconst K own_d10_31 (v := (3 : Int32)) rfl ?_
    refine own_static K own_d10_32 (own_w0 hw) (own_w1 hw) (own_w2 hw) (own_w3 hw) (argsL := [(.long pk), (.int (3 : Int32))]) (rest := []) (own_drawn_m hw) own_pd4 rfl rfl rfl (by decide) (W := 0) (Nat.le_of_eq rfl) (by decide) (by decide) (by decide) (by decide) ?_
    intro v12 h10 q11
    obtain ⟨⟨z3, rfl, z3_1, z3_2⟩, rfl⟩ := q11
    refine own_istore K own_d10_35 (Ls' := #[.val (.int ct), .val (.long pk), .second, .val (.int fc), .val (.int (5 : Int32)), .val (.int z0), .val (.int z1), .val (.int z2), .val (.int z3), .unset, .unset]) rfl ?_
    refine own_lloadN K own_d10_37 rfl ?_
    refine own_iconst K own_d10_38 (v := (4 : Int32)) rfl ?_
    refine own_static K own_d10_39 (own_w0 hw) (own_w1 hw) (own_w2 hw) (own_w3 hw) (argsL := [(.long pk), (.int (4 : Int32))]) (rest := []) (own_drawn_m hw) own_pd4 rfl rfl rfl (by decide) (W := 0) (Nat.le_of_eq rfl) (by decide) (by decide) (by decide) (by decide) ?_
    intro v15 h13 q14
    obtain ⟨⟨z4, rfl, z4_1, z4_2⟩, rfl⟩ := q14
    refine own_istore K own_d10_42 (Ls' := #[.val (.int ct), .val (.long pk), .second, .val (.int fc), .val (.int (5 : Int32)), .val (.int z0), .val (.int z1), .val (.int z2), .val (.int z3), .val (.int z4), .unset]) rfl ?_
    refine own_new K own_d10_44 (own_w5 hw) (own_w6 hw) (own_w7 hw) H (own_SD_F hw) (own_SD_P hw) (by decide) (by decide) ?_
    intro h16 a18 H17
    replace H17 : own_H Z h16 (own_SD a18 .null .null (.int (0 : Int32)) :: []) ([]) := H17
    refine own_dup K own_d10_47 rfl ?_
    refine own_special K own_d10_48 rfl (own_w8 hw) (own_w9 hw) (own_w7 hw) (own_w10 hw) (a := a18) (argsL := []) (rest := [(.ref a18)]) (own_init hw H17) own_pd5 rfl rfl rfl (by decide) (W := 1) (Nat.le_of_eq rfl) (by decide) (by decide) (by decide) (by decide) ?_
    intro v21 h19 q20
    obtain ⟨rfl, sa22, da23, H24⟩ := q20
    replace H24 : own_H Z h19 (own_SD a18 (.ref da23) (.ref sa22) (.int (0 : Int32)) :: []) ((sa22, .double, "[D", [(.double (0 : UInt64)), (.double (0 : UInt64)), (.double (0 : UInt64)), (.double (0 : UInt64))]) :: (da23, .int, "[I", [(.int (0 : Int32)), (.int (0 : Int32)), (.int (0 : Int32)), (.int (0 : Int32))]) :: []) := H24
    refine own_astore K own_d10_51 rfl (Ls' := #[.val (.int ct), .val (.long pk), .second, .val (.int fc), .val (.int (5 : Int32)), .val (.int z0), .val (.int z1), .val (.int z2), .val (.int z3), .val (.int z4), .val (.ref a18)]) rfl ?_
    refine own_iload K own_d10_53 rfl ?_
    refine own_ifle K own_d10_55 (fun q => absurd q (by decide)) (fun _ => ?_)
    refine own_aload K own_d10_58 rfl rfl ?_
    refine own_iconst K own_d10_60 (v := (0 : Int32)) rfl ?_
    refine own_iload K own_d10_61 rfl ?_
    refine own_i2d K own_d10_63 ?_
    have H25 := H24.frontA 1 rfl
    replace H25 : own_H Z h19 (own_SD a18 (.ref da23) (.ref sa22) (.int (0 : Int32)) :: []) ((da23, .int, "[I", [(.int (0 : Int32)), (.int (0 : Int32)), (.int (0 : Int32)), (.int (0 : Int32))]) :: (sa22, .double, "[D", [(.double (0 : UInt64)), (.double (0 : UInt64)), (.double (0 : UInt64)), (.double (0 : UInt64))]) :: []) := H25
    refine own_virtual K own_d10_64 (own_w35 hw) (own_w36 hw) (own_w38 hw) (own_w37 hw) (own_w7 hw) (own_w39 hw) (H25.atO (i := 0) rfl) (a := a18) (argsL := [(.int (0 : Int32)), (.double (FP.i2d z0))]) (rest := []) (own_add0 hw H25) own_pd9 rfl rfl rfl (by decide) (W := 0) (Nat.le_of_eq rfl) (by decide) (by decide) (by decide) (by decide) ?_
    intro v28 h26 q27
    obtain ⟨rfl, H29⟩ := q27
    replace H29 : own_H Z h26 (own_SD a18 (.ref da23) (.ref sa22) (.int (1 : Int32)) :: []) ((da23, .int, "[I", [(.int (0 : Int32)), (.int (0 : Int32)), (.int (0 : Int32)), (.int (0 : Int32))]) :: (sa22, .double, "[D", [(.double (FP.i2d z0)), (.double (0 : UInt64)), (.double (0 : UInt64)), (.double (0 : UInt64))]) :: []) := H29
    refine own_iload K own_d10_67 rfl ?_
    refine own_iconst K own_d10_69 (v := (1 : Int32)) rfl ?_
    refine own_icmple K own_d10_70 (fun q => absurd q (by decide)) (fun _ => ?_)
    refine own_aload K own_d10_73 rfl rfl ?_
    refine own_bipush K own_d10_75 (v := (10 : Int32)) rfl ?_
    refine own_iload K own_d10_77 rfl ?_
    refine own_i2d K own_d10_79 ?_
    have H30 := H29.frontA 1 rfl
    replace H30 : own_H Z h26 (own_SD a18 (.ref da23) (.ref sa22) (.int (1 : Int32)) :: []) ((sa22, .double, "[D", [(.double (FP.i2d z0)), (.double (0 : UInt64)), (.double (0 : UInt64)), (.double (0 : UInt64))]) :: (da23, .int, "[I", [(.int (0 : Int32)), (.int (0 : Int32)), (.int (0 : Int32)), (.int (0 : Int32))]) :: []) := H30
    have H31 := H30.frontA 1 rfl
    replace H31 : own_H Z h26 (own_SD a18 (.ref da23) (.ref sa22) (.int (1 : Int32)) :: []) ((da23, .int, "[I", [(.int (0 : Int32)), (.int (0 : Int32)), (.int (0 : Int32)), (.int (0 : Int32))]) :: (sa22, .double, "[D", [(.double (FP.i2d z0)), (.double (0 : UInt64)), (.double (0 : UInt64)), (.double (0 : UInt64))]) :: []) := H31
    refine own_virtual K own_d10_80 (own_w35 hw) (own_w36 hw) (own_w38 hw) (own_w37 hw) (own_w7 hw) (own_w39 hw) (H31.atO (i := 0) rfl) (a := a18) (argsL := [(.int (10 : Int32)), (.double (FP.i2d z1))]) (rest := []) (own_add1 hw H31) own_pd9 rfl rfl rfl (by decide) (W := 0) (Nat.le_of_eq rfl) (by decide) (by decide) (by decide) (by decide) ?_
    intro v34 h32 q33
    obtain ⟨rfl, H35⟩ := q33
    replace H35 : own_H Z h32 (own_SD a18 (.ref da23) (.ref sa22) (.int (2 : Int32)) :: []) ((da23, .int, "[I", [(.int (0 : Int32)), (.int (10 : Int32)), (.int (0 : Int32)), (.int (0 : Int32))]) :: (sa22, .double, "[D", [(.double (FP.i2d z0)), (.double (FP.i2d z1)), (.double (0 : UInt64)), (.double (0 : UInt64))]) :: []) := H35
    refine own_iload K own_d10_83 rfl ?_
    refine own_iconst K own_d10_85 (v := (2 : Int32)) rfl ?_
    refine own_icmple K own_d10_86 (fun q => absurd q (by decide)) (fun _ => ?_)
    refine own_aload K own_d10_89 rfl rfl ?_
    refine own_bipush K own_d10_91 (v := (20 : Int32)) rfl ?_
    refine own_iload K own_d10_93 rfl ?_
    refine own_i2d K own_d10_95 ?_
    have H36 := H35.frontA 1 rfl
    replace H36 : own_H Z h32 (own_SD a18 (.ref da23) (.ref sa22) (.int (2 : Int32)) :: []) ((sa22, .double, "[D", [(.double (FP.i2d z0)), (.double (FP.i2d z1)), (.double (0 : UInt64)), (.double (0 : UInt64))]) :: (da23, .int, "[I", [(.int (0 : Int32)), (.int (10 : Int32)), (.int (0 : Int32)), (.int (0 : Int32))]) :: []) := H36
    have H37 := H36.frontA 1 rfl
    replace H37 : own_H Z h32 (own_SD a18 (.ref da23) (.ref sa22) (.int (2 : Int32)) :: []) ((da23, .int, "[I", [(.int (0 : Int32)), (.int (10 : Int32)), (.int (0 : Int32)), (.int (0 : Int32))]) :: (sa22, .double, "[D", [(.double (FP.i2d z0)), (.double (FP.i2d z1)), (.double (0 : UInt64)), (.double (0 : UInt64))]) :: []) := H37
    refine own_virtual K own_d10_96 (own_w35 hw) (own_w36 hw) (own_w38 hw) (own_w37 hw) (own_w7 hw) (own_w39 hw) (H37.atO (i := 0) rfl) (a := a18) (argsL := [(.int (20 : Int32)), (.double (FP.i2d z2))]) (rest := []) (own_add2 hw H37) own_pd9 rfl rfl rfl (by decide) (W := 0) (Nat.le_of_eq rfl) (by decide) (by decide) (by decide) (by decide) ?_
    intro v40 h38 q39
    obtain ⟨rfl, H41⟩ := q39
    replace H41 : own_H Z h38 (own_SD a18 (.ref da23) (.ref sa22) (.int (3 : Int32)) :: []) ((da23, .int, "[I", [(.int (0 : Int32)), (.int (10 : Int32)), (.int (20 : Int32)), (.int (0 : Int32))]) :: (sa22, .double, "[D", [(.double (FP.i2d z0)), (.double (FP.i2d z1)), (.double (FP.i2d z2)), (.double (0 : UInt64))]) :: []) := H41
    refine own_iload K own_d10_99 rfl ?_
    refine own_iconst K own_d10_101 (v := (3 : Int32)) rfl ?_
    refine own_icmple K own_d10_102 (fun q => absurd q (by decide)) (fun _ => ?_)
    refine own_aload K own_d10_105 rfl rfl ?_
    refine own_bipush K own_d10_107 (v := (30 : Int32)) rfl ?_
    refine own_iload K own_d10_109 rfl ?_
    refine own_i2d K own_d10_111 ?_
    have H42 := H41.frontA 1 rfl
    replace H42 : own_H Z h38 (own_SD a18 (.ref da23) (.ref sa22) (.int (3 : Int32)) :: []) ((sa22, .double, "[D", [(.double (FP.i2d z0)), (.double (FP.i2d z1)), (.double (FP.i2d z2)), (.double (0 : UInt64))]) :: (da23, .int, "[I", [(.int (0 : Int32)), (.int (10 : Int32)), (.int (20 : Int32)), (.int (0 : Int32))]) :: []) := H42
    have H43 := H42.frontA 1 rfl
    replace H43 : own_H Z h38 (own_SD a18 (.ref da23) (.ref sa22) (.int (3 : Int32)) :: []) ((da23, .int, "[I", [(.int (0 : Int32)), (.int (10 : Int32)), (.int (20 : Int32)), (.int (0 : Int32))]) :: (sa22, .double, "[D", [(.double (FP.i2d z0)), (.double (FP.i2d z1)), (.double (FP.i2d z2)), (.double (0 : UInt64))]) :: []) := H43
    refine own_virtual K own_d10_112 (own_w35 hw) (own_w36 hw) (own_w38 hw) (own_w37 hw) (own_w7 hw) (own_w39 hw) (H43.atO (i := 0) rfl) (a := a18) (argsL := [(.int (30 : Int32)), (.double (FP.i2d z3))]) (rest := []) (own_add3 hw H43) own_pd9 rfl rfl rfl (by decide) (W := 0) (Nat.le_of_eq rfl) (by decide) (by decide) (by decide) (by decide) ?_
    intro v46 h44 q45
    obtain ⟨rfl, H47⟩ := q45
    replace H47 : own_H Z h44 (own_SD a18 (.ref da23) (.ref sa22) (.int (4 : Int32)) :: []) ((da23, .int, "[I", [(.int (0 : Int32)), (.int (10 : Int32)), (.int (20 : Int32)), (.int (30 : Int32))]) :: (sa22, .double, "[D", [(.double (FP.i2d z0)), (.double (FP.i2d z1)), (.double (FP.i2d z2)), (.double (FP.i2d z3))]) :: []) := H47
    refine own_iload K own_d10_115 rfl ?_
    refine own_iconst K own_d10_117 (v := (4 : Int32)) rfl ?_
    refine own_icmple K own_d10_118 (fun q => absurd q (by decide)) (fun _ => ?_)
    refine own_aload K own_d10_121 rfl rfl ?_
    refine own_bipush K own_d10_123 (v := (40 : Int32)) rfl ?_
    refine own_iload K own_d10_125 rfl ?_
    refine own_i2d K own_d10_127 ?_
    have H48 := H47.frontA 1 rfl
    replace H48 : own_H Z h44 (own_SD a18 (.ref da23) (.ref sa22) (.int (4 : Int32)) :: []) ((sa22, .double, "[D", [(.double (FP.i2d z0)), (.double (FP.i2d z1)), (.double (FP.i2d z2)), (.double (FP.i2d z3))]) :: (da23, .int, "[I", [(.int (0 : Int32)), (.int (10 : Int32)), (.int (20 : Int32)), (.int (30 : Int32))]) :: []) := H48
    have H49 := H48.frontA 1 rfl
    replace H49 : own_H Z h44 (own_SD a18 (.ref da23) (.ref sa22) (.int (4 : Int32)) :: []) ((da23, .int, "[I", [(.int (0 : Int32)), (.int (10 : Int32)), (.int (20 : Int32)), (.int (30 : Int32))]) :: (sa22, .double, "[D", [(.double (FP.i2d z0)), (.double (FP.i2d z1)), (.double (FP.i2d z2)), (.double (FP.i2d z3))]) :: []) := H49
    refine own_virtual K own_d10_128 (own_w35 hw) (own_w36 hw) (own_w38 hw) (own_w37 hw) (own_w7 hw) (own_w39 hw) (H49.atO (i := 0) rfl) (a := a18) (argsL := [(.int (40 : Int32)), (.double (FP.i2d z4))]) (rest := []) (own_add4 hw H49) own_pd9 rfl rfl rfl (by decide) (W := 0) (Nat.le_of_eq rfl) (by decide) (by decide) (by decide) (by decide) ?_
    intro v52 h50 q51
    obtain ⟨rfl, da53, sa54, as55, xs56, H57⟩ := q51
    replace H57 : own_H Z h50 (own_SD a18 (.ref da53) (.ref sa54) (.int (5 : Int32)) :: []) ((sa54, .double, "[D", [(.double (FP.i2d z0)), (.double (FP.i2d z1)), (.double (FP.i2d z2)), (.double (FP.i2d z3)), (.double (FP.i2d z4)), (.double (0 : UInt64)), (.double (0 : UInt64)), (.double (0 : UInt64))]) :: (da53, .int, "[I", xs56) :: as55) := H57
    refine own_aload K own_d10_131 rfl rfl ?_
    refine own_iloadN K own_d10_133 rfl ?_
    refine own_i2d K own_d10_134 ?_
    refine own_virtual K own_d10_135 (own_w20 hw) (own_w21 hw) (own_w23 hw) (own_w22 hw) (own_w7 hw) (own_w24 hw) (H57.atO (i := 0) rfl) (a := a18) (argsL := [(.double (FP.i2d fc))]) (rest := []) (own_mul5 hw H57 (Fl.i2d_fin _) (Fl.i2d_fin _) (Fl.i2d_fin _) (Fl.i2d_fin _) (Fl.i2d_fin _) (Fl.i2d_fin _)) own_pd6 rfl rfl rfl (by decide) (W := 0) (Nat.le_of_eq rfl) (by decide) (by decide) (by decide) (by decide) ?_
    intro v60 h58 q59
    obtain ⟨rfl, H61⟩ := q59
    replace H61 : own_H Z h58 (own_SD a18 (.ref da53) (.ref sa54) (.int (5 : Int32)) :: []) ((sa54, .double, "[D", [(.double (FP.dmul (FP.i2d z0) (FP.i2d fc))), (.double (FP.dmul (FP.i2d z1) (FP.i2d fc))), (.double (FP.dmul (FP.i2d z2) (FP.i2d fc))), (.double (FP.dmul (FP.i2d z3) (FP.i2d fc))), (.double (FP.dmul (FP.i2d z4) (FP.i2d fc))), (.double (0 : UInt64)), (.double (0 : UInt64)), (.double (0 : UInt64))]) :: (da53, .int, "[I", xs56) :: as55) := H61
    refine own_aload K own_d10_138 rfl rfl ?_
    refine own_virtual K own_d10_140 (own_w27 hw) (own_w28 hw) (own_w30 hw) (own_w29 hw) (own_w7 hw) (own_w31 hw) (H61.atO (i := 0) rfl) (a := a18) (argsL := []) (rest := []) (own_size hw H61) own_pd7 rfl rfl rfl (by decide) (W := 0) (Nat.le_of_eq rfl) (by decide) (by decide) (by decide) (by decide) ?_
    intro v64 h62 q63
    obtain ⟨rfl, rfl⟩ := q63
    refine own_iload K own_d10_143 rfl ?_
    refine own_icmpne K own_d10_145 (fun q => absurd q (by decide)) (fun _ => ?_)
    refine own_aload K own_d10_148 rfl rfl ?_
    refine own_iload K own_d10_150 rfl ?_
    refine own_iconst K own_d10_152 (v := (0 : Int32)) rfl ?_
    refine own_iload K own_d10_153 rfl ?_
    refine own_iloadN K own_d10_155 rfl ?_
    refine own_static K own_d10_156 (own_w32 hw) (own_w33 hw) (own_w2 hw) (own_w34 hw) (argsL := [(.ref a18), (.int (5 : Int32)), (.int (0 : Int32)), (.int z0), (.int fc)]) (rest := []) (own_ok hw H61 z0_1 z0_2 (fun _ => ⟨0, rfl, rfl⟩)) own_pd8 rfl rfl rfl (by decide) (W := 0) (Nat.le_of_eq rfl) (by decide) (by decide) (by decide) (by decide) ?_
    intro v67 h65 q66
    obtain ⟨rfl, rfl⟩ := q66
    refine own_ifeq K own_d10_159 (fun q => absurd q (by decide)) (fun _ => ?_)
    refine own_aload K own_d10_162 rfl rfl ?_
    refine own_iload K own_d10_164 rfl ?_
    refine own_iconst K own_d10_166 (v := (1 : Int32)) rfl ?_
    refine own_iload K own_d10_167 rfl ?_
    refine own_iloadN K own_d10_169 rfl ?_
    refine own_static K own_d10_170 (own_w32 hw) (own_w33 hw) (own_w2 hw) (own_w34 hw) (argsL := [(.ref a18), (.int (5 : Int32)), (.int (1 : Int32)), (.int z1), (.int fc)]) (rest := []) (own_ok hw H61 z1_1 z1_2 (fun _ => ⟨1, rfl, rfl⟩)) own_pd8 rfl rfl rfl (by decide) (W := 0) (Nat.le_of_eq rfl) (by decide) (by decide) (by decide) (by decide) ?_
    intro v70 h68 q69
    obtain ⟨rfl, rfl⟩ := q69
    refine own_ifeq K own_d10_173 (fun q => absurd q (by decide)) (fun _ => ?_)
    refine own_aload K own_d10_176 rfl rfl ?_
    refine own_iload K own_d10_178 rfl ?_
    refine own_iconst K own_d10_180 (v := (2 : Int32)) rfl ?_
    refine own_iload K own_d10_181 rfl ?_
    refine own_iloadN K own_d10_183 rfl ?_
    refine own_static K own_d10_184 (own_w32 hw) (own_w33 hw) (own_w2 hw) (own_w34 hw) (argsL := [(.ref a18), (.int (5 : Int32)), (.int (2 : Int32)), (.int z2), (.int fc)]) (rest := []) (own_ok hw H61 z2_1 z2_2 (fun _ => ⟨2, rfl, rfl⟩)) own_pd8 rfl rfl rfl (by decide) (W := 0) (Nat.le_of_eq rfl) (by decide) (by decide) (by decide) (by decide) ?_
    intro v73 h71 q72
    obtain ⟨rfl, rfl⟩ := q72
    refine own_ifeq K own_d10_187 (fun q => absurd q (by decide)) (fun _ => ?_)
    refine own_aload K own_d10_190 rfl rfl ?_
    refine own_iload K own_d10_192 rfl ?_
    refine own_iconst K own_d10_194 (v := (3 : Int32)) rfl ?_
    refine own_iload K own_d10_195 rfl ?_
    refine own_iloadN K own_d10_197 rfl ?_
    refine own_static K own_d10_198 (own_w32 hw) (own_w33 hw) (own_w2 hw) (own_w34 hw) (argsL := [(.ref a18), (.int (5 : Int32)), (.int (3 : Int32)), (.int z3), (.int fc)]) (rest := []) (own_ok hw H61 z3_1 z3_2 (fun _ => ⟨3, rfl, rfl⟩)) own_pd8 rfl rfl rfl (by decide) (W := 0) (Nat.le_of_eq rfl) (by decide) (by decide) (by decide) (by decide) ?_
    intro v76 h74 q75
    obtain ⟨rfl, rfl⟩ := q75
    refine own_ifeq K own_d10_201 (fun q => absurd q (by decide)) (fun _ => ?_)
    refine own_aload K own_d10_204 rfl rfl ?_
    refine own_iload K own_d10_206 rfl ?_
    refine own_iconst K own_d10_208 (v := (4 : Int32)) rfl ?_
    refine own_iload K own_d10_209 rfl ?_
    refine own_iloadN K own_d10_211 rfl ?_
    refine own_static K own_d10_212 (own_w32 hw) (own_w33 hw) (own_w2 hw) (own_w34 hw) (argsL := [(.ref a18), (.int (5 : Int32)), (.int (4 : Int32)), (.int z4), (.int fc)]) (rest := []) (own_ok hw H61 z4_1 z4_2 (fun _ => ⟨4, rfl, rfl⟩)) own_pd8 rfl rfl rfl (by decide) (W := 0) (Nat.le_of_eq rfl) (by decide) (by decide) (by decide) (by decide) ?_
    intro v79 h77 q78
    obtain ⟨rfl, rfl⟩ := q78
    refine own_ifeq K own_d10_215 (fun q => absurd q (by decide)) (fun _ => ?_)
    refine own_iconst K own_d10_218 (v := (1 : Int32)) rfl ?_
    refine own_goto K own_d10_219 ?_
    exact own_retZ K (by first | exact Or.inl rfl | exact Or.inr rfl | decide) own_d10_223 (by decide) (by decide) (rfl)
set_option maxRecDepth 65536 in
set_option maxHeartbeats 40000000 in
theorem comes_1 {Post : Tables → Env → Array Value → State → Outcome → State → Prop} (hpost : ∀ tb e args s v u, (limb_1_1.after args s (.returned v) u = true ∧ limb_1_2.after args s (.returned v) u = true ∧ True) → FrameEnd s (.returned v) u (Jvm.fieldLocs frame_1_writes args s ++ Jvm.arrayLocs frame_1_arrays args s ++ Jvm.staticLocs frame_1_statics s) 24 128 → Post tb e args s (.returned v) u) :
    ArmFor flags0 classFile x code maxLocals ret World_1 tables_1 room_1 Calls_1 rest_1 Pre_1 Post := by
  intro l hfl _ _ p e ha hc hk s m args below hf hA hF happ hP
  obtain ⟨hcalls, hrest, hpre⟩ := hP
  obtain ⟨-, -, -, hnamed, -, -, -, hat⟩ := (Spec.applies_iff hf).mp happ
  obtain ⟨hg, hn⟩ := and_e (Cond.before_iff.mp (show (Jvm.Cond.and given_1 narrow_1).before args s = true from hpre))
  obtain ⟨h1, hq0⟩ := and_e hg
  obtain ⟨hi0, hq1⟩ := and_e hq0
  obtain ⟨hi1, hq2⟩ := and_e hq1
  have hi2 := hq2
  obtain ⟨w0, w1, w2, rfl⟩ : ∃ w0 w1 w2 : Value, args = #[w0, w1, w2] := by
    have hs : args.size = 3 := by simpa [Cond.value, given_1] using h1
    obtain ⟨L⟩ := args
    match L, hs with
    | [w0, w1, w2], _ => exact ⟨w0, w1, w2, rfl⟩
  have hw : own_Z s #[w0, w1, w2] := fun d (hd : d ∈ tables_1) => atoms_spec (ws := Jvm.Cond.code x code maxLocals ret :: tables_1) hat d (List.mem_cons_of_mem _ hd)
  obtain ⟨i0, e0⟩ := is_v hi0
  obtain rfl : w0 = (.int i0) := Option.some.inj e0
  obtain ⟨i1, e1⟩ := isL_v hi1
  obtain rfl : w1 = (.long i1) := Option.some.inj e1
  obtain ⟨i2, e2⟩ := is_v hi2
  obtain rfl : w2 = (.int i2) := Option.some.inj e2
  obtain ⟨n, o, h1, h2, h3, v, L, rfl, ⟨rfl, N, -⟩, hq⟩ := own_law hw p e ha hc hk s m _ below hf ((Spec.applies_iff_loose hf).mp happ).1 ⟨rfl, State.Warmed39.refl s, rfl⟩ trivial
  refine ⟨n, _, h1, h2, h3, hpost _ _ _ _ _ _ ⟨Cond.after_iff.mpr rfl, Cond.after_iff.mpr (eq_i res_at (Term.int_eval (1)) rfl), trivial⟩ ⟨hq.1, hq.2.1, (hq.2.2.sift fun y hy => Or.inr (N y hy)).mono (by decide) (by decide)⟩⟩
theorem main_1_1 : Claimed_1_1 := comes_1 fun _ _ _ _ _ _ h hF => ⟨h.1, hF⟩
theorem main_1_2 : Claimed_1_2 := comes_1 fun _ _ _ _ _ _ h hF => ⟨h.2.1, hF⟩
end Jvm.Pilot.@@N@@
namespace Jvm.Pilot.@@N@@
open Jvm Jvm.ClassFile Sem Op Lib Jvm.Free Jvm.Stand Jvm.Pilot.@@N@@.Jvm.D
/-! MADE BY PROGRAM (witnessworld.py) out of the Statement's table words and the real class files: 15 classes; the members and pool entries that the words name. The judged class is class 1, her method 1. -/
namespace start1
open Jvm.ClassFile
def u (s : String) : CpInfo := .utf8 (stringToUtf16 s)
/-- a pool by its gaps: so many unusable entries, then the entry; so many at the end -/
def gap : Nat → List CpInfo → List CpInfo
  | 0, r => r
  | n + 1, r => .unusable :: gap n r
def poolList (es : List (Nat × CpInfo)) (last : Nat) : List CpInfo := es.foldr (fun e r => gap e.1 (e.2 :: r)) (gap last [])
def pool (es : List (Nat × CpInfo)) (last : Nat) : Array CpInfo := ⟨poolList es last⟩
def fileOf (pool : Array CpInfo) (this : Nat) (attrs : Array Attribute := #[]) (ms : Array MethodInfo := #[]) (fl : Nat := 33) (sup : Nat := 0) (ifs : Array Nat := #[]) (fds : Array FieldInfo := #[]) : ClassFile where
  minorVersion := 0
  majorVersion := 65
  constantPool := pool
  accessFlags := fl
  thisClass := this
  superClass := sup
  interfaces := ifs
  fields := fds
  methods := ms
  attributes := attrs
def plain (name : String) (sup : Option ClassId) : Class where
  name := name
  kind := .ordinary
  loader := none
  accessFlags := 33
  super := sup
  interfaces := #[]
  cf := none
  fields := #[]
  methods := #[]
  instanceTypes := #[]
  staticTypes := #[]
  resolved := #[]
  callSites := []
  init := .initialized
  statics := none
  mirror := none

def pool0 : Array CpInfo := pool [(5, u "<init>"), (0, u "()V"), (1, .class_ 10), (1, u "java/lang/Object")] 113

def k0c0 : Code := { maxStack := 0, maxLocals := 1, code := object_method_1_code, exceptionTable := #[], attributes := #[] }
def k0m0 : Method := { name := "<init>", desc := "()V", sig := { parameters := [], returnType := none }, accessFlags := 1, code := some k0c0 }
/-- java/lang/Object -/
def k0 : Class := { plain "java/lang/Object" none with
  accessFlags := 33
  interfaces := #[]
  cf := some (fileOf pool0 8 #[] #[{ accessFlags := 1, nameIndex := 5, descriptorIndex := 6, attributes := #[] }] 33 0 #[] #[])
  fields := #[]
  methods := #[k0m0]
  instanceTypes := #[]
  staticTypes := #[]
  resolved := Array.replicate 124 none
  statics := none }

def pool1 : Array CpInfo := pool [(2, .class_ 4), (0, .nameAndType 5 6), (0, u "java/lang/Object"), (0, u "<init>"), (0, u "()V"), (0, .methodref 8 9), (0, .class_ 10), (0, .nameAndType 11 12), (0, u "com/example/fielder/fielder/service/ScoredDocumentsMultiplyScoresPinLaw"), (0, u "drawn"), (0, u "(JI)I"), (0, .class_ 14), (0, u "com/example/fielder/fielder/service/ScoredDocuments"), (0, .methodref 13 3), (0, .methodref 13 17), (0, .nameAndType 18 19), (0, u "add"), (0, u "(ID)V"), (0, .methodref 13 21), (0, .nameAndType 22 23), (0, u "multiplyScores"), (0, u "(D)V"), (0, .methodref 13 25), (0, .nameAndType 26 27), (0, u "size"), (0, u "()I"), (0, .methodref 8 29), (0, .nameAndType 30 31), (0, u "ok"), (0, u "(Lcom/example/fielder/fielder/service/ScoredDocuments;IIII)Z"), (0, .long 4095), (1, .methodref 13 35), (0, .nameAndType 36 37), (0, u "score"), (0, u "(I)D"), (2, u "law"), (0, u "(IJI)Z")] 3

def k1m0 : Method := { name := "<init>", desc := "()V", sig := { parameters := [], returnType := none }, accessFlags := 1, code := none }
def k1c1 : Code := { maxStack := 5, maxLocals := 11, code := code, exceptionTable := #[], attributes := #[] }
def k1m1 : Method := { name := "law", desc := "(IJI)Z", sig := { parameters := [.int, .long, .int], returnType := some .boolean }, accessFlags := 9, code := some k1c1 }
def k1c2 : Code := { maxStack := 4, maxLocals := 3, code := method_3_code, exceptionTable := #[], attributes := #[] }
def k1m2 : Method := { name := "drawn", desc := "(JI)I", sig := { parameters := [.long, .int], returnType := some .int }, accessFlags := 10, code := some k1c2 }
def k1c3 : Code := { maxStack := 6, maxLocals := 5, code := method_4_code, exceptionTable := #[], attributes := #[] }
def k1m3 : Method := { name := "ok", desc := "(Lcom/example/fielder/fielder/service/ScoredDocuments;IIII)Z", sig := { parameters := [(.object "com/example/fielder/fielder/service/ScoredDocuments"), .int, .int, .int, .int], returnType := some .boolean }, accessFlags := 10, code := some k1c3 }
/-- com/example/fielder/fielder/service/ScoredDocumentsMultiplyScoresPinLaw -/
def k1 : Class := { plain "com/example/fielder/fielder/service/ScoredDocumentsMultiplyScoresPinLaw" (some 0) with
  accessFlags := 49
  interfaces := #[]
  cf := some (fileOf pool1 8 #[] #[{ accessFlags := 1, nameIndex := 5, descriptorIndex := 6, attributes := #[] }, { accessFlags := 9, nameIndex := 40, descriptorIndex := 41, attributes := #[] }, { accessFlags := 10, nameIndex := 11, descriptorIndex := 12, attributes := #[] }, { accessFlags := 10, nameIndex := 30, descriptorIndex := 31, attributes := #[] }] 49 2 #[] #[])
  fields := #[]
  methods := #[k1m0, k1m1, k1m2, k1m3]
  instanceTypes := #[]
  staticTypes := #[]
  resolved := Array.replicate 45 none
  statics := none }

def pool2 : Array CpInfo := pool [(1, .class_ 2), (0, u "com/example/fielder/fielder/model/DocumentList"), (0, .class_ 4), (0, u "java/lang/Object")] 6

/-- com/example/fielder/fielder/model/DocumentList -/
def k2 : Class := { plain "com/example/fielder/fielder/model/DocumentList" (some 0) with
  accessFlags := 1537
  interfaces := #[]
  cf := some (fileOf pool2 1 #[] #[] 1537 3 #[] #[])
  fields := #[]
  methods := #[]
  instanceTypes := #[]
  staticTypes := #[]
  resolved := Array.replicate 11 none
  statics := none }

def pool3 : Array CpInfo := pool [(1, .methodref 2 3), (0, .class_ 4), (0, .nameAndType 5 6), (0, u "java/lang/Object"), (0, u "<init>"), (0, u "()V"), (0, .fieldref 8 9), (0, .class_ 10), (0, .nameAndType 11 12), (0, u "com/example/fielder/fielder/service/ScoredDocuments"), (0, u "documents"), (0, u "[I"), (0, .fieldref 8 14), (0, .nameAndType 15 16), (0, u "scores"), (0, u "[D"), (0, .fieldref 8 18), (0, .nameAndType 19 20), (0, u "size"), (0, u "I"), (0, .methodref 22 23), (0, .class_ 24), (0, .nameAndType 25 26), (0, u "java/util/Arrays"), (0, u "copyOf"), (0, u "([II)[I"), (0, .methodref 22 28), (0, .nameAndType 25 29), (0, u "([DI)[D"), (1, .class_ 33), (1, u "com/example/fielder/fielder/model/DocumentList"), (0, u "()I"), (6, u "add"), (0, u "(ID)V"), (1, u "score"), (0, u "(I)D"), (0, u "multiplyScores"), (0, u "(D)V")] 6

def k3c0 : Code := { maxStack := 2, maxLocals := 1, code := prog_38_method_1_code, exceptionTable := #[], attributes := #[] }
def k3m0 : Method := { name := "<init>", desc := "()V", sig := { parameters := [], returnType := none }, accessFlags := 0, code := some k3c0 }
def k3c1 : Code := { maxStack := 4, maxLocals := 4, code := prog_38_method_2_code, exceptionTable := #[], attributes := #[] }
def k3m1 : Method := { name := "add", desc := "(ID)V", sig := { parameters := [.int, .double], returnType := none }, accessFlags := 0, code := some k3c1 }
def k3c2 : Code := { maxStack := 1, maxLocals := 1, code := prog_38_method_3_code, exceptionTable := #[], attributes := #[] }
def k3m2 : Method := { name := "size", desc := "()I", sig := { parameters := [], returnType := some .int }, accessFlags := 1, code := some k3c2 }
def k3c3 : Code := { maxStack := 2, maxLocals := 2, code := prog_38_method_5_code, exceptionTable := #[], attributes := #[] }
def k3m3 : Method := { name := "score", desc := "(I)D", sig := { parameters := [.int], returnType := some .double }, accessFlags := 0, code := some k3c3 }
def k3c4 : Code := { maxStack := 6, maxLocals := 4, code := prog_38_method_6_code, exceptionTable := #[], attributes := #[] }
def k3m4 : Method := { name := "multiplyScores", desc := "(D)V", sig := { parameters := [.double], returnType := none }, accessFlags := 0, code := some k3c4 }
/-- com/example/fielder/fielder/service/ScoredDocuments -/
def k3 : Class := { plain "com/example/fielder/fielder/service/ScoredDocuments" (some 0) with
  accessFlags := 48
  interfaces := #[2]
  cf := some (fileOf pool3 8 #[] #[{ accessFlags := 0, nameIndex := 5, descriptorIndex := 6, attributes := #[] }, { accessFlags := 0, nameIndex := 41, descriptorIndex := 42, attributes := #[] }, { accessFlags := 1, nameIndex := 19, descriptorIndex := 34, attributes := #[] }, { accessFlags := 0, nameIndex := 44, descriptorIndex := 45, attributes := #[] }, { accessFlags := 0, nameIndex := 46, descriptorIndex := 47, attributes := #[] }] 48 2 #[31] #[{ accessFlags := 2, nameIndex := 11, descriptorIndex := 12, attributes := #[] }, { accessFlags := 2, nameIndex := 15, descriptorIndex := 16, attributes := #[] }, { accessFlags := 2, nameIndex := 19, descriptorIndex := 20, attributes := #[] }])
  fields := #[{ name := "documents", type := (.array .int), accessFlags := 2, slot := 0, constantValue := 0 }, { name := "scores", type := (.array .double), accessFlags := 2, slot := 1, constantValue := 0 }, { name := "size", type := .int, accessFlags := 2, slot := 2, constantValue := 0 }]
  methods := #[k3m0, k3m1, k3m2, k3m3, k3m4]
  instanceTypes := #[(.array .int), (.array .double), .int]
  staticTypes := #[]
  resolved := Array.replicate 54 none
  statics := none }

def pool4 : Array CpInfo := pool [(2, .class_ 4), (1, u "java/lang/Object"), (0, u "<init>"), (0, u "()V"), (7, .class_ 16), (1, u "java/util/Arrays"), (57, .class_ 76), (1, u "java/util/Arrays$NaturalOrder"), (36, .class_ 115), (1, u "java/util/Arrays$LegacyMergeSort"), (1, u "Z"), (32, .methodref 151 152), (0, .class_ 153), (0, .nameAndType 154 155), (0, u "java/lang/System"), (0, u "arraycopy"), (0, u "(Ljava/lang/Object;ILjava/lang/Object;II)V"), (146, u "copyOf"), (1, .methodref 305 306), (0, .class_ 307), (0, .nameAndType 308 309), (0, u "java/lang/Math"), (0, u "min"), (0, u "(II)I"), (65, .class_ 376), (0, u "java/util/Arrays$ArrayList"), (68, u "$assertionsDisabled"), (269, u "MIN_ARRAY_SORT_GRAN"), (0, u "I"), (2, u "INSERTIONSORT_THRESHOLD"), (151, u "([II)[I"), (3, u "([DI)[D"), (99, .class_ 976), (0, u "java/util/Arrays$ArrayItr")] 52

def k4m0 : Method := { name := "<init>", desc := "()V", sig := { parameters := [], returnType := none }, accessFlags := 2, code := none }
def k4c1 : Code := { maxStack := 6, maxLocals := 3, code := jdk_65_method_123_code, exceptionTable := #[], attributes := #[] }
def k4m1 : Method := { name := "copyOf", desc := "([II)[I", sig := { parameters := [(.array .int), .int], returnType := some (.array .int) }, accessFlags := 9, code := some k4c1 }
def k4c2 : Code := { maxStack := 6, maxLocals := 3, code := jdk_65_method_127_code, exceptionTable := #[], attributes := #[] }
def k4m2 : Method := { name := "copyOf", desc := "([DI)[D", sig := { parameters := [(.array .double), .int], returnType := some (.array .double) }, accessFlags := 9, code := some k4c2 }
/-- java/util/Arrays -/
def k4 : Class := { plain "java/util/Arrays" (some 0) with
  accessFlags := 49
  interfaces := #[]
  cf := some (fileOf pool4 14 #[.nestMembers #[975, 375, 113, 74]] #[{ accessFlags := 2, nameIndex := 5, descriptorIndex := 6, attributes := #[] }, { accessFlags := 9, nameIndex := 302, descriptorIndex := 871, attributes := #[] }, { accessFlags := 9, nameIndex := 302, descriptorIndex := 875, attributes := #[] }] 49 2 #[] #[{ accessFlags := 26, nameIndex := 715, descriptorIndex := 716, attributes := #[] }, { accessFlags := 26, nameIndex := 719, descriptorIndex := 716, attributes := #[] }, { accessFlags := 4120, nameIndex := 445, descriptorIndex := 117, attributes := #[] }])
  fields := #[{ name := "MIN_ARRAY_SORT_GRAN", type := .int, accessFlags := 26, slot := 0, constantValue := 0 }, { name := "INSERTIONSORT_THRESHOLD", type := .int, accessFlags := 26, slot := 1, constantValue := 0 }, { name := "$assertionsDisabled", type := .boolean, accessFlags := 4120, slot := 2, constantValue := 0 }]
  methods := #[k4m0, k4m1, k4m2]
  instanceTypes := #[]
  staticTypes := #[.int, .int, .boolean]
  resolved := Array.replicate 1029 none
  statics := none }

def pool5 : Array CpInfo := pool [(1, .class_ 2), (0, u "java/lang/Math"), (1, .class_ 6), (1, u "java/lang/Object"), (0, u "<init>"), (0, u "()V"), (89, .class_ 100), (1, u "java/lang/Math$RandomNumberGeneratorHolder"), (71, u "negativeZeroFloatBits"), (0, u "J"), (2, u "negativeZeroDoubleBits"), (24, u "min"), (43, u "$assertionsDisabled"), (0, u "Z"), (88, u "(II)I"), (2, u "twoToTheDoubleScaleDown"), (0, u "D"), (4, u "twoToTheDoubleScaleUp"), (9, u "E"), (3, u "PI"), (2, u "TAU"), (2, u "DEGREES_TO_RADIANS"), (0, u "RADIANS_TO_DEGREES")] 94

def k5m0 : Method := { name := "<init>", desc := "()V", sig := { parameters := [], returnType := none }, accessFlags := 2, code := none }
def k5c1 : Code := { maxStack := 2, maxLocals := 2, code := jdk_29_method_69_code, exceptionTable := #[], attributes := #[] }
def k5m1 : Method := { name := "min", desc := "(II)I", sig := { parameters := [.int, .int], returnType := some .int }, accessFlags := 9, code := some k5c1 }
/-- java/lang/Math -/
def k5 : Class := { plain "java/lang/Math" (some 0) with
  accessFlags := 49
  interfaces := #[]
  cf := some (fileOf pool5 1 #[.nestMembers #[98]] #[{ accessFlags := 2, nameIndex := 7, descriptorIndex := 8, attributes := #[] }, { accessFlags := 9, nameIndex := 201, descriptorIndex := 335, attributes := #[] }] 49 4 #[] #[{ accessFlags := 25, nameIndex := 354, descriptorIndex := 339, attributes := #[] }, { accessFlags := 25, nameIndex := 358, descriptorIndex := 339, attributes := #[] }, { accessFlags := 25, nameIndex := 361, descriptorIndex := 339, attributes := #[] }, { accessFlags := 26, nameIndex := 364, descriptorIndex := 339, attributes := #[] }, { accessFlags := 26, nameIndex := 365, descriptorIndex := 339, attributes := #[] }, { accessFlags := 26, nameIndex := 172, descriptorIndex := 173, attributes := #[] }, { accessFlags := 26, nameIndex := 176, descriptorIndex := 173, attributes := #[] }, { accessFlags := 8, nameIndex := 344, descriptorIndex := 339, attributes := #[] }, { accessFlags := 8, nameIndex := 338, descriptorIndex := 339, attributes := #[] }, { accessFlags := 4120, nameIndex := 245, descriptorIndex := 246, attributes := #[] }])
  fields := #[{ name := "E", type := .double, accessFlags := 25, slot := 0, constantValue := 0 }, { name := "PI", type := .double, accessFlags := 25, slot := 1, constantValue := 0 }, { name := "TAU", type := .double, accessFlags := 25, slot := 2, constantValue := 0 }, { name := "DEGREES_TO_RADIANS", type := .double, accessFlags := 26, slot := 3, constantValue := 0 }, { name := "RADIANS_TO_DEGREES", type := .double, accessFlags := 26, slot := 4, constantValue := 0 }, { name := "negativeZeroFloatBits", type := .long, accessFlags := 26, slot := 5, constantValue := 0 }, { name := "negativeZeroDoubleBits", type := .long, accessFlags := 26, slot := 6, constantValue := 0 }, { name := "twoToTheDoubleScaleUp", type := .double, accessFlags := 8, slot := 7, constantValue := 0 }, { name := "twoToTheDoubleScaleDown", type := .double, accessFlags := 8, slot := 8, constantValue := 0 }, { name := "$assertionsDisabled", type := .boolean, accessFlags := 4120, slot := 9, constantValue := 0 }]
  methods := #[k5m0, k5m1]
  instanceTypes := #[]
  staticTypes := #[.double, .double, .double, .double, .double, .long, .long, .double, .double, .boolean]
  resolved := Array.replicate 460 none
  statics := none }

def pool6 : Array CpInfo := pool [(2, .class_ 4), (1, u "java/lang/Object"), (0, u "<init>"), (0, u "()V"), (1, .class_ 10), (1, u "java/lang/System"), (0, u "allowSecurityManager"), (0, u "I"), (16, u "cons"), (0, u "Ljava/io/Console;"), (77, .class_ 110), (1, u "java/lang/System$CallersHolder"), (43, u "initialErrStream"), (0, u "Ljava/io/PrintStream;"), (19, u "security"), (0, u "Ljava/lang/SecurityManager;"), (31, .class_ 209), (0, u "java/lang/System$1"), (7, u "props"), (0, u "Ljava/util/Properties;"), (2, u "lineSeparator"), (0, u "Ljava/lang/String;"), (96, .class_ 321), (1, u "java/lang/System$LoggerFinder"), (5, .class_ 328), (0, u "java/lang/System$Logger"), (67, u "err"), (2, u "out"), (91, u "notSupportedJnuEncoding"), (15, u "in"), (17, u "initialIn"), (0, u "Ljava/io/InputStream;"), (35, u "bootLayer"), (0, u "Ljava/lang/ModuleLayer;"), (99, .class_ 664), (0, u "java/lang/System$2"), (9, u "NEVER"), (2, u "MAYBE"), (49, u "arraycopy"), (0, u "(Ljava/lang/Object;ILjava/lang/Object;II)V"), (72, .class_ 802), (0, u "java/lang/System$Logger$Level")] 31

def k6m0 : Method := { name := "<init>", desc := "()V", sig := { parameters := [], returnType := none }, accessFlags := 2, code := none }
def k6m1 : Method := { name := "arraycopy", desc := "(Ljava/lang/Object;ILjava/lang/Object;II)V", sig := { parameters := [(.object "java/lang/Object"), .int, (.object "java/lang/Object"), .int, .int], returnType := none }, accessFlags := 265, code := none }
/-- java/lang/System -/
def k6 : Class := { plain "java/lang/System" (some 0) with
  accessFlags := 49
  interfaces := #[]
  cf := some (fileOf pool6 8 #[.nestMembers #[319, 327, 801, 108, 663, 208]] #[{ accessFlags := 2, nameIndex := 5, descriptorIndex := 6, attributes := #[] }, { accessFlags := 265, nameIndex := 727, descriptorIndex := 728, attributes := #[] }] 49 2 #[] #[{ accessFlags := 25, nameIndex := 507, descriptorIndex := 526, attributes := #[] }, { accessFlags := 25, nameIndex := 399, descriptorIndex := 155, attributes := #[] }, { accessFlags := 25, nameIndex := 396, descriptorIndex := 155, attributes := #[] }, { accessFlags := 10, nameIndex := 525, descriptorIndex := 526, attributes := #[] }, { accessFlags := 26, nameIndex := 674, descriptorIndex := 12, attributes := #[] }, { accessFlags := 26, nameIndex := 677, descriptorIndex := 12, attributes := #[] }, { accessFlags := 10, nameIndex := 11, descriptorIndex := 12, attributes := #[] }, { accessFlags := 74, nameIndex := 175, descriptorIndex := 176, attributes := #[] }, { accessFlags := 10, nameIndex := 491, descriptorIndex := 222, attributes := #[] }, { accessFlags := 74, nameIndex := 29, descriptorIndex := 30, attributes := #[] }, { accessFlags := 74, nameIndex := 154, descriptorIndex := 155, attributes := #[] }, { accessFlags := 10, nameIndex := 217, descriptorIndex := 218, attributes := #[] }, { accessFlags := 10, nameIndex := 221, descriptorIndex := 222, attributes := #[] }, { accessFlags := 8, nameIndex := 562, descriptorIndex := 563, attributes := #[] }])
  fields := #[{ name := "in", type := (.object "java/io/InputStream"), accessFlags := 25, slot := 0, constantValue := 0 }, { name := "out", type := (.object "java/io/PrintStream"), accessFlags := 25, slot := 1, constantValue := 0 }, { name := "err", type := (.object "java/io/PrintStream"), accessFlags := 25, slot := 2, constantValue := 0 }, { name := "initialIn", type := (.object "java/io/InputStream"), accessFlags := 10, slot := 3, constantValue := 0 }, { name := "NEVER", type := .int, accessFlags := 26, slot := 4, constantValue := 0 }, { name := "MAYBE", type := .int, accessFlags := 26, slot := 5, constantValue := 0 }, { name := "allowSecurityManager", type := .int, accessFlags := 10, slot := 6, constantValue := 0 }, { name := "security", type := (.object "java/lang/SecurityManager"), accessFlags := 74, slot := 7, constantValue := 0 }, { name := "notSupportedJnuEncoding", type := (.object "java/lang/String"), accessFlags := 10, slot := 8, constantValue := 0 }, { name := "cons", type := (.object "java/io/Console"), accessFlags := 74, slot := 9, constantValue := 0 }, { name := "initialErrStream", type := (.object "java/io/PrintStream"), accessFlags := 74, slot := 10, constantValue := 0 }, { name := "props", type := (.object "java/util/Properties"), accessFlags := 10, slot := 11, constantValue := 0 }, { name := "lineSeparator", type := (.object "java/lang/String"), accessFlags := 10, slot := 12, constantValue := 0 }, { name := "bootLayer", type := (.object "java/lang/ModuleLayer"), accessFlags := 8, slot := 13, constantValue := 0 }]
  methods := #[k6m0, k6m1]
  instanceTypes := #[]
  staticTypes := #[(.object "java/io/InputStream"), (.object "java/io/PrintStream"), (.object "java/io/PrintStream"), (.object "java/io/InputStream"), .int, .int, .int, (.object "java/lang/SecurityManager"), (.object "java/lang/String"), (.object "java/io/Console"), (.object "java/io/PrintStream"), (.object "java/util/Properties"), (.object "java/lang/String"), (.object "java/lang/ModuleLayer")]
  resolved := Array.replicate 834 none
  statics := none }

def pool7 : Array CpInfo := pool [(1, u "java/lang/Cloneable"), (0, .class_ 1), (0, u "java/lang/Object"), (0, .class_ 3)] 3

/-- java/lang/Cloneable -/
def k7 : Class := { plain "java/lang/Cloneable" (some 0) with
  accessFlags := 1537
  interfaces := #[]
  cf := some (fileOf pool7 2 #[] #[] 1537 4 #[] #[])
  fields := #[]
  methods := #[]
  instanceTypes := #[]
  staticTypes := #[]
  resolved := Array.replicate 8 none
  statics := none }

def pool8 : Array CpInfo := pool [(1, u "java/io/Serializable"), (0, .class_ 1), (0, u "java/lang/Object"), (0, .class_ 3)] 3

/-- java/io/Serializable -/
def k8 : Class := { plain "java/io/Serializable" (some 0) with
  accessFlags := 1537
  interfaces := #[]
  cf := some (fileOf pool8 2 #[] #[] 1537 4 #[] #[])
  fields := #[]
  methods := #[]
  instanceTypes := #[]
  staticTypes := #[]
  resolved := Array.replicate 8 none
  statics := none }

/-- the primitive byte -/
def k9 : Class := { plain "byte" none with kind := .primitive 'B', accessFlags := 0x411 }
/-- [B -/
def k10 : Class := { plain "[B" (some 0) with kind := .array 9 .byte, interfaces := #[7, 8], accessFlags := 1041 }

/-- the primitive double -/
def k11 : Class := { plain "double" none with kind := .primitive 'D', accessFlags := 0x411 }
/-- [D -/
def k12 : Class := { plain "[D" (some 0) with kind := .array 11 .double, interfaces := #[7, 8], accessFlags := 1041 }

/-- the primitive int -/
def k13 : Class := { plain "int" none with kind := .primitive 'I', accessFlags := 0x411 }
/-- [I -/
def k14 : Class := { plain "[I" (some 0) with kind := .array 13 .int, interfaces := #[7, 8], accessFlags := 1041 }

def heap : Heap := #[]
def classes : Array Class := #[k0, k1, k2, k3, k4, k5, k6, k7, k8, k9, k10, k11, k12, k13, k14]
def interned : List (Array UInt16 × Addr) := []
def slotsUsed : Nat := 0
def theMethod : MethodId := ⟨1, 1⟩
def args0 : Array Value := #[.int 5, .long 7, .int 2]
def aboutOver (below : List Frame) : State where
  vm := { classes := classes, interned := interned.toArray }
  heap := heap
  slotsUsed := slotsUsed
  threads := #[{ frames := .invoking theMethod args0 :: below }]
def below0 : List Frame := [.native { method := ⟨0, 0⟩, args := #[] }]
def about1 : State := aboutOver below0
def p0 : Program := .bare "" "" ""
def e0 : Env := launch0.env 0 0 0
theorem w_frames : about1.frames = Frame.invoking theMethod args0 :: below0 := rfl
set_option maxRecDepth 65536 in
theorem w_args : argsFit about1.vm theMethod args0 = true := by decide +kernel
set_option maxRecDepth 65536 in
theorem w_heap : heapFits about1 = true := by decide +kernel
set_option maxRecDepth 65536 in
theorem w_runnable : about1.curStatus? = some .runnable := by decide +kernel
set_option maxRecDepth 65536 in
theorem w_alone : about1.alone = true := by decide +kernel
set_option maxRecDepth 65536 in
theorem w_named : about1.methodNamed? x = some theMethod := by decide +kernel
set_option maxRecDepth 65536 in
theorem w_hears : about1.hears theMethod below0 = true := by decide +kernel
set_option maxRecDepth 65536 in
theorem w_ripe : about1.ripe theMethod args0 below0 = true := by decide +kernel
theorem w_running : about1.status = .running := rfl
set_option maxRecDepth 65536 in
theorem w_room : about1.hasRoom e0.platform room_1 = true :=
  launch0.hasRoom_least _ room_1 (by decide +kernel) (by decide +kernel) (by decide +kernel) (by decide +kernel) (by decide +kernel) (by decide +kernel)
theorem allAtoms_all (ts : List Jvm.Cond) (a : Array Jvm.Value) (st : Jvm.State) : (allAtoms ts).before a st = ts.all (fun c => c.before a st) := by
  induction ts with
  | nil => rfl
  | cons c t ih =>
    show (Jvm.Cond.and c (allAtoms t)).before a st = _
    rw [Jvm.Cond.before_and, ih, List.all_cons]
def words1 : List Jvm.Cond := Jvm.Cond.code x code maxLocals ret :: tables_1
/-- a 'code' word, met by the world's own term for the bytes: nothing is compared byte by byte -/
theorem code_word {y : MethodName} {bytes : ByteArray} {mx : Nat} {rt : Option FieldType} {a : Array Value} {s : State} {m : MethodId} {meth : Method} {c : Code} (h1 : s.methodNamed? y = some m) (h2 : s.vm.method? m = some meth) (h3 : meth.code = some c) (h4 : c.code = bytes)
    (h5 : (c.maxLocals == mx && c.exceptionTable.isEmpty && decide (c.maxStack ≤ mostOperands) && decide (meth.sig.returnType = rt) && !meth.locks && decide (parseMethodDescriptor y.desc = some meth.sig)) = true) : (Jvm.Cond.code y bytes mx rt).before a s = true := by
  simp only [Bool.and_eq_true, beq_iff_eq, Bool.not_eq_true', decide_eq_true_eq] at h5
  obtain ⟨⟨⟨⟨⟨g1, g2⟩, g3⟩, g4⟩, g5⟩, g6⟩ := h5
  simp [Cond.before, Cond.holds, Cond.value, h1, h2, h3, h4, g1, g2, g3, g4, g5, g6]
def isCode : Jvm.Cond → Bool
  | .code _ _ _ _ => true
  | _ => false
theorem all_split {L : List Jvm.Cond} {P : Jvm.Cond → Bool} (h1 : L.all (fun c => isCode c || P c) = true) (h2 : ∀ c ∈ L.filter isCode, P c = true) : L.all P = true := by
  refine List.all_eq_true.mpr fun c hc => ?_
  have h := List.all_eq_true.mp h1 c hc
  rcases Bool.eq_false_or_eq_true (isCode c) with hi | hi
  · exact h2 c (List.mem_filter.mpr ⟨hc, hi⟩)
  · simpa [hi] using h
set_option maxRecDepth 65536 in
theorem w_c0 : (Jvm.Cond.code x code maxLocals ret).before args0 about1 = true := code_word (m := ⟨1, 1⟩) (meth := k1m1) (c := k1c1) (by decide +kernel) rfl rfl rfl (by decide +kernel)
set_option maxRecDepth 65536 in
theorem w_c1 : (Jvm.Cond.code ({ cls := "com/example/fielder/fielder/service/ScoredDocumentsMultiplyScoresPinLaw", name := "drawn", desc := "(JI)I" } : Jvm.MethodName) method_3_code (3 : Nat) (Option.some Jvm.ClassFile.FieldType.int)).before args0 about1 = true := code_word (m := ⟨1, 2⟩) (meth := k1m2) (c := k1c2) (by decide +kernel) rfl rfl rfl (by decide +kernel)
set_option maxRecDepth 65536 in
theorem w_c2 : (Jvm.Cond.code ({ cls := "com/example/fielder/fielder/service/ScoredDocuments", name := "<init>", desc := "()V" } : Jvm.MethodName) prog_38_method_1_code (1 : Nat) (Option.none : Option Jvm.ClassFile.FieldType)).before args0 about1 = true := code_word (m := ⟨3, 0⟩) (meth := k3m0) (c := k3c0) (by decide +kernel) rfl rfl rfl (by decide +kernel)
set_option maxRecDepth 65536 in
theorem w_c3 : (Jvm.Cond.code ({ cls := "java/lang/Object", name := "<init>", desc := "()V" } : Jvm.MethodName) object_method_1_code (1 : Nat) (Option.none : Option Jvm.ClassFile.FieldType)).before args0 about1 = true := code_word (m := ⟨0, 0⟩) (meth := k0m0) (c := k0c0) (by decide +kernel) rfl rfl rfl (by decide +kernel)
set_option maxRecDepth 65536 in
theorem w_c4 : (Jvm.Cond.code ({ cls := "com/example/fielder/fielder/service/ScoredDocuments", name := "multiplyScores", desc := "(D)V" } : Jvm.MethodName) prog_38_method_6_code (4 : Nat) (Option.none : Option Jvm.ClassFile.FieldType)).before args0 about1 = true := code_word (m := ⟨3, 4⟩) (meth := k3m4) (c := k3c4) (by decide +kernel) rfl rfl rfl (by decide +kernel)
set_option maxRecDepth 65536 in
theorem w_c5 : (Jvm.Cond.code ({ cls := "com/example/fielder/fielder/service/ScoredDocuments", name := "size", desc := "()I" } : Jvm.MethodName) prog_38_method_3_code (1 : Nat) (Option.some Jvm.ClassFile.FieldType.int)).before args0 about1 = true := code_word (m := ⟨3, 2⟩) (meth := k3m2) (c := k3c2) (by decide +kernel) rfl rfl rfl (by decide +kernel)
set_option maxRecDepth 65536 in
theorem w_c6 : (Jvm.Cond.code ({ cls := "com/example/fielder/fielder/service/ScoredDocumentsMultiplyScoresPinLaw", name := "ok", desc := "(Lcom/example/fielder/fielder/service/ScoredDocuments;IIII)Z" } : Jvm.MethodName) method_4_code (5 : Nat) (Option.some Jvm.ClassFile.FieldType.boolean)).before args0 about1 = true := code_word (m := ⟨1, 3⟩) (meth := k1m3) (c := k1c3) (by decide +kernel) rfl rfl rfl (by decide +kernel)
set_option maxRecDepth 65536 in
theorem w_c7 : (Jvm.Cond.code ({ cls := "com/example/fielder/fielder/service/ScoredDocuments", name := "add", desc := "(ID)V" } : Jvm.MethodName) prog_38_method_2_code (4 : Nat) (Option.none : Option Jvm.ClassFile.FieldType)).before args0 about1 = true := code_word (m := ⟨3, 1⟩) (meth := k3m1) (c := k3c1) (by decide +kernel) rfl rfl rfl (by decide +kernel)
set_option maxRecDepth 65536 in
theorem w_c8 : (Jvm.Cond.code ({ cls := "com/example/fielder/fielder/service/ScoredDocuments", name := "score", desc := "(I)D" } : Jvm.MethodName) prog_38_method_5_code (2 : Nat) (Option.some Jvm.ClassFile.FieldType.double)).before args0 about1 = true := code_word (m := ⟨3, 3⟩) (meth := k3m3) (c := k3c3) (by decide +kernel) rfl rfl rfl (by decide +kernel)
set_option maxRecDepth 65536 in
theorem w_c9 : (Jvm.Cond.code ({ cls := "java/util/Arrays", name := "copyOf", desc := "([II)[I" } : Jvm.MethodName) jdk_65_method_123_code (3 : Nat) (Option.some (Jvm.ClassFile.FieldType.array Jvm.ClassFile.FieldType.int))).before args0 about1 = true := code_word (m := ⟨4, 1⟩) (meth := k4m1) (c := k4c1) (by decide +kernel) rfl rfl rfl (by decide +kernel)
set_option maxRecDepth 65536 in
theorem w_c10 : (Jvm.Cond.code ({ cls := "java/lang/Math", name := "min", desc := "(II)I" } : Jvm.MethodName) jdk_29_method_69_code (2 : Nat) (Option.some Jvm.ClassFile.FieldType.int)).before args0 about1 = true := code_word (m := ⟨5, 1⟩) (meth := k5m1) (c := k5c1) (by decide +kernel) rfl rfl rfl (by decide +kernel)
set_option maxRecDepth 65536 in
theorem w_c11 : (Jvm.Cond.code ({ cls := "java/util/Arrays", name := "copyOf", desc := "([DI)[D" } : Jvm.MethodName) jdk_65_method_127_code (3 : Nat) (Option.some (Jvm.ClassFile.FieldType.array Jvm.ClassFile.FieldType.double))).before args0 about1 = true := code_word (m := ⟨4, 2⟩) (meth := k4m2) (c := k4c2) (by decide +kernel) rfl rfl rfl (by decide +kernel)
def codes1 : List Jvm.Cond := [Jvm.Cond.code x code maxLocals ret, Jvm.Cond.code ({ cls := "com/example/fielder/fielder/service/ScoredDocumentsMultiplyScoresPinLaw", name := "drawn", desc := "(JI)I" } : Jvm.MethodName) method_3_code (3 : Nat) (Option.some Jvm.ClassFile.FieldType.int), Jvm.Cond.code ({ cls := "com/example/fielder/fielder/service/ScoredDocuments", name := "<init>", desc := "()V" } : Jvm.MethodName) prog_38_method_1_code (1 : Nat) (Option.none : Option Jvm.ClassFile.FieldType), Jvm.Cond.code ({ cls := "java/lang/Object", name := "<init>", desc := "()V" } : Jvm.MethodName) object_method_1_code (1 : Nat) (Option.none : Option Jvm.ClassFile.FieldType), Jvm.Cond.code ({ cls := "com/example/fielder/fielder/service/ScoredDocuments", name := "multiplyScores", desc := "(D)V" } : Jvm.MethodName) prog_38_method_6_code (4 : Nat) (Option.none : Option Jvm.ClassFile.FieldType), Jvm.Cond.code ({ cls := "com/example/fielder/fielder/service/ScoredDocuments", name := "size", desc := "()I" } : Jvm.MethodName) prog_38_method_3_code (1 : Nat) (Option.some Jvm.ClassFile.FieldType.int), Jvm.Cond.code ({ cls := "com/example/fielder/fielder/service/ScoredDocumentsMultiplyScoresPinLaw", name := "ok", desc := "(Lcom/example/fielder/fielder/service/ScoredDocuments;IIII)Z" } : Jvm.MethodName) method_4_code (5 : Nat) (Option.some Jvm.ClassFile.FieldType.boolean), Jvm.Cond.code ({ cls := "com/example/fielder/fielder/service/ScoredDocuments", name := "add", desc := "(ID)V" } : Jvm.MethodName) prog_38_method_2_code (4 : Nat) (Option.none : Option Jvm.ClassFile.FieldType), Jvm.Cond.code ({ cls := "com/example/fielder/fielder/service/ScoredDocuments", name := "score", desc := "(I)D" } : Jvm.MethodName) prog_38_method_5_code (2 : Nat) (Option.some Jvm.ClassFile.FieldType.double), Jvm.Cond.code ({ cls := "java/util/Arrays", name := "copyOf", desc := "([II)[I" } : Jvm.MethodName) jdk_65_method_123_code (3 : Nat) (Option.some (Jvm.ClassFile.FieldType.array Jvm.ClassFile.FieldType.int)), Jvm.Cond.code ({ cls := "java/lang/Math", name := "min", desc := "(II)I" } : Jvm.MethodName) jdk_29_method_69_code (2 : Nat) (Option.some Jvm.ClassFile.FieldType.int), Jvm.Cond.code ({ cls := "java/util/Arrays", name := "copyOf", desc := "([DI)[D" } : Jvm.MethodName) jdk_65_method_127_code (3 : Nat) (Option.some (Jvm.ClassFile.FieldType.array Jvm.ClassFile.FieldType.double))]
set_option maxRecDepth 65536 in
theorem codes_eq : words1.filter isCode = codes1 := rfl
theorem w_codes : ∀ c ∈ words1.filter isCode, c.before args0 about1 = true := by
  rw [codes_eq]
  intro c hc
  simp only [codes1, List.mem_cons, List.not_mem_nil, or_false] at hc
  rcases hc with rfl | rfl | rfl | rfl | rfl | rfl | rfl | rfl | rfl | rfl | rfl | rfl
  · exact w_c0
  · exact w_c1
  · exact w_c2
  · exact w_c3
  · exact w_c4
  · exact w_c5
  · exact w_c6
  · exact w_c7
  · exact w_c8
  · exact w_c9
  · exact w_c10
  · exact w_c11
set_option maxRecDepth 65536 in
theorem w_t1 : (words1.take 24).all (fun c => isCode c || c.before args0 about1) = true := by decide +kernel
set_option maxRecDepth 65536 in
theorem w_t2 : ((words1.drop 24).take 24).all (fun c => isCode c || c.before args0 about1) = true := by decide +kernel
set_option maxRecDepth 65536 in
theorem w_t3 : ((words1.drop 24).drop 24).all (fun c => isCode c || c.before args0 about1) = true := by decide +kernel
theorem w_tables : (allAtoms (Jvm.Cond.code x code maxLocals ret :: tables_1)).before args0 about1 = true := by
  rw [allAtoms_all]
  show words1.all (fun c => c.before args0 about1) = true
  refine all_split ?_ w_codes
  rw [← List.take_append_drop 24 words1, List.all_append, w_t1, ← List.take_append_drop 24 (words1.drop 24), List.all_append, w_t2, w_t3]
  rfl
set_option maxRecDepth 65536 in
theorem w_case : (Jvm.Cond.and given_1 narrow_1).before args0 about1 = true := by decide +kernel
theorem w_applies : (headSpec (Jvm.Cond.code x code maxLocals ret :: tables_1) room_1).applies x e0.platform about1 = true :=
  (Spec.applies_iff w_frames).mpr ⟨w_running, w_runnable, w_alone, w_named, w_hears, w_ripe, w_room, w_tables⟩
theorem atStart : AtStart classFile x code maxLocals ret World_1 tables_1 room_1 Calls_1 rest_1 Pre_1 launch0 p0 e0 about1 theMethod args0 below0 :=
  ⟨lists_1, trivial, launch0.admits_env _ _ _, launch0.least_env, fairChoices_fair.cas, fairChoices_fair.clock, w_frames, w_args, w_heap, w_applies, trivial, trivial, w_case⟩
end start1
theorem witness_1 : WitnessClaimed_1 := ⟨start1.p0, start1.e0, start1.about1, start1.theMethod, start1.args0, start1.below0, start1.atStart⟩
end Jvm.Pilot.@@N@@
