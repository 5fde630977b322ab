import JvmDerived
import JvmDerived.Pilot.@@N@@Statement
import JvmDerived.Pilot.@@N@@Code
set_option linter.unusedVariables false
set_option linter.unusedSimpArgs false
namespace Jvm.RoadKit
open Sem ClassFile Op Lib Jvm.Stand Jvm.Free Jvm.LawKit
section OwnKit
/-- what stands at a point of the walk: the law's Stand, its written places all new, the heap named; w: may have interned -/
def own_X (w : Bool) (p : Program) (l : Launch) (e : Env) (R : Room) (s : State) (m : MethodId) (args : Array Value) (below : List Frame) (meth : Method) (c : Code) (Z : State) (T : State) (h : Heap) (k n : Nat) : Prop :=
  ∃ (L : List Loc) (vm : Vm), Stand p l e R (s.setVm vm) m args below meth c T L k n ∧ Fr Z.heap.size L ∧ T.heap = h ∧ (w = false → vm = s.vm) ∧ s.Since vm h.size
def own_Cx (p : Program) (s : State) (m : MethodId) (meth : Method) (c : Code) (Z : State) (own nm : String) (bytes : ByteArray) (maxL : Nat) (ret : Option FieldType) : Prop :=
  p.tables.exec = Jvm.exec ∧ c.code = bytes ∧ c.maxLocals = maxL ∧ meth.sig.returnType = ret ∧ meth.locks = false ∧ Z.Warmed39 s.vm ∧ s.vm.findClass own = some m.cls ∧ meth.name = nm
def own_Go (w : Bool) (p : Program) (l : Launch) (e : Env) (R : Room) (s : State) (m : MethodId) (args : Array Value) (below : List Frame) (meth : Method) (c : Code) (Z : State) (Q : Option Value → Heap → Prop) (T : State) (g : JFrame) : Prop :=
  ∃ (T' : State) (v : Option Value) (h' : Heap) (k' n' : Nat), own_X w p l e R s m args below meth c Z T' h' k' n' ∧ k' ≤ R.cells ∧ n' ≤ R.slots ∧ (meth.sig.returnType = none → v = none) ∧ Q v h' ∧
    ∀ fs, (∀ (f : JFrame) (acts : List Action), f.method = m → f.locked = none → f.entered = [] → (doReturn e (T'.setTop f) acts v).1 = T'.setFrames fs) → Steps p.tables e below (T.setTop g) (T'.setFrames fs)
/-- from the frame g, over the heap h, with k cells and n slots made, the walk comes to a return of which Q holds -/
def own_G (w : Bool) (p : Program) (l : Launch) (e : Env) (R : Room) (s : State) (m : MethodId) (args : Array Value) (below : List Frame) (meth : Method) (c : Code) (Z : State) (Q : Option Value → Heap → Prop) (h : Heap) (k n : Nat) (g : JFrame) : Prop :=
  ∀ T, own_X w p l e R s m args below meth c Z T h k n → own_Go w p l e R s m args below meth c Z Q T g
def own_D (bytes : ByteArray) (pc : Nat) (i : Instr) (len pc' : Nat) : Prop := decode bytes pc = .ok (i, len) ∧ pc' = pc + len
def own_B (bytes : ByteArray) (pc : Nat) (i : Instr) (off : Int) (pcF pcT : Nat) : Prop := decode bytes pc = .ok (i, 3) ∧ pcF = pc + 3 ∧ 0 ≤ (pc : Int) + off ∧ ((pc : Int) + off).toNat = pcT
def own_End (w : Bool) (U : State) (o : Outcome) (U' : State) (L : List Loc) (k n : Nat) : Prop := match w with | false => FrameEnd U o U' L k n | true => ReturnedEndW U o U' L k n
def own_Met (w : Bool) (l : Launch) (Z : State) (y : MethodName) (bytes : ByteArray) (maxL : Nat) (ret : Option FieldType) (ws : List Cond) (rm : Room) (as' : Array Value) (h : Heap) (Q : Option Value → Heap → Prop) : Prop :=
  MetFree l y (head1 (Cond.code y bytes maxL ret :: ws) rm) (fun a U => a = as' ∧ Z.Warmed39 U.vm ∧ U.heap = h) (fun _ _ _ _ _ => True)
    (fun _ U o U' => ∃ v L, o = .returned v ∧ (Q v U'.heap ∧ Fr Z.heap.size L ∧ h.size ≤ U'.heap.size) ∧ own_End w U o U' L rm.cells rm.slots)
/-! ## heap -/
abbrev own_O := Addr × String × List (String × String × String × Value)
abbrev own_A := Addr × FieldType × String × List Value
def own_OK (Z : State) (h : Heap) (o : own_O) : Prop := Exa Z h o.1 o.2.1 ∧ (∀ f ∈ o.2.2, Fld Z h o.1 f.1 f.2.1 f.2.2.1 f.2.2.2) ∧ o.2.2.Pairwise (fun f g => slotOf Z f.1 f.2.1 f.2.2.1 ≠ slotOf Z g.1 g.2.1 g.2.2.1)
def own_AK (Z : State) (h : Heap) (a : own_A) : Prop := ∃ cl : Cell, Arr Z h a.1 cl a.2.1 ∧ cl.slots.toList = a.2.2.2 ∧ (∀ v ∈ a.2.2.2, fits a.2.1 v = true) ∧ (a.2.2.1 ≠ "" → Exa Z h a.1 a.2.2.1) ∧ (∀ C, a.2.1 = .object C → a.2.2.1 ≠ "" → Ovr Z cl.cls C)
/-- the heap h: what stood at the law's start Z stands; the objects os and the arrays as, all new, all apart -/
def own_H (Z : State) (h : Heap) (os : List own_O) (as : List own_A) : Prop :=
  Ext Z.heap h ∧ (∀ o ∈ os, Z.heap.size ≤ o.1 ∧ own_OK Z h o) ∧ (∀ a ∈ as, Z.heap.size ≤ a.1 ∧ own_AK Z h a) ∧ (os.map (·.1) ++ as.map (·.1)).Nodup
variable {w : Bool} {p : Program} {l : Launch} {e : Env} {R : Room} {s : State} {m : MethodId} {args : Array Value} {below : List Frame} {meth : Method} {c : Code} {Z : State} {a0 : Array Value} {own nm : String} {bytes : ByteArray} {maxL : Nat} {ret : Option FieldType} {Q : Option Value → Heap → Prop} {h h' : Heap} {k n k' n' : Nat} {pc pc' pcT : Nat} {Ls Ls' : Array Slot} {st rest : List Value} {os os' : List own_O} {as as' : List own_A} {g g' : JFrame} {tyR : FieldType}
theorem own_H.start (Z : State) : own_H Z Z.heap [] [] := ⟨⟨Nat.le_refl _, fun _ _ q => q⟩, fun _ q => (nomatch q), fun _ q => (nomatch q), List.nodup_nil⟩
theorem own_OK.ext {o : own_O} (E : Ext h h') (F : own_OK Z h o) : own_OK Z h' o := ⟨F.1.ext E, fun f hf => (F.2.1 f hf).ext E, F.2.2⟩
theorem own_AK.ext {a : own_A} (E : Ext h h') (F : own_AK Z h a) : own_AK Z h' a := by
  obtain ⟨cl, h1, h2, h3, h4, h5⟩ := F; exact ⟨cl, h1.ext E, h2, h3, fun q => (h4 q).ext E, h5⟩
theorem own_H.ext (H : own_H Z h os as) (E : Ext h h') : own_H Z h' os as :=
  ⟨⟨Nat.le_trans H.1.1 E.1, fun a c q => E.2 a c (H.1.2 a c q)⟩, fun o ho => ⟨(H.2.1 o ho).1, (H.2.1 o ho).2.ext E⟩, fun a ha => ⟨(H.2.2.1 a ha).1, (H.2.2.1 a ha).2.ext E⟩, H.2.2.2⟩
theorem own_H.ltO (H : own_H Z h os as) {o : own_O} (ho : o ∈ os) : o.1 < h.size := (H.2.1 o ho).2.1.lt
theorem own_H.ltA (H : own_H Z h os as) {a : own_A} (ha : a ∈ as) : a.1 < h.size := by obtain ⟨-, cl, h1, -⟩ := H.2.2.1 a ha; exact h1.lt
theorem own_H.fresh (H : own_H Z h os as) : h.size ∉ os.map (·.1) ++ as.map (·.1) := fun q => by
  rcases List.mem_append.mp q with q | q
  · obtain ⟨o, ho, e⟩ := List.mem_map.mp q; exact absurd (H.ltO ho) (by rw [e]; exact Nat.lt_irrefl _)
  · obtain ⟨o, ho, e⟩ := List.mem_map.mp q; exact absurd (H.ltA ho) (by rw [e]; exact Nat.lt_irrefl _)
theorem own_H.addO (H : own_H Z h os as) (E : Ext h h') {C : String} {fs : List (String × String × String × Value)} (F : own_OK Z h' (h.size, C, fs)) : own_H Z h' ((h.size, C, fs) :: os) as := by
  have H' := H.ext E
  refine ⟨H'.1, fun o ho => ?_, H'.2.2.1, ?_⟩
  · rcases List.mem_cons.mp ho with rfl | ho
    · exact ⟨H.1.1, F⟩
    · exact H'.2.1 o ho
  · exact List.nodup_cons.mpr ⟨H.fresh, H.2.2.2⟩
theorem own_H.addA (H : own_H Z h os as) (E : Ext h h') {ty : FieldType} {ad : String} {vs : List Value} (F : own_AK Z h' (h.size, ty, ad, vs)) : own_H Z h' os ((h.size, ty, ad, vs) :: as) := by
  have H' := H.ext E
  refine ⟨H'.1, H'.2.1, fun o ho => ?_, ?_⟩
  · rcases List.mem_cons.mp ho with rfl | ho
    · exact ⟨H.1.1, F⟩
    · exact H'.2.2.1 o ho
  · have q := H.fresh
    rw [List.mem_append] at q
    have q2 := List.nodup_append.mp H.2.2.2
    refine List.nodup_append.mpr ⟨q2.1, List.nodup_cons.mpr ⟨fun z => q (Or.inr z), q2.2.1⟩, fun x hx y hy => ?_⟩
    rcases List.mem_cons.mp hy with rfl | hy
    · intro z; exact q (Or.inl ((show x = h.size from z) ▸ hx))
    · exact q2.2.2 x hx y hy
theorem own_mem {α : Type} {L : List α} {i : Nat} {x : α} (hx : L[i]? = some x) : x ∈ L := List.mem_of_getElem? hx
theorem own_H.atO (H : own_H Z h os as) {i : Nat} {a : Addr} {C : String} {fs : List (String × String × String × Value)} (ho : os[i]? = some (a, C, fs)) : Exa Z h a C := (H.2.1 _ (own_mem ho)).2.1
theorem own_H.newO (H : own_H Z h os as) {i : Nat} {a : Addr} {C : String} {fs : List (String × String × String × Value)} (ho : os[i]? = some (a, C, fs)) : Z.heap.size ≤ a := (H.2.1 _ (own_mem ho)).1
theorem own_H.fld (H : own_H Z h os as) {i q : Nat} {a : Addr} {C O f d : String} {v : Value} {fs : List (String × String × String × Value)} (ho : os[i]? = some (a, C, fs)) (hf : fs[q]? = some (O, f, d, v)) : Fld Z h a O f d v := (H.2.1 _ (own_mem ho)).2.2.1 _ (own_mem hf)
theorem own_H.neOO (H : own_H Z h os as) {i j : Nat} {x y : own_O} (hx : os[i]? = some x) (hy : os[j]? = some y) (ij : i ≠ j) : x.1 ≠ y.1 := fun e => by
  have q := (List.nodup_append.mp H.2.2.2).1
  have h1 : (os.map (·.1))[i]? = some x.1 := by rw [List.getElem?_map, hx]; rfl
  have h2 : (os.map (·.1))[j]? = some y.1 := by rw [List.getElem?_map, hy]; rfl
  rw [← e] at h2
  have hi := (List.getElem?_eq_some_iff.mp h1).1
  exact ij ((List.getElem?_inj hi q).mp (h1.trans h2.symm))
theorem own_H.neAA (H : own_H Z h os as) {i j : Nat} {x y : own_A} (hx : as[i]? = some x) (hy : as[j]? = some y) (ij : i ≠ j) : x.1 ≠ y.1 := fun e => by
  have q := (List.nodup_append.mp H.2.2.2).2.1
  have h1 : (as.map (·.1))[i]? = some x.1 := by rw [List.getElem?_map, hx]; rfl
  have h2 : (as.map (·.1))[j]? = some y.1 := by rw [List.getElem?_map, hy]; rfl
  rw [← e] at h2
  have hi := (List.getElem?_eq_some_iff.mp h1).1
  exact ij ((List.getElem?_inj hi q).mp (h1.trans h2.symm))
theorem own_H.neOA (H : own_H Z h os as) {x : own_O} {y : own_A} (hx : x ∈ os) (hy : y ∈ as) : x.1 ≠ y.1 :=
  (List.nodup_append.mp H.2.2.2).2.2 _ (List.mem_map.mpr ⟨x, hx, rfl⟩) _ (List.mem_map.mpr ⟨y, hy, rfl⟩)
theorem own_set_map {α β : Type} {L : List α} {f : α → β} {i : Nat} {x x' : α} (hx : L[i]? = some x) (e : f x' = f x) : (L.set i x').map f = L.map f := by
  apply List.ext_getElem?
  intro j
  rw [List.getElem?_map, List.getElem?_map, List.getElem?_set]
  by_cases ij : i = j
  · subst ij; rw [hx]; have := (List.getElem?_eq_some_iff.mp hx).1; simp [this, e]
  · simp [ij]
theorem own_H.wrO (H : own_H Z h os as) {i q : Nat} {a : Addr} {C O f d : String} {v v0 : Value} {fs : List (String × String × String × Value)} (ho : os[i]? = some (a, C, fs)) (hf : fs[q]? = some (O, f, d, v0)) (W : Wr h h' a (slotOf Z O f d) v) :
    own_H Z h' (os.set i (a, C, fs.set q (O, f, d, v))) as := by
  have na := H.newO ho
  have hlen := (List.getElem?_eq_some_iff.mp ho).1
  have hql := (List.getElem?_eq_some_iff.mp hf).1
  refine ⟨?_, fun x hx => ?_, fun y hy => ?_, ?_⟩
  · refine ⟨by rw [Wr.size W]; exact H.1.1, fun b cb hb => ?_⟩
    obtain ⟨cb', e1, -, -, -, e5, -⟩ := wr_at W (H.1.2 b cb hb)
    have : b ≠ a := Nat.ne_of_lt (Nat.lt_of_lt_of_le (Array.getElem?_eq_some_iff.mp hb).1 na)
    rw [← e5 this]; exact e1
  · obtain ⟨j, hj⟩ := List.mem_iff_getElem?.mp hx
    rw [List.getElem?_set] at hj
    by_cases ij : i = j
    · subst ij
      rw [if_pos rfl, if_pos hlen] at hj
      obtain rfl := Option.some.inj hj
      obtain ⟨n1, E, F, Pw⟩ := H.2.1 _ (own_mem ho)
      refine ⟨n1, E.wr W, fun z hz => ?_, ?_⟩
      · obtain ⟨r, hr⟩ := List.mem_iff_getElem?.mp hz
        rw [List.getElem?_set] at hr
        by_cases qr : q = r
        · subst qr
          rw [if_pos rfl, if_pos hql] at hr
          obtain rfl := Option.some.inj hr
          exact Fld.same (w := v0) W (F _ (own_mem (show (a, C, fs).2.2[q]? = some (O, f, d, v0) from hf)))
        · rw [if_neg qr] at hr
          refine Fld.other W (F _ (own_mem hr)) (Or.inr fun e => ?_)
          have P2 : ∀ i j : Nat, i < j → ∀ x y, fs[i]? = some x → fs[j]? = some y → slotOf Z x.1 x.2.1 x.2.2.1 ≠ slotOf Z y.1 y.2.1 y.2.2.1 := fun i j ij x y hx hy => by
            obtain ⟨h1, rfl⟩ := List.getElem?_eq_some_iff.mp hx
            obtain ⟨h2, rfl⟩ := List.getElem?_eq_some_iff.mp hy
            exact List.pairwise_iff_getElem.mp Pw i j h1 h2 ij
          rcases Nat.lt_or_gt_of_ne qr with lt | lt
          · exact P2 q r lt _ _ hf hr e.symm
          · exact P2 r q lt _ _ hr hf e
      · have hm : (fs.set q (O, f, d, v)).map (fun f => slotOf Z f.1 f.2.1 f.2.2.1) = fs.map (fun f => slotOf Z f.1 f.2.1 f.2.2.1) := own_set_map hf rfl
        have t := List.pairwise_map.mpr Pw
        rw [← hm] at t
        exact List.pairwise_map.mp t
    · rw [if_neg ij] at hj
      obtain ⟨n1, E, F, Pw⟩ := H.2.1 _ (own_mem hj)
      exact ⟨n1, E.wr W, fun z hz => Fld.other W (F z hz) (Or.inl (H.neOO hj ho (Ne.symm ij))), Pw⟩
  · obtain ⟨n1, cl, h1, h2, h3, h4, h5⟩ := H.2.2.1 y hy
    exact ⟨n1, cl, h1.other W (Ne.symm (H.neOA (own_mem ho) hy)), h2, h3, fun q => (h4 q).wr W, h5⟩
  · rw [own_set_map (f := fun z => z.1) (x' := (a, C, fs.set q (O, f, d, v))) ho rfl]; exact H.2.2.2
theorem own_H.wrA (H : own_H Z h os as) {i q : Nat} {a : Addr} {ty : FieldType} {ad : String} {v : Value} {vs : List Value} (ha : as[i]? = some (a, ty, ad, vs)) (hq : q < vs.length) (hv : fits ty v = true) (W : Wr h h' a q v) :
    own_H Z h' os (as.set i (a, ty, ad, vs.set q v)) := by
  have na := (H.2.2.1 _ (own_mem ha)).1
  have hlen := (List.getElem?_eq_some_iff.mp ha).1
  refine ⟨?_, fun x hx => ?_, fun y hy => ?_, ?_⟩
  · refine ⟨by rw [Wr.size W]; exact H.1.1, fun b cb hb => ?_⟩
    obtain ⟨cb', e1, -, -, -, e5, -⟩ := wr_at W (H.1.2 b cb hb)
    have : b ≠ a := Nat.ne_of_lt (Nat.lt_of_lt_of_le (Array.getElem?_eq_some_iff.mp hb).1 na)
    rw [← e5 this]; exact e1
  · obtain ⟨n1, E, F, Pw⟩ := H.2.1 _ hx
    exact ⟨n1, E.wr W, fun z hz => Fld.other W (F z hz) (Or.inl (H.neOA hx (own_mem ha))), Pw⟩
  · obtain ⟨j, hj⟩ := List.mem_iff_getElem?.mp hy
    rw [List.getElem?_set] at hj
    by_cases ij : i = j
    · subst ij
      rw [if_pos rfl, if_pos hlen] at hj
      obtain rfl := Option.some.inj hj
      obtain ⟨n1, cl, h1, h2, h3, h4, h5⟩ := H.2.2.1 _ (own_mem ha)
      refine ⟨n1, _, h1.same W, ?_, fun z hz => ?_, fun q => (h4 q).wr W, h5⟩
      · show (cl.setSlot q v).slots.toList = vs.set q v
        rw [show (cl.setSlot q v).slots = cl.slots.setIfInBounds q v from rfl, Array.toList_setIfInBounds, show cl.slots.toList = vs from h2]
      · rcases List.mem_or_eq_of_mem_set hz with hz | rfl
        · exact h3 z hz
        · exact hv
    · rw [if_neg ij] at hj
      obtain ⟨n1, cl, h1, h2, h3, h4, h5⟩ := H.2.2.1 _ (own_mem hj)
      exact ⟨n1, cl, h1.other W (H.neAA hj ha (Ne.symm ij)), h2, h3, fun q => (h4 q).wr W, h5⟩
  · rw [own_set_map (f := fun z => z.1) (x' := (a, ty, ad, vs.set q v)) ha rfl]; exact H.2.2.2
theorem own_le {a b : Nat} (h : Nat.ble a b = true) : a ≤ b := Nat.le_of_ble_eq_true h
theorem own_idx {j : Int32} {q : Nat} (hj : j.toInt = (q : Int)) : j.toNatClampNeg = q := by simp only [Int32.toNatClampNeg, hj]; rfl
theorem own_in {j : Int32} {q N : Nat} (hj : j.toInt = (q : Int)) (hq : q < N) : ¬ (j < 0 ∨ N ≤ j.toNatClampNeg) := by
  rw [own_idx hj, Int32.lt_iff_toInt_lt, hj, show (0 : Int32).toInt = 0 from rfl]; omega
theorem own_len {N : Int32} {q : Nat} (hN : N.toInt = (q : Int)) : q.toInt32 = N := by
  have := Int32.toInt_lt N
  exact Int32.toInt_inj.mp ((len_toInt (by omega)).trans hN.symm)
/-! ## steps -/
theorem own_zw {vm : Vm} (hZ : Z.Warmed39 s.vm) {q : Nat} (hS : s.Since vm q) : Z.Warmed39 (s.setVm vm).vm := State.Warmed39.trans (t := s) hZ hS.1
theorem own_pure (K : own_Cx p s m meth c Z own nm bytes maxL ret)
    (f : ∀ {T : State} {L : List Loc} {vm : Vm}, Stand p l e R (s.setVm vm) m args below meth c T L k n → Z.Warmed39 (s.setVm vm).vm → (s.setVm vm).vm.findClass own = some m.cls → T.heap = h → ∀ target, Steps p.tables e below (T.setTop g') target → Steps p.tables e below (T.setTop g) target)
    (hr : own_G w p l e R s m args below meth c Z Q h k n g') : own_G w p l e R s m args below meth c Z Q h k n g := by
  intro T hX
  obtain ⟨T', v, h', k', n', hX', r1, r2, r3, r4, r5⟩ := hr T hX
  obtain ⟨L, vm, X, -, eT, -, hS⟩ := hX
  exact ⟨T', v, h', k', n', hX', r1, r2, r3, r4, fun fs q => f X (own_zw K.2.2.2.2.2.1 hS) (by rw [show (s.setVm vm).vm = vm from rfl, hS.1.alike.findClass]; exact K.2.2.2.2.2.2.1) eT _ (r5 fs q)⟩
theorem own_since {vm : Vm} {q q' : Nat} (hS : s.Since vm q) (hq : q ≤ q') : s.Since vm q' := ⟨hS.1, hS.2.mono hq⟩
theorem own_step {P : Heap → Prop} (K : own_Cx p s m meth c Z own nm bytes maxL ret)
    (f : ∀ {T : State} {L : List Loc} {vm : Vm}, Stand p l e R (s.setVm vm) m args below meth c T L k n → Z.Warmed39 (s.setVm vm).vm → (s.setVm vm).vm.findClass own = some m.cls → T.heap = h → Fr Z.heap.size L →
      ∃ (T' : State) (h' : Heap) (L' : List Loc), Stand p l e R (s.setVm vm) m args below meth c T' L' k' n' ∧ Fr Z.heap.size L' ∧ T'.heap = h' ∧ h.size ≤ h'.size ∧ P h' ∧ ∀ target, Steps p.tables e below (T'.setTop g') target → Steps p.tables e below (T.setTop g) target)
    (hr : ∀ h', P h' → own_G w p l e R s m args below meth c Z Q h' k' n' g') : own_G w p l e R s m args below meth c Z Q h k n g := by
  intro T hX
  obtain ⟨L, vm, X, N, eT, hw, hS⟩ := hX
  obtain ⟨T1, h1, L1, X1, N1, e1, z1, P1, st⟩ := f X (own_zw K.2.2.2.2.2.1 hS) (by rw [show (s.setVm vm).vm = vm from rfl, hS.1.alike.findClass]; exact K.2.2.2.2.2.2.1) eT N
  obtain ⟨T', v, h', k', n', hX', r1, r2, r3, r4, r5⟩ := hr h1 P1 T1 ⟨L1, vm, X1, N1, e1, hw, own_since hS z1⟩
  exact ⟨T', v, h', k', n', hX', r1, r2, r3, r4, fun fs q => st _ (r5 fs q)⟩
theorem own_iload (K : own_Cx p s m meth c Z own nm bytes maxL ret) {kk : Nat} {v : Int32} (hd : own_D bytes pc (.iload kk) 2 pc') (hl : Ls[kk]? = some (.val (.int v))) (hr : own_G w p l e R s m args below meth c Z Q h k n (mkF m pc' Ls (.int v :: st))) : own_G w p l e R s m args below meth c Z Q h k n (mkF m pc Ls (st)) := by
  obtain ⟨hd, rfl⟩ := hd
  exact own_pure K (fun X _ _ _ _ q => XS.iload X.here K.1 rfl (hb K.2.1 hd) hl q) hr
theorem own_iloadN (K : own_Cx p s m meth c Z own nm bytes maxL ret) {kk : Fin 4} {v : Int32} (hd : own_D bytes pc (.iload_n kk) 1 pc') (hl : Ls[kk.val]? = some (.val (.int v))) (hr : own_G w p l e R s m args below meth c Z Q h k n (mkF m pc' Ls (.int v :: st))) : own_G w p l e R s m args below meth c Z Q h k n (mkF m pc Ls (st)) := by
  obtain ⟨hd, rfl⟩ := hd
  exact own_pure K (fun X _ _ _ _ q => XS.iloadN X.here K.1 rfl (hb K.2.1 hd) hl q) hr
theorem own_istore (K : own_Cx p s m meth c Z own nm bytes maxL ret) {kk : Nat} {v : Int32} (hd : own_D bytes pc (.istore kk) 2 pc') (hl : storeLocals Ls kk (.int v) = some Ls') (hr : own_G w p l e R s m args below meth c Z Q h k n (mkF m pc' Ls' (st))) : own_G w p l e R s m args below meth c Z Q h k n (mkF m pc Ls (.int v :: st)) := by
  obtain ⟨hd, rfl⟩ := hd
  exact own_pure K (fun X _ _ _ _ q => XS.istore X.here K.1 rfl (hb K.2.1 hd) rfl hl q) hr
theorem own_istoreN (K : own_Cx p s m meth c Z own nm bytes maxL ret) {kk : Fin 4} {v : Int32} (hd : own_D bytes pc (.istore_n kk) 1 pc') (hl : storeLocals Ls kk.val (.int v) = some Ls') (hr : own_G w p l e R s m args below meth c Z Q h k n (mkF m pc' Ls' (st))) : own_G w p l e R s m args below meth c Z Q h k n (mkF m pc Ls (.int v :: st)) := by
  obtain ⟨hd, rfl⟩ := hd
  exact own_pure K (fun X _ _ _ _ q => XS.istoreN X.here K.1 rfl (hb K.2.1 hd) rfl hl q) hr
theorem own_lload (K : own_Cx p s m meth c Z own nm bytes maxL ret) {kk : Nat} {v : Int64} (hd : own_D bytes pc (.lload kk) 2 pc') (hl : Ls[kk]? = some (.val (.long v))) (hr : own_G w p l e R s m args below meth c Z Q h k n (mkF m pc' Ls (.long v :: st))) : own_G w p l e R s m args below meth c Z Q h k n (mkF m pc Ls (st)) := by
  obtain ⟨hd, rfl⟩ := hd
  exact own_pure K (fun X _ _ _ _ q => XT.lload X.here K.1 rfl (hb K.2.1 hd) hl q) hr
theorem own_lloadN (K : own_Cx p s m meth c Z own nm bytes maxL ret) {kk : Fin 4} {v : Int64} (hd : own_D bytes pc (.lload_n kk) 1 pc') (hl : Ls[kk.val]? = some (.val (.long v))) (hr : own_G w p l e R s m args below meth c Z Q h k n (mkF m pc' Ls (.long v :: st))) : own_G w p l e R s m args below meth c Z Q h k n (mkF m pc Ls (st)) := by
  obtain ⟨hd, rfl⟩ := hd
  exact own_pure K (fun X _ _ _ _ q => XT.lloadN X.here K.1 rfl (hb K.2.1 hd) hl q) hr
theorem own_lstore (K : own_Cx p s m meth c Z own nm bytes maxL ret) {kk : Nat} {v : Int64} (hd : own_D bytes pc (.lstore kk) 2 pc') (hl : storeLocals Ls kk (.long v) = some Ls') (hr : own_G w p l e R s m args below meth c Z Q h k n (mkF m pc' Ls' (st))) : own_G w p l e R s m args below meth c Z Q h k n (mkF m pc Ls (.long v :: st)) := by
  obtain ⟨hd, rfl⟩ := hd
  exact own_pure K (fun X _ _ _ _ q => XT.lstore X.here K.1 rfl (hb K.2.1 hd) rfl hl q) hr
theorem own_lstoreN (K : own_Cx p s m meth c Z own nm bytes maxL ret) {kk : Fin 4} {v : Int64} (hd : own_D bytes pc (.lstore_n kk) 1 pc') (hl : storeLocals Ls kk.val (.long v) = some Ls') (hr : own_G w p l e R s m args below meth c Z Q h k n (mkF m pc' Ls' (st))) : own_G w p l e R s m args below meth c Z Q h k n (mkF m pc Ls (.long v :: st)) := by
  obtain ⟨hd, rfl⟩ := hd
  exact own_pure K (fun X _ _ _ _ q => XT.lstoreN X.here K.1 rfl (hb K.2.1 hd) rfl hl q) hr
theorem own_dload (K : own_Cx p s m meth c Z own nm bytes maxL ret) {kk : Nat} {v : UInt64} (hd : own_D bytes pc (.dload kk) 2 pc') (hl : Ls[kk]? = some (.val (.double v))) (hr : own_G w p l e R s m args below meth c Z Q h k n (mkF m pc' Ls (.double v :: st))) : own_G w p l e R s m args below meth c Z Q h k n (mkF m pc Ls (st)) := by
  obtain ⟨hd, rfl⟩ := hd
  exact own_pure K (fun X _ _ _ _ q => XS.dload X.here K.1 rfl (hb K.2.1 hd) hl q) hr
theorem own_dloadN (K : own_Cx p s m meth c Z own nm bytes maxL ret) {kk : Fin 4} {v : UInt64} (hd : own_D bytes pc (.dload_n kk) 1 pc') (hl : Ls[kk.val]? = some (.val (.double v))) (hr : own_G w p l e R s m args below meth c Z Q h k n (mkF m pc' Ls (.double v :: st))) : own_G w p l e R s m args below meth c Z Q h k n (mkF m pc Ls (st)) := by
  obtain ⟨hd, rfl⟩ := hd
  exact own_pure K (fun X _ _ _ _ q => XS.dloadN X.here K.1 rfl (hb K.2.1 hd) hl q) hr
theorem own_dstore (K : own_Cx p s m meth c Z own nm bytes maxL ret) {kk : Nat} {v : UInt64} (hd : own_D bytes pc (.dstore kk) 2 pc') (hl : storeLocals Ls kk (.double v) = some Ls') (hr : own_G w p l e R s m args below meth c Z Q h k n (mkF m pc' Ls' (st))) : own_G w p l e R s m args below meth c Z Q h k n (mkF m pc Ls (.double v :: st)) := by
  obtain ⟨hd, rfl⟩ := hd
  exact own_pure K (fun X _ _ _ _ q => XS.dstore X.here K.1 rfl (hb K.2.1 hd) rfl hl q) hr
theorem own_dstoreN (K : own_Cx p s m meth c Z own nm bytes maxL ret) {kk : Fin 4} {v : UInt64} (hd : own_D bytes pc (.dstore_n kk) 1 pc') (hl : storeLocals Ls kk.val (.double v) = some Ls') (hr : own_G w p l e R s m args below meth c Z Q h k n (mkF m pc' Ls' (st))) : own_G w p l e R s m args below meth c Z Q h k n (mkF m pc Ls (.double v :: st)) := by
  obtain ⟨hd, rfl⟩ := hd
  exact own_pure K (fun X _ _ _ _ q => XS.dstoreN X.here K.1 rfl (hb K.2.1 hd) rfl hl q) hr
theorem own_aload (K : own_Cx p s m meth c Z own nm bytes maxL ret) {kk : Nat} {v : Value} (hd : own_D bytes pc (.aload kk) 2 pc') (hl : Ls[kk]? = some (.val v)) (hv : v.isRef = true) (hr : own_G w p l e R s m args below meth c Z Q h k n (mkF m pc' Ls (v :: st))) : own_G w p l e R s m args below meth c Z Q h k n (mkF m pc Ls (st)) := by
  obtain ⟨hd, rfl⟩ := hd
  exact own_pure K (fun X _ _ _ _ q => XS.aload X.here K.1 rfl (hb K.2.1 hd) hl hv q) hr
theorem own_aloadN (K : own_Cx p s m meth c Z own nm bytes maxL ret) {kk : Fin 4} {v : Value} (hd : own_D bytes pc (.aload_n kk) 1 pc') (hl : Ls[kk.val]? = some (.val v)) (hv : v.isRef = true) (hr : own_G w p l e R s m args below meth c Z Q h k n (mkF m pc' Ls (v :: st))) : own_G w p l e R s m args below meth c Z Q h k n (mkF m pc Ls (st)) := by
  obtain ⟨hd, rfl⟩ := hd
  exact own_pure K (fun X _ _ _ _ q => XS.aloadN X.here K.1 rfl (hb K.2.1 hd) hl hv q) hr
theorem own_astore (K : own_Cx p s m meth c Z own nm bytes maxL ret) {kk : Nat} {v : Value} (hd : own_D bytes pc (.astore kk) 2 pc') (hv : v.isRef = true) (hl : storeLocals Ls kk v = some Ls') (hr : own_G w p l e R s m args below meth c Z Q h k n (mkF m pc' Ls' (st))) : own_G w p l e R s m args below meth c Z Q h k n (mkF m pc Ls (v :: st)) := by
  obtain ⟨hd, rfl⟩ := hd
  exact own_pure K (fun X _ _ _ _ q => XS.astore X.here K.1 rfl (hb K.2.1 hd) rfl hv hl q) hr
theorem own_astoreN (K : own_Cx p s m meth c Z own nm bytes maxL ret) {kk : Fin 4} {v : Value} (hd : own_D bytes pc (.astore_n kk) 1 pc') (hv : v.isRef = true) (hl : storeLocals Ls kk.val v = some Ls') (hr : own_G w p l e R s m args below meth c Z Q h k n (mkF m pc' Ls' (st))) : own_G w p l e R s m args below meth c Z Q h k n (mkF m pc Ls (v :: st)) := by
  obtain ⟨hd, rfl⟩ := hd
  exact own_pure K (fun X _ _ _ _ q => XS.astoreN X.here K.1 rfl (hb K.2.1 hd) rfl hv hl q) hr
theorem own_iconst (K : own_Cx p s m meth c Z own nm bytes maxL ret) {i : Int} {v : Int32} (hd : own_D bytes pc (.iconst i) 1 pc') (hv : Int32.ofInt i = v) (hr : own_G w p l e R s m args below meth c Z Q h k n (mkF m pc' Ls (.int v :: st))) : own_G w p l e R s m args below meth c Z Q h k n (mkF m pc Ls st) := by
  obtain ⟨hd, rfl⟩ := hd
  subst hv
  exact own_pure K (fun X _ _ _ _ q => XS.iconst X.here K.1 rfl (hb K.2.1 hd) q) hr
theorem own_bipush (K : own_Cx p s m meth c Z own nm bytes maxL ret) {i : Int} {v : Int32} (hd : own_D bytes pc (.bipush i) 2 pc') (hv : (Int8.ofInt i).toInt32 = v) (hr : own_G w p l e R s m args below meth c Z Q h k n (mkF m pc' Ls (.int v :: st))) : own_G w p l e R s m args below meth c Z Q h k n (mkF m pc Ls st) := by
  obtain ⟨hd, rfl⟩ := hd
  subst hv
  exact own_pure K (fun X _ _ _ _ q => XS.bipush X.here K.1 rfl (hb K.2.1 hd) q) hr
theorem own_sipush (K : own_Cx p s m meth c Z own nm bytes maxL ret) {i : Int} {v : Int32} (hd : own_D bytes pc (.sipush i) 3 pc') (hv : (Int16.ofInt i).toInt32 = v) (hr : own_G w p l e R s m args below meth c Z Q h k n (mkF m pc' Ls (.int v :: st))) : own_G w p l e R s m args below meth c Z Q h k n (mkF m pc Ls st) := by
  obtain ⟨hd, rfl⟩ := hd
  subst hv
  exact own_pure K (fun X _ _ _ _ q => XS.sipush X.here K.1 rfl (hb K.2.1 hd) q) hr
theorem own_lconst (K : own_Cx p s m meth c Z own nm bytes maxL ret) {i : Fin 2} {v : Int64} (hd : own_D bytes pc (.lconst i) 1 pc') (hv : Int64.ofNat i = v) (hr : own_G w p l e R s m args below meth c Z Q h k n (mkF m pc' Ls (.long v :: st))) : own_G w p l e R s m args below meth c Z Q h k n (mkF m pc Ls st) := by
  obtain ⟨hd, rfl⟩ := hd
  subst hv
  exact own_pure K (fun X _ _ _ _ q => XT.lconst X.here K.1 rfl (hb K.2.1 hd) q) hr
theorem own_dconst0 (K : own_Cx p s m meth c Z own nm bytes maxL ret) {v : UInt64} (hd : own_D bytes pc (.dconst 0) 1 pc') (hv : FP.dconst0 = v) (hr : own_G w p l e R s m args below meth c Z Q h k n (mkF m pc' Ls (.double v :: st))) : own_G w p l e R s m args below meth c Z Q h k n (mkF m pc Ls st) := by
  obtain ⟨hd, rfl⟩ := hd
  exact own_pure K (fun X _ _ _ _ q => XS.dconst0 X.here K.1 rfl (hb K.2.1 hd) hv q) hr
theorem own_dconst1 (K : own_Cx p s m meth c Z own nm bytes maxL ret) {v : UInt64} (hd : own_D bytes pc (.dconst 1) 1 pc') (hv : FP.dconst1 = v) (hr : own_G w p l e R s m args below meth c Z Q h k n (mkF m pc' Ls (.double v :: st))) : own_G w p l e R s m args below meth c Z Q h k n (mkF m pc Ls st) := by
  obtain ⟨hd, rfl⟩ := hd
  exact own_pure K (fun X _ _ _ _ q => XS.dconst1 X.here K.1 rfl (hb K.2.1 hd) hv q) hr
theorem own_aconstNull (K : own_Cx p s m meth c Z own nm bytes maxL ret)  (hd : own_D bytes pc (.aconst_null) 1 pc') (hr : own_G w p l e R s m args below meth c Z Q h k n (mkF m pc' Ls (.null :: st))) : own_G w p l e R s m args below meth c Z Q h k n (mkF m pc Ls (st)) := by
  obtain ⟨hd, rfl⟩ := hd
  exact own_pure K (fun X _ _ _ _ q => XS.aconstNull X.here K.1 rfl (hb K.2.1 hd)  q) hr
theorem own_iadd (K : own_Cx p s m meth c Z own nm bytes maxL ret) {x y : Int32} (hd : own_D bytes pc (.iadd) 1 pc') (hr : own_G w p l e R s m args below meth c Z Q h k n (mkF m pc' Ls (.int (x + y) :: st))) : own_G w p l e R s m args below meth c Z Q h k n (mkF m pc Ls (.int y :: .int x :: st)) := by
  obtain ⟨hd, rfl⟩ := hd
  exact own_pure K (fun X _ _ _ _ q => XS.iadd X.here K.1 rfl (hb K.2.1 hd) rfl q) hr
theorem own_isub (K : own_Cx p s m meth c Z own nm bytes maxL ret) {x y : Int32} (hd : own_D bytes pc (.isub) 1 pc') (hr : own_G w p l e R s m args below meth c Z Q h k n (mkF m pc' Ls (.int (x - y) :: st))) : own_G w p l e R s m args below meth c Z Q h k n (mkF m pc Ls (.int y :: .int x :: st)) := by
  obtain ⟨hd, rfl⟩ := hd
  exact own_pure K (fun X _ _ _ _ q => XS.isub X.here K.1 rfl (hb K.2.1 hd) rfl q) hr
theorem own_iand (K : own_Cx p s m meth c Z own nm bytes maxL ret) {x y : Int32} (hd : own_D bytes pc (.iand) 1 pc') (hr : own_G w p l e R s m args below meth c Z Q h k n (mkF m pc' Ls (.int (x &&& y) :: st))) : own_G w p l e R s m args below meth c Z Q h k n (mkF m pc Ls (.int y :: .int x :: st)) := by
  obtain ⟨hd, rfl⟩ := hd
  exact own_pure K (fun X _ _ _ _ q => XS.iand X.here K.1 rfl (hb K.2.1 hd) rfl q) hr
theorem own_imul (K : own_Cx p s m meth c Z own nm bytes maxL ret) {x y : Int32} (hd : own_D bytes pc (.imul) 1 pc') (hr : own_G w p l e R s m args below meth c Z Q h k n (mkF m pc' Ls (.int (x * y) :: st))) : own_G w p l e R s m args below meth c Z Q h k n (mkF m pc Ls (.int y :: .int x :: st)) := by
  obtain ⟨hd, rfl⟩ := hd
  exact own_pure K (fun X _ _ _ _ q => XS.imul X.here K.1 rfl (hb K.2.1 hd) rfl q) hr
theorem own_ixor (K : own_Cx p s m meth c Z own nm bytes maxL ret) {x y : Int32} (hd : own_D bytes pc (.ixor) 1 pc') (hr : own_G w p l e R s m args below meth c Z Q h k n (mkF m pc' Ls (.int (x ^^^ y) :: st))) : own_G w p l e R s m args below meth c Z Q h k n (mkF m pc Ls (.int y :: .int x :: st)) := by
  obtain ⟨hd, rfl⟩ := hd
  exact own_pure K (fun X _ _ _ _ q => XT.ixor X.here K.1 rfl (hb K.2.1 hd) rfl q) hr
theorem own_ior (K : own_Cx p s m meth c Z own nm bytes maxL ret) {x y : Int32} (hd : own_D bytes pc (.ior) 1 pc') (hr : own_G w p l e R s m args below meth c Z Q h k n (mkF m pc' Ls (.int (x ||| y) :: st))) : own_G w p l e R s m args below meth c Z Q h k n (mkF m pc Ls (.int y :: .int x :: st)) := by
  obtain ⟨hd, rfl⟩ := hd
  exact own_pure K (fun X _ _ _ _ q => XT.ior X.here K.1 rfl (hb K.2.1 hd) rfl q) hr
theorem own_ishl (K : own_Cx p s m meth c Z own nm bytes maxL ret) {x y : Int32} (hd : own_D bytes pc (.ishl) 1 pc') (hr : own_G w p l e R s m args below meth c Z Q h k n (mkF m pc' Ls (.int (x <<< (y &&& 31)) :: st))) : own_G w p l e R s m args below meth c Z Q h k n (mkF m pc Ls (.int y :: .int x :: st)) := by
  obtain ⟨hd, rfl⟩ := hd
  exact own_pure K (fun X _ _ _ _ q => XT.ishl X.here K.1 rfl (hb K.2.1 hd) rfl q) hr
theorem own_ishr (K : own_Cx p s m meth c Z own nm bytes maxL ret) {x y : Int32} (hd : own_D bytes pc (.ishr) 1 pc') (hr : own_G w p l e R s m args below meth c Z Q h k n (mkF m pc' Ls (.int (x >>> (y &&& 31)) :: st))) : own_G w p l e R s m args below meth c Z Q h k n (mkF m pc Ls (.int y :: .int x :: st)) := by
  obtain ⟨hd, rfl⟩ := hd
  exact own_pure K (fun X _ _ _ _ q => XT.ishr X.here K.1 rfl (hb K.2.1 hd) rfl q) hr
theorem own_iushr (K : own_Cx p s m meth c Z own nm bytes maxL ret) {x y : Int32} (hd : own_D bytes pc (.iushr) 1 pc') (hr : own_G w p l e R s m args below meth c Z Q h k n (mkF m pc' Ls (.int (XT.ushr x y) :: st))) : own_G w p l e R s m args below meth c Z Q h k n (mkF m pc Ls (.int y :: .int x :: st)) := by
  obtain ⟨hd, rfl⟩ := hd
  exact own_pure K (fun X _ _ _ _ q => XT.iushr X.here K.1 rfl (hb K.2.1 hd) rfl q) hr
theorem own_ladd (K : own_Cx p s m meth c Z own nm bytes maxL ret) {x y : Int64} (hd : own_D bytes pc (.ladd) 1 pc') (hr : own_G w p l e R s m args below meth c Z Q h k n (mkF m pc' Ls (.long (x + y) :: st))) : own_G w p l e R s m args below meth c Z Q h k n (mkF m pc Ls (.long y :: .long x :: st)) := by
  obtain ⟨hd, rfl⟩ := hd
  exact own_pure K (fun X _ _ _ _ q => XT.ladd X.here K.1 rfl (hb K.2.1 hd) rfl q) hr
theorem own_lsub (K : own_Cx p s m meth c Z own nm bytes maxL ret) {x y : Int64} (hd : own_D bytes pc (.lsub) 1 pc') (hr : own_G w p l e R s m args below meth c Z Q h k n (mkF m pc' Ls (.long (x - y) :: st))) : own_G w p l e R s m args below meth c Z Q h k n (mkF m pc Ls (.long y :: .long x :: st)) := by
  obtain ⟨hd, rfl⟩ := hd
  exact own_pure K (fun X _ _ _ _ q => XT.lsub X.here K.1 rfl (hb K.2.1 hd) rfl q) hr
theorem own_lmul (K : own_Cx p s m meth c Z own nm bytes maxL ret) {x y : Int64} (hd : own_D bytes pc (.lmul) 1 pc') (hr : own_G w p l e R s m args below meth c Z Q h k n (mkF m pc' Ls (.long (x * y) :: st))) : own_G w p l e R s m args below meth c Z Q h k n (mkF m pc Ls (.long y :: .long x :: st)) := by
  obtain ⟨hd, rfl⟩ := hd
  exact own_pure K (fun X _ _ _ _ q => XT.lmul X.here K.1 rfl (hb K.2.1 hd) rfl q) hr
theorem own_land (K : own_Cx p s m meth c Z own nm bytes maxL ret) {x y : Int64} (hd : own_D bytes pc (.land) 1 pc') (hr : own_G w p l e R s m args below meth c Z Q h k n (mkF m pc' Ls (.long (x &&& y) :: st))) : own_G w p l e R s m args below meth c Z Q h k n (mkF m pc Ls (.long y :: .long x :: st)) := by
  obtain ⟨hd, rfl⟩ := hd
  exact own_pure K (fun X _ _ _ _ q => XT.land X.here K.1 rfl (hb K.2.1 hd) rfl q) hr
theorem own_lor (K : own_Cx p s m meth c Z own nm bytes maxL ret) {x y : Int64} (hd : own_D bytes pc (.lor) 1 pc') (hr : own_G w p l e R s m args below meth c Z Q h k n (mkF m pc' Ls (.long (x ||| y) :: st))) : own_G w p l e R s m args below meth c Z Q h k n (mkF m pc Ls (.long y :: .long x :: st)) := by
  obtain ⟨hd, rfl⟩ := hd
  exact own_pure K (fun X _ _ _ _ q => XT.lor X.here K.1 rfl (hb K.2.1 hd) rfl q) hr
theorem own_lxor (K : own_Cx p s m meth c Z own nm bytes maxL ret) {x y : Int64} (hd : own_D bytes pc (.lxor) 1 pc') (hr : own_G w p l e R s m args below meth c Z Q h k n (mkF m pc' Ls (.long (x ^^^ y) :: st))) : own_G w p l e R s m args below meth c Z Q h k n (mkF m pc Ls (.long y :: .long x :: st)) := by
  obtain ⟨hd, rfl⟩ := hd
  exact own_pure K (fun X _ _ _ _ q => XT.lxor X.here K.1 rfl (hb K.2.1 hd) rfl q) hr
theorem own_lshl (K : own_Cx p s m meth c Z own nm bytes maxL ret) {x : Int64} {y : Int32} (hd : own_D bytes pc (.lshl) 1 pc') (hr : own_G w p l e R s m args below meth c Z Q h k n (mkF m pc' Ls (.long (x <<< (y.toInt64 &&& 63)) :: st))) : own_G w p l e R s m args below meth c Z Q h k n (mkF m pc Ls (.int y :: .long x :: st)) := by
  obtain ⟨hd, rfl⟩ := hd
  exact own_pure K (fun X _ _ _ _ q => XT.lshl X.here K.1 rfl (hb K.2.1 hd) rfl q) hr
theorem own_lshr (K : own_Cx p s m meth c Z own nm bytes maxL ret) {x : Int64} {y : Int32} (hd : own_D bytes pc (.lshr) 1 pc') (hr : own_G w p l e R s m args below meth c Z Q h k n (mkF m pc' Ls (.long (x >>> (y.toInt64 &&& 63)) :: st))) : own_G w p l e R s m args below meth c Z Q h k n (mkF m pc Ls (.int y :: .long x :: st)) := by
  obtain ⟨hd, rfl⟩ := hd
  exact own_pure K (fun X _ _ _ _ q => XT.lshr X.here K.1 rfl (hb K.2.1 hd) rfl q) hr
theorem own_lushr (K : own_Cx p s m meth c Z own nm bytes maxL ret) {x : Int64} {y : Int32} (hd : own_D bytes pc (.lushr) 1 pc') (hr : own_G w p l e R s m args below meth c Z Q h k n (mkF m pc' Ls (.long (XT.ushrL x y) :: st))) : own_G w p l e R s m args below meth c Z Q h k n (mkF m pc Ls (.int y :: .long x :: st)) := by
  obtain ⟨hd, rfl⟩ := hd
  exact own_pure K (fun X _ _ _ _ q => XT.lushr X.here K.1 rfl (hb K.2.1 hd) rfl q) hr
theorem own_lcmp (K : own_Cx p s m meth c Z own nm bytes maxL ret) {x y : Int64} (hd : own_D bytes pc (.lcmp) 1 pc') (hr : own_G w p l e R s m args below meth c Z Q h k n (mkF m pc' Ls (.int (XT.cmpL x y) :: st))) : own_G w p l e R s m args below meth c Z Q h k n (mkF m pc Ls (.long y :: .long x :: st)) := by
  obtain ⟨hd, rfl⟩ := hd
  exact own_pure K (fun X _ _ _ _ q => XT.lcmp X.here K.1 rfl (hb K.2.1 hd) rfl q) hr
theorem own_idiv (K : own_Cx p s m meth c Z own nm bytes maxL ret) {x y : Int32} (hd : own_D bytes pc (.idiv) 1 pc') (hy : y ≠ 0) (hr : own_G w p l e R s m args below meth c Z Q h k n (mkF m pc' Ls (.int (x / y) :: st))) : own_G w p l e R s m args below meth c Z Q h k n (mkF m pc Ls (.int y :: .int x :: st)) := by
  obtain ⟨hd, rfl⟩ := hd
  exact own_pure K (fun X _ _ _ _ q => XS.idiv X.here K.1 rfl (hb K.2.1 hd) rfl hy q) hr
theorem own_ldiv (K : own_Cx p s m meth c Z own nm bytes maxL ret) {x y : Int64} (hd : own_D bytes pc (.ldiv) 1 pc') (hy : y ≠ 0) (hr : own_G w p l e R s m args below meth c Z Q h k n (mkF m pc' Ls (.long (x / y) :: st))) : own_G w p l e R s m args below meth c Z Q h k n (mkF m pc Ls (.long y :: .long x :: st)) := by
  obtain ⟨hd, rfl⟩ := hd
  exact own_pure K (fun X _ _ _ _ q => XT.ldiv X.here K.1 rfl (hb K.2.1 hd) rfl hy q) hr
theorem own_irem (K : own_Cx p s m meth c Z own nm bytes maxL ret) {x y : Int32} (hd : own_D bytes pc .irem 1 pc') (hy : y ≠ 0) (hr : own_G w p l e R s m args below meth c Z Q h k n (mkF m pc' Ls (.int (x % y) :: st))) : own_G w p l e R s m args below meth c Z Q h k n (mkF m pc Ls (.int y :: .int x :: st)) := by
  obtain ⟨hd, rfl⟩ := hd
  exact own_pure K (fun X _ _ _ _ q => iremM X K.1 rfl (hb K.2.1 hd) rfl hy q) hr
theorem own_ineg (K : own_Cx p s m meth c Z own nm bytes maxL ret) {x : Int32} (hd : own_D bytes pc (.ineg) 1 pc') (hr : own_G w p l e R s m args below meth c Z Q h k n (mkF m pc' Ls (.int (-x) :: st))) : own_G w p l e R s m args below meth c Z Q h k n (mkF m pc Ls (.int x :: st)) := by
  obtain ⟨hd, rfl⟩ := hd
  exact own_pure K (fun X _ _ _ _ q => XS.ineg X.here K.1 rfl (hb K.2.1 hd) rfl q) hr
theorem own_lneg (K : own_Cx p s m meth c Z own nm bytes maxL ret) {x : Int64} (hd : own_D bytes pc (.lneg) 1 pc') (hr : own_G w p l e R s m args below meth c Z Q h k n (mkF m pc' Ls (.long (-x) :: st))) : own_G w p l e R s m args below meth c Z Q h k n (mkF m pc Ls (.long x :: st)) := by
  obtain ⟨hd, rfl⟩ := hd
  exact own_pure K (fun X _ _ _ _ q => XT.lneg X.here K.1 rfl (hb K.2.1 hd) rfl q) hr
theorem own_i2l (K : own_Cx p s m meth c Z own nm bytes maxL ret) {x : Int32} (hd : own_D bytes pc (.i2l) 1 pc') (hr : own_G w p l e R s m args below meth c Z Q h k n (mkF m pc' Ls (.long (x.toInt64) :: st))) : own_G w p l e R s m args below meth c Z Q h k n (mkF m pc Ls (.int x :: st)) := by
  obtain ⟨hd, rfl⟩ := hd
  exact own_pure K (fun X _ _ _ _ q => XT.i2l X.here K.1 rfl (hb K.2.1 hd) rfl q) hr
theorem own_l2i (K : own_Cx p s m meth c Z own nm bytes maxL ret) {x : Int64} (hd : own_D bytes pc (.l2i) 1 pc') (hr : own_G w p l e R s m args below meth c Z Q h k n (mkF m pc' Ls (.int (x.toInt32) :: st))) : own_G w p l e R s m args below meth c Z Q h k n (mkF m pc Ls (.long x :: st)) := by
  obtain ⟨hd, rfl⟩ := hd
  exact own_pure K (fun X _ _ _ _ q => XT.l2i X.here K.1 rfl (hb K.2.1 hd) rfl q) hr
theorem own_i2b (K : own_Cx p s m meth c Z own nm bytes maxL ret) {x : Int32} (hd : own_D bytes pc (.i2b) 1 pc') (hr : own_G w p l e R s m args below meth c Z Q h k n (mkF m pc' Ls (.int (x.toInt8.toInt32) :: st))) : own_G w p l e R s m args below meth c Z Q h k n (mkF m pc Ls (.int x :: st)) := by
  obtain ⟨hd, rfl⟩ := hd
  exact own_pure K (fun X _ _ _ _ q => XT.i2b X.here K.1 rfl (hb K.2.1 hd) rfl q) hr
theorem own_i2c (K : own_Cx p s m meth c Z own nm bytes maxL ret) {x : Int32} (hd : own_D bytes pc (.i2c) 1 pc') (hr : own_G w p l e R s m args below meth c Z Q h k n (mkF m pc' Ls (.int (x.toUInt32.toUInt16.toUInt32.toInt32) :: st))) : own_G w p l e R s m args below meth c Z Q h k n (mkF m pc Ls (.int x :: st)) := by
  obtain ⟨hd, rfl⟩ := hd
  exact own_pure K (fun X _ _ _ _ q => XT.i2c X.here K.1 rfl (hb K.2.1 hd) rfl q) hr
theorem own_i2s (K : own_Cx p s m meth c Z own nm bytes maxL ret) {x : Int32} (hd : own_D bytes pc (.i2s) 1 pc') (hr : own_G w p l e R s m args below meth c Z Q h k n (mkF m pc' Ls (.int (x.toInt16.toInt32) :: st))) : own_G w p l e R s m args below meth c Z Q h k n (mkF m pc Ls (.int x :: st)) := by
  obtain ⟨hd, rfl⟩ := hd
  exact own_pure K (fun X _ _ _ _ q => XT.i2s X.here K.1 rfl (hb K.2.1 hd) rfl q) hr
theorem own_i2d (K : own_Cx p s m meth c Z own nm bytes maxL ret) {x : Int32} (hd : own_D bytes pc (.i2d) 1 pc') (hr : own_G w p l e R s m args below meth c Z Q h k n (mkF m pc' Ls (.double (FP.i2d x) :: st))) : own_G w p l e R s m args below meth c Z Q h k n (mkF m pc Ls (.int x :: st)) := by
  obtain ⟨hd, rfl⟩ := hd
  exact own_pure K (fun X _ _ _ _ q => XS.i2dS X.here K.1 rfl (hb K.2.1 hd) rfl rfl q) hr
theorem own_l2d (K : own_Cx p s m meth c Z own nm bytes maxL ret) {x : Int64} (hd : own_D bytes pc (.l2d) 1 pc') (hr : own_G w p l e R s m args below meth c Z Q h k n (mkF m pc' Ls (.double (FP.l2d x) :: st))) : own_G w p l e R s m args below meth c Z Q h k n (mkF m pc Ls (.long x :: st)) := by
  obtain ⟨hd, rfl⟩ := hd
  exact own_pure K (fun X _ _ _ _ q => XS.l2dS X.here K.1 rfl (hb K.2.1 hd) rfl rfl q) hr
theorem own_dneg (K : own_Cx p s m meth c Z own nm bytes maxL ret) {x : UInt64} (hd : own_D bytes pc (.dneg) 1 pc') (hr : own_G w p l e R s m args below meth c Z Q h k n (mkF m pc' Ls (.double (FP.dneg x) :: st))) : own_G w p l e R s m args below meth c Z Q h k n (mkF m pc Ls (.double x :: st)) := by
  obtain ⟨hd, rfl⟩ := hd
  exact own_pure K (fun X _ _ _ _ q => XS.dnegS X.here K.1 rfl (hb K.2.1 hd) rfl rfl q) hr
theorem own_dcmp (K : own_Cx p s m meth c Z own nm bytes maxL ret) {oo : CmpOp} {x y : UInt64} (hd : own_D bytes pc (.dcmp oo) 1 pc') (hr : own_G w p l e R s m args below meth c Z Q h k n (mkF m pc' Ls (.int (cmpValue (FP.dcmp x y) oo) :: st))) : own_G w p l e R s m args below meth c Z Q h k n (mkF m pc Ls (.double y :: .double x :: st)) := by
  obtain ⟨hd, rfl⟩ := hd
  exact own_pure K (fun X _ _ _ _ q => XS.dcmpS X.here K.1 rfl (hb K.2.1 hd) rfl rfl q) hr
theorem own_dadd (K : own_Cx p s m meth c Z own nm bytes maxL ret) {x y : UInt64} (hd : own_D bytes pc (.dadd) 1 pc') (hn : Jvm.Free.Fl.NoNaN64 (FP.dadd x y)) (hr : own_G w p l e R s m args below meth c Z Q h k n (mkF m pc' Ls (.double (FP.dadd x y) :: st))) : own_G w p l e R s m args below meth c Z Q h k n (mkF m pc Ls (.double y :: .double x :: st)) := by
  obtain ⟨hd, rfl⟩ := hd
  exact own_pure K (fun X _ _ _ _ q => XS.daddS X.here K.1 rfl (hb K.2.1 hd) rfl hn rfl q) hr
theorem own_dsub (K : own_Cx p s m meth c Z own nm bytes maxL ret) {x y : UInt64} (hd : own_D bytes pc (.dsub) 1 pc') (hn : Jvm.Free.Fl.NoNaN64 (FP.dsub x y)) (hr : own_G w p l e R s m args below meth c Z Q h k n (mkF m pc' Ls (.double (FP.dsub x y) :: st))) : own_G w p l e R s m args below meth c Z Q h k n (mkF m pc Ls (.double y :: .double x :: st)) := by
  obtain ⟨hd, rfl⟩ := hd
  exact own_pure K (fun X _ _ _ _ q => XS.dsubS X.here K.1 rfl (hb K.2.1 hd) rfl hn rfl q) hr
theorem own_dmul (K : own_Cx p s m meth c Z own nm bytes maxL ret) {x y : UInt64} (hd : own_D bytes pc (.dmul) 1 pc') (hn : Jvm.Free.Fl.NoNaN64 (FP.dmul x y)) (hr : own_G w p l e R s m args below meth c Z Q h k n (mkF m pc' Ls (.double (FP.dmul x y) :: st))) : own_G w p l e R s m args below meth c Z Q h k n (mkF m pc Ls (.double y :: .double x :: st)) := by
  obtain ⟨hd, rfl⟩ := hd
  exact own_pure K (fun X _ _ _ _ q => XS.dmulS X.here K.1 rfl (hb K.2.1 hd) rfl hn rfl q) hr
theorem own_ddiv (K : own_Cx p s m meth c Z own nm bytes maxL ret) {x y : UInt64} (hd : own_D bytes pc (.ddiv) 1 pc') (hn : Jvm.Free.Fl.NoNaN64 (FP.ddiv x y)) (hr : own_G w p l e R s m args below meth c Z Q h k n (mkF m pc' Ls (.double (FP.ddiv x y) :: st))) : own_G w p l e R s m args below meth c Z Q h k n (mkF m pc Ls (.double y :: .double x :: st)) := by
  obtain ⟨hd, rfl⟩ := hd
  exact own_pure K (fun X _ _ _ _ q => XS.ddivS X.here K.1 rfl (hb K.2.1 hd) rfl hn rfl q) hr
theorem own_dup (K : own_Cx p s m meth c Z own nm bytes maxL ret) {x : Value} (hd : own_D bytes pc (.dup) 1 pc') (hc : x.category = 1) (hr : own_G w p l e R s m args below meth c Z Q h k n (mkF m pc' Ls (x :: x :: st))) : own_G w p l e R s m args below meth c Z Q h k n (mkF m pc Ls (x :: st)) := by
  obtain ⟨hd, rfl⟩ := hd
  exact own_pure K (fun X _ _ _ _ q => XS.dup X.here K.1 rfl (hb K.2.1 hd) rfl hc q) hr
theorem own_pop (K : own_Cx p s m meth c Z own nm bytes maxL ret) {x : Value} (hd : own_D bytes pc (.pop) 1 pc') (hc : x.category = 1) (hr : own_G w p l e R s m args below meth c Z Q h k n (mkF m pc' Ls (st))) : own_G w p l e R s m args below meth c Z Q h k n (mkF m pc Ls (x :: st)) := by
  obtain ⟨hd, rfl⟩ := hd
  exact own_pure K (fun X _ _ _ _ q => XT.pop X.here K.1 rfl (hb K.2.1 hd) rfl hc q) hr
theorem own_dupX1 (K : own_Cx p s m meth c Z own nm bytes maxL ret) {x y : Value} (hd : own_D bytes pc (.dup_x1) 1 pc') (hc : x.category = 1) (hc' : y.category = 1) (hr : own_G w p l e R s m args below meth c Z Q h k n (mkF m pc' Ls (x :: y :: x :: st))) : own_G w p l e R s m args below meth c Z Q h k n (mkF m pc Ls (x :: y :: st)) := by
  obtain ⟨hd, rfl⟩ := hd
  exact own_pure K (fun X _ _ _ _ q => XT.dupX1 X.here K.1 rfl (hb K.2.1 hd) rfl hc hc' q) hr
theorem own_dup2 (K : own_Cx p s m meth c Z own nm bytes maxL ret) {x y : Value} (hd : own_D bytes pc (.dup2) 1 pc') (hc : x.category = 1) (hc' : y.category = 1) (hr : own_G w p l e R s m args below meth c Z Q h k n (mkF m pc' Ls (x :: y :: x :: y :: st))) : own_G w p l e R s m args below meth c Z Q h k n (mkF m pc Ls (x :: y :: st)) := by
  obtain ⟨hd, rfl⟩ := hd
  exact own_pure K (fun X _ _ _ _ q => XT.dup2 X.here K.1 rfl (hb K.2.1 hd) rfl hc hc' q) hr
theorem own_iinc (K : own_Cx p s m meth c Z own nm bytes maxL ret) {kk : Nat} {cst : Int} {x y : Int32} (hd : own_D bytes pc (.iinc kk cst) 3 pc') (hl : Ls[kk]? = some (.val (.int x))) (hy : x + Int32.ofInt cst = y) (hl' : storeLocals Ls kk (.int y) = some Ls') (hr : own_G w p l e R s m args below meth c Z Q h k n (mkF m pc' Ls' st)) : own_G w p l e R s m args below meth c Z Q h k n (mkF m pc Ls st) := by
  obtain ⟨hd, rfl⟩ := hd
  subst hy
  exact own_pure K (fun X _ _ _ _ q => XS.iinc X.here K.1 rfl (hb K.2.1 hd) hl hl' q) hr
theorem own_goto (K : own_Cx p s m meth c Z own nm bytes maxL ret) {off : Int} {pcF : Nat} (hd : own_B bytes pc (.goto off) off pcF pcT) (hr : own_G w p l e R s m args below meth c Z Q h k n (mkF m pcT Ls st)) : own_G w p l e R s m args below meth c Z Q h k n (mkF m pc Ls st) := by
  obtain ⟨hd, -, h1, h2⟩ := hd
  exact own_pure K (fun X _ _ _ _ q => XS.goto X.here K.1 rfl rfl (hb K.2.1 hd) h1 h2 q) hr
theorem own_ldcI (K : own_Cx p s m meth c Z own nm bytes maxL ret) {i : Nat} {v : Int32} (hd : own_D bytes pc (.ldc i) 2 pc') (wc : (Cond.constant own i v).before a0 Z = true) (hr : own_G w p l e R s m args below meth c Z Q h k n (mkF m pc' Ls (.int v :: st))) : own_G w p l e R s m args below meth c Z Q h k n (mkF m pc Ls st) := by
  obtain ⟨hd, rfl⟩ := hd
  exact own_pure K (fun X hZ ho _ _ q => X.ldcI K.1 ho (mvT hZ wc) rfl (hb K.2.1 hd) q) hr
theorem own_ldc2J (K : own_Cx p s m meth c Z own nm bytes maxL ret) {i : Nat} {v : Int64} (hd : own_D bytes pc (.ldc2_w i) 3 pc') (wc : (Cond.constantLong own i v).before a0 Z = true) (hr : own_G w p l e R s m args below meth c Z Q h k n (mkF m pc' Ls (.long v :: st))) : own_G w p l e R s m args below meth c Z Q h k n (mkF m pc Ls st) := by
  obtain ⟨hd, rfl⟩ := hd
  exact own_pure K (fun X hZ ho _ _ q => X.ldc2J K.1 ho (mvT hZ wc) rfl (hb K.2.1 hd) q) hr
theorem own_ldc2D (K : own_Cx p s m meth c Z own nm bytes maxL ret) {i : Nat} {v : UInt64} (hd : own_D bytes pc (.ldc2_w i) 3 pc') (wc : (Cond.constantDouble own i v).before a0 Z = true) (hr : own_G w p l e R s m args below meth c Z Q h k n (mkF m pc' Ls (.double v :: st))) : own_G w p l e R s m args below meth c Z Q h k n (mkF m pc Ls st) := by
  obtain ⟨hd, rfl⟩ := hd
  exact own_pure K (fun X hZ ho _ _ q => X.ldc2DoubleC K.1 ho (mvT hZ wc) (g := mkF m pc Ls st) rfl (hb K.2.1 hd) _ q) hr
theorem own_i0_eq (x : Int32) : (ifCond.holds .eq x = true) = (x = 0) := by simp [ifCond.holds, Int32.lt_iff_toInt_lt, Int32.le_iff_toInt_le]
theorem own_ii_eq (x y : Int32) : (if_icmp.holds .eq x y = true) = (x = y) := by simp [if_icmp.holds, Int32.lt_iff_toInt_lt, Int32.le_iff_toInt_le]
theorem own_ifeq (K : own_Cx p s m meth c Z own nm bytes maxL ret) {off : Int} {pcF : Nat} {x : Int32} (hd : own_B bytes pc (.ifCond .eq off) off pcF pcT) (hT : (x = 0) → own_G w p l e R s m args below meth c Z Q h k n (mkF m pcT Ls st)) (hF : ¬ (x = 0) → own_G w p l e R s m args below meth c Z Q h k n (mkF m pcF Ls st)) : own_G w p l e R s m args below meth c Z Q h k n (mkF m pc Ls (.int x :: st)) := by
  obtain ⟨hd, rfl, h1, h2⟩ := hd
  by_cases q : ifCond.holds .eq x = true
  · exact own_pure K (fun X _ _ _ _ r => XS.ifYes X.here K.1 rfl rfl (hb K.2.1 hd) rfl q h1 h2 r) (hT ((own_i0_eq x).mp q))
  · exact own_pure K (fun X _ _ _ _ r => XS.ifNo X.here K.1 rfl (hb K.2.1 hd) rfl (Bool.eq_false_iff.mpr q) r) (hF fun z => q ((own_i0_eq x).mpr z))
theorem own_icmpeq (K : own_Cx p s m meth c Z own nm bytes maxL ret) {off : Int} {pcF : Nat} {x y : Int32} (hd : own_B bytes pc (.if_icmp .eq off) off pcF pcT) (hT : (x = y) → own_G w p l e R s m args below meth c Z Q h k n (mkF m pcT Ls st)) (hF : ¬ (x = y) → own_G w p l e R s m args below meth c Z Q h k n (mkF m pcF Ls st)) : own_G w p l e R s m args below meth c Z Q h k n (mkF m pc Ls (.int y :: .int x :: st)) := by
  obtain ⟨hd, rfl, h1, h2⟩ := hd
  by_cases q : if_icmp.holds .eq x y = true
  · exact own_pure K (fun X _ _ _ _ r => XS.icmpYes X.here K.1 rfl rfl (hb K.2.1 hd) rfl q h1 h2 r) (hT ((own_ii_eq x y).mp q))
  · exact own_pure K (fun X _ _ _ _ r => XS.icmpNo X.here K.1 rfl (hb K.2.1 hd) rfl (Bool.eq_false_iff.mpr q) r) (hF fun z => q ((own_ii_eq x y).mpr z))
theorem own_i0_ne (x : Int32) : (ifCond.holds .ne x = true) = (x ≠ 0) := by simp [ifCond.holds, Int32.lt_iff_toInt_lt, Int32.le_iff_toInt_le]
theorem own_ii_ne (x y : Int32) : (if_icmp.holds .ne x y = true) = (x ≠ y) := by simp [if_icmp.holds, Int32.lt_iff_toInt_lt, Int32.le_iff_toInt_le]
theorem own_ifne (K : own_Cx p s m meth c Z own nm bytes maxL ret) {off : Int} {pcF : Nat} {x : Int32} (hd : own_B bytes pc (.ifCond .ne off) off pcF pcT) (hT : (x ≠ 0) → own_G w p l e R s m args below meth c Z Q h k n (mkF m pcT Ls st)) (hF : ¬ (x ≠ 0) → own_G w p l e R s m args below meth c Z Q h k n (mkF m pcF Ls st)) : own_G w p l e R s m args below meth c Z Q h k n (mkF m pc Ls (.int x :: st)) := by
  obtain ⟨hd, rfl, h1, h2⟩ := hd
  by_cases q : ifCond.holds .ne x = true
  · exact own_pure K (fun X _ _ _ _ r => XS.ifYes X.here K.1 rfl rfl (hb K.2.1 hd) rfl q h1 h2 r) (hT ((own_i0_ne x).mp q))
  · exact own_pure K (fun X _ _ _ _ r => XS.ifNo X.here K.1 rfl (hb K.2.1 hd) rfl (Bool.eq_false_iff.mpr q) r) (hF fun z => q ((own_i0_ne x).mpr z))
theorem own_icmpne (K : own_Cx p s m meth c Z own nm bytes maxL ret) {off : Int} {pcF : Nat} {x y : Int32} (hd : own_B bytes pc (.if_icmp .ne off) off pcF pcT) (hT : (x ≠ y) → own_G w p l e R s m args below meth c Z Q h k n (mkF m pcT Ls st)) (hF : ¬ (x ≠ y) → own_G w p l e R s m args below meth c Z Q h k n (mkF m pcF Ls st)) : own_G w p l e R s m args below meth c Z Q h k n (mkF m pc Ls (.int y :: .int x :: st)) := by
  obtain ⟨hd, rfl, h1, h2⟩ := hd
  by_cases q : if_icmp.holds .ne x y = true
  · exact own_pure K (fun X _ _ _ _ r => XS.icmpYes X.here K.1 rfl rfl (hb K.2.1 hd) rfl q h1 h2 r) (hT ((own_ii_ne x y).mp q))
  · exact own_pure K (fun X _ _ _ _ r => XS.icmpNo X.here K.1 rfl (hb K.2.1 hd) rfl (Bool.eq_false_iff.mpr q) r) (hF fun z => q ((own_ii_ne x y).mpr z))
theorem own_i0_lt (x : Int32) : (ifCond.holds .lt x = true) = (x.toInt < 0) := by simp [ifCond.holds, Int32.lt_iff_toInt_lt, Int32.le_iff_toInt_le]
theorem own_ii_lt (x y : Int32) : (if_icmp.holds .lt x y = true) = (x.toInt < y.toInt) := by simp [if_icmp.holds, Int32.lt_iff_toInt_lt, Int32.le_iff_toInt_le]
theorem own_iflt (K : own_Cx p s m meth c Z own nm bytes maxL ret) {off : Int} {pcF : Nat} {x : Int32} (hd : own_B bytes pc (.ifCond .lt off) off pcF pcT) (hT : (x.toInt < 0) → own_G w p l e R s m args below meth c Z Q h k n (mkF m pcT Ls st)) (hF : ¬ (x.toInt < 0) → own_G w p l e R s m args below meth c Z Q h k n (mkF m pcF Ls st)) : own_G w p l e R s m args below meth c Z Q h k n (mkF m pc Ls (.int x :: st)) := by
  obtain ⟨hd, rfl, h1, h2⟩ := hd
  by_cases q : ifCond.holds .lt x = true
  · exact own_pure K (fun X _ _ _ _ r => XS.ifYes X.here K.1 rfl rfl (hb K.2.1 hd) rfl q h1 h2 r) (hT ((own_i0_lt x).mp q))
  · exact own_pure K (fun X _ _ _ _ r => XS.ifNo X.here K.1 rfl (hb K.2.1 hd) rfl (Bool.eq_false_iff.mpr q) r) (hF fun z => q ((own_i0_lt x).mpr z))
theorem own_icmplt (K : own_Cx p s m meth c Z own nm bytes maxL ret) {off : Int} {pcF : Nat} {x y : Int32} (hd : own_B bytes pc (.if_icmp .lt off) off pcF pcT) (hT : (x.toInt < y.toInt) → own_G w p l e R s m args below meth c Z Q h k n (mkF m pcT Ls st)) (hF : ¬ (x.toInt < y.toInt) → own_G w p l e R s m args below meth c Z Q h k n (mkF m pcF Ls st)) : own_G w p l e R s m args below meth c Z Q h k n (mkF m pc Ls (.int y :: .int x :: st)) := by
  obtain ⟨hd, rfl, h1, h2⟩ := hd
  by_cases q : if_icmp.holds .lt x y = true
  · exact own_pure K (fun X _ _ _ _ r => XS.icmpYes X.here K.1 rfl rfl (hb K.2.1 hd) rfl q h1 h2 r) (hT ((own_ii_lt x y).mp q))
  · exact own_pure K (fun X _ _ _ _ r => XS.icmpNo X.here K.1 rfl (hb K.2.1 hd) rfl (Bool.eq_false_iff.mpr q) r) (hF fun z => q ((own_ii_lt x y).mpr z))
theorem own_i0_ge (x : Int32) : (ifCond.holds .ge x = true) = (0 ≤ x.toInt) := by simp [ifCond.holds, Int32.lt_iff_toInt_lt, Int32.le_iff_toInt_le]
theorem own_ii_ge (x y : Int32) : (if_icmp.holds .ge x y = true) = (y.toInt ≤ x.toInt) := by simp [if_icmp.holds, Int32.lt_iff_toInt_lt, Int32.le_iff_toInt_le]
theorem own_ifge (K : own_Cx p s m meth c Z own nm bytes maxL ret) {off : Int} {pcF : Nat} {x : Int32} (hd : own_B bytes pc (.ifCond .ge off) off pcF pcT) (hT : (0 ≤ x.toInt) → own_G w p l e R s m args below meth c Z Q h k n (mkF m pcT Ls st)) (hF : ¬ (0 ≤ x.toInt) → own_G w p l e R s m args below meth c Z Q h k n (mkF m pcF Ls st)) : own_G w p l e R s m args below meth c Z Q h k n (mkF m pc Ls (.int x :: st)) := by
  obtain ⟨hd, rfl, h1, h2⟩ := hd
  by_cases q : ifCond.holds .ge x = true
  · exact own_pure K (fun X _ _ _ _ r => XS.ifYes X.here K.1 rfl rfl (hb K.2.1 hd) rfl q h1 h2 r) (hT ((own_i0_ge x).mp q))
  · exact own_pure K (fun X _ _ _ _ r => XS.ifNo X.here K.1 rfl (hb K.2.1 hd) rfl (Bool.eq_false_iff.mpr q) r) (hF fun z => q ((own_i0_ge x).mpr z))
theorem own_icmpge (K : own_Cx p s m meth c Z own nm bytes maxL ret) {off : Int} {pcF : Nat} {x y : Int32} (hd : own_B bytes pc (.if_icmp .ge off) off pcF pcT) (hT : (y.toInt ≤ x.toInt) → own_G w p l e R s m args below meth c Z Q h k n (mkF m pcT Ls st)) (hF : ¬ (y.toInt ≤ x.toInt) → own_G w p l e R s m args below meth c Z Q h k n (mkF m pcF Ls st)) : own_G w p l e R s m args below meth c Z Q h k n (mkF m pc Ls (.int y :: .int x :: st)) := by
  obtain ⟨hd, rfl, h1, h2⟩ := hd
  by_cases q : if_icmp.holds .ge x y = true
  · exact own_pure K (fun X _ _ _ _ r => XS.icmpYes X.here K.1 rfl rfl (hb K.2.1 hd) rfl q h1 h2 r) (hT ((own_ii_ge x y).mp q))
  · exact own_pure K (fun X _ _ _ _ r => XS.icmpNo X.here K.1 rfl (hb K.2.1 hd) rfl (Bool.eq_false_iff.mpr q) r) (hF fun z => q ((own_ii_ge x y).mpr z))
theorem own_i0_gt (x : Int32) : (ifCond.holds .gt x = true) = (0 < x.toInt) := by simp [ifCond.holds, Int32.lt_iff_toInt_lt, Int32.le_iff_toInt_le]
theorem own_ii_gt (x y : Int32) : (if_icmp.holds .gt x y = true) = (y.toInt < x.toInt) := by simp [if_icmp.holds, Int32.lt_iff_toInt_lt, Int32.le_iff_toInt_le]
theorem own_ifgt (K : own_Cx p s m meth c Z own nm bytes maxL ret) {off : Int} {pcF : Nat} {x : Int32} (hd : own_B bytes pc (.ifCond .gt off) off pcF pcT) (hT : (0 < x.toInt) → own_G w p l e R s m args below meth c Z Q h k n (mkF m pcT Ls st)) (hF : ¬ (0 < x.toInt) → own_G w p l e R s m args below meth c Z Q h k n (mkF m pcF Ls st)) : own_G w p l e R s m args below meth c Z Q h k n (mkF m pc Ls (.int x :: st)) := by
  obtain ⟨hd, rfl, h1, h2⟩ := hd
  by_cases q : ifCond.holds .gt x = true
  · exact own_pure K (fun X _ _ _ _ r => XS.ifYes X.here K.1 rfl rfl (hb K.2.1 hd) rfl q h1 h2 r) (hT ((own_i0_gt x).mp q))
  · exact own_pure K (fun X _ _ _ _ r => XS.ifNo X.here K.1 rfl (hb K.2.1 hd) rfl (Bool.eq_false_iff.mpr q) r) (hF fun z => q ((own_i0_gt x).mpr z))
theorem own_icmpgt (K : own_Cx p s m meth c Z own nm bytes maxL ret) {off : Int} {pcF : Nat} {x y : Int32} (hd : own_B bytes pc (.if_icmp .gt off) off pcF pcT) (hT : (y.toInt < x.toInt) → own_G w p l e R s m args below meth c Z Q h k n (mkF m pcT Ls st)) (hF : ¬ (y.toInt < x.toInt) → own_G w p l e R s m args below meth c Z Q h k n (mkF m pcF Ls st)) : own_G w p l e R s m args below meth c Z Q h k n (mkF m pc Ls (.int y :: .int x :: st)) := by
  obtain ⟨hd, rfl, h1, h2⟩ := hd
  by_cases q : if_icmp.holds .gt x y = true
  · exact own_pure K (fun X _ _ _ _ r => XS.icmpYes X.here K.1 rfl rfl (hb K.2.1 hd) rfl q h1 h2 r) (hT ((own_ii_gt x y).mp q))
  · exact own_pure K (fun X _ _ _ _ r => XS.icmpNo X.here K.1 rfl (hb K.2.1 hd) rfl (Bool.eq_false_iff.mpr q) r) (hF fun z => q ((own_ii_gt x y).mpr z))
theorem own_i0_le (x : Int32) : (ifCond.holds .le x = true) = (x.toInt ≤ 0) := by simp [ifCond.holds, Int32.lt_iff_toInt_lt, Int32.le_iff_toInt_le]
theorem own_ii_le (x y : Int32) : (if_icmp.holds .le x y = true) = (x.toInt ≤ y.toInt) := by simp [if_icmp.holds, Int32.lt_iff_toInt_lt, Int32.le_iff_toInt_le]
theorem own_ifle (K : own_Cx p s m meth c Z own nm bytes maxL ret) {off : Int} {pcF : Nat} {x : Int32} (hd : own_B bytes pc (.ifCond .le off) off pcF pcT) (hT : (x.toInt ≤ 0) → own_G w p l e R s m args below meth c Z Q h k n (mkF m pcT Ls st)) (hF : ¬ (x.toInt ≤ 0) → own_G w p l e R s m args below meth c Z Q h k n (mkF m pcF Ls st)) : own_G w p l e R s m args below meth c Z Q h k n (mkF m pc Ls (.int x :: st)) := by
  obtain ⟨hd, rfl, h1, h2⟩ := hd
  by_cases q : ifCond.holds .le x = true
  · exact own_pure K (fun X _ _ _ _ r => XS.ifYes X.here K.1 rfl rfl (hb K.2.1 hd) rfl q h1 h2 r) (hT ((own_i0_le x).mp q))
  · exact own_pure K (fun X _ _ _ _ r => XS.ifNo X.here K.1 rfl (hb K.2.1 hd) rfl (Bool.eq_false_iff.mpr q) r) (hF fun z => q ((own_i0_le x).mpr z))
theorem own_icmple (K : own_Cx p s m meth c Z own nm bytes maxL ret) {off : Int} {pcF : Nat} {x y : Int32} (hd : own_B bytes pc (.if_icmp .le off) off pcF pcT) (hT : (x.toInt ≤ y.toInt) → own_G w p l e R s m args below meth c Z Q h k n (mkF m pcT Ls st)) (hF : ¬ (x.toInt ≤ y.toInt) → own_G w p l e R s m args below meth c Z Q h k n (mkF m pcF Ls st)) : own_G w p l e R s m args below meth c Z Q h k n (mkF m pc Ls (.int y :: .int x :: st)) := by
  obtain ⟨hd, rfl, h1, h2⟩ := hd
  by_cases q : if_icmp.holds .le x y = true
  · exact own_pure K (fun X _ _ _ _ r => XS.icmpYes X.here K.1 rfl rfl (hb K.2.1 hd) rfl q h1 h2 r) (hT ((own_ii_le x y).mp q))
  · exact own_pure K (fun X _ _ _ _ r => XS.icmpNo X.here K.1 rfl (hb K.2.1 hd) rfl (Bool.eq_false_iff.mpr q) r) (hF fun z => q ((own_ii_le x y).mpr z))
theorem own_ifnullN (K : own_Cx p s m meth c Z own nm bytes maxL ret) {off : Int} {pcF : Nat} (hd : own_B bytes pc (.ifnull off) off pcF pcT) (hr : own_G w p l e R s m args below meth c Z Q h k n (mkF m pcT Ls st)) : own_G w p l e R s m args below meth c Z Q h k n (mkF m pc Ls (.null :: st)) := by
  obtain ⟨hd, rfl, h1, h2⟩ := hd
  exact own_pure K (fun X _ _ _ _ r => XS.ifnullYes X.here K.1 rfl rfl (hb K.2.1 hd) rfl h1 h2 r) hr
theorem own_ifnullR (K : own_Cx p s m meth c Z own nm bytes maxL ret) {off : Int} {pcF : Nat} {b : Addr} (hd : own_B bytes pc (.ifnull off) off pcF pcT) (hr : own_G w p l e R s m args below meth c Z Q h k n (mkF m pcF Ls st)) : own_G w p l e R s m args below meth c Z Q h k n (mkF m pc Ls (.ref b :: st)) := by
  obtain ⟨hd, rfl, h1, h2⟩ := hd
  exact own_pure K (fun X _ _ _ _ r => XS.ifnullNo X.here K.1 rfl (hb K.2.1 hd) rfl r) hr
theorem own_ifnonnullN (K : own_Cx p s m meth c Z own nm bytes maxL ret) {off : Int} {pcF : Nat} (hd : own_B bytes pc (.ifnonnull off) off pcF pcT) (hr : own_G w p l e R s m args below meth c Z Q h k n (mkF m pcF Ls st)) : own_G w p l e R s m args below meth c Z Q h k n (mkF m pc Ls (.null :: st)) := by
  obtain ⟨hd, rfl, h1, h2⟩ := hd
  exact own_pure K (fun X _ _ _ _ r => XT.ifnonnullNo X.here K.1 rfl (hb K.2.1 hd) rfl r) hr
theorem own_ifnonnullR (K : own_Cx p s m meth c Z own nm bytes maxL ret) {off : Int} {pcF : Nat} {b : Addr} (hd : own_B bytes pc (.ifnonnull off) off pcF pcT) (hr : own_G w p l e R s m args below meth c Z Q h k n (mkF m pcT Ls st)) : own_G w p l e R s m args below meth c Z Q h k n (mkF m pc Ls (.ref b :: st)) := by
  obtain ⟨hd, rfl, h1, h2⟩ := hd
  exact own_pure K (fun X _ _ _ _ r => XT.ifnonnullYes X.here K.1 rfl rfl (hb K.2.1 hd) rfl h1 h2 r) hr
theorem own_acmpeq (K : own_Cx p s m meth c Z own nm bytes maxL ret) {off : Int} {pcF : Nat} {x y : Value} (hd : own_B bytes pc (.if_acmp .eq off) off pcF pcT) (h1' : x.isRef = true) (h2' : y.isRef = true) (hT : (x = y) → own_G w p l e R s m args below meth c Z Q h k n (mkF m pcT Ls st)) (hF : ¬ (x = y) → own_G w p l e R s m args below meth c Z Q h k n (mkF m pcF Ls st)) : own_G w p l e R s m args below meth c Z Q h k n (mkF m pc Ls (y :: x :: st)) := by
  obtain ⟨hd, rfl, h1, h2⟩ := hd
  by_cases q : x = y
  · exact own_pure K (fun X _ _ _ _ r => XT.acmpYes X.here K.1 rfl rfl (hb K.2.1 hd) rfl h1' h2' (decide_eq_true q) h1 h2 r) (hT q)
  · exact own_pure K (fun X _ _ _ _ r => XT.acmpNo X.here K.1 rfl (hb K.2.1 hd) rfl h1' h2' (decide_eq_false q) r) (hF q)
theorem own_acmpne (K : own_Cx p s m meth c Z own nm bytes maxL ret) {off : Int} {pcF : Nat} {x y : Value} (hd : own_B bytes pc (.if_acmp .ne off) off pcF pcT) (h1' : x.isRef = true) (h2' : y.isRef = true) (hT : (x ≠ y) → own_G w p l e R s m args below meth c Z Q h k n (mkF m pcT Ls st)) (hF : ¬ (x ≠ y) → own_G w p l e R s m args below meth c Z Q h k n (mkF m pcF Ls st)) : own_G w p l e R s m args below meth c Z Q h k n (mkF m pc Ls (y :: x :: st)) := by
  obtain ⟨hd, rfl, h1, h2⟩ := hd
  by_cases q : x ≠ y
  · exact own_pure K (fun X _ _ _ _ r => XT.acmpYes X.here K.1 rfl rfl (hb K.2.1 hd) rfl h1' h2' (decide_eq_true q) h1 h2 r) (hT q)
  · exact own_pure K (fun X _ _ _ _ r => XT.acmpNo X.here K.1 rfl (hb K.2.1 hd) rfl h1' h2' (decide_eq_false q) r) (hF q)
theorem own_getfield (K : own_Cx p s m meth c Z own nm bytes maxL ret) {i j q : Nat} {R0 O f d host C : String} {v : Value} {a : Addr} {fs : List (String × String × String × Value)} (hd : own_D bytes pc (.getfield i) 3 pc') (wl : (Cond.fieldLink own i R0 f d).before a0 Z = true ∨ (Cond.fieldLinkNest own i R0 f d host).before a0 Z = true) (via : Via Z R0 O f d) (H : own_H Z h os as) (ho : os[j]? = some (a, C, fs)) (hf : fs[q]? = some (O, f, d, v)) (hr : own_G w p l e R s m args below meth c Z Q h k n (mkF m pc' Ls (v :: st))) : own_G w p l e R s m args below meth c Z Q h k n (mkF m pc Ls (.ref a :: st)) := by
  obtain ⟨hd, rfl⟩ := hd
  refine own_step K (P := fun h' => h' = h) (fun X hZ hw eT N => ?_) (fun h' e => by subst e; exact hr)
  obtain ⟨T', X', e', st⟩ := getF X K.1 hZ hw wl via eT (H.fld ho hf) (g := mkF m pc Ls (.ref a :: st)) rfl rfl (hb K.2.1 hd)
  exact ⟨T', _, _, X', N, e', Nat.le_refl _, rfl, st⟩
theorem own_putfield (K : own_Cx p s m meth c Z own nm bytes maxL ret) {i j q kk : Nat} {R0 O f d host C : String} {v v0 : Value} {a : Addr} {fs : List (String × String × String × Value)} {ty : FieldType} (hd : own_D bytes pc (.putfield i) 3 pc') (wl : (Cond.fieldLink own i R0 f d).before a0 Z = true ∨ (Cond.fieldLinkNest own i R0 f d host).before a0 Z = true) (via : Via Z R0 O f d) (H : own_H Z h os as) (ho : os[j]? = some (a, C, fs)) (hf : fs[q]? = some (O, f, d, v0))
    (L : (Cond.lays C O f d).before a0 Z = true ∨ ((Cond.laysFinal C O f d).before a0 Z = true ∧ own = O ∧ nm = "<init>")) (wi : (Cond.instantiable C kk).before a0 Z = true) (hty : parseFieldDescriptor d = some ty) (hn : narrow ty v = v) (hfit : fits ty v = true) (hr : ∀ h', own_H Z h' (os.set j (a, C, fs.set q (O, f, d, v))) as → own_G w p l e R s m args below meth c Z Q h' k n (mkF m pc' Ls st)) : own_G w p l e R s m args below meth c Z Q h k n (mkF m pc Ls (v :: .ref a :: st)) := by
  obtain ⟨hd, rfl⟩ := hd
  refine own_step K (P := fun h' => own_H Z h' (os.set j (a, C, fs.set q (O, f, d, v))) as) (fun X hZ hw eT N => ?_) hr
  obtain ⟨T', h', X', e', W, st⟩ := putF X K.1 hZ hw wl via eT (H.fld ho hf) (H.atO ho) (L.imp id (fun z => ⟨z.1, z.2.1, K.2.2.2.2.2.2.2.trans z.2.2⟩)) wi hty hn hfit (g := mkF m pc Ls (v :: .ref a :: st)) rfl rfl (hb K.2.1 hd)
  exact ⟨T', h', _, X', Fr.snoc X' N (H.newO ho), e', Nat.le_of_eq (Wr.size W).symm, H.wrO ho hf W, st⟩
theorem own_new (K : own_Cx p s m meth c Z own nm bytes maxL ret) {i kk : Nat} {C : String} {fs : List (String × String × String × Value)} (hd : own_D bytes pc (.new i) 3 pc') (w1 : (Cond.classLink own i C).before a0 Z = true) (w2 : (Cond.instantiable C kk).before a0 Z = true) (w3 : (Cond.initialized C).before a0 Z = true) (H : own_H Z h os as)
    (hF : ∀ f ∈ fs, Laid Z a0 C f.1 f.2.1 f.2.2.1 ∧ ∃ ty, parseFieldDescriptor f.2.2.1 = some ty ∧ f.2.2.2 = defaultValue ty) (hP : fs.Pairwise (fun f g => slotOf Z f.1 f.2.1 f.2.2.1 ≠ slotOf Z g.1 g.2.1 g.2.2.1)) (hc : k + 1 ≤ R.cells) (hl : n + kk ≤ R.slots)
    (hr : ∀ h' a, own_H Z h' ((a, C, fs) :: os) as → own_G w p l e R s m args below meth c Z Q h' (k + 1) (n + kk) (mkF m pc' Ls (.ref a :: st))) : own_G w p l e R s m args below meth c Z Q h k n (mkF m pc Ls st) := by
  obtain ⟨hd, rfl⟩ := hd
  refine own_step K (P := fun h' => own_H Z h' ((h.size, C, fs) :: os) as) (fun X hZ hw eT N => ?_) (fun h' H' => hr h' _ H')
  obtain ⟨T', h', X', e', E, A, D, -, st⟩ := newO X K.1 hZ hw w1 w2 w3 eT (g := mkF m pc Ls st) rfl (hb K.2.1 hd) hc hl
  exact ⟨T', h', _, X', N, e', E.1, H.addO E ⟨A, fun f hf => by obtain ⟨hL, ty, t1, t2⟩ := hF f hf; show Fld Z h' h.size f.1 f.2.1 f.2.2.1 f.2.2.2; rw [t2]; exact D hL t1, hP⟩, st⟩
theorem own_newarray (K : own_Cx p s m meth c Z own nm bytes maxL ret) {aty : ArrayType} {ty : FieldType} {N : Int32} {q : Nat} {ad : String} {vs : List Value} (hd : own_D bytes pc (.newarray aty) 2 pc') (hty : newarray.typeOf aty = ty) (w1 : (Cond.arrayClass ty).before a0 Z = true) (H : own_H Z h os as) (hN : N.toInt = (q : Int)) (had : "[" ++ ty.toString = ad) (hvs : vs = List.replicate q (defaultValue ty)) (hq : q * 8 ≤ 536870912) (hc : k + 1 ≤ R.cells) (hl : n + q ≤ R.slots)
    (hr : ∀ h' a, own_H Z h' os ((a, ty, ad, vs) :: as) → own_G w p l e R s m args below meth c Z Q h' (k + 1) (n + q) (mkF m pc' Ls (.ref a :: st))) : own_G w p l e R s m args below meth c Z Q h k n (mkF m pc Ls (.int N :: st)) := by
  obtain ⟨hd, rfl⟩ := hd
  subst hty
  refine own_step K (P := fun h' => own_H Z h' os ((h.size, newarray.typeOf aty, ad, vs) :: as)) (fun X hZ hw eT N => ?_) (fun h' H' => hr h' _ H')
  have hNq := own_idx hN
  obtain ⟨T', h', cA, X', e', E, A, Ex, st⟩ := newPE X K.1 hZ w1 eT (g := mkF m pc Ls (.int _ :: st)) rfl (hb K.2.1 hd) rfl (by rw [Int32.lt_iff_toInt_lt, hN, show (0 : Int32).toInt = 0 from rfl]; omega) (cap := q) (Nat.le_of_eq hNq) hq hc hl had
  refine ⟨T', h', _, X', N, e', E.1, H.addA E ⟨_, A, ?_, ?_, fun _ => Ex, fun C hC => ?_⟩, st⟩
  · show (newA cA (newarray.typeOf aty) _).slots.toList = vs
    simp [newA, hNq, hvs]
  · intro v hv
    rw [show v = defaultValue (newarray.typeOf aty) from List.eq_of_mem_replicate (hvs ▸ hv)]
    cases aty <;> rfl
  · cases aty <;> cases hC
theorem own_iaload (K : own_Cx p s m meth c Z own nm bytes maxL ret) {i q : Nat} {a : Addr} {ad : String} {vs : List Value} {v : Value} {j : Int32} (hd : own_D bytes pc .iaload 1 pc') (H : own_H Z h os as) (ha : as[i]? = some (a, .int, ad, vs)) (hj : j.toInt = (q : Int)) (hv : vs[q]? = some v) (hr : own_G w p l e R s m args below meth c Z Q h k n (mkF m pc' Ls (v :: st))) : own_G w p l e R s m args below meth c Z Q h k n (mkF m pc Ls (.int j :: .ref a :: st)) := by
  obtain ⟨hd, rfl⟩ := hd
  obtain ⟨-, cl, A, e1, -⟩ := H.2.2.1 _ (own_mem ha)
  have hq := (List.getElem?_eq_some_iff.mp hv).1
  have hsz : cl.slots.size = vs.length := by rw [← Array.length_toList]; exact congrArg List.length e1
  exact own_pure K (fun X hZ _ eT _ r => X.iaload K.1 (by rw [eT]; exact A.1) (State.isArrayOf_alike hZ.alike A.2.1) A.2.2 (by rw [hsz]; exact own_in hj hq) (by rw [own_idx hj, ← Array.getElem?_toList]; exact (show cl.slots.toList = vs from e1) ▸ hv) (g := mkF m pc Ls (.int j :: .ref a :: st)) rfl rfl (hb K.2.1 hd) _ r) hr
theorem own_laload (K : own_Cx p s m meth c Z own nm bytes maxL ret) {i q : Nat} {a : Addr} {ad : String} {vs : List Value} {v : Value} {j : Int32} (hd : own_D bytes pc .laload 1 pc') (H : own_H Z h os as) (ha : as[i]? = some (a, .long, ad, vs)) (hj : j.toInt = (q : Int)) (hv : vs[q]? = some v) (hr : own_G w p l e R s m args below meth c Z Q h k n (mkF m pc' Ls (v :: st))) : own_G w p l e R s m args below meth c Z Q h k n (mkF m pc Ls (.int j :: .ref a :: st)) := by
  obtain ⟨hd, rfl⟩ := hd
  obtain ⟨-, cl, A, e1, -⟩ := H.2.2.1 _ (own_mem ha)
  have hq := (List.getElem?_eq_some_iff.mp hv).1
  have hsz : cl.slots.size = vs.length := by rw [← Array.length_toList]; exact congrArg List.length e1
  exact own_pure K (fun X hZ _ eT _ r => X.laload K.1 (by rw [eT]; exact A.1) (State.isArrayOf_alike hZ.alike A.2.1) A.2.2 (by rw [hsz]; exact own_in hj hq) (by rw [own_idx hj, ← Array.getElem?_toList]; exact (show cl.slots.toList = vs from e1) ▸ hv) (g := mkF m pc Ls (.int j :: .ref a :: st)) rfl rfl (hb K.2.1 hd) _ r) hr
theorem own_daload (K : own_Cx p s m meth c Z own nm bytes maxL ret) {i q : Nat} {a : Addr} {ad : String} {vs : List Value} {v : Value} {j : Int32} (hd : own_D bytes pc .daload 1 pc') (H : own_H Z h os as) (ha : as[i]? = some (a, .double, ad, vs)) (hj : j.toInt = (q : Int)) (hv : vs[q]? = some v) (hr : own_G w p l e R s m args below meth c Z Q h k n (mkF m pc' Ls (v :: st))) : own_G w p l e R s m args below meth c Z Q h k n (mkF m pc Ls (.int j :: .ref a :: st)) := by
  obtain ⟨hd, rfl⟩ := hd
  obtain ⟨-, cl, A, e1, -⟩ := H.2.2.1 _ (own_mem ha)
  have hq := (List.getElem?_eq_some_iff.mp hv).1
  have hsz : cl.slots.size = vs.length := by rw [← Array.length_toList]; exact congrArg List.length e1
  exact own_pure K (fun X hZ _ eT _ r => X.daload K.1 (by rw [eT]; exact A.1) (State.isArrayOf_alike hZ.alike A.2.1) A.2.2 (by rw [hsz]; exact own_in hj hq) (by rw [own_idx hj, ← Array.getElem?_toList]; exact (show cl.slots.toList = vs from e1) ▸ hv) (g := mkF m pc Ls (.int j :: .ref a :: st)) rfl rfl (hb K.2.1 hd) _ r) hr
theorem own_caload (K : own_Cx p s m meth c Z own nm bytes maxL ret) {i q : Nat} {a : Addr} {ad : String} {vs : List Value} {v : Value} {j : Int32} (hd : own_D bytes pc .caload 1 pc') (H : own_H Z h os as) (ha : as[i]? = some (a, .char, ad, vs)) (hj : j.toInt = (q : Int)) (hv : vs[q]? = some v) (hr : own_G w p l e R s m args below meth c Z Q h k n (mkF m pc' Ls (v :: st))) : own_G w p l e R s m args below meth c Z Q h k n (mkF m pc Ls (.int j :: .ref a :: st)) := by
  obtain ⟨hd, rfl⟩ := hd
  obtain ⟨-, cl, A, e1, -⟩ := H.2.2.1 _ (own_mem ha)
  have hq := (List.getElem?_eq_some_iff.mp hv).1
  have hsz : cl.slots.size = vs.length := by rw [← Array.length_toList]; exact congrArg List.length e1
  exact own_pure K (fun X hZ _ eT _ r => X.caload K.1 (by rw [eT]; exact A.1) (State.isArrayOf_alike hZ.alike A.2.1) A.2.2 (by rw [hsz]; exact own_in hj hq) (by rw [own_idx hj, ← Array.getElem?_toList]; exact (show cl.slots.toList = vs from e1) ▸ hv) (g := mkF m pc Ls (.int j :: .ref a :: st)) rfl rfl (hb K.2.1 hd) _ r) hr
theorem own_baload (K : own_Cx p s m meth c Z own nm bytes maxL ret) {i q : Nat} {a : Addr} {ad : String} {vs : List Value} {v : Value} {j : Int32} (hd : own_D bytes pc .baload 1 pc') (H : own_H Z h os as) (ha : as[i]? = some (a, .byte, ad, vs)) (hj : j.toInt = (q : Int)) (hv : vs[q]? = some v) (hr : own_G w p l e R s m args below meth c Z Q h k n (mkF m pc' Ls (v :: st))) : own_G w p l e R s m args below meth c Z Q h k n (mkF m pc Ls (.int j :: .ref a :: st)) := by
  obtain ⟨hd, rfl⟩ := hd
  obtain ⟨-, cl, A, e1, -⟩ := H.2.2.1 _ (own_mem ha)
  have hq := (List.getElem?_eq_some_iff.mp hv).1
  have hsz : cl.slots.size = vs.length := by rw [← Array.length_toList]; exact congrArg List.length e1
  exact own_pure K (fun X hZ _ eT _ r => X.baloadBytes K.1 (by rw [eT]; exact A.1) (State.isArrayOf_alike hZ.alike A.2.1) A.2.2 (by rw [hsz]; exact own_in hj hq) (by rw [own_idx hj, ← Array.getElem?_toList]; exact (show cl.slots.toList = vs from e1) ▸ hv) (g := mkF m pc Ls (.int j :: .ref a :: st)) rfl rfl (hb K.2.1 hd) _ r) hr
theorem own_aaload (K : own_Cx p s m meth c Z own nm bytes maxL ret) {i q : Nat} {a : Addr} {ad : String} {ty : FieldType} {vs : List Value} {v : Value} {j : Int32} (hd : own_D bytes pc .aaload 1 pc') (H : own_H Z h os as) (ha : as[i]? = some (a, ty, ad, vs)) (hty : ty.isReference = true) (hj : j.toInt = (q : Int)) (hv : vs[q]? = some v) (hr : own_G w p l e R s m args below meth c Z Q h k n (mkF m pc' Ls (v :: st))) : own_G w p l e R s m args below meth c Z Q h k n (mkF m pc Ls (.int j :: .ref a :: st)) := by
  obtain ⟨hd, rfl⟩ := hd
  obtain ⟨-, cl, A, e1, -⟩ := H.2.2.1 _ (own_mem ha)
  have hq := (List.getElem?_eq_some_iff.mp hv).1
  have hsz : cl.slots.size = vs.length := by rw [← Array.length_toList]; exact congrArg List.length e1
  exact own_pure K (fun X hZ _ eT _ r => X.aaload K.1 (by rw [eT]; exact A.1) (State.isArrayOf_alike hZ.alike A.2.1) hty A.2.2 (by rw [hsz]; exact own_in hj hq) (by rw [own_idx hj, ← Array.getElem?_toList]; exact (show cl.slots.toList = vs from e1) ▸ hv) (g := mkF m pc Ls (.int j :: .ref a :: st)) rfl rfl (hb K.2.1 hd) _ r) hr
theorem own_iastore (K : own_Cx p s m meth c Z own nm bytes maxL ret) {i q : Nat} {a : Addr} {ad : String} {vs : List Value} {j : Int32} {x : Int32} (hd : own_D bytes pc .iastore 1 pc') (H : own_H Z h os as) (ha : as[i]? = some (a, .int, ad, vs)) (hj : j.toInt = (q : Int)) (hq : q < vs.length) (hr : ∀ h', own_H Z h' os (as.set i (a, .int, ad, vs.set q (.int x))) → own_G w p l e R s m args below meth c Z Q h' k n (mkF m pc' Ls st)) : own_G w p l e R s m args below meth c Z Q h k n (mkF m pc Ls (.int x :: .int j :: .ref a :: st)) := by
  obtain ⟨hd, rfl⟩ := hd
  obtain ⟨na, cl, A, e1, -⟩ := H.2.2.1 _ (own_mem ha)
  have hsz : cl.slots.size = vs.length := by rw [← Array.length_toList]; exact congrArg List.length e1
  refine own_step K (P := fun h' => own_H Z h' os (as.set i (a, .int, ad, vs.set q (.int x)))) (fun X hZ _ eT N => ?_) hr
  obtain ⟨T', h', X', e', W, st⟩ := stI X K.1 hZ eT A (by rw [hsz]; exact own_in hj hq) (g := mkF m pc Ls (.int x :: .int j :: .ref a :: st)) rfl rfl (hb K.2.1 hd)
  exact ⟨T', h', _, X', Fr.snoc X' N na, e', Nat.le_of_eq (Wr.size W).symm, H.wrA ha hq (rfl) (by rw [own_idx hj] at W; exact W), st⟩
theorem own_lastore (K : own_Cx p s m meth c Z own nm bytes maxL ret) {i q : Nat} {a : Addr} {ad : String} {vs : List Value} {j : Int32} {x : Int64} (hd : own_D bytes pc .lastore 1 pc') (H : own_H Z h os as) (ha : as[i]? = some (a, .long, ad, vs)) (hj : j.toInt = (q : Int)) (hq : q < vs.length) (hr : ∀ h', own_H Z h' os (as.set i (a, .long, ad, vs.set q (.long x))) → own_G w p l e R s m args below meth c Z Q h' k n (mkF m pc' Ls st)) : own_G w p l e R s m args below meth c Z Q h k n (mkF m pc Ls (.long x :: .int j :: .ref a :: st)) := by
  obtain ⟨hd, rfl⟩ := hd
  obtain ⟨na, cl, A, e1, -⟩ := H.2.2.1 _ (own_mem ha)
  have hsz : cl.slots.size = vs.length := by rw [← Array.length_toList]; exact congrArg List.length e1
  refine own_step K (P := fun h' => own_H Z h' os (as.set i (a, .long, ad, vs.set q (.long x)))) (fun X hZ _ eT N => ?_) hr
  obtain ⟨T', h', X', e', W, st⟩ := stJ X K.1 hZ eT A (by rw [hsz]; exact own_in hj hq) (g := mkF m pc Ls (.long x :: .int j :: .ref a :: st)) rfl rfl (hb K.2.1 hd)
  exact ⟨T', h', _, X', Fr.snoc X' N na, e', Nat.le_of_eq (Wr.size W).symm, H.wrA ha hq (rfl) (by rw [own_idx hj] at W; exact W), st⟩
theorem own_dastore (K : own_Cx p s m meth c Z own nm bytes maxL ret) {i q : Nat} {a : Addr} {ad : String} {vs : List Value} {j : Int32} {x : UInt64} (hd : own_D bytes pc .dastore 1 pc') (H : own_H Z h os as) (ha : as[i]? = some (a, .double, ad, vs)) (hj : j.toInt = (q : Int)) (hq : q < vs.length) (hr : ∀ h', own_H Z h' os (as.set i (a, .double, ad, vs.set q (.double x))) → own_G w p l e R s m args below meth c Z Q h' k n (mkF m pc' Ls st)) : own_G w p l e R s m args below meth c Z Q h k n (mkF m pc Ls (.double x :: .int j :: .ref a :: st)) := by
  obtain ⟨hd, rfl⟩ := hd
  obtain ⟨na, cl, A, e1, -⟩ := H.2.2.1 _ (own_mem ha)
  have hsz : cl.slots.size = vs.length := by rw [← Array.length_toList]; exact congrArg List.length e1
  refine own_step K (P := fun h' => own_H Z h' os (as.set i (a, .double, ad, vs.set q (.double x)))) (fun X hZ _ eT N => ?_) hr
  obtain ⟨T', h', X', e', W, st⟩ := stD X K.1 hZ eT A (by rw [hsz]; exact own_in hj hq) (g := mkF m pc Ls (.double x :: .int j :: .ref a :: st)) rfl rfl (hb K.2.1 hd)
  exact ⟨T', h', _, X', Fr.snoc X' N na, e', Nat.le_of_eq (Wr.size W).symm, H.wrA ha hq (rfl) (by rw [own_idx hj] at W; exact W), st⟩
theorem own_castore (K : own_Cx p s m meth c Z own nm bytes maxL ret) {i q : Nat} {a : Addr} {ad : String} {vs : List Value} {j : Int32} {x : Int32} (hd : own_D bytes pc .castore 1 pc') (H : own_H Z h os as) (ha : as[i]? = some (a, .char, ad, vs)) (hj : j.toInt = (q : Int)) (hq : q < vs.length) (hr : ∀ h', own_H Z h' os (as.set i (a, .char, ad, vs.set q (.int (nar .char x)))) → own_G w p l e R s m args below meth c Z Q h' k n (mkF m pc' Ls st)) : own_G w p l e R s m args below meth c Z Q h k n (mkF m pc Ls (.int x :: .int j :: .ref a :: st)) := by
  obtain ⟨hd, rfl⟩ := hd
  obtain ⟨na, cl, A, e1, -⟩ := H.2.2.1 _ (own_mem ha)
  have hsz : cl.slots.size = vs.length := by rw [← Array.length_toList]; exact congrArg List.length e1
  refine own_step K (P := fun h' => own_H Z h' os (as.set i (a, .char, ad, vs.set q (.int (nar .char x))))) (fun X hZ _ eT N => ?_) hr
  obtain ⟨T', h', X', e', W, st⟩ := stC X K.1 hZ eT A (by rw [hsz]; exact own_in hj hq) (g := mkF m pc Ls (.int x :: .int j :: .ref a :: st)) rfl rfl (hb K.2.1 hd)
  exact ⟨T', h', _, X', Fr.snoc X' N na, e', Nat.le_of_eq (Wr.size W).symm, H.wrA ha hq (by first | exact fits_nar_char _ | exact fits_nar_char | (simp [fits_nar_char]; done)) (by rw [own_idx hj] at W; exact W), st⟩
theorem own_bastore (K : own_Cx p s m meth c Z own nm bytes maxL ret) {i q : Nat} {a : Addr} {ad : String} {vs : List Value} {j : Int32} {x : Int32} (hd : own_D bytes pc .bastore 1 pc') (H : own_H Z h os as) (ha : as[i]? = some (a, .byte, ad, vs)) (hj : j.toInt = (q : Int)) (hq : q < vs.length) (hr : ∀ h', own_H Z h' os (as.set i (a, .byte, ad, vs.set q (.int (nar .byte x)))) → own_G w p l e R s m args below meth c Z Q h' k n (mkF m pc' Ls st)) : own_G w p l e R s m args below meth c Z Q h k n (mkF m pc Ls (.int x :: .int j :: .ref a :: st)) := by
  obtain ⟨hd, rfl⟩ := hd
  obtain ⟨na, cl, A, e1, -⟩ := H.2.2.1 _ (own_mem ha)
  have hsz : cl.slots.size = vs.length := by rw [← Array.length_toList]; exact congrArg List.length e1
  refine own_step K (P := fun h' => own_H Z h' os (as.set i (a, .byte, ad, vs.set q (.int (nar .byte x))))) (fun X hZ _ eT N => ?_) hr
  obtain ⟨T', h', X', e', W, st⟩ := stB X K.1 hZ eT A (by rw [hsz]; exact own_in hj hq) (g := mkF m pc Ls (.int x :: .int j :: .ref a :: st)) rfl rfl (hb K.2.1 hd)
  exact ⟨T', h', _, X', Fr.snoc X' N na, e', Nat.le_of_eq (Wr.size W).symm, H.wrA ha hq (by first | exact fits_nar_byte _ | exact fits_nar_byte | (simp [fits_nar_byte]; done)) (by rw [own_idx hj] at W; exact W), st⟩
theorem own_arraylength (K : own_Cx p s m meth c Z own nm bytes maxL ret) {i : Nat} {a : Addr} {ad : String} {ty : FieldType} {vs : List Value} {N : Int32} (hd : own_D bytes pc .arraylength 1 pc') (H : own_H Z h os as) (ha : as[i]? = some (a, ty, ad, vs)) (hN : N.toInt = (vs.length : Int)) (hr : own_G w p l e R s m args below meth c Z Q h k n (mkF m pc' Ls (.int N :: st))) : own_G w p l e R s m args below meth c Z Q h k n (mkF m pc Ls (.ref a :: st)) := by
  obtain ⟨hd, rfl⟩ := hd
  obtain ⟨-, cl, A, e1, -⟩ := H.2.2.1 _ (own_mem ha)
  have hsz : cl.slots.size = vs.length := by rw [← Array.length_toList]; exact congrArg List.length e1
  have e2 : cl.slots.size.toInt32 = N := by rw [hsz]; exact own_len hN
  exact own_pure K (fun X hZ _ eT _ r => X.arraylength K.1 (by rw [eT]; exact A.1) (State.isArrayOf_alike hZ.alike A.2.1) (g := mkF m pc Ls (.ref a :: st)) rfl rfl (hb K.2.1 hd) _ (by rw [e2]; exact r)) hr
theorem own_checkcast (K : own_Cx p s m meth c Z own nm bytes maxL ret) {i : Nat} {a : Addr} {Kn : String} (hd : own_D bytes pc (.checkcast i) 3 pc') (w1 : (Cond.classLink own i Kn).before a0 Z = true) (I : Ins Z h a Kn true) (hr : own_G w p l e R s m args below meth c Z Q h k n (mkF m pc' Ls (.ref a :: st))) : own_G w p l e R s m args below meth c Z Q h k n (mkF m pc Ls (.ref a :: st)) := by
  obtain ⟨hd, rfl⟩ := hd
  refine own_step K (P := fun h' => h' = h) (fun X hZ hw eT N => ?_) (fun h' e => by subst e; exact hr)
  obtain ⟨T', X', e', st⟩ := castY X K.1 hZ hw w1 eT I (g := mkF m pc Ls (.ref a :: st)) rfl rfl (hb K.2.1 hd)
  exact ⟨T', _, _, X', N, e', Nat.le_refl _, rfl, st⟩
theorem own_H.exaA (H : own_H Z h os as) {i : Nat} {a : Addr} {ty : FieldType} {ad : String} {vs : List Value} (ha : as[i]? = some (a, ty, ad, vs)) (hn : ad ≠ "") : Exa Z h a ad := by
  obtain ⟨-, cl, -, -, -, h4, -⟩ := H.2.2.1 _ (own_mem ha); exact h4 hn
theorem own_clone (K : own_Cx p s m meth c Z own nm bytes maxL ret) {i j : Nat} {a : Addr} {ty : FieldType} {ad : String} {vs : List Value} (hd : own_D bytes pc (.invokevirtual i) 3 pc') (w1 : (Cond.methodLink own i ⟨ad, "clone", "()Ljava/lang/Object;"⟩).before a0 Z = true) (w2 : (Cond.sameMethod ad "java/lang/Object" "clone" "()Ljava/lang/Object;").before a0 Z = true) (w3 : (Cond.native ⟨"java/lang/Object", "clone", "()Ljava/lang/Object;"⟩).before a0 Z = true)
    (w4 : (Cond.instanceMethod ⟨"java/lang/Object", "clone", "()Ljava/lang/Object;"⟩).before a0 Z = true) (w5 : (Cond.selects ad ⟨ad, "clone", "()Ljava/lang/Object;"⟩ ⟨"java/lang/Object", "clone", "()Ljava/lang/Object;"⟩).before a0 Z = true) (w6 : (Cond.castable ad "java/lang/Cloneable").before a0 Z = true)
    (H : own_H Z h os as) (ha : as[j]? = some (a, ty, ad, vs)) (hn : ad ≠ "") (hsz : Ls.size = maxL) (hf : 1 ≤ R.frames) {W : Nat} (hW : (st.map fun v => v.category).sum ≤ W) (hl : W + 14 ≤ R.locals) (hc : k + 1 ≤ R.cells) (hsl : n + vs.length ≤ R.slots)
    (hr : ∀ h' b, own_H Z h' os ((b, ty, ad, vs) :: as) → own_G w p l e R s m args below meth c Z Q h' (k + 1) (n + vs.length) (mkF m pc' Ls (.ref b :: st))) : own_G w p l e R s m args below meth c Z Q h k n (mkF m pc Ls (.ref a :: st)) := by
  obtain ⟨hd, rfl⟩ := hd
  obtain ⟨-, cl, A, e1, e3, e4, e5⟩ := H.2.2.1 _ (own_mem ha)
  have hsz' : cl.slots.size = vs.length := by rw [← Array.length_toList]; exact congrArg List.length e1
  have F : FitC Z cl := fun i v hv => by
    obtain ⟨hs, k, hk, comp, hkind⟩ := A.2.1
    have hm : v ∈ vs := by
      have : cl.slots.toList[i]? = some v := by rw [Array.getElem?_toList]; exact hv
      exact (show cl.slots.toList = vs from e1) ▸ own_mem this
    simp [State.fitsSlot, State.slotType?, hk, hkind, show fits ty v = true from e3 v hm]
  refine own_step K (P := fun h' => own_H Z h' os ((h.size, ty, ad, vs) :: as)) (fun X hZ hw eT N => ?_) (fun h' H' => hr h' _ H')
  obtain ⟨T', h', X', e', E, A', Ex, st⟩ := cloneA X K.1 hZ hw w1 w2 w3 w4 w5 w6 eT A (e4 hn) F (g := mkF m pc Ls (.ref a :: st)) rfl (hsz.trans K.2.2.1.symm) rfl (hb K.2.1 hd) hf (W := W) (by show 2 * 0 + _ ≤ W; simpa using hW) hl (cap := vs.length) (Nat.le_of_eq hsz') hc hsl
  exact ⟨T', h', _, X', N, e', E.1, H.addA E ⟨_, A', e1, e3, fun _ => Ex, e5⟩, st⟩
theorem own_initO (K : own_Cx p s m meth c Z own nm bytes maxL ret) {i : Nat} {a : Addr} (hd : own_D bytes pc (.invokespecial i) 3 pc') (w1 : (Cond.methodLink own i Lib.objectInit).before a0 Z = true) (w2 : (Cond.instanceMethod Lib.objectInit).before a0 Z = true) (w3 : (Cond.code Lib.objectInit ⟨#[0xb1]⟩ 1 none).before a0 Z = true) (hsz : Ls.size = maxL) (hf : 1 ≤ R.frames) {W : Nat} (hW : (st.map fun v => v.category).sum ≤ W) (hl : W + 12 ≤ R.locals) (hr : own_G w p l e R s m args below meth c Z Q h k n (mkF m pc' Ls st)) : own_G w p l e R s m args below meth c Z Q h k n (mkF m pc Ls (.ref a :: st)) := by
  obtain ⟨hd, rfl⟩ := hd
  refine own_step K (P := fun h' => h' = h) (fun X hZ hw eT N => ?_) (fun h' e => by subst e; exact hr)
  obtain ⟨T', X', e', st⟩ := initO X K.1 hZ hw w1 w2 w3 eT (g := mkF m pc Ls (.ref a :: st)) rfl (hsz.trans K.2.2.1.symm) rfl (hb K.2.1 hd) hf (W := W) (by show 2 * 0 + _ ≤ W; simpa using hW) hl
  exact ⟨T', _, _, X', N, e', Nat.le_refl _, rfl, st⟩
theorem own_static (K : own_Cx p s m meth c Z own nm bytes maxL ret) {i ml W : Nat} {y : MethodName} {b : ByteArray} {rt : Option FieldType} {rm : Room} {argsL : List Value} {Qc : Option Value → Heap → Prop} {ps : List FieldType} {r : Option FieldType} (hd : own_D bytes pc (.invokestatic i) 3 pc') (w1 : (Cond.methodLink own i y).before a0 Z = true) (w2 : (Cond.static y).before a0 Z = true) (w3 : (Cond.initialized y.cls).before a0 Z = true) (w4 : (Cond.code y b ml rt).before a0 Z = true)
    (hM : own_Met false l Z y b ml rt [] rm argsL.toArray h Qc) (hp : parseMethodDescriptor y.desc = some ⟨ps, r⟩) (hlen : argsL.length = ps.length) (hst : st = argsL.reverse ++ rest) (hsz : Ls.size = maxL) (hy : y.cls ≠ "java/lang/invoke/MethodHandle" ∧ y.cls ≠ "java/lang/invoke/VarHandle") (hW : (rest.map fun v => v.category).sum ≤ W) (hf : rm.frames + 1 ≤ R.frames) (hl : W + (ml + 11) + rm.locals ≤ R.locals) (hc : k + rm.cells ≤ R.cells) (hs : n + rm.slots ≤ R.slots)
    (hr : ∀ v h', Qc v h' → own_G w p l e R s m args below meth c Z Q h' (k + rm.cells) (n + rm.slots) (mkF m (pc') Ls (v.toList ++ rest))) : own_G w p l e R s m args below meth c Z Q h k n (mkF m pc Ls st) := by
  obtain ⟨hd, rfl⟩ := hd
  intro T hX
  obtain ⟨L, vm, X, N, eT, hw, hS⟩ := hX
  have hZ := own_zw K.2.2.2.2.2.1 hS
  have hown : (s.setVm vm).vm.findClass own = some m.cls := by rw [show (s.setVm vm).vm = vm from rfl, hS.1.alike.findClass]; exact K.2.2.2.2.2.2.1
  obtain ⟨v, vm1, ⟨T1, L1, k1, n1⟩, -, X1, ⟨Lc, ⟨hQ, N1, z1⟩, l1, y1, x1⟩, st1⟩ := Jvm.LawKit.callS X K.1 (y := y) hown (mvT hZ w1) (mvT hZ w2) (mvT hZ w3) (mvT hZ w4) hy (backOf (W := W) (Q := fun v h'' L => Qc v h'' ∧ Fr Z.heap.size L ∧ h.size ≤ h''.size) (show MetFree _ _ _ _ _ _ from hM) hZ w4 w3 hf hl) (g := mkF m pc Ls st) rfl (hsz.trans K.2.2.1.symm) (argsL := argsL) (rest := rest) (lenOf hp hlen) hst (by show 2 * 0 + _ ≤ W; simpa using hW) (hb K.2.1 hd) (fun _ _ => ⟨rfl, eT, hc, hs⟩)
  dsimp only [Pt.U, Pt.locs, Pt.cells, Pt.slots] at X1 l1 y1 x1 st1 hQ z1
  subst l1 y1 x1
  obtain ⟨T', v', h', k', n', hX', r1, r2, r3, r4, r5⟩ := hr v T1.heap hQ T1 ⟨_, vm, X1, N.app N1, rfl, hw, own_since hS z1⟩
  exact ⟨T', v', h', k', n', hX', r1, r2, r3, r4, fun fs q => st1 _ (r5 fs q)⟩
theorem own_special (K : own_Cx p s m meth c Z own nm bytes maxL ret) {i ml W : Nat} {y : MethodName} {b : ByteArray} {rm : Room} {a : Addr} {argsL : List Value} {Qc : Option Value → Heap → Prop} {ps : List FieldType} {r : Option FieldType} (hd : own_D bytes pc (.invokespecial i) 3 pc') (hy1 : y.name = "<init>") (w1 : (Cond.methodLink own i y).before a0 Z = true) (w2 : (Cond.instanceMethod y).before a0 Z = true) (w3 : (Cond.initialized y.cls).before a0 Z = true) (w4 : (Cond.code y b ml none).before a0 Z = true)
    (hM : own_Met false l Z y b ml none [] rm (.ref a :: argsL).toArray h Qc) (hp : parseMethodDescriptor y.desc = some ⟨ps, r⟩) (hlen : argsL.length = ps.length) (hst : st = argsL.reverse ++ .ref a :: rest) (hsz : Ls.size = maxL) (hy : y.cls ≠ "java/lang/invoke/MethodHandle" ∧ y.cls ≠ "java/lang/invoke/VarHandle") (hW : (rest.map fun v => v.category).sum ≤ W) (hf : rm.frames + 1 ≤ R.frames) (hl : W + (ml + 11) + rm.locals ≤ R.locals) (hc : k + rm.cells ≤ R.cells) (hs : n + rm.slots ≤ R.slots)
    (hr : ∀ v h', Qc v h' → own_G w p l e R s m args below meth c Z Q h' (k + rm.cells) (n + rm.slots) (mkF m (pc') Ls (v.toList ++ rest))) : own_G w p l e R s m args below meth c Z Q h k n (mkF m pc Ls st) := by
  obtain ⟨hd, rfl⟩ := hd
  intro T hX
  obtain ⟨L, vm, X, N, eT, hw, hS⟩ := hX
  have hZ := own_zw K.2.2.2.2.2.1 hS
  have hown : (s.setVm vm).vm.findClass own = some m.cls := by rw [show (s.setVm vm).vm = vm from rfl, hS.1.alike.findClass]; exact K.2.2.2.2.2.2.1
  obtain ⟨v, vm1, ⟨T1, L1, k1, n1⟩, -, X1, ⟨Lc, ⟨hQ, N1, z1⟩, l1, y1, x1⟩, st1⟩ := X.specialBack K.1 (y := y) hy1 hown (mvT hZ w1) (mvT hZ w2) (mvT hZ w4) hy (backOf (W := W) (Q := fun v h'' L => Qc v h'' ∧ Fr Z.heap.size L ∧ h.size ≤ h''.size) (show MetFree _ _ _ _ _ _ from hM) hZ w4 w3 hf hl) (g := mkF m pc Ls st) rfl (hsz.trans K.2.2.1.symm) (Steps.refl _) (a := a) (argsL := argsL) (rest := rest) (lenOf hp hlen) hst (by show 2 * 0 + _ ≤ W; simpa using hW) (hb K.2.1 hd) (fun _ _ => ⟨rfl, eT, hc, hs⟩)
  dsimp only [Pt.U, Pt.locs, Pt.cells, Pt.slots] at X1 l1 y1 x1 st1 hQ z1
  subst l1 y1 x1
  obtain ⟨T', v', h', k', n', hX', r1, r2, r3, r4, r5⟩ := hr v T1.heap hQ T1 ⟨_, vm, X1, N.app N1, rfl, hw, own_since hS z1⟩
  exact ⟨T', v', h', k', n', hX', r1, r2, r3, r4, fun fs q => st1.trans (r5 fs q)⟩
theorem own_virtual (K : own_Cx p s m meth c Z own nm bytes maxL ret) {i ml W : Nat} {y : MethodName} {C : String} {b : ByteArray} {rt : Option FieldType} {rm : Room} {a : Addr} {argsL : List Value} {Qc : Option Value → Heap → Prop} {ps : List FieldType} {r : Option FieldType} (hd : own_D bytes pc (.invokevirtual i) 3 pc') (w1 : (Cond.methodLink own i y).before a0 Z = true) (w2 : (Cond.declares y).before a0 Z = true) (w5 : (Cond.selects C y y).before a0 Z = true) (w6 : (Cond.instanceMethod y).before a0 Z = true) (w3 : (Cond.initialized y.cls).before a0 Z = true) (w4 : (Cond.code y b ml rt).before a0 Z = true)
    (E : Exa Z h a C) (hM : own_Met false l Z y b ml rt [] rm (.ref a :: argsL).toArray h Qc) (hp : parseMethodDescriptor y.desc = some ⟨ps, r⟩) (hlen : argsL.length = ps.length) (hst : st = argsL.reverse ++ .ref a :: rest) (hsz : Ls.size = maxL) (hy : y.cls ≠ "java/lang/invoke/MethodHandle" ∧ y.cls ≠ "java/lang/invoke/VarHandle") (hW : (rest.map fun v => v.category).sum ≤ W) (hf : rm.frames + 1 ≤ R.frames) (hl : W + (ml + 11) + rm.locals ≤ R.locals) (hc : k + rm.cells ≤ R.cells) (hs : n + rm.slots ≤ R.slots)
    (hr : ∀ v h', Qc v h' → own_G w p l e R s m args below meth c Z Q h' (k + rm.cells) (n + rm.slots) (mkF m (pc') Ls (v.toList ++ rest))) : own_G w p l e R s m args below meth c Z Q h k n (mkF m pc Ls st) := by
  obtain ⟨hd, rfl⟩ := hd
  intro T hX
  obtain ⟨L, vm, X, N, eT, hw, hS⟩ := hX
  have hZ := own_zw K.2.2.2.2.2.1 hS
  have hown : (s.setVm vm).vm.findClass own = some m.cls := by rw [show (s.setVm vm).vm = vm from rfl, hS.1.alike.findClass]; exact K.2.2.2.2.2.2.1
  obtain ⟨cq, kq, qa, qb, qc⟩ := isOf (s := s.setVm vm) hZ eT E
  obtain ⟨v, vm1, ⟨T1, L1, k1, n1⟩, -, X1, ⟨Lc, ⟨hQ, N1, z1⟩, l1, y1, x1⟩, st1⟩ := X.virtualBack K.1 (y := y) (z := y) hown (mvT hZ w1) (mvT hZ w2) (notFace_of_selects (C := C) (args := #[]) (mvT hZ w5)) (mvT hZ w5) (mvT hZ w6) hy (backOf (W := W) (Q := fun v h'' L => Qc v h'' ∧ Fr Z.heap.size L ∧ h.size ≤ h''.size) (show MetFree _ _ _ _ _ _ from hM) hZ w4 w3 hf hl) qa qc (g := mkF m pc Ls st) rfl (hsz.trans K.2.2.1.symm) (Steps.refl _) (argsL := argsL) (rest := rest) (lenOf hp hlen) hst (by show 2 * 0 + _ ≤ W; simpa using hW) (hb K.2.1 hd) (fun _ _ => ⟨rfl, eT, hc, hs⟩)
  dsimp only [Pt.U, Pt.locs, Pt.cells, Pt.slots] at X1 l1 y1 x1 st1 hQ z1
  subst l1 y1 x1
  obtain ⟨T', v', h', k', n', hX', r1, r2, r3, r4, r5⟩ := hr v T1.heap hQ T1 ⟨_, vm, X1, N.app N1, rfl, hw, own_since hS z1⟩
  exact ⟨T', v', h', k', n', hX', r1, r2, r3, r4, fun fs q => st1.trans (r5 fs q)⟩
theorem own_virtualZ (K : own_Cx p s m meth c Z own nm bytes maxL ret) {i ml W : Nat} {y z : MethodName} {C : String} {b : ByteArray} {rt : Option FieldType} {rm : Room} {a : Addr} {argsL : List Value} {Qc : Option Value → Heap → Prop} {ps : List FieldType} {r : Option FieldType} (hd : own_D bytes pc (.invokevirtual i) 3 pc') (w1 : (Cond.methodLink own i y).before a0 Z = true) (w2 : (Cond.declares y).before a0 Z = true) (w5 : (Cond.selects C y z).before a0 Z = true) (w6 : (Cond.instanceMethod z).before a0 Z = true) (w3 : (Cond.initialized z.cls).before a0 Z = true) (w4 : (Cond.code z b ml rt).before a0 Z = true)
    (E : Exa Z h a C) (hnf : ∀ vm, s.Warmed39 vm → NotFace (s.setVm vm) y) (hM : own_Met false l Z z b ml rt [] rm (.ref a :: argsL).toArray h Qc) (hp : parseMethodDescriptor y.desc = some ⟨ps, r⟩) (hlen : argsL.length = ps.length) (hst : st = argsL.reverse ++ .ref a :: rest) (hsz : Ls.size = maxL) (hy : y.cls ≠ "java/lang/invoke/MethodHandle" ∧ y.cls ≠ "java/lang/invoke/VarHandle") (hW : (rest.map fun v => v.category).sum ≤ W) (hf : rm.frames + 1 ≤ R.frames) (hl : W + (ml + 11) + rm.locals ≤ R.locals) (hc : k + rm.cells ≤ R.cells) (hs : n + rm.slots ≤ R.slots)
    (hr : ∀ v h', Qc v h' → own_G w p l e R s m args below meth c Z Q h' (k + rm.cells) (n + rm.slots) (mkF m (pc') Ls (v.toList ++ rest))) : own_G w p l e R s m args below meth c Z Q h k n (mkF m pc Ls st) := by
  obtain ⟨hd, rfl⟩ := hd
  intro T hX
  obtain ⟨L, vm, X, N, eT, hw, hS⟩ := hX
  have hZ := own_zw K.2.2.2.2.2.1 hS
  have hown : (s.setVm vm).vm.findClass own = some m.cls := by rw [show (s.setVm vm).vm = vm from rfl, hS.1.alike.findClass]; exact K.2.2.2.2.2.2.1
  obtain ⟨cq, kq, qa, qb, qc⟩ := isOf (s := s.setVm vm) hZ eT E
  obtain ⟨v, vm1, ⟨T1, L1, k1, n1⟩, -, X1, ⟨Lc, ⟨hQ, N1, z1⟩, l1, y1, x1⟩, st1⟩ := X.virtualBack K.1 (y := y) (z := z) hown (mvT hZ w1) (mvT hZ w2) (hnf vm hS.1) (mvT hZ w5) (mvT hZ w6) hy (backOf (W := W) (Q := fun v h'' L => Qc v h'' ∧ Fr Z.heap.size L ∧ h.size ≤ h''.size) (show MetFree _ _ _ _ _ _ from hM) hZ w4 w3 hf hl) qa qc (g := mkF m pc Ls st) rfl (hsz.trans K.2.2.1.symm) (Steps.refl _) (argsL := argsL) (rest := rest) (lenOf hp hlen) hst (by show 2 * 0 + _ ≤ W; simpa using hW) (hb K.2.1 hd) (fun _ _ => ⟨rfl, eT, hc, hs⟩)
  dsimp only [Pt.U, Pt.locs, Pt.cells, Pt.slots] at X1 l1 y1 x1 st1 hQ z1
  subst l1 y1 x1
  obtain ⟨T', v', h', k', n', hX', r1, r2, r3, r4, r5⟩ := hr v T1.heap hQ T1 ⟨_, vm, X1, N.app N1, rfl, hw, own_since hS z1⟩
  exact ⟨T', v', h', k', n', hX', r1, r2, r3, r4, fun fs q => st1.trans (r5 fs q)⟩
theorem own_retI (K : own_Cx p s m meth c Z own nm bytes maxL (some .int)) {z : Int32} (hd : own_D bytes pc .ireturn 1 pc') (hk : k ≤ R.cells) (hn : n ≤ R.slots) (hQ : Q (some (.int z)) h) : own_G w p l e R s m args below meth c Z Q h k n (mkF m pc Ls (.int z :: st)) := by
  obtain ⟨hd, -⟩ := hd
  intro T hX
  obtain ⟨L, vm, X, N, eT, hw, hS⟩ := hX
  exact ⟨T, some (.int z), h, k, n, ⟨L, vm, X, N, eT, hw, hS⟩, hk, hn, (fun q => by rw [K.2.2.2.1] at q; cases q), hQ, fun fs q => retOut X K.1 K.2.2.2.1 (rfl) (Or.inl ⟨rfl, Or.inl rfl, z, rfl⟩) (hb K.2.1 hd) q⟩
theorem own_retZ (K : own_Cx p s m meth c Z own nm bytes maxL (some .boolean)) {z : Int32} (hz : z = 0 ∨ z = 1) (hd : own_D bytes pc .ireturn 1 pc') (hk : k ≤ R.cells) (hn : n ≤ R.slots) (hQ : Q (some (.int z)) h) : own_G w p l e R s m args below meth c Z Q h k n (mkF m pc Ls (.int z :: st)) := by
  obtain ⟨hd, -⟩ := hd
  intro T hX
  obtain ⟨L, vm, X, N, eT, hw, hS⟩ := hX
  exact ⟨T, some (.int z), h, k, n, ⟨L, vm, X, N, eT, hw, hS⟩, hk, hn, (fun q => by rw [K.2.2.2.1] at q; cases q), hQ, fun fs q => retOut X K.1 K.2.2.2.1 (by rcases hz with rfl | rfl <;> decide) (Or.inl ⟨rfl, Or.inr (Or.inl rfl), z, rfl⟩) (hb K.2.1 hd) q⟩
theorem own_retC (K : own_Cx p s m meth c Z own nm bytes maxL (some .char)) {z : Int32} (hz : narrow .char (.int z) = .int z) (hd : own_D bytes pc .ireturn 1 pc') (hk : k ≤ R.cells) (hn : n ≤ R.slots) (hQ : Q (some (.int z)) h) : own_G w p l e R s m args below meth c Z Q h k n (mkF m pc Ls (.int z :: st)) := by
  obtain ⟨hd, -⟩ := hd
  intro T hX
  obtain ⟨L, vm, X, N, eT, hw, hS⟩ := hX
  exact ⟨T, some (.int z), h, k, n, ⟨L, vm, X, N, eT, hw, hS⟩, hk, hn, (fun q => by rw [K.2.2.2.1] at q; cases q), hQ, fun fs q => retOut X K.1 K.2.2.2.1 (hz) (Or.inl ⟨rfl, Or.inr (Or.inr (Or.inr (Or.inl rfl))), z, rfl⟩) (hb K.2.1 hd) q⟩
theorem own_retBy (K : own_Cx p s m meth c Z own nm bytes maxL (some .byte)) {z : Int32} (hz : narrow .byte (.int z) = .int z) (hd : own_D bytes pc .ireturn 1 pc') (hk : k ≤ R.cells) (hn : n ≤ R.slots) (hQ : Q (some (.int z)) h) : own_G w p l e R s m args below meth c Z Q h k n (mkF m pc Ls (.int z :: st)) := by
  obtain ⟨hd, -⟩ := hd
  intro T hX
  obtain ⟨L, vm, X, N, eT, hw, hS⟩ := hX
  exact ⟨T, some (.int z), h, k, n, ⟨L, vm, X, N, eT, hw, hS⟩, hk, hn, (fun q => by rw [K.2.2.2.1] at q; cases q), hQ, fun fs q => retOut X K.1 K.2.2.2.1 (hz) (Or.inl ⟨rfl, Or.inr (Or.inr (Or.inl rfl)), z, rfl⟩) (hb K.2.1 hd) q⟩
theorem own_retL (K : own_Cx p s m meth c Z own nm bytes maxL (some .long)) {z : Int64} (hd : own_D bytes pc .lreturn 1 pc') (hk : k ≤ R.cells) (hn : n ≤ R.slots) (hQ : Q (some (.long z)) h) : own_G w p l e R s m args below meth c Z Q h k n (mkF m pc Ls (.long z :: st)) := by
  obtain ⟨hd, -⟩ := hd
  intro T hX
  obtain ⟨L, vm, X, N, eT, hw, hS⟩ := hX
  exact ⟨T, some (.long z), h, k, n, ⟨L, vm, X, N, eT, hw, hS⟩, hk, hn, (fun q => by rw [K.2.2.2.1] at q; cases q), hQ, fun fs q => retOut X K.1 K.2.2.2.1 (rfl) (Or.inr (Or.inl ⟨rfl, rfl, z, rfl⟩)) (hb K.2.1 hd) q⟩
theorem own_retD (K : own_Cx p s m meth c Z own nm bytes maxL (some .double)) {z : UInt64} (hd : own_D bytes pc .dreturn 1 pc') (hk : k ≤ R.cells) (hn : n ≤ R.slots) (hQ : Q (some (.double z)) h) : own_G w p l e R s m args below meth c Z Q h k n (mkF m pc Ls (.double z :: st)) := by
  obtain ⟨hd, -⟩ := hd
  intro T hX
  obtain ⟨L, vm, X, N, eT, hw, hS⟩ := hX
  exact ⟨T, some (.double z), h, k, n, ⟨L, vm, X, N, eT, hw, hS⟩, hk, hn, (fun q => by rw [K.2.2.2.1] at q; cases q), hQ, fun fs q => retOut X K.1 K.2.2.2.1 (rfl) (Or.inr (Or.inr (Or.inl ⟨rfl, rfl, z, rfl⟩))) (hb K.2.1 hd) q⟩
theorem own_retA (K : own_Cx p s m meth c Z own nm bytes maxL (some tyR)) {v : Value} (hty : tyR.isReference = true) (hv : v.isRef = true) (hd : own_D bytes pc .areturn 1 pc') (hk : k ≤ R.cells) (hn : n ≤ R.slots) (hQ : Q (some (v)) h) : own_G w p l e R s m args below meth c Z Q h k n (mkF m pc Ls (v :: st)) := by
  obtain ⟨hd, -⟩ := hd
  intro T hX
  obtain ⟨L, vm, X, N, eT, hw, hS⟩ := hX
  exact ⟨T, some (v), h, k, n, ⟨L, vm, X, N, eT, hw, hS⟩, hk, hn, (fun q => by rw [K.2.2.2.1] at q; cases q), hQ, fun fs q => retOut X K.1 K.2.2.2.1 (by rcases ref_cases hv with rfl | ⟨a, rfl⟩ <;> cases tyR <;> first | rfl | cases hty) (Or.inr (Or.inr (Or.inr (Or.inr ⟨rfl, hty, hv⟩)))) (hb K.2.1 hd) q⟩
theorem own_retV (K : own_Cx p s m meth c Z own nm bytes maxL none) (hd : own_D bytes pc .return_ 1 pc') (hk : k ≤ R.cells) (hn : n ≤ R.slots) (hQ : Q none h) : own_G w p l e R s m args below meth c Z Q h k n (mkF m pc Ls []) := by
  obtain ⟨hd, -⟩ := hd
  intro T hX
  obtain ⟨L, vm, X, N, eT, hw, hS⟩ := hX
  exact ⟨T, none, h, k, n, ⟨L, vm, X, N, eT, hw, hS⟩, hk, hn, (fun _ => rfl), hQ, fun fs q => X.returnOut K.1 K.2.2.2.1 (hb K.2.1 hd) q⟩
theorem own_met {y : MethodName} {ws : List Cond} {rm : Room} {as' : Array Value} (hpn : plainFor y = true)
    (body : ∀ (p : Program) (e : Env) (s : State) (m : MethodId) (below : List Frame) (meth : Method) (c : Code), own_Cx p s m meth c Z y.cls y.name bytes maxL ret → own_G w p l e rm s m as' below meth c Z Q h 0 0 (entryFrame m as' maxL)) :
    own_Met w l Z y bytes maxL ret ws rm as' h Q := by
  refine MetFree.of_bodySF hpn hisR ?_
  intro p e s m args below meth c s₁ Bd hml0 hP hK
  obtain ⟨rfl, hZ, hh⟩ := hP
  have X0 : Stand p l e rm s m args below meth c s₁ [] 0 0 := Stand.of_body Bd
  have e0 : s₁.heap = h := by rw [← hh, Bd.state]; rfl
  have hlk : meth.locks = false := BodyLoose.notSynchronized Bd
  obtain ⟨T', v, h', k', n', ⟨L, vm, X, N, eT, hw, hS⟩, r1, r2, r3, r4, r5⟩ := body p e s m below meth c ⟨Bd.exec, Bd.bytes, hml0, Bd.returns, hlk, hZ, findClass_of_methodNamed Bd.named, (name_of_methodNamed Bd.named Bd.method).1⟩ s₁
    ⟨[], s.vm, X0, Fr.nil _, e0, fun _ => rfl, (State.WarmedH.refl s).since _⟩
  have hgr : h.size ≤ h'.size := by rw [← eT, ← hh]; exact X.same.2.1
  cases w with
  | false =>
    obtain rfl := hw rfl
    obtain ⟨fs, hr, hrun, hended, hW, hsame⟩ := Stand.leave (s := s) X r3
    exact ⟨_, _, r5 fs hr, hrun, hended, v, L, rfl, ⟨by show Q v T'.heap; rw [eT]; exact r4, N, by show h.size ≤ T'.heap.size; rw [eT]; exact hgr⟩, ⟨_, rfl⟩, hW, hsame.mono r1 r2⟩
  | true =>
    obtain ⟨fs, hr, hrun, hended, q1, q2, q3, q4⟩ := Stand.leaveW X hS (Nat.le_of_eq (congrArg Array.size eT.symm)) r3
    exact ⟨_, _, r5 fs hr, hrun, hended, v, L, rfl, ⟨by show Q v T'.heap; rw [eT]; exact r4, N, by show h.size ≤ T'.heap.size; rw [eT]; exact hgr⟩, q1, q2, q3, q4.mono r1 r2⟩
theorem own_list_getD {vs : List Value} {cl : Cell} (e : cl.slots.toList = vs) (d : Value) {i : Nat} (hi : i < cl.slots.size) : cl.slots[i]? = some (vs.getD i d) := by
  subst e
  rw [List.getD_eq_getElem?_getD, Array.getElem?_toList, Array.getElem?_eq_getElem hi]; rfl
theorem own_arv {a : Addr} {ty : FieldType} {ad : String} {vs : List Value} (F : own_AK Z h (a, ty, ad, vs)) (hl : vs.length < 2147483648) : ∃ (kc : ClassId) (z : Int32), z.toNatClampNeg = vs.length ∧ ¬ z < 0 ∧ Arv Z h a kc ty z vs .null := by
  obtain ⟨cl, A, e1, e3, -, -⟩ := F
  have e1' : cl.slots.toList = vs := e1
  have hsz : cl.slots.size = vs.length := by rw [← Array.length_toList, e1']
  have q := len_toInt (n := vs.length) (by omega)
  have z0 : ¬ vs.length.toInt32 < 0 := by rw [Int32.lt_iff_toInt_lt, q, show (0 : Int32).toInt = 0 from rfl]; omega
  have zc : vs.length.toInt32.toNatClampNeg = vs.length := by simp only [Int32.toNatClampNeg, q]; rfl
  refine ⟨cl.cls, vs.length.toInt32, zc, z0, cl, A, rfl, by rw [zc]; exact hsz, z0, fun i hi => own_list_getD e1' _ hi, fun i hi => ?_⟩
  have hi' : i < vs.length := by omega
  rw [List.getD_eq_getElem?_getD, List.getElem?_eq_getElem hi']
  exact e3 _ (List.getElem_mem hi')
theorem own_of_arv {a : Addr} {ty : FieldType} {vs : List Value} {kc : ClassId} {z : Int32} {d : Value} (F : Arv Z h a kc ty z vs d) (hz : z.toNatClampNeg = vs.length) : ∃ cl : Cell, Arr Z h a cl ty ∧ cl.cls = kc ∧ cl.slots.toList = vs ∧ ∀ v ∈ vs, fits ty v = true := by
  obtain ⟨cl, A, e1, e2, -, H, G⟩ := F
  have hsz : cl.slots.size = vs.length := e2.trans hz
  refine ⟨cl, A, e1, ?_, fun v hv => ?_⟩
  · apply List.ext_getElem?
    intro i
    rw [Array.getElem?_toList]
    by_cases hi : i < cl.slots.size
    · rw [H i hi, List.getD_eq_getElem?_getD, List.getElem?_eq_getElem (by omega)]; rfl
    · rw [Array.getElem?_eq_none (by omega), List.getElem?_eq_none (by omega)]
  · obtain ⟨i, hi, rfl⟩ := List.getElem_of_mem hv
    have := G i (by omega)
    rw [List.getD_eq_getElem?_getD, List.getElem?_eq_getElem hi] at this
    exact this
theorem own_H.keepA (H : own_H Z h os as) {b : Addr} {ty : FieldType} {ad : String} {vd vd' : List Value} {i : Nat} (hb : as[i]? = some (b, ty, ad, vd)) (Kp : Keep h h' [b]) (F : ∃ cl : Cell, Arr Z h' b cl ty ∧ cl.slots.toList = vd' ∧ ∀ v ∈ vd', fits ty v = true) (hty : ∀ C, ty ≠ .object C) : own_H Z h' os (as.set i (b, ty, ad, vd')) := by
  have nb := (H.2.2.1 _ (own_mem hb)).1
  have hlen := (List.getElem?_eq_some_iff.mp hb).1
  refine ⟨⟨Nat.le_trans H.1.1 Kp.1, fun x cx hx => Kp.2.1 x cx (H.1.2 x cx hx) fun q => ?_⟩, fun o ho => ?_, fun y hy => ?_, ?_⟩
  · cases List.mem_singleton.mp q; exact absurd (Array.getElem?_eq_some_iff.mp hx).1 (Nat.not_lt.mpr nb)
  · obtain ⟨n1, E, F', Pw⟩ := H.2.1 o ho
    exact ⟨n1, E.keep Kp, fun f hf => (F' f hf).keep Kp fun q => H.neOA ho (own_mem hb) (List.mem_singleton.mp q), Pw⟩
  · obtain ⟨j, hj⟩ := List.mem_iff_getElem?.mp hy
    rw [List.getElem?_set] at hj
    by_cases ij : i = j
    · subst ij
      rw [if_pos rfl, if_pos hlen] at hj
      obtain rfl := Option.some.inj hj
      obtain ⟨cl, A, e1, e2⟩ := F
      obtain ⟨-, cl0, -, -, -, e4, -⟩ := H.2.2.1 _ (own_mem hb)
      exact ⟨nb, cl, A, e1, e2, fun q => (e4 q).keep Kp, fun C hC => absurd hC (hty C)⟩
    · rw [if_neg ij] at hj
      obtain ⟨n1, cl, h1, h2, h3, h4, h5⟩ := H.2.2.1 _ (own_mem hj)
      exact ⟨n1, cl, ⟨Kp.2.1 _ _ h1.1 fun q => H.neAA hj hb (Ne.symm ij) (List.mem_singleton.mp q), h1.2⟩, h2, h3, fun q => (h4 q).keep Kp, h5⟩
  · rw [own_set_map (f := fun z => z.1) (x' := (b, ty, ad, vd')) hb rfl]; exact H.2.2.2
theorem own_range_take {vs : List Value} {sq nq : Nat} {d : Value} (hq : sq + nq ≤ vs.length) : (vs.drop sq).take nq = (List.range nq).map fun i => vs.getD (sq + i) d := by
  apply List.ext_getElem?
  intro i
  by_cases hi : i < nq
  · rw [List.getElem?_take_of_lt hi, List.getElem?_drop, List.getElem?_map, List.getElem?_range hi, Option.map_some, List.getD_eq_getElem?_getD, List.getElem?_eq_getElem (by omega)]; rfl
  · rw [List.getElem?_eq_none (by simp; omega), List.getElem?_eq_none (by simp; omega)]
theorem own_arraycopy (K : own_Cx p s m meth c Z own nm bytes maxL ret) {i ia ib : Nat} {a b : Addr} {ty : FieldType} {ada adb : String} {vs vd : List Value} {sp dp nn : Int32} {sq dq nq : Nat} (hd : own_D bytes pc (.invokestatic i) 3 pc') (w1 : (Cond.methodLink own i Jvm.Stand.acN).before a0 Z = true) (w2 : (Cond.native Jvm.Stand.acN).before a0 Z = true) (w3 : (Cond.static Jvm.Stand.acN).before a0 Z = true) (w4 : (Cond.initialized "java/lang/System").before a0 Z = true) (H : own_H Z h os as)
    (ha : as[ia]? = some (a, ty, ada, vs)) (hb' : as[ib]? = some (b, ty, adb, vd)) (hty : refKind ty = false) (hto : ∀ C, ty ≠ .object C) (hsp : sp.toInt = (sq : Int)) (hdp : dp.toInt = (dq : Int)) (hnn : nn.toInt = (nq : Int)) (h4 : sq + nq ≤ vs.length) (h5 : dq + nq ≤ vd.length) (hvl : vs.length < 2147483648) (hvd : vd.length < 2147483648) (hsz : Ls.size = maxL) (hf : 1 ≤ R.frames) {W : Nat} (hW : (st.map fun v => v.category).sum ≤ W) (hlo : W + (nativeFrameWords "java/lang/System" "arraycopy" 5 + 11) ≤ R.locals)
    (hr : ∀ h', own_H Z h' os (as.set ib (b, ty, adb, vd.take dq ++ (vs.drop sq).take nq ++ vd.drop (dq + nq))) → own_G w p l e R s m args below meth c Z Q h' k n (mkF m pc' Ls st)) : own_G w p l e R s m args below meth c Z Q h k n (mkF m pc Ls (.int nn :: .int dp :: .ref b :: .int sp :: .ref a :: st)) := by
  obtain ⟨hd, rfl⟩ := hd
  refine own_step K (P := fun h' => own_H Z h' os (as.set ib (b, ty, adb, vd.take dq ++ (vs.drop sq).take nq ++ vd.drop (dq + nq)))) (fun X hZ hw eT N => ?_) hr
  obtain ⟨ka, za, qa1, qa2, A⟩ := own_arv (H.2.2.1 _ (own_mem ha)).2 hvl
  obtain ⟨kb, zb, qb1, qb2, B⟩ := own_arv (H.2.2.1 _ (own_mem hb')).2 hvd
  have i1 := own_idx hsp
  have i2 := own_idx hdp
  have i3 := own_idx hnn
  have neg : ∀ {x : Int32} {q : Nat}, x.toInt = (q : Int) → ¬ x < 0 := fun {x q} e => by rw [Int32.lt_iff_toInt_lt, e, show (0 : Int32).toInt = 0 from rfl]; omega
  obtain ⟨T', h', L, X', e', N', Kp, A', st⟩ := cpA X K.1 hZ hw w1 w2 w3 w4 eT A B (Or.inl ⟨rfl, hty⟩) (neg hsp) (neg hdp) (neg hnn) (by rw [i1, i3, qa1]; exact h4) (by rw [i2, i3, qb1]; exact h5) (by rw [i1, i3]) (by rw [i2, i3]; exact h5) N (H.2.2.1 _ (own_mem hb')).1 (g := mkF m pc Ls (.int nn :: .int dp :: .ref b :: .int sp :: .ref a :: st)) rfl (hsz.trans K.2.2.1.symm) rfl (hb K.2.1 hd) hf (W := W) (by show 2 * 0 + _ ≤ W; simpa using hW) hlo
  rw [i2, i3, ← own_range_take h4] at A'
  obtain ⟨cl, c1, -, c3, c4⟩ := own_of_arv A' (by rw [qb1]; simp; omega)
  exact ⟨T', h', L, X', N', e', Kp.1, H.keepA hb' Kp ⟨cl, c1, c3, c4⟩ hto, st⟩
theorem own_cast {g g' : JFrame} (q : g = g') (hr : own_G w p l e R s m args below meth c Z Q h k n g') : own_G w p l e R s m args below meth c Z Q h k n g := q ▸ hr
theorem own_topI {x x' : Int32} (q : x = x') (hr : own_G w p l e R s m args below meth c Z Q h k n (mkF m pc Ls (.int x' :: st))) : own_G w p l e R s m args below meth c Z Q h k n (mkF m pc Ls (.int x :: st)) := q ▸ hr
theorem own_topL {x x' : Int64} (q : x = x') (hr : own_G w p l e R s m args below meth c Z Q h k n (mkF m pc Ls (.long x' :: st))) : own_G w p l e R s m args below meth c Z Q h k n (mkF m pc Ls (.long x :: st)) := q ▸ hr
theorem own_topD {x x' : UInt64} (q : x = x') (hr : own_G w p l e R s m args below meth c Z Q h k n (mkF m pc Ls (.double x' :: st))) : own_G w p l e R s m args below meth c Z Q h k n (mkF m pc Ls (.double x :: st)) := q ▸ hr
theorem own_H.perm (H : own_H Z h os as) (po : os.Perm os') (pa : as.Perm as') : own_H Z h os' as' :=
  ⟨H.1, fun o ho => H.2.1 o (po.mem_iff.mpr ho), fun a ha => H.2.2.1 a (pa.mem_iff.mpr ha), ((po.map _).append (pa.map _)).nodup_iff.mp H.2.2.2⟩
theorem own_front {α : Type} {L : List α} {x : α} : ∀ {i : Nat}, L[i]? = some x → L.Perm (x :: L.eraseIdx i) := by
  induction L with
  | nil => intro i hx; cases hx
  | cons y L ih =>
    intro i hx
    cases i with
    | zero => cases hx; exact List.Perm.refl _
    | succ i =>
      have q := ih (i := i) (by simpa using hx)
      exact ((q.cons y).trans (List.Perm.swap x y _))
theorem own_H.frontO (H : own_H Z h os as) (i : Nat) {x : own_O} (hx : os[i]? = some x) : own_H Z h (x :: os.eraseIdx i) as := H.perm (own_front hx) (List.Perm.refl _)
theorem own_H.frontA (H : own_H Z h os as) (i : Nat) {x : own_A} (hx : as[i]? = some x) : own_H Z h os (x :: as.eraseIdx i) := H.perm (List.Perm.refl _) (own_front hx)
end OwnKit
end Jvm.RoadKit
namespace Jvm.Pilot.@@N@@
open Jvm Jvm.ClassFile Sem Op Lib Jvm.Free Jvm.Stand Jvm.LawKit Jvm.RoadKit Bundle Jvm.Pilot.@@N@@.Jvm.D
def own_Z (Z : State) (a0 : Array Value) : Prop := ∀ d ∈ tables_1, d.before a0 Z = true
theorem own_w0 {Z : State} {a0 : Array Value} (hw : own_Z Z a0) : (Jvm.Cond.methodLink "com/example/fuseplan/fuseplan/runtime/CompensatedSumAddEachPinLaw" (13 : Nat) ({ cls := "com/example/fuseplan/fuseplan/runtime/CompensatedSumAddEachPinLaw", name := "scale", desc := "(I)D" } : Jvm.MethodName)).before a0 Z = true := hw _ (List.mem_of_getElem? (i := 0) rfl)
theorem own_w1 {Z : State} {a0 : Array Value} (hw : own_Z Z a0) : (Jvm.Cond.static ({ cls := "com/example/fuseplan/fuseplan/runtime/CompensatedSumAddEachPinLaw", name := "scale", desc := "(I)D" } : Jvm.MethodName)).before a0 Z = true := hw _ (List.mem_of_getElem? (i := 1) rfl)
theorem own_w2 {Z : State} {a0 : Array Value} (hw : own_Z Z a0) : (Jvm.Cond.initialized "com/example/fuseplan/fuseplan/runtime/CompensatedSumAddEachPinLaw").before a0 Z = true := hw _ (List.mem_of_getElem? (i := 2) rfl)
theorem own_w3 {Z : State} {a0 : Array Value} (hw : own_Z Z a0) : (Jvm.Cond.code ({ cls := "com/example/fuseplan/fuseplan/runtime/CompensatedSumAddEachPinLaw", name := "scale", desc := "(I)D" } : Jvm.MethodName) method_2_code (1 : Nat) (Option.some Jvm.ClassFile.FieldType.double)).before a0 Z = true := hw _ (List.mem_of_getElem? (i := 3) rfl)
theorem own_w4 {Z : State} {a0 : Array Value} (hw : own_Z Z a0) : (Jvm.Cond.constantDouble "com/example/fuseplan/fuseplan/runtime/CompensatedSumAddEachPinLaw" (19 : Nat) (4562146422526312448 : UInt64)).before a0 Z = true := hw _ (List.mem_of_getElem? (i := 4) rfl)
theorem own_w5 {Z : State} {a0 : Array Value} (hw : own_Z Z a0) : (Jvm.Cond.arrayClass Jvm.ClassFile.FieldType.double).before a0 Z = true := hw _ (List.mem_of_getElem? (i := 5) rfl)
theorem own_w6 {Z : State} {a0 : Array Value} (hw : own_Z Z a0) : (Jvm.Cond.methodLink "com/example/fuseplan/fuseplan/runtime/CompensatedSumAddEachPinLaw" (21 : Nat) ({ cls := "com/example/fuseplan/fuseplan/runtime/CompensatedSum", name := "addEach", desc := "([D[D[DII)V" } : Jvm.MethodName)).before a0 Z = true := hw _ (List.mem_of_getElem? (i := 6) rfl)
theorem own_w7 {Z : State} {a0 : Array Value} (hw : own_Z Z a0) : (Jvm.Cond.static ({ cls := "com/example/fuseplan/fuseplan/runtime/CompensatedSum", name := "addEach", desc := "([D[D[DII)V" } : Jvm.MethodName)).before a0 Z = true := hw _ (List.mem_of_getElem? (i := 7) rfl)
theorem own_w8 {Z : State} {a0 : Array Value} (hw : own_Z Z a0) : (Jvm.Cond.initialized "com/example/fuseplan/fuseplan/runtime/CompensatedSum").before a0 Z = true := hw _ (List.mem_of_getElem? (i := 8) rfl)
theorem own_w9 {Z : State} {a0 : Array Value} (hw : own_Z Z a0) : (Jvm.Cond.code ({ cls := "com/example/fuseplan/fuseplan/runtime/CompensatedSum", name := "addEach", desc := "([D[D[DII)V" } : Jvm.MethodName) prog_129_method_8_code (14 : Nat) (Option.none : Option Jvm.ClassFile.FieldType)).before a0 Z = true := hw _ (List.mem_of_getElem? (i := 9) rfl)
theorem own_w10 {Z : State} {a0 : Array Value} (hw : own_Z Z a0) : (Jvm.Cond.constantDouble "com/example/fuseplan/fuseplan/runtime/CompensatedSumAddEachPinLaw" (11 : Nat) (4877398396442247168 : UInt64)).before a0 Z = true := hw _ (List.mem_of_getElem? (i := 10) rfl)
theorem own_w11 {Z : State} {a0 : Array Value} (hw : own_Z Z a0) : (Jvm.Cond.constantDouble "com/example/fuseplan/fuseplan/runtime/CompensatedSumAddEachPinLaw" (9 : Nat) (4787326403894837248 : UInt64)).before a0 Z = true := hw _ (List.mem_of_getElem? (i := 11) rfl)
theorem own_w12 {Z : State} {a0 : Array Value} (hw : own_Z Z a0) : (Jvm.Cond.methodLink "com/example/fuseplan/fuseplan/runtime/CompensatedSumAddEachPinLaw" (27 : Nat) ({ cls := "com/example/fuseplan/fuseplan/runtime/CompensatedSum", name := "add", desc := "([D[DID)V" } : Jvm.MethodName)).before a0 Z = true := hw _ (List.mem_of_getElem? (i := 12) rfl)
theorem own_w13 {Z : State} {a0 : Array Value} (hw : own_Z Z a0) : (Jvm.Cond.static ({ cls := "com/example/fuseplan/fuseplan/runtime/CompensatedSum", name := "add", desc := "([D[DID)V" } : Jvm.MethodName)).before a0 Z = true := hw _ (List.mem_of_getElem? (i := 13) rfl)
theorem own_w14 {Z : State} {a0 : Array Value} (hw : own_Z Z a0) : (Jvm.Cond.code ({ cls := "com/example/fuseplan/fuseplan/runtime/CompensatedSum", name := "add", desc := "([D[DID)V" } : Jvm.MethodName) prog_129_method_7_code (7 : Nat) (Option.none : Option Jvm.ClassFile.FieldType)).before a0 Z = true := hw _ (List.mem_of_getElem? (i := 14) rfl)
theorem own_w15 {Z : State} {a0 : Array Value} (hw : own_Z Z a0) : (Jvm.Cond.methodLink "com/example/fuseplan/fuseplan/runtime/CompensatedSum" (16 : Nat) ({ cls := "com/example/fuseplan/fuseplan/runtime/CompensatedSum", name := "error", desc := "(DDD)D" } : Jvm.MethodName)).before a0 Z = true := hw _ (List.mem_of_getElem? (i := 15) rfl)
theorem own_w16 {Z : State} {a0 : Array Value} (hw : own_Z Z a0) : (Jvm.Cond.static ({ cls := "com/example/fuseplan/fuseplan/runtime/CompensatedSum", name := "error", desc := "(DDD)D" } : Jvm.MethodName)).before a0 Z = true := hw _ (List.mem_of_getElem? (i := 16) rfl)
theorem own_w17 {Z : State} {a0 : Array Value} (hw : own_Z Z a0) : (Jvm.Cond.code ({ cls := "com/example/fuseplan/fuseplan/runtime/CompensatedSum", name := "error", desc := "(DDD)D" } : Jvm.MethodName) prog_129_method_10_code (8 : Nat) (Option.some Jvm.ClassFile.FieldType.double)).before a0 Z = true := hw _ (List.mem_of_getElem? (i := 17) rfl)
theorem own_w18 {Z : State} {a0 : Array Value} (hw : own_Z Z a0) : (Jvm.Cond.constantDouble "com/example/fuseplan/fuseplan/runtime/CompensatedSumAddEachPinLaw" (7 : Nat) (4697254411347427328 : UInt64)).before a0 Z = true := hw _ (List.mem_of_getElem? (i := 18) rfl)
theorem own_d0_0 : own_D method_2_code 0 (.iload_n 0) 1 1 := ⟨by decide +kernel, rfl⟩
theorem own_d0_1 : own_B method_2_code 1 (.ifCond .ne 5) 5 4 6 := ⟨by decide +kernel, rfl, by decide, by decide⟩
theorem own_d0_6 : own_D method_2_code 6 (.iload_n 0) 1 7 := ⟨by decide +kernel, rfl⟩
theorem own_d0_7 : own_D method_2_code 7 (.iconst 1) 1 8 := ⟨by decide +kernel, rfl⟩
theorem own_d0_8 : own_B method_2_code 8 (.if_icmp .ne 7) 7 11 15 := ⟨by decide +kernel, rfl, by decide, by decide⟩
theorem own_d0_15 : own_D method_2_code 15 (.iload_n 0) 1 16 := ⟨by decide +kernel, rfl⟩
theorem own_d0_16 : own_D method_2_code 16 (.iconst 2) 1 17 := ⟨by decide +kernel, rfl⟩
theorem own_d0_17 : own_B method_2_code 17 (.if_icmp .ne 7) 7 20 24 := ⟨by decide +kernel, rfl, by decide, by decide⟩
theorem own_d0_24 : own_D method_2_code 24 (.ldc2_w 11) 3 27 := ⟨by decide +kernel, rfl⟩
theorem own_d0_27 : own_D method_2_code 27 (.dreturn) 1 28 := ⟨by decide +kernel, rfl⟩
theorem own_d0_20 : own_D method_2_code 20 (.ldc2_w 9) 3 23 := ⟨by decide +kernel, rfl⟩
theorem own_d0_23 : own_D method_2_code 23 (.dreturn) 1 24 := ⟨by decide +kernel, rfl⟩
theorem own_d0_11 : own_D method_2_code 11 (.ldc2_w 7) 3 14 := ⟨by decide +kernel, rfl⟩
theorem own_d0_14 : own_D method_2_code 14 (.dreturn) 1 15 := ⟨by decide +kernel, rfl⟩
theorem own_d0_4 : own_D method_2_code 4 (.dconst 1) 1 5 := ⟨by decide +kernel, rfl⟩
theorem own_d0_5 : own_D method_2_code 5 (.dreturn) 1 6 := ⟨by decide +kernel, rfl⟩
theorem own_d1_0 : own_D prog_129_method_10_code 0 (.dload 4) 2 2 := ⟨by decide +kernel, rfl⟩
theorem own_d1_2 : own_D prog_129_method_10_code 2 (.dload_n 0) 1 3 := ⟨by decide +kernel, rfl⟩
theorem own_d1_3 : own_D prog_129_method_10_code 3 (.dsub) 1 4 := ⟨by decide +kernel, rfl⟩
theorem own_d1_4 : own_D prog_129_method_10_code 4 (.dstore 6) 2 6 := ⟨by decide +kernel, rfl⟩
theorem own_d1_6 : own_D prog_129_method_10_code 6 (.dload_n 0) 1 7 := ⟨by decide +kernel, rfl⟩
theorem own_d1_7 : own_D prog_129_method_10_code 7 (.dload 4) 2 9 := ⟨by decide +kernel, rfl⟩
theorem own_d1_9 : own_D prog_129_method_10_code 9 (.dload 6) 2 11 := ⟨by decide +kernel, rfl⟩
theorem own_d1_11 : own_D prog_129_method_10_code 11 (.dsub) 1 12 := ⟨by decide +kernel, rfl⟩
theorem own_d1_12 : own_D prog_129_method_10_code 12 (.dsub) 1 13 := ⟨by decide +kernel, rfl⟩
theorem own_d1_13 : own_D prog_129_method_10_code 13 (.dload_n 2) 1 14 := ⟨by decide +kernel, rfl⟩
theorem own_d1_14 : own_D prog_129_method_10_code 14 (.dload 6) 2 16 := ⟨by decide +kernel, rfl⟩
theorem own_d1_16 : own_D prog_129_method_10_code 16 (.dsub) 1 17 := ⟨by decide +kernel, rfl⟩
theorem own_d1_17 : own_D prog_129_method_10_code 17 (.dadd) 1 18 := ⟨by decide +kernel, rfl⟩
theorem own_d1_18 : own_D prog_129_method_10_code 18 (.dreturn) 1 19 := ⟨by decide +kernel, rfl⟩
theorem own_d2_0 : own_D prog_129_method_7_code 0 (.aload_n 0) 1 1 := ⟨by decide +kernel, rfl⟩
theorem own_d2_1 : own_D prog_129_method_7_code 1 (.iload_n 2) 1 2 := ⟨by decide +kernel, rfl⟩
theorem own_d2_2 : own_D prog_129_method_7_code 2 (.daload) 1 3 := ⟨by decide +kernel, rfl⟩
theorem own_d2_3 : own_D prog_129_method_7_code 3 (.dload_n 3) 1 4 := ⟨by decide +kernel, rfl⟩
theorem own_d2_4 : own_D prog_129_method_7_code 4 (.dadd) 1 5 := ⟨by decide +kernel, rfl⟩
theorem own_d2_5 : own_D prog_129_method_7_code 5 (.dstore 5) 2 7 := ⟨by decide +kernel, rfl⟩
theorem own_d2_7 : own_D prog_129_method_7_code 7 (.aload_n 1) 1 8 := ⟨by decide +kernel, rfl⟩
theorem own_d2_8 : own_D prog_129_method_7_code 8 (.iload_n 2) 1 9 := ⟨by decide +kernel, rfl⟩
theorem own_d2_9 : own_D prog_129_method_7_code 9 (.dup2) 1 10 := ⟨by decide +kernel, rfl⟩
theorem own_d2_10 : own_D prog_129_method_7_code 10 (.daload) 1 11 := ⟨by decide +kernel, rfl⟩
theorem own_d2_11 : own_D prog_129_method_7_code 11 (.aload_n 0) 1 12 := ⟨by decide +kernel, rfl⟩
theorem own_d2_12 : own_D prog_129_method_7_code 12 (.iload_n 2) 1 13 := ⟨by decide +kernel, rfl⟩
theorem own_d2_13 : own_D prog_129_method_7_code 13 (.daload) 1 14 := ⟨by decide +kernel, rfl⟩
theorem own_d2_14 : own_D prog_129_method_7_code 14 (.dload_n 3) 1 15 := ⟨by decide +kernel, rfl⟩
theorem own_d2_15 : own_D prog_129_method_7_code 15 (.dload 5) 2 17 := ⟨by decide +kernel, rfl⟩
theorem own_d2_17 : own_D prog_129_method_7_code 17 (.invokestatic 16) 3 20 := ⟨by decide +kernel, rfl⟩
theorem own_d2_20 : own_D prog_129_method_7_code 20 (.dadd) 1 21 := ⟨by decide +kernel, rfl⟩
theorem own_d2_21 : own_D prog_129_method_7_code 21 (.dastore) 1 22 := ⟨by decide +kernel, rfl⟩
theorem own_d2_22 : own_D prog_129_method_7_code 22 (.aload_n 0) 1 23 := ⟨by decide +kernel, rfl⟩
theorem own_d2_23 : own_D prog_129_method_7_code 23 (.iload_n 2) 1 24 := ⟨by decide +kernel, rfl⟩
theorem own_d2_24 : own_D prog_129_method_7_code 24 (.dload 5) 2 26 := ⟨by decide +kernel, rfl⟩
theorem own_d2_26 : own_D prog_129_method_7_code 26 (.dastore) 1 27 := ⟨by decide +kernel, rfl⟩
theorem own_d2_27 : own_D prog_129_method_7_code 27 (.return_) 1 28 := ⟨by decide +kernel, rfl⟩
theorem own_d3_0 : own_D prog_129_method_8_code 0 (.iload_n 3) 1 1 := ⟨by decide +kernel, rfl⟩
theorem own_d3_1 : own_D prog_129_method_8_code 1 (.istore 5) 2 3 := ⟨by decide +kernel, rfl⟩
theorem own_d3_3 : own_D prog_129_method_8_code 3 (.iload 5) 2 5 := ⟨by decide +kernel, rfl⟩
theorem own_d3_5 : own_D prog_129_method_8_code 5 (.iload 4) 2 7 := ⟨by decide +kernel, rfl⟩
theorem own_d3_7 : own_B prog_129_method_8_code 7 (.if_icmp .ge 62) 62 10 69 := ⟨by decide +kernel, rfl, by decide, by decide⟩
theorem own_d3_69 : own_D prog_129_method_8_code 69 (.return_) 1 70 := ⟨by decide +kernel, rfl⟩
theorem own_d3_10 : own_D prog_129_method_8_code 10 (.aload_n 0) 1 11 := ⟨by decide +kernel, rfl⟩
theorem own_d3_11 : own_D prog_129_method_8_code 11 (.iload 5) 2 13 := ⟨by decide +kernel, rfl⟩
theorem own_d3_13 : own_D prog_129_method_8_code 13 (.daload) 1 14 := ⟨by decide +kernel, rfl⟩
theorem own_d3_14 : own_D prog_129_method_8_code 14 (.dstore 6) 2 16 := ⟨by decide +kernel, rfl⟩
theorem own_d3_16 : own_D prog_129_method_8_code 16 (.aload_n 2) 1 17 := ⟨by decide +kernel, rfl⟩
theorem own_d3_17 : own_D prog_129_method_8_code 17 (.iload 5) 2 19 := ⟨by decide +kernel, rfl⟩
theorem own_d3_19 : own_D prog_129_method_8_code 19 (.daload) 1 20 := ⟨by decide +kernel, rfl⟩
theorem own_d3_20 : own_D prog_129_method_8_code 20 (.dstore 8) 2 22 := ⟨by decide +kernel, rfl⟩
theorem own_d3_22 : own_D prog_129_method_8_code 22 (.dload 6) 2 24 := ⟨by decide +kernel, rfl⟩
theorem own_d3_24 : own_D prog_129_method_8_code 24 (.dload 8) 2 26 := ⟨by decide +kernel, rfl⟩
theorem own_d3_26 : own_D prog_129_method_8_code 26 (.dadd) 1 27 := ⟨by decide +kernel, rfl⟩
theorem own_d3_27 : own_D prog_129_method_8_code 27 (.dstore 10) 2 29 := ⟨by decide +kernel, rfl⟩
theorem own_d3_29 : own_D prog_129_method_8_code 29 (.dload 10) 2 31 := ⟨by decide +kernel, rfl⟩
theorem own_d3_31 : own_D prog_129_method_8_code 31 (.dload 6) 2 33 := ⟨by decide +kernel, rfl⟩
theorem own_d3_33 : own_D prog_129_method_8_code 33 (.dsub) 1 34 := ⟨by decide +kernel, rfl⟩
theorem own_d3_34 : own_D prog_129_method_8_code 34 (.dstore 12) 2 36 := ⟨by decide +kernel, rfl⟩
theorem own_d3_36 : own_D prog_129_method_8_code 36 (.aload_n 1) 1 37 := ⟨by decide +kernel, rfl⟩
theorem own_d3_37 : own_D prog_129_method_8_code 37 (.iload 5) 2 39 := ⟨by decide +kernel, rfl⟩
theorem own_d3_39 : own_D prog_129_method_8_code 39 (.dup2) 1 40 := ⟨by decide +kernel, rfl⟩
theorem own_d3_40 : own_D prog_129_method_8_code 40 (.daload) 1 41 := ⟨by decide +kernel, rfl⟩
theorem own_d3_41 : own_D prog_129_method_8_code 41 (.dload 6) 2 43 := ⟨by decide +kernel, rfl⟩
theorem own_d3_43 : own_D prog_129_method_8_code 43 (.dload 10) 2 45 := ⟨by decide +kernel, rfl⟩
theorem own_d3_45 : own_D prog_129_method_8_code 45 (.dload 12) 2 47 := ⟨by decide +kernel, rfl⟩
theorem own_d3_47 : own_D prog_129_method_8_code 47 (.dsub) 1 48 := ⟨by decide +kernel, rfl⟩
theorem own_d3_48 : own_D prog_129_method_8_code 48 (.dsub) 1 49 := ⟨by decide +kernel, rfl⟩
theorem own_d3_49 : own_D prog_129_method_8_code 49 (.dload 8) 2 51 := ⟨by decide +kernel, rfl⟩
theorem own_d3_51 : own_D prog_129_method_8_code 51 (.dload 12) 2 53 := ⟨by decide +kernel, rfl⟩
theorem own_d3_53 : own_D prog_129_method_8_code 53 (.dsub) 1 54 := ⟨by decide +kernel, rfl⟩
theorem own_d3_54 : own_D prog_129_method_8_code 54 (.dadd) 1 55 := ⟨by decide +kernel, rfl⟩
theorem own_d3_55 : own_D prog_129_method_8_code 55 (.dadd) 1 56 := ⟨by decide +kernel, rfl⟩
theorem own_d3_56 : own_D prog_129_method_8_code 56 (.dastore) 1 57 := ⟨by decide +kernel, rfl⟩
theorem own_d3_57 : own_D prog_129_method_8_code 57 (.aload_n 0) 1 58 := ⟨by decide +kernel, rfl⟩
theorem own_d3_58 : own_D prog_129_method_8_code 58 (.iload 5) 2 60 := ⟨by decide +kernel, rfl⟩
theorem own_d3_60 : own_D prog_129_method_8_code 60 (.dload 10) 2 62 := ⟨by decide +kernel, rfl⟩
theorem own_d3_62 : own_D prog_129_method_8_code 62 (.dastore) 1 63 := ⟨by decide +kernel, rfl⟩
theorem own_d3_63 : own_D prog_129_method_8_code 63 (.iinc 5 1) 3 66 := ⟨by decide +kernel, rfl⟩
theorem own_d3_66 : own_B prog_129_method_8_code 66 (.goto (-63)) (-63) 69 3 := ⟨by decide +kernel, rfl, by decide, by decide⟩
theorem own_d4_0 : own_D code 0 (.iload 5) 2 2 := ⟨by decide +kernel, rfl⟩
theorem own_d4_2 : own_D code 2 (.bipush 7) 2 4 := ⟨by decide +kernel, rfl⟩
theorem own_d4_4 : own_D code 4 (.iand) 1 5 := ⟨by decide +kernel, rfl⟩
theorem own_d4_5 : own_D code 5 (.iconst 5) 1 6 := ⟨by decide +kernel, rfl⟩
theorem own_d4_6 : own_D code 6 (.irem) 1 7 := ⟨by decide +kernel, rfl⟩
theorem own_d4_7 : own_D code 7 (.istore 6) 2 9 := ⟨by decide +kernel, rfl⟩
theorem own_d4_9 : own_D code 9 (.iload 5) 2 11 := ⟨by decide +kernel, rfl⟩
theorem own_d4_11 : own_D code 11 (.iconst 3) 1 12 := ⟨by decide +kernel, rfl⟩
theorem own_d4_12 : own_D code 12 (.iushr) 1 13 := ⟨by decide +kernel, rfl⟩
theorem own_d4_13 : own_D code 13 (.bipush 7) 2 15 := ⟨by decide +kernel, rfl⟩
theorem own_d4_15 : own_D code 15 (.iand) 1 16 := ⟨by decide +kernel, rfl⟩
theorem own_d4_16 : own_D code 16 (.iconst 5) 1 17 := ⟨by decide +kernel, rfl⟩
theorem own_d4_17 : own_D code 17 (.irem) 1 18 := ⟨by decide +kernel, rfl⟩
theorem own_d4_18 : own_D code 18 (.istore 7) 2 20 := ⟨by decide +kernel, rfl⟩
theorem own_d4_20 : own_D code 20 (.iload 5) 2 22 := ⟨by decide +kernel, rfl⟩
theorem own_d4_22 : own_D code 22 (.bipush 6) 2 24 := ⟨by decide +kernel, rfl⟩
theorem own_d4_24 : own_D code 24 (.iushr) 1 25 := ⟨by decide +kernel, rfl⟩
theorem own_d4_25 : own_D code 25 (.iconst 3) 1 26 := ⟨by decide +kernel, rfl⟩
theorem own_d4_26 : own_D code 26 (.iand) 1 27 := ⟨by decide +kernel, rfl⟩
theorem own_d4_27 : own_D code 27 (.invokestatic 13) 3 30 := ⟨by decide +kernel, rfl⟩
theorem own_d4_30 : own_D code 30 (.dstore 8) 2 32 := ⟨by decide +kernel, rfl⟩
theorem own_d4_32 : own_D code 32 (.iload 5) 2 34 := ⟨by decide +kernel, rfl⟩
theorem own_d4_34 : own_D code 34 (.bipush 8) 2 36 := ⟨by decide +kernel, rfl⟩
theorem own_d4_36 : own_D code 36 (.iushr) 1 37 := ⟨by decide +kernel, rfl⟩
theorem own_d4_37 : own_D code 37 (.iconst 3) 1 38 := ⟨by decide +kernel, rfl⟩
theorem own_d4_38 : own_D code 38 (.iand) 1 39 := ⟨by decide +kernel, rfl⟩
theorem own_d4_39 : own_D code 39 (.invokestatic 13) 3 42 := ⟨by decide +kernel, rfl⟩
theorem own_d4_42 : own_D code 42 (.dstore 10) 2 44 := ⟨by decide +kernel, rfl⟩
theorem own_d4_44 : own_D code 44 (.ldc2_w 19) 3 47 := ⟨by decide +kernel, rfl⟩
theorem own_d4_47 : own_D code 47 (.dstore 12) 2 49 := ⟨by decide +kernel, rfl⟩
theorem own_d4_49 : own_D code 49 (.iconst 4) 1 50 := ⟨by decide +kernel, rfl⟩
theorem own_d4_50 : own_D code 50 (.newarray .double) 2 52 := ⟨by decide +kernel, rfl⟩
theorem own_d4_52 : own_D code 52 (.astore 14) 2 54 := ⟨by decide +kernel, rfl⟩
theorem own_d4_54 : own_D code 54 (.iconst 4) 1 55 := ⟨by decide +kernel, rfl⟩
theorem own_d4_55 : own_D code 55 (.newarray .double) 2 57 := ⟨by decide +kernel, rfl⟩
theorem own_d4_57 : own_D code 57 (.astore 15) 2 59 := ⟨by decide +kernel, rfl⟩
theorem own_d4_59 : own_D code 59 (.iconst 4) 1 60 := ⟨by decide +kernel, rfl⟩
theorem own_d4_60 : own_D code 60 (.newarray .double) 2 62 := ⟨by decide +kernel, rfl⟩
theorem own_d4_62 : own_D code 62 (.astore 16) 2 64 := ⟨by decide +kernel, rfl⟩
theorem own_d4_64 : own_D code 64 (.iconst 4) 1 65 := ⟨by decide +kernel, rfl⟩
theorem own_d4_65 : own_D code 65 (.newarray .double) 2 67 := ⟨by decide +kernel, rfl⟩
theorem own_d4_67 : own_D code 67 (.astore 17) 2 69 := ⟨by decide +kernel, rfl⟩
theorem own_d4_69 : own_D code 69 (.iconst 4) 1 70 := ⟨by decide +kernel, rfl⟩
theorem own_d4_70 : own_D code 70 (.newarray .double) 2 72 := ⟨by decide +kernel, rfl⟩
theorem own_d4_72 : own_D code 72 (.astore 18) 2 74 := ⟨by decide +kernel, rfl⟩
theorem own_d4_74 : own_D code 74 (.iconst 4) 1 75 := ⟨by decide +kernel, rfl⟩
theorem own_d4_75 : own_D code 75 (.newarray .double) 2 77 := ⟨by decide +kernel, rfl⟩
theorem own_d4_77 : own_D code 77 (.astore 19) 2 79 := ⟨by decide +kernel, rfl⟩
theorem own_d4_79 : own_D code 79 (.aload 14) 2 81 := ⟨by decide +kernel, rfl⟩
theorem own_d4_81 : own_D code 81 (.iconst 0) 1 82 := ⟨by decide +kernel, rfl⟩
theorem own_d4_82 : own_D code 82 (.lload_n 0) 1 83 := ⟨by decide +kernel, rfl⟩
theorem own_d4_83 : own_D code 83 (.l2i) 1 84 := ⟨by decide +kernel, rfl⟩
theorem own_d4_84 : own_D code 84 (.i2s) 1 85 := ⟨by decide +kernel, rfl⟩
theorem own_d4_85 : own_D code 85 (.i2d) 1 86 := ⟨by decide +kernel, rfl⟩
theorem own_d4_86 : own_D code 86 (.dload 8) 2 88 := ⟨by decide +kernel, rfl⟩
theorem own_d4_88 : own_D code 88 (.dmul) 1 89 := ⟨by decide +kernel, rfl⟩
theorem own_d4_89 : own_D code 89 (.dastore) 1 90 := ⟨by decide +kernel, rfl⟩
theorem own_d4_90 : own_D code 90 (.aload 14) 2 92 := ⟨by decide +kernel, rfl⟩
theorem own_d4_92 : own_D code 92 (.iconst 1) 1 93 := ⟨by decide +kernel, rfl⟩
theorem own_d4_93 : own_D code 93 (.lload_n 0) 1 94 := ⟨by decide +kernel, rfl⟩
theorem own_d4_94 : own_D code 94 (.bipush 16) 2 96 := ⟨by decide +kernel, rfl⟩
theorem own_d4_96 : own_D code 96 (.lushr) 1 97 := ⟨by decide +kernel, rfl⟩
theorem own_d4_97 : own_D code 97 (.l2i) 1 98 := ⟨by decide +kernel, rfl⟩
theorem own_d4_98 : own_D code 98 (.i2s) 1 99 := ⟨by decide +kernel, rfl⟩
theorem own_d4_99 : own_D code 99 (.i2d) 1 100 := ⟨by decide +kernel, rfl⟩
theorem own_d4_100 : own_D code 100 (.dload 8) 2 102 := ⟨by decide +kernel, rfl⟩
theorem own_d4_102 : own_D code 102 (.dmul) 1 103 := ⟨by decide +kernel, rfl⟩
theorem own_d4_103 : own_D code 103 (.dastore) 1 104 := ⟨by decide +kernel, rfl⟩
theorem own_d4_104 : own_D code 104 (.aload 14) 2 106 := ⟨by decide +kernel, rfl⟩
theorem own_d4_106 : own_D code 106 (.iconst 2) 1 107 := ⟨by decide +kernel, rfl⟩
theorem own_d4_107 : own_D code 107 (.lload_n 0) 1 108 := ⟨by decide +kernel, rfl⟩
theorem own_d4_108 : own_D code 108 (.bipush 32) 2 110 := ⟨by decide +kernel, rfl⟩
theorem own_d4_110 : own_D code 110 (.lushr) 1 111 := ⟨by decide +kernel, rfl⟩
theorem own_d4_111 : own_D code 111 (.l2i) 1 112 := ⟨by decide +kernel, rfl⟩
theorem own_d4_112 : own_D code 112 (.i2s) 1 113 := ⟨by decide +kernel, rfl⟩
theorem own_d4_113 : own_D code 113 (.i2d) 1 114 := ⟨by decide +kernel, rfl⟩
theorem own_d4_114 : own_D code 114 (.dload 8) 2 116 := ⟨by decide +kernel, rfl⟩
theorem own_d4_116 : own_D code 116 (.dmul) 1 117 := ⟨by decide +kernel, rfl⟩
theorem own_d4_117 : own_D code 117 (.dastore) 1 118 := ⟨by decide +kernel, rfl⟩
theorem own_d4_118 : own_D code 118 (.aload 14) 2 120 := ⟨by decide +kernel, rfl⟩
theorem own_d4_120 : own_D code 120 (.iconst 3) 1 121 := ⟨by decide +kernel, rfl⟩
theorem own_d4_121 : own_D code 121 (.lload_n 0) 1 122 := ⟨by decide +kernel, rfl⟩
theorem own_d4_122 : own_D code 122 (.bipush 48) 2 124 := ⟨by decide +kernel, rfl⟩
theorem own_d4_124 : own_D code 124 (.lushr) 1 125 := ⟨by decide +kernel, rfl⟩
theorem own_d4_125 : own_D code 125 (.l2i) 1 126 := ⟨by decide +kernel, rfl⟩
theorem own_d4_126 : own_D code 126 (.i2s) 1 127 := ⟨by decide +kernel, rfl⟩
theorem own_d4_127 : own_D code 127 (.i2d) 1 128 := ⟨by decide +kernel, rfl⟩
theorem own_d4_128 : own_D code 128 (.dload 8) 2 130 := ⟨by decide +kernel, rfl⟩
theorem own_d4_130 : own_D code 130 (.dmul) 1 131 := ⟨by decide +kernel, rfl⟩
theorem own_d4_131 : own_D code 131 (.dastore) 1 132 := ⟨by decide +kernel, rfl⟩
theorem own_d4_132 : own_D code 132 (.aload 16) 2 134 := ⟨by decide +kernel, rfl⟩
theorem own_d4_134 : own_D code 134 (.iconst 0) 1 135 := ⟨by decide +kernel, rfl⟩
theorem own_d4_135 : own_D code 135 (.lload_n 2) 1 136 := ⟨by decide +kernel, rfl⟩
theorem own_d4_136 : own_D code 136 (.l2i) 1 137 := ⟨by decide +kernel, rfl⟩
theorem own_d4_137 : own_D code 137 (.i2s) 1 138 := ⟨by decide +kernel, rfl⟩
theorem own_d4_138 : own_D code 138 (.i2d) 1 139 := ⟨by decide +kernel, rfl⟩
theorem own_d4_139 : own_D code 139 (.dload 10) 2 141 := ⟨by decide +kernel, rfl⟩
theorem own_d4_141 : own_D code 141 (.dmul) 1 142 := ⟨by decide +kernel, rfl⟩
theorem own_d4_142 : own_D code 142 (.dastore) 1 143 := ⟨by decide +kernel, rfl⟩
theorem own_d4_143 : own_D code 143 (.aload 16) 2 145 := ⟨by decide +kernel, rfl⟩
theorem own_d4_145 : own_D code 145 (.iconst 1) 1 146 := ⟨by decide +kernel, rfl⟩
theorem own_d4_146 : own_D code 146 (.lload_n 2) 1 147 := ⟨by decide +kernel, rfl⟩
theorem own_d4_147 : own_D code 147 (.bipush 16) 2 149 := ⟨by decide +kernel, rfl⟩
theorem own_d4_149 : own_D code 149 (.lushr) 1 150 := ⟨by decide +kernel, rfl⟩
theorem own_d4_150 : own_D code 150 (.l2i) 1 151 := ⟨by decide +kernel, rfl⟩
theorem own_d4_151 : own_D code 151 (.i2s) 1 152 := ⟨by decide +kernel, rfl⟩
theorem own_d4_152 : own_D code 152 (.i2d) 1 153 := ⟨by decide +kernel, rfl⟩
theorem own_d4_153 : own_D code 153 (.dload 10) 2 155 := ⟨by decide +kernel, rfl⟩
theorem own_d4_155 : own_D code 155 (.dmul) 1 156 := ⟨by decide +kernel, rfl⟩
theorem own_d4_156 : own_D code 156 (.dastore) 1 157 := ⟨by decide +kernel, rfl⟩
theorem own_d4_157 : own_D code 157 (.aload 16) 2 159 := ⟨by decide +kernel, rfl⟩
theorem own_d4_159 : own_D code 159 (.iconst 2) 1 160 := ⟨by decide +kernel, rfl⟩
theorem own_d4_160 : own_D code 160 (.lload_n 2) 1 161 := ⟨by decide +kernel, rfl⟩
theorem own_d4_161 : own_D code 161 (.bipush 32) 2 163 := ⟨by decide +kernel, rfl⟩
theorem own_d4_163 : own_D code 163 (.lushr) 1 164 := ⟨by decide +kernel, rfl⟩
theorem own_d4_164 : own_D code 164 (.l2i) 1 165 := ⟨by decide +kernel, rfl⟩
theorem own_d4_165 : own_D code 165 (.i2s) 1 166 := ⟨by decide +kernel, rfl⟩
theorem own_d4_166 : own_D code 166 (.i2d) 1 167 := ⟨by decide +kernel, rfl⟩
theorem own_d4_167 : own_D code 167 (.dload 10) 2 169 := ⟨by decide +kernel, rfl⟩
theorem own_d4_169 : own_D code 169 (.dmul) 1 170 := ⟨by decide +kernel, rfl⟩
theorem own_d4_170 : own_D code 170 (.dastore) 1 171 := ⟨by decide +kernel, rfl⟩
theorem own_d4_171 : own_D code 171 (.aload 16) 2 173 := ⟨by decide +kernel, rfl⟩
theorem own_d4_173 : own_D code 173 (.iconst 3) 1 174 := ⟨by decide +kernel, rfl⟩
theorem own_d4_174 : own_D code 174 (.lload_n 2) 1 175 := ⟨by decide +kernel, rfl⟩
theorem own_d4_175 : own_D code 175 (.bipush 48) 2 177 := ⟨by decide +kernel, rfl⟩
theorem own_d4_177 : own_D code 177 (.lushr) 1 178 := ⟨by decide +kernel, rfl⟩
theorem own_d4_178 : own_D code 178 (.l2i) 1 179 := ⟨by decide +kernel, rfl⟩
theorem own_d4_179 : own_D code 179 (.i2s) 1 180 := ⟨by decide +kernel, rfl⟩
theorem own_d4_180 : own_D code 180 (.i2d) 1 181 := ⟨by decide +kernel, rfl⟩
theorem own_d4_181 : own_D code 181 (.dload 10) 2 183 := ⟨by decide +kernel, rfl⟩
theorem own_d4_183 : own_D code 183 (.dmul) 1 184 := ⟨by decide +kernel, rfl⟩
theorem own_d4_184 : own_D code 184 (.dastore) 1 185 := ⟨by decide +kernel, rfl⟩
theorem own_d4_185 : own_D code 185 (.aload 15) 2 187 := ⟨by decide +kernel, rfl⟩
theorem own_d4_187 : own_D code 187 (.iconst 0) 1 188 := ⟨by decide +kernel, rfl⟩
theorem own_d4_188 : own_D code 188 (.iload 4) 2 190 := ⟨by decide +kernel, rfl⟩
theorem own_d4_190 : own_D code 190 (.i2b) 1 191 := ⟨by decide +kernel, rfl⟩
theorem own_d4_191 : own_D code 191 (.i2d) 1 192 := ⟨by decide +kernel, rfl⟩
theorem own_d4_192 : own_D code 192 (.dload 12) 2 194 := ⟨by decide +kernel, rfl⟩
theorem own_d4_194 : own_D code 194 (.dmul) 1 195 := ⟨by decide +kernel, rfl⟩
theorem own_d4_195 : own_D code 195 (.dastore) 1 196 := ⟨by decide +kernel, rfl⟩
theorem own_d4_196 : own_D code 196 (.aload 15) 2 198 := ⟨by decide +kernel, rfl⟩
theorem own_d4_198 : own_D code 198 (.iconst 1) 1 199 := ⟨by decide +kernel, rfl⟩
theorem own_d4_199 : own_D code 199 (.iload 4) 2 201 := ⟨by decide +kernel, rfl⟩
theorem own_d4_201 : own_D code 201 (.bipush 8) 2 203 := ⟨by decide +kernel, rfl⟩
theorem own_d4_203 : own_D code 203 (.iushr) 1 204 := ⟨by decide +kernel, rfl⟩
theorem own_d4_204 : own_D code 204 (.i2b) 1 205 := ⟨by decide +kernel, rfl⟩
theorem own_d4_205 : own_D code 205 (.i2d) 1 206 := ⟨by decide +kernel, rfl⟩
theorem own_d4_206 : own_D code 206 (.dload 12) 2 208 := ⟨by decide +kernel, rfl⟩
theorem own_d4_208 : own_D code 208 (.dmul) 1 209 := ⟨by decide +kernel, rfl⟩
theorem own_d4_209 : own_D code 209 (.dastore) 1 210 := ⟨by decide +kernel, rfl⟩
theorem own_d4_210 : own_D code 210 (.aload 15) 2 212 := ⟨by decide +kernel, rfl⟩
theorem own_d4_212 : own_D code 212 (.iconst 2) 1 213 := ⟨by decide +kernel, rfl⟩
theorem own_d4_213 : own_D code 213 (.iload 4) 2 215 := ⟨by decide +kernel, rfl⟩
theorem own_d4_215 : own_D code 215 (.bipush 16) 2 217 := ⟨by decide +kernel, rfl⟩
theorem own_d4_217 : own_D code 217 (.iushr) 1 218 := ⟨by decide +kernel, rfl⟩
theorem own_d4_218 : own_D code 218 (.i2b) 1 219 := ⟨by decide +kernel, rfl⟩
theorem own_d4_219 : own_D code 219 (.i2d) 1 220 := ⟨by decide +kernel, rfl⟩
theorem own_d4_220 : own_D code 220 (.dload 12) 2 222 := ⟨by decide +kernel, rfl⟩
theorem own_d4_222 : own_D code 222 (.dmul) 1 223 := ⟨by decide +kernel, rfl⟩
theorem own_d4_223 : own_D code 223 (.dastore) 1 224 := ⟨by decide +kernel, rfl⟩
theorem own_d4_224 : own_D code 224 (.aload 15) 2 226 := ⟨by decide +kernel, rfl⟩
theorem own_d4_226 : own_D code 226 (.iconst 3) 1 227 := ⟨by decide +kernel, rfl⟩
theorem own_d4_227 : own_D code 227 (.iload 4) 2 229 := ⟨by decide +kernel, rfl⟩
theorem own_d4_229 : own_D code 229 (.bipush 24) 2 231 := ⟨by decide +kernel, rfl⟩
theorem own_d4_231 : own_D code 231 (.iushr) 1 232 := ⟨by decide +kernel, rfl⟩
theorem own_d4_232 : own_D code 232 (.i2b) 1 233 := ⟨by decide +kernel, rfl⟩
theorem own_d4_233 : own_D code 233 (.i2d) 1 234 := ⟨by decide +kernel, rfl⟩
theorem own_d4_234 : own_D code 234 (.dload 12) 2 236 := ⟨by decide +kernel, rfl⟩
theorem own_d4_236 : own_D code 236 (.dmul) 1 237 := ⟨by decide +kernel, rfl⟩
theorem own_d4_237 : own_D code 237 (.dastore) 1 238 := ⟨by decide +kernel, rfl⟩
theorem own_d4_238 : own_D code 238 (.aload 17) 2 240 := ⟨by decide +kernel, rfl⟩
theorem own_d4_240 : own_D code 240 (.iconst 0) 1 241 := ⟨by decide +kernel, rfl⟩
theorem own_d4_241 : own_D code 241 (.aload 14) 2 243 := ⟨by decide +kernel, rfl⟩
theorem own_d4_243 : own_D code 243 (.iconst 0) 1 244 := ⟨by decide +kernel, rfl⟩
theorem own_d4_244 : own_D code 244 (.daload) 1 245 := ⟨by decide +kernel, rfl⟩
theorem own_d4_245 : own_D code 245 (.dastore) 1 246 := ⟨by decide +kernel, rfl⟩
theorem own_d4_246 : own_D code 246 (.aload 17) 2 248 := ⟨by decide +kernel, rfl⟩
theorem own_d4_248 : own_D code 248 (.iconst 1) 1 249 := ⟨by decide +kernel, rfl⟩
theorem own_d4_249 : own_D code 249 (.aload 14) 2 251 := ⟨by decide +kernel, rfl⟩
theorem own_d4_251 : own_D code 251 (.iconst 1) 1 252 := ⟨by decide +kernel, rfl⟩
theorem own_d4_252 : own_D code 252 (.daload) 1 253 := ⟨by decide +kernel, rfl⟩
theorem own_d4_253 : own_D code 253 (.dastore) 1 254 := ⟨by decide +kernel, rfl⟩
theorem own_d4_254 : own_D code 254 (.aload 17) 2 256 := ⟨by decide +kernel, rfl⟩
theorem own_d4_256 : own_D code 256 (.iconst 2) 1 257 := ⟨by decide +kernel, rfl⟩
theorem own_d4_257 : own_D code 257 (.aload 14) 2 259 := ⟨by decide +kernel, rfl⟩
theorem own_d4_259 : own_D code 259 (.iconst 2) 1 260 := ⟨by decide +kernel, rfl⟩
theorem own_d4_260 : own_D code 260 (.daload) 1 261 := ⟨by decide +kernel, rfl⟩
theorem own_d4_261 : own_D code 261 (.dastore) 1 262 := ⟨by decide +kernel, rfl⟩
theorem own_d4_262 : own_D code 262 (.aload 17) 2 264 := ⟨by decide +kernel, rfl⟩
theorem own_d4_264 : own_D code 264 (.iconst 3) 1 265 := ⟨by decide +kernel, rfl⟩
theorem own_d4_265 : own_D code 265 (.aload 14) 2 267 := ⟨by decide +kernel, rfl⟩
theorem own_d4_267 : own_D code 267 (.iconst 3) 1 268 := ⟨by decide +kernel, rfl⟩
theorem own_d4_268 : own_D code 268 (.daload) 1 269 := ⟨by decide +kernel, rfl⟩
theorem own_d4_269 : own_D code 269 (.dastore) 1 270 := ⟨by decide +kernel, rfl⟩
theorem own_d4_270 : own_D code 270 (.aload 18) 2 272 := ⟨by decide +kernel, rfl⟩
theorem own_d4_272 : own_D code 272 (.iconst 0) 1 273 := ⟨by decide +kernel, rfl⟩
theorem own_d4_273 : own_D code 273 (.aload 15) 2 275 := ⟨by decide +kernel, rfl⟩
theorem own_d4_275 : own_D code 275 (.iconst 0) 1 276 := ⟨by decide +kernel, rfl⟩
theorem own_d4_276 : own_D code 276 (.daload) 1 277 := ⟨by decide +kernel, rfl⟩
theorem own_d4_277 : own_D code 277 (.dastore) 1 278 := ⟨by decide +kernel, rfl⟩
theorem own_d4_278 : own_D code 278 (.aload 18) 2 280 := ⟨by decide +kernel, rfl⟩
theorem own_d4_280 : own_D code 280 (.iconst 1) 1 281 := ⟨by decide +kernel, rfl⟩
theorem own_d4_281 : own_D code 281 (.aload 15) 2 283 := ⟨by decide +kernel, rfl⟩
theorem own_d4_283 : own_D code 283 (.iconst 1) 1 284 := ⟨by decide +kernel, rfl⟩
theorem own_d4_284 : own_D code 284 (.daload) 1 285 := ⟨by decide +kernel, rfl⟩
theorem own_d4_285 : own_D code 285 (.dastore) 1 286 := ⟨by decide +kernel, rfl⟩
theorem own_d4_286 : own_D code 286 (.aload 18) 2 288 := ⟨by decide +kernel, rfl⟩
theorem own_d4_288 : own_D code 288 (.iconst 2) 1 289 := ⟨by decide +kernel, rfl⟩
theorem own_d4_289 : own_D code 289 (.aload 15) 2 291 := ⟨by decide +kernel, rfl⟩
theorem own_d4_291 : own_D code 291 (.iconst 2) 1 292 := ⟨by decide +kernel, rfl⟩
theorem own_d4_292 : own_D code 292 (.daload) 1 293 := ⟨by decide +kernel, rfl⟩
theorem own_d4_293 : own_D code 293 (.dastore) 1 294 := ⟨by decide +kernel, rfl⟩
theorem own_d4_294 : own_D code 294 (.aload 18) 2 296 := ⟨by decide +kernel, rfl⟩
theorem own_d4_296 : own_D code 296 (.iconst 3) 1 297 := ⟨by decide +kernel, rfl⟩
theorem own_d4_297 : own_D code 297 (.aload 15) 2 299 := ⟨by decide +kernel, rfl⟩
theorem own_d4_299 : own_D code 299 (.iconst 3) 1 300 := ⟨by decide +kernel, rfl⟩
theorem own_d4_300 : own_D code 300 (.daload) 1 301 := ⟨by decide +kernel, rfl⟩
theorem own_d4_301 : own_D code 301 (.dastore) 1 302 := ⟨by decide +kernel, rfl⟩
theorem own_d4_302 : own_D code 302 (.aload 19) 2 304 := ⟨by decide +kernel, rfl⟩
theorem own_d4_304 : own_D code 304 (.iconst 0) 1 305 := ⟨by decide +kernel, rfl⟩
theorem own_d4_305 : own_D code 305 (.aload 16) 2 307 := ⟨by decide +kernel, rfl⟩
theorem own_d4_307 : own_D code 307 (.iconst 0) 1 308 := ⟨by decide +kernel, rfl⟩
theorem own_d4_308 : own_D code 308 (.daload) 1 309 := ⟨by decide +kernel, rfl⟩
theorem own_d4_309 : own_D code 309 (.dastore) 1 310 := ⟨by decide +kernel, rfl⟩
theorem own_d4_310 : own_D code 310 (.aload 19) 2 312 := ⟨by decide +kernel, rfl⟩
theorem own_d4_312 : own_D code 312 (.iconst 1) 1 313 := ⟨by decide +kernel, rfl⟩
theorem own_d4_313 : own_D code 313 (.aload 16) 2 315 := ⟨by decide +kernel, rfl⟩
theorem own_d4_315 : own_D code 315 (.iconst 1) 1 316 := ⟨by decide +kernel, rfl⟩
theorem own_d4_316 : own_D code 316 (.daload) 1 317 := ⟨by decide +kernel, rfl⟩
theorem own_d4_317 : own_D code 317 (.dastore) 1 318 := ⟨by decide +kernel, rfl⟩
theorem own_d4_318 : own_D code 318 (.aload 19) 2 320 := ⟨by decide +kernel, rfl⟩
theorem own_d4_320 : own_D code 320 (.iconst 2) 1 321 := ⟨by decide +kernel, rfl⟩
theorem own_d4_321 : own_D code 321 (.aload 16) 2 323 := ⟨by decide +kernel, rfl⟩
theorem own_d4_323 : own_D code 323 (.iconst 2) 1 324 := ⟨by decide +kernel, rfl⟩
theorem own_d4_324 : own_D code 324 (.daload) 1 325 := ⟨by decide +kernel, rfl⟩
theorem own_d4_325 : own_D code 325 (.dastore) 1 326 := ⟨by decide +kernel, rfl⟩
theorem own_d4_326 : own_D code 326 (.aload 19) 2 328 := ⟨by decide +kernel, rfl⟩
theorem own_d4_328 : own_D code 328 (.iconst 3) 1 329 := ⟨by decide +kernel, rfl⟩
theorem own_d4_329 : own_D code 329 (.aload 16) 2 331 := ⟨by decide +kernel, rfl⟩
theorem own_d4_331 : own_D code 331 (.iconst 3) 1 332 := ⟨by decide +kernel, rfl⟩
theorem own_d4_332 : own_D code 332 (.daload) 1 333 := ⟨by decide +kernel, rfl⟩
theorem own_d4_333 : own_D code 333 (.dastore) 1 334 := ⟨by decide +kernel, rfl⟩
theorem own_d4_334 : own_D code 334 (.aload 14) 2 336 := ⟨by decide +kernel, rfl⟩
theorem own_d4_336 : own_D code 336 (.aload 15) 2 338 := ⟨by decide +kernel, rfl⟩
theorem own_d4_338 : own_D code 338 (.aload 16) 2 340 := ⟨by decide +kernel, rfl⟩
theorem own_d4_340 : own_D code 340 (.iload 6) 2 342 := ⟨by decide +kernel, rfl⟩
theorem own_d4_342 : own_D code 342 (.iload 7) 2 344 := ⟨by decide +kernel, rfl⟩
theorem own_d4_344 : own_D code 344 (.invokestatic 21) 3 347 := ⟨by decide +kernel, rfl⟩
theorem own_d4_347 : own_D code 347 (.iload 6) 2 349 := ⟨by decide +kernel, rfl⟩
theorem own_d4_349 : own_B code 349 (.ifCond .gt 21) 21 352 370 := ⟨by decide +kernel, rfl, by decide, by decide⟩
theorem own_d4_352 : own_D code 352 (.iconst 0) 1 353 := ⟨by decide +kernel, rfl⟩
theorem own_d4_353 : own_D code 353 (.iload 7) 2 355 := ⟨by decide +kernel, rfl⟩
theorem own_d4_355 : own_B code 355 (.if_icmp .ge 15) 15 358 370 := ⟨by decide +kernel, rfl, by decide, by decide⟩
theorem own_d4_370 : own_D code 370 (.iload 6) 2 372 := ⟨by decide +kernel, rfl⟩
theorem own_d4_372 : own_D code 372 (.iconst 1) 1 373 := ⟨by decide +kernel, rfl⟩
theorem own_d4_373 : own_B code 373 (.if_icmp .gt 21) 21 376 394 := ⟨by decide +kernel, rfl, by decide, by decide⟩
theorem own_d4_376 : own_D code 376 (.iconst 1) 1 377 := ⟨by decide +kernel, rfl⟩
theorem own_d4_377 : own_D code 377 (.iload 7) 2 379 := ⟨by decide +kernel, rfl⟩
theorem own_d4_379 : own_B code 379 (.if_icmp .ge 15) 15 382 394 := ⟨by decide +kernel, rfl, by decide, by decide⟩
theorem own_d4_394 : own_D code 394 (.iload 6) 2 396 := ⟨by decide +kernel, rfl⟩
theorem own_d4_396 : own_D code 396 (.iconst 2) 1 397 := ⟨by decide +kernel, rfl⟩
theorem own_d4_397 : own_B code 397 (.if_icmp .gt 21) 21 400 418 := ⟨by decide +kernel, rfl, by decide, by decide⟩
theorem own_d4_400 : own_D code 400 (.iconst 2) 1 401 := ⟨by decide +kernel, rfl⟩
theorem own_d4_401 : own_D code 401 (.iload 7) 2 403 := ⟨by decide +kernel, rfl⟩
theorem own_d4_403 : own_B code 403 (.if_icmp .ge 15) 15 406 418 := ⟨by decide +kernel, rfl, by decide, by decide⟩
theorem own_d4_418 : own_D code 418 (.iload 6) 2 420 := ⟨by decide +kernel, rfl⟩
theorem own_d4_420 : own_D code 420 (.iconst 3) 1 421 := ⟨by decide +kernel, rfl⟩
theorem own_d4_421 : own_B code 421 (.if_icmp .gt 21) 21 424 442 := ⟨by decide +kernel, rfl, by decide, by decide⟩
theorem own_d4_424 : own_D code 424 (.iconst 3) 1 425 := ⟨by decide +kernel, rfl⟩
theorem own_d4_425 : own_D code 425 (.iload 7) 2 427 := ⟨by decide +kernel, rfl⟩
theorem own_d4_427 : own_B code 427 (.if_icmp .ge 15) 15 430 442 := ⟨by decide +kernel, rfl, by decide, by decide⟩
theorem own_d4_442 : own_D code 442 (.aload 14) 2 444 := ⟨by decide +kernel, rfl⟩
theorem own_d4_444 : own_D code 444 (.iconst 0) 1 445 := ⟨by decide +kernel, rfl⟩
theorem own_d4_445 : own_D code 445 (.daload) 1 446 := ⟨by decide +kernel, rfl⟩
theorem own_d4_446 : own_D code 446 (.aload 17) 2 448 := ⟨by decide +kernel, rfl⟩
theorem own_d4_448 : own_D code 448 (.iconst 0) 1 449 := ⟨by decide +kernel, rfl⟩
theorem own_d4_449 : own_D code 449 (.daload) 1 450 := ⟨by decide +kernel, rfl⟩
theorem own_d4_450 : own_D code 450 (.dcmp .l) 1 451 := ⟨by decide +kernel, rfl⟩
theorem own_d4_451 : own_B code 451 (.ifCond .ne 43) 43 454 494 := ⟨by decide +kernel, rfl, by decide, by decide⟩
theorem own_d4_454 : own_D code 454 (.aload 14) 2 456 := ⟨by decide +kernel, rfl⟩
theorem own_d4_456 : own_D code 456 (.iconst 1) 1 457 := ⟨by decide +kernel, rfl⟩
theorem own_d4_457 : own_D code 457 (.daload) 1 458 := ⟨by decide +kernel, rfl⟩
theorem own_d4_458 : own_D code 458 (.aload 17) 2 460 := ⟨by decide +kernel, rfl⟩
theorem own_d4_460 : own_D code 460 (.iconst 1) 1 461 := ⟨by decide +kernel, rfl⟩
theorem own_d4_461 : own_D code 461 (.daload) 1 462 := ⟨by decide +kernel, rfl⟩
theorem own_d4_462 : own_D code 462 (.dcmp .l) 1 463 := ⟨by decide +kernel, rfl⟩
theorem own_d4_463 : own_B code 463 (.ifCond .ne 31) 31 466 494 := ⟨by decide +kernel, rfl, by decide, by decide⟩
theorem own_d4_466 : own_D code 466 (.aload 14) 2 468 := ⟨by decide +kernel, rfl⟩
theorem own_d4_468 : own_D code 468 (.iconst 2) 1 469 := ⟨by decide +kernel, rfl⟩
theorem own_d4_469 : own_D code 469 (.daload) 1 470 := ⟨by decide +kernel, rfl⟩
theorem own_d4_470 : own_D code 470 (.aload 17) 2 472 := ⟨by decide +kernel, rfl⟩
theorem own_d4_472 : own_D code 472 (.iconst 2) 1 473 := ⟨by decide +kernel, rfl⟩
theorem own_d4_473 : own_D code 473 (.daload) 1 474 := ⟨by decide +kernel, rfl⟩
theorem own_d4_474 : own_D code 474 (.dcmp .l) 1 475 := ⟨by decide +kernel, rfl⟩
theorem own_d4_475 : own_B code 475 (.ifCond .ne 19) 19 478 494 := ⟨by decide +kernel, rfl, by decide, by decide⟩
theorem own_d4_478 : own_D code 478 (.aload 14) 2 480 := ⟨by decide +kernel, rfl⟩
theorem own_d4_480 : own_D code 480 (.iconst 3) 1 481 := ⟨by decide +kernel, rfl⟩
theorem own_d4_481 : own_D code 481 (.daload) 1 482 := ⟨by decide +kernel, rfl⟩
theorem own_d4_482 : own_D code 482 (.aload 17) 2 484 := ⟨by decide +kernel, rfl⟩
theorem own_d4_484 : own_D code 484 (.iconst 3) 1 485 := ⟨by decide +kernel, rfl⟩
theorem own_d4_485 : own_D code 485 (.daload) 1 486 := ⟨by decide +kernel, rfl⟩
theorem own_d4_486 : own_D code 486 (.dcmp .l) 1 487 := ⟨by decide +kernel, rfl⟩
theorem own_d4_487 : own_B code 487 (.ifCond .ne 7) 7 490 494 := ⟨by decide +kernel, rfl, by decide, by decide⟩
theorem own_d4_490 : own_D code 490 (.iconst 1) 1 491 := ⟨by decide +kernel, rfl⟩
theorem own_d4_491 : own_B code 491 (.goto 4) 4 494 495 := ⟨by decide +kernel, rfl, by decide, by decide⟩
theorem own_d4_495 : own_D code 495 (.istore 20) 2 497 := ⟨by decide +kernel, rfl⟩
theorem own_d4_497 : own_D code 497 (.aload 15) 2 499 := ⟨by decide +kernel, rfl⟩
theorem own_d4_499 : own_D code 499 (.iconst 0) 1 500 := ⟨by decide +kernel, rfl⟩
theorem own_d4_500 : own_D code 500 (.daload) 1 501 := ⟨by decide +kernel, rfl⟩
theorem own_d4_501 : own_D code 501 (.aload 18) 2 503 := ⟨by decide +kernel, rfl⟩
theorem own_d4_503 : own_D code 503 (.iconst 0) 1 504 := ⟨by decide +kernel, rfl⟩
theorem own_d4_504 : own_D code 504 (.daload) 1 505 := ⟨by decide +kernel, rfl⟩
theorem own_d4_505 : own_D code 505 (.dcmp .l) 1 506 := ⟨by decide +kernel, rfl⟩
theorem own_d4_506 : own_B code 506 (.ifCond .ne 43) 43 509 549 := ⟨by decide +kernel, rfl, by decide, by decide⟩
theorem own_d4_509 : own_D code 509 (.aload 15) 2 511 := ⟨by decide +kernel, rfl⟩
theorem own_d4_511 : own_D code 511 (.iconst 1) 1 512 := ⟨by decide +kernel, rfl⟩
theorem own_d4_512 : own_D code 512 (.daload) 1 513 := ⟨by decide +kernel, rfl⟩
theorem own_d4_513 : own_D code 513 (.aload 18) 2 515 := ⟨by decide +kernel, rfl⟩
theorem own_d4_515 : own_D code 515 (.iconst 1) 1 516 := ⟨by decide +kernel, rfl⟩
theorem own_d4_516 : own_D code 516 (.daload) 1 517 := ⟨by decide +kernel, rfl⟩
theorem own_d4_517 : own_D code 517 (.dcmp .l) 1 518 := ⟨by decide +kernel, rfl⟩
theorem own_d4_518 : own_B code 518 (.ifCond .ne 31) 31 521 549 := ⟨by decide +kernel, rfl, by decide, by decide⟩
theorem own_d4_521 : own_D code 521 (.aload 15) 2 523 := ⟨by decide +kernel, rfl⟩
theorem own_d4_523 : own_D code 523 (.iconst 2) 1 524 := ⟨by decide +kernel, rfl⟩
theorem own_d4_524 : own_D code 524 (.daload) 1 525 := ⟨by decide +kernel, rfl⟩
theorem own_d4_525 : own_D code 525 (.aload 18) 2 527 := ⟨by decide +kernel, rfl⟩
theorem own_d4_527 : own_D code 527 (.iconst 2) 1 528 := ⟨by decide +kernel, rfl⟩
theorem own_d4_528 : own_D code 528 (.daload) 1 529 := ⟨by decide +kernel, rfl⟩
theorem own_d4_529 : own_D code 529 (.dcmp .l) 1 530 := ⟨by decide +kernel, rfl⟩
theorem own_d4_530 : own_B code 530 (.ifCond .ne 19) 19 533 549 := ⟨by decide +kernel, rfl, by decide, by decide⟩
theorem own_d4_533 : own_D code 533 (.aload 15) 2 535 := ⟨by decide +kernel, rfl⟩
theorem own_d4_535 : own_D code 535 (.iconst 3) 1 536 := ⟨by decide +kernel, rfl⟩
theorem own_d4_536 : own_D code 536 (.daload) 1 537 := ⟨by decide +kernel, rfl⟩
theorem own_d4_537 : own_D code 537 (.aload 18) 2 539 := ⟨by decide +kernel, rfl⟩
theorem own_d4_539 : own_D code 539 (.iconst 3) 1 540 := ⟨by decide +kernel, rfl⟩
theorem own_d4_540 : own_D code 540 (.daload) 1 541 := ⟨by decide +kernel, rfl⟩
theorem own_d4_541 : own_D code 541 (.dcmp .l) 1 542 := ⟨by decide +kernel, rfl⟩
theorem own_d4_542 : own_B code 542 (.ifCond .ne 7) 7 545 549 := ⟨by decide +kernel, rfl, by decide, by decide⟩
theorem own_d4_545 : own_D code 545 (.iconst 1) 1 546 := ⟨by decide +kernel, rfl⟩
theorem own_d4_546 : own_B code 546 (.goto 4) 4 549 550 := ⟨by decide +kernel, rfl, by decide, by decide⟩
theorem own_d4_550 : own_D code 550 (.istore 21) 2 552 := ⟨by decide +kernel, rfl⟩
theorem own_d4_552 : own_D code 552 (.aload 16) 2 554 := ⟨by decide +kernel, rfl⟩
theorem own_d4_554 : own_D code 554 (.iconst 0) 1 555 := ⟨by decide +kernel, rfl⟩
theorem own_d4_555 : own_D code 555 (.daload) 1 556 := ⟨by decide +kernel, rfl⟩
theorem own_d4_556 : own_D code 556 (.aload 19) 2 558 := ⟨by decide +kernel, rfl⟩
theorem own_d4_558 : own_D code 558 (.iconst 0) 1 559 := ⟨by decide +kernel, rfl⟩
theorem own_d4_559 : own_D code 559 (.daload) 1 560 := ⟨by decide +kernel, rfl⟩
theorem own_d4_560 : own_D code 560 (.dcmp .l) 1 561 := ⟨by decide +kernel, rfl⟩
theorem own_d4_561 : own_B code 561 (.ifCond .ne 43) 43 564 604 := ⟨by decide +kernel, rfl, by decide, by decide⟩
theorem own_d4_564 : own_D code 564 (.aload 16) 2 566 := ⟨by decide +kernel, rfl⟩
theorem own_d4_566 : own_D code 566 (.iconst 1) 1 567 := ⟨by decide +kernel, rfl⟩
theorem own_d4_567 : own_D code 567 (.daload) 1 568 := ⟨by decide +kernel, rfl⟩
theorem own_d4_568 : own_D code 568 (.aload 19) 2 570 := ⟨by decide +kernel, rfl⟩
theorem own_d4_570 : own_D code 570 (.iconst 1) 1 571 := ⟨by decide +kernel, rfl⟩
theorem own_d4_571 : own_D code 571 (.daload) 1 572 := ⟨by decide +kernel, rfl⟩
theorem own_d4_572 : own_D code 572 (.dcmp .l) 1 573 := ⟨by decide +kernel, rfl⟩
theorem own_d4_573 : own_B code 573 (.ifCond .ne 31) 31 576 604 := ⟨by decide +kernel, rfl, by decide, by decide⟩
theorem own_d4_576 : own_D code 576 (.aload 16) 2 578 := ⟨by decide +kernel, rfl⟩
theorem own_d4_578 : own_D code 578 (.iconst 2) 1 579 := ⟨by decide +kernel, rfl⟩
theorem own_d4_579 : own_D code 579 (.daload) 1 580 := ⟨by decide +kernel, rfl⟩
theorem own_d4_580 : own_D code 580 (.aload 19) 2 582 := ⟨by decide +kernel, rfl⟩
theorem own_d4_582 : own_D code 582 (.iconst 2) 1 583 := ⟨by decide +kernel, rfl⟩
theorem own_d4_583 : own_D code 583 (.daload) 1 584 := ⟨by decide +kernel, rfl⟩
theorem own_d4_584 : own_D code 584 (.dcmp .l) 1 585 := ⟨by decide +kernel, rfl⟩
theorem own_d4_585 : own_B code 585 (.ifCond .ne 19) 19 588 604 := ⟨by decide +kernel, rfl, by decide, by decide⟩
theorem own_d4_588 : own_D code 588 (.aload 16) 2 590 := ⟨by decide +kernel, rfl⟩
theorem own_d4_590 : own_D code 590 (.iconst 3) 1 591 := ⟨by decide +kernel, rfl⟩
theorem own_d4_591 : own_D code 591 (.daload) 1 592 := ⟨by decide +kernel, rfl⟩
theorem own_d4_592 : own_D code 592 (.aload 19) 2 594 := ⟨by decide +kernel, rfl⟩
theorem own_d4_594 : own_D code 594 (.iconst 3) 1 595 := ⟨by decide +kernel, rfl⟩
theorem own_d4_595 : own_D code 595 (.daload) 1 596 := ⟨by decide +kernel, rfl⟩
theorem own_d4_596 : own_D code 596 (.dcmp .l) 1 597 := ⟨by decide +kernel, rfl⟩
theorem own_d4_597 : own_B code 597 (.ifCond .ne 7) 7 600 604 := ⟨by decide +kernel, rfl, by decide, by decide⟩
theorem own_d4_600 : own_D code 600 (.iconst 1) 1 601 := ⟨by decide +kernel, rfl⟩
theorem own_d4_601 : own_B code 601 (.goto 4) 4 604 605 := ⟨by decide +kernel, rfl, by decide, by decide⟩
theorem own_d4_605 : own_D code 605 (.istore 22) 2 607 := ⟨by decide +kernel, rfl⟩
theorem own_d4_607 : own_D code 607 (.iload 20) 2 609 := ⟨by decide +kernel, rfl⟩
theorem own_d4_609 : own_B code 609 (.ifCond .eq 17) 17 612 626 := ⟨by decide +kernel, rfl, by decide, by decide⟩
theorem own_d4_612 : own_D code 612 (.iload 21) 2 614 := ⟨by decide +kernel, rfl⟩
theorem own_d4_614 : own_B code 614 (.ifCond .eq 12) 12 617 626 := ⟨by decide +kernel, rfl, by decide, by decide⟩
theorem own_d4_617 : own_D code 617 (.iload 22) 2 619 := ⟨by decide +kernel, rfl⟩
theorem own_d4_619 : own_B code 619 (.ifCond .eq 7) 7 622 626 := ⟨by decide +kernel, rfl, by decide, by decide⟩
theorem own_d4_622 : own_D code 622 (.iconst 1) 1 623 := ⟨by decide +kernel, rfl⟩
theorem own_d4_623 : own_B code 623 (.goto 4) 4 626 627 := ⟨by decide +kernel, rfl, by decide, by decide⟩
theorem own_d4_627 : own_D code 627 (.ireturn) 1 628 := ⟨by decide +kernel, rfl⟩
theorem own_d4_358 : own_D code 358 (.aload 17) 2 360 := ⟨by decide +kernel, rfl⟩
theorem own_d4_360 : own_D code 360 (.aload 18) 2 362 := ⟨by decide +kernel, rfl⟩
theorem own_d4_362 : own_D code 362 (.iconst 0) 1 363 := ⟨by decide +kernel, rfl⟩
theorem own_d4_363 : own_D code 363 (.aload 19) 2 365 := ⟨by decide +kernel, rfl⟩
theorem own_d4_365 : own_D code 365 (.iconst 0) 1 366 := ⟨by decide +kernel, rfl⟩
theorem own_d4_366 : own_D code 366 (.daload) 1 367 := ⟨by decide +kernel, rfl⟩
theorem own_d4_367 : own_D code 367 (.invokestatic 27) 3 370 := ⟨by decide +kernel, rfl⟩
theorem own_d4_382 : own_D code 382 (.aload 17) 2 384 := ⟨by decide +kernel, rfl⟩
theorem own_d4_384 : own_D code 384 (.aload 18) 2 386 := ⟨by decide +kernel, rfl⟩
theorem own_d4_386 : own_D code 386 (.iconst 1) 1 387 := ⟨by decide +kernel, rfl⟩
theorem own_d4_387 : own_D code 387 (.aload 19) 2 389 := ⟨by decide +kernel, rfl⟩
theorem own_d4_389 : own_D code 389 (.iconst 1) 1 390 := ⟨by decide +kernel, rfl⟩
theorem own_d4_390 : own_D code 390 (.daload) 1 391 := ⟨by decide +kernel, rfl⟩
theorem own_d4_391 : own_D code 391 (.invokestatic 27) 3 394 := ⟨by decide +kernel, rfl⟩
theorem own_d4_406 : own_D code 406 (.aload 17) 2 408 := ⟨by decide +kernel, rfl⟩
theorem own_d4_408 : own_D code 408 (.aload 18) 2 410 := ⟨by decide +kernel, rfl⟩
theorem own_d4_410 : own_D code 410 (.iconst 2) 1 411 := ⟨by decide +kernel, rfl⟩
theorem own_d4_411 : own_D code 411 (.aload 19) 2 413 := ⟨by decide +kernel, rfl⟩
theorem own_d4_413 : own_D code 413 (.iconst 2) 1 414 := ⟨by decide +kernel, rfl⟩
theorem own_d4_414 : own_D code 414 (.daload) 1 415 := ⟨by decide +kernel, rfl⟩
theorem own_d4_415 : own_D code 415 (.invokestatic 27) 3 418 := ⟨by decide +kernel, rfl⟩
theorem own_d4_430 : own_D code 430 (.aload 17) 2 432 := ⟨by decide +kernel, rfl⟩
theorem own_d4_432 : own_D code 432 (.aload 18) 2 434 := ⟨by decide +kernel, rfl⟩
theorem own_d4_434 : own_D code 434 (.iconst 3) 1 435 := ⟨by decide +kernel, rfl⟩
theorem own_d4_435 : own_D code 435 (.aload 19) 2 437 := ⟨by decide +kernel, rfl⟩
theorem own_d4_437 : own_D code 437 (.iconst 3) 1 438 := ⟨by decide +kernel, rfl⟩
theorem own_d4_438 : own_D code 438 (.daload) 1 439 := ⟨by decide +kernel, rfl⟩
theorem own_d4_439 : own_D code 439 (.invokestatic 27) 3 442 := ⟨by decide +kernel, rfl⟩
theorem own_pd0 : parseMethodDescriptor "(DDD)D" = some ⟨[.double, .double, .double], some .double⟩ := by decide +kernel
theorem own_pd1 : parseMethodDescriptor "(I)D" = some ⟨[.int], some .double⟩ := by decide +kernel
theorem own_pd2 : parseMethodDescriptor "([D[D[DII)V" = some ⟨[(.array .double), (.array .double), (.array .double), .int, .int], none⟩ := by decide +kernel
theorem own_pd3 : parseMethodDescriptor "([D[DID)V" = some ⟨[(.array .double), (.array .double), .int, .double], none⟩ := by decide +kernel
theorem own_and3 (k : Int32) : k &&& 3 = 0 ∨ k &&& 3 = 1 ∨ k &&& 3 = 2 ∨ k &&& 3 = 3 := by
  have h : ∀ b : BitVec 32, b &&& 3#32 = 0#32 ∨ b &&& 3#32 = 1#32 ∨ b &&& 3#32 = 2#32 ∨ b &&& 3#32 = 3#32 := by
    intro b
    have q : (b &&& 3#32).toNat ≤ 3 := by rw [BitVec.toNat_and]; exact Nat.and_le_right
    bv_omega
  rcases h k.toBitVec with q | q | q | q
  · exact Or.inl (Int32.toBitVec_inj.mp q)
  · exact Or.inr (Or.inl (Int32.toBitVec_inj.mp q))
  · exact Or.inr (Or.inr (Or.inl (Int32.toBitVec_inj.mp q)))
  · exact Or.inr (Or.inr (Or.inr (Int32.toBitVec_inj.mp q)))
theorem own_and_bound (a b : Int32) (hb : 0 ≤ b.toInt) : 0 ≤ (a &&& b).toInt ∧ (a &&& b).toInt ≤ b.toInt := by
  have q : (a &&& b).toBitVec.toNat ≤ b.toBitVec.toNat := by
    show (a.toBitVec &&& b.toBitVec).toNat ≤ _
    rw [BitVec.toNat_and]; exact Nat.and_le_right
  have hb' : b.toInt = (b.toBitVec.toNat : Int) := by
    have : b.toInt = b.toBitVec.toInt := rfl
    rw [this] at hb ⊢
    rw [BitVec.toInt_eq_toNat_cond] at hb ⊢
    have := b.toBitVec.isLt
    split at hb <;> split <;> omega
  have hlt : 2 * b.toBitVec.toNat < 2 ^ 32 := by have := Int32.toInt_lt b; omega
  have : (a &&& b).toInt = (a &&& b).toBitVec.toInt := rfl
  rw [this, BitVec.toInt_eq_toNat_cond]
  split <;> omega
theorem own_add32 {a b : Int32} (h1 : -2147483648 ≤ a.toInt + b.toInt) (h2 : a.toInt + b.toInt ≤ 2147483647) : (a + b).toInt = a.toInt + b.toInt := by
  rw [Int32.toInt_add]; exact Int.bmod_eq_of_le (by omega) (by omega)
theorem own_sub32 {a b : Int32} (h1 : -2147483648 ≤ a.toInt - b.toInt) (h2 : a.toInt - b.toInt ≤ 2147483647) : (a - b).toInt = a.toInt - b.toInt := by
  rw [Int32.toInt_sub]; exact Int.bmod_eq_of_le (by omega) (by omega)
theorem own_mul32 {a b : Int32} (h1 : -2147483648 ≤ a.toInt * b.toInt) (h2 : a.toInt * b.toInt ≤ 2147483647) : (a * b).toInt = a.toInt * b.toInt := by
  rw [Int32.toInt_mul]; exact Int.bmod_eq_of_le (by omega) (by omega)
theorem own_rem32 {a b : Int32} (ha : 0 ≤ a.toInt) (hb : 0 < b.toInt) : 0 ≤ (a % b).toInt ∧ (a % b).toInt < b.toInt := by
  rw [Int32.toInt_mod]
  have h1 := Int.tmod_nonneg b.toInt ha
  have h2 := Int.tmod_lt_of_pos a.toInt hb
  omega
theorem own_i64 (a : Int32) : a.toInt64.toInt = a.toInt := by simp

open Jvm.Free.Fl in
theorem own_fv {s v : UInt64} (hs : Mag64 1200 s) (hv : Mag64 1200 v) : Mag64 1204 (FP.dsub (FP.dadd s v) s) := dsub_mag (dadd_mag hs hv (by decide)) (hs.mono (by decide)) (by decide)
def own_er (s v : UInt64) : UInt64 := FP.dadd (FP.dsub s (FP.dsub (FP.dadd s v) (FP.dsub (FP.dadd s v) s))) (FP.dsub v (FP.dsub (FP.dadd s v) s))
open Jvm.Free.Fl in
theorem own_e1 {s v : UInt64} (hs : Mag64 1200 s) (hv : Mag64 1200 v) : Mag64 1206 (FP.dsub (FP.dadd s v) (FP.dsub (FP.dadd s v) s)) := dsub_mag ((dadd_mag hs hv (by decide)).mono (by decide)) (own_fv hs hv) (by decide)
open Jvm.Free.Fl in
theorem own_e2 {s v : UInt64} (hs : Mag64 1200 s) (hv : Mag64 1200 v) : Mag64 1208 (FP.dsub s (FP.dsub (FP.dadd s v) (FP.dsub (FP.dadd s v) s))) := dsub_mag (hs.mono (by decide)) (own_e1 hs hv) (by decide)
open Jvm.Free.Fl in
theorem own_e3 {s v : UInt64} (hs : Mag64 1200 s) (hv : Mag64 1200 v) : Mag64 1206 (FP.dsub v (FP.dsub (FP.dadd s v) s)) := dsub_mag (hv.mono (by decide)) (own_fv hs hv) (by decide)
open Jvm.Free.Fl in
theorem own_e4 {s v : UInt64} (hs : Mag64 1200 s) (hv : Mag64 1200 v) : Mag64 1210 (own_er s v) := dadd_mag (own_e2 hs hv) ((own_e3 hs hv).mono (by decide)) (by decide)
open Jvm.Free.Fl in
theorem own_e5 {s v c : UInt64} (hs : Mag64 1200 s) (hv : Mag64 1200 v) (hc : Mag64 1200 c) : Mag64 1212 (FP.dadd c (own_er s v)) := dadd_mag (hc.mono (by decide)) (own_e4 hs hv) (by decide)
open Jvm.Free.Fl in
theorem own_mm {z : Int32} {x : UInt64} (hx : Mag64 1084 x) : Mag64 1200 (FP.dmul (FP.i2d z) x) := (dmul_mag (i2d_mag z) hx (by decide) (by decide)).mono (by decide)
theorem own_five {n : Int32} (h0 : 0 ≤ n.toInt) (h4 : n.toInt ≤ 4) : n = (0 : Int32) ∨ n = (1 : Int32) ∨ n = (2 : Int32) ∨ n = (3 : Int32) ∨ n = (4 : Int32) := by
  have e0 : (0 : Int32).toInt = 0 := rfl
  have e1 : (1 : Int32).toInt = 1 := rfl
  have e2 : (2 : Int32).toInt = 2 := rfl
  have e3 : (3 : Int32).toInt = 3 := rfl
  have e4 : (4 : Int32).toInt = 4 := rfl
  simp only [← Int32.toInt_inj]
  omega
theorem own_cnt (a : Int32) : 0 ≤ ((a &&& 7) % 5).toInt ∧ ((a &&& 7) % 5).toInt ≤ 4 := by
  have h1 := own_rem32 (a := a &&& 7) (b := 5) (own_and_bound a 7 (by decide)).1 (by decide)
  have e3 : (5 : Int32).toInt = 5 := rfl
  omega
/-- either nothing is to do, or the two ends are known -/
def own_ends (f t : Int32) : Prop := (f = (0 : Int32) ∧ t.toInt ≤ f.toInt) ∨ (f = (1 : Int32) ∧ t.toInt ≤ f.toInt) ∨ (f = (2 : Int32) ∧ t.toInt ≤ f.toInt) ∨ (f = (3 : Int32) ∧ t.toInt ≤ f.toInt) ∨ (f = (4 : Int32) ∧ t.toInt ≤ f.toInt) ∨ (f = (0 : Int32) ∧ t = (1 : Int32)) ∨ (f = (0 : Int32) ∧ t = (2 : Int32)) ∨ (f = (0 : Int32) ∧ t = (3 : Int32)) ∨ (f = (0 : Int32) ∧ t = (4 : Int32)) ∨ (f = (1 : Int32) ∧ t = (2 : Int32)) ∨ (f = (1 : Int32) ∧ t = (3 : Int32)) ∨ (f = (1 : Int32) ∧ t = (4 : Int32)) ∨ (f = (2 : Int32) ∧ t = (3 : Int32)) ∨ (f = (2 : Int32) ∧ t = (4 : Int32)) ∨ (f = (3 : Int32) ∧ t = (4 : Int32))
theorem own_ends_of {f t : Int32} (f0 : 0 ≤ f.toInt) (f4 : f.toInt ≤ 4) (t0 : 0 ≤ t.toInt) (t4 : t.toInt ≤ 4) : own_ends f t := by
  unfold own_ends
  rcases own_five f0 f4 with rfl | rfl | rfl | rfl | rfl <;> rcases own_five t0 t4 with rfl | rfl | rfl | rfl | rfl <;> decide

set_option maxRecDepth 65536 in
set_option maxHeartbeats 40000000 in
theorem own_scale_ef (m : MethodId) (x0 : Int32) : entryFrame m #[(.int x0)] 1 = mkF m 0 #[.val (.int x0)] [] := by first | (simp [entryFrame, mkF, argsToLocals, Value.category]; done) | rfl
set_option maxRecDepth 65536 in
set_option maxHeartbeats 40000000 in
theorem own_scale {l : Launch} {Z : State} {a0 : Array Value} (hw : own_Z Z a0) {h : Heap} {z : Int32} : own_Met false l Z (⟨"com/example/fuseplan/fuseplan/runtime/CompensatedSumAddEachPinLaw", "scale", "(I)D"⟩ : MethodName) method_2_code 1 (some .double) [] ({ frames := 0, cells := 0, slots := 0, locals := 0 } : Room) #[(.int z)] h (fun v h' => (∃ x : UInt64, v = some (.double x) ∧ Fl.Mag64 1084 x) ∧ h = h') := by
  refine own_met (by first | exact plainFor_of_name (by decide +kernel) | decide +kernel) ?_
  intro p e s m below meth c K
  refine own_cast (own_scale_ef m _) ?_
  refine own_iloadN K own_d0_0 rfl ?_
  refine own_ifne K own_d0_1 (fun g1 => ?_) (fun g1 => ?_)
  · refine own_iloadN K own_d0_6 rfl ?_
    refine own_iconst K own_d0_7 (v := (1 : Int32)) rfl ?_
    refine own_icmpne K own_d0_8 (fun g2 => ?_) (fun g2 => ?_)
    · refine own_iloadN K own_d0_15 rfl ?_
      refine own_iconst K own_d0_16 (v := (2 : Int32)) rfl ?_
      refine own_icmpne K own_d0_17 (fun g3 => ?_) (fun g3 => ?_)
      · refine own_ldc2D K own_d0_24 (own_w10 hw) ?_
        exact own_retD K own_d0_27 (by decide) (by decide) (⟨⟨(4877398396442247168 : UInt64), rfl, by unfold Fl.Mag64; decide⟩, rfl⟩)
      · refine own_ldc2D K own_d0_20 (own_w11 hw) ?_
        exact own_retD K own_d0_23 (by decide) (by decide) (⟨⟨(4787326403894837248 : UInt64), rfl, by unfold Fl.Mag64; decide⟩, rfl⟩)
    · refine own_ldc2D K own_d0_11 (own_w18 hw) ?_
      exact own_retD K own_d0_14 (by decide) (by decide) (⟨⟨(4697254411347427328 : UInt64), rfl, by unfold Fl.Mag64; decide⟩, rfl⟩)
  · refine own_dconst1 K own_d0_4 (v := (4607182418800017408 : UInt64)) rfl ?_
    exact own_retD K own_d0_5 (by decide) (by decide) (⟨⟨(4607182418800017408 : UInt64), rfl, by unfold Fl.Mag64; decide⟩, rfl⟩)
set_option maxRecDepth 65536 in
set_option maxHeartbeats 40000000 in
theorem own_error_ef (m : MethodId) (x0 : UInt64) (x1 : UInt64) (x2 : UInt64) : entryFrame m #[(.double x0), (.double x1), (.double x2)] 8 = mkF m 0 #[.val (.double x0), .second, .val (.double x1), .second, .val (.double x2), .second, .unset, .unset] [] := by first | (simp [entryFrame, mkF, argsToLocals, Value.category]; done) | rfl
set_option maxRecDepth 65536 in
set_option maxHeartbeats 40000000 in
theorem own_error {l : Launch} {Z : State} {a0 : Array Value} (hw : own_Z Z a0) {h : Heap} {u x : UInt64} (hs : Fl.Mag64 1200 u) (hv : Fl.Mag64 1200 x) : own_Met false l Z (⟨"com/example/fuseplan/fuseplan/runtime/CompensatedSum", "error", "(DDD)D"⟩ : MethodName) prog_129_method_10_code 8 (some .double) [] ({ frames := 0, cells := 0, slots := 0, locals := 0 } : Room) #[(.double u), (.double x), (.double (FP.dadd u x))] h (fun v0 h' => v0 = some (.double (own_er u x)) ∧ h = h') := by
  refine own_met (by first | exact plainFor_of_name (by decide +kernel) | decide +kernel) ?_
  intro p e s m below meth c K
  refine own_cast (own_error_ef m _ _ _) ?_
  refine own_dload K own_d1_0 rfl ?_
  refine own_dloadN K own_d1_2 rfl ?_
  refine own_dsub K own_d1_3 (((own_fv hs hv).fin (by decide)).noNaN) ?_
  refine own_dstore K own_d1_4 (Ls' := #[.val (.double u), .second, .val (.double x), .second, .val (.double (FP.dadd u x)), .second, .val (.double (FP.dsub (FP.dadd u x) u)), .second]) rfl ?_
  refine own_dloadN K own_d1_6 rfl ?_
  refine own_dload K own_d1_7 rfl ?_
  refine own_dload K own_d1_9 rfl ?_
  refine own_dsub K own_d1_11 (((own_e1 hs hv).fin (by decide)).noNaN) ?_
  refine own_dsub K own_d1_12 (((own_e2 hs hv).fin (by decide)).noNaN) ?_
  refine own_dloadN K own_d1_13 rfl ?_
  refine own_dload K own_d1_14 rfl ?_
  refine own_dsub K own_d1_16 (((own_e3 hs hv).fin (by decide)).noNaN) ?_
  refine own_dadd K own_d1_17 (((own_e4 hs hv).fin (by decide)).noNaN) ?_
  exact own_retD K own_d1_18 (by decide) (by decide) (⟨rfl, rfl⟩)
set_option maxRecDepth 65536 in
set_option maxHeartbeats 40000000 in
theorem own_add0_ef (m : MethodId) (x0 : Addr) (x1 : Addr) (x2 : Int32) (x3 : UInt64) : entryFrame m #[(.ref x0), (.ref x1), (.int x2), (.double x3)] 7 = mkF m 0 #[.val (.ref x0), .val (.ref x1), .val (.int x2), .val (.double x3), .second, .unset, .unset] [] := by first | (simp [entryFrame, mkF, argsToLocals, Value.category]; done) | rfl
set_option maxRecDepth 65536 in
set_option maxHeartbeats 40000000 in
theorem own_add0 {l : Launch} {Z : State} {a0 : Array Value} (hw : own_Z Z a0) {h : Heap} {os : List own_O} {as : List own_A} {ra rc : Addr} {s0 s1 s2 s3 c0 c1 c2 c3 x : UInt64} (H : own_H Z h os ((ra, .double, "[D", [(.double s0), (.double s1), (.double s2), (.double s3)]) :: (rc, .double, "[D", [(.double c0), (.double c1), (.double c2), (.double c3)]) :: as)) (hs : Fl.Mag64 1200 s0) (hv : Fl.Mag64 1200 x) (hc : Fl.Mag64 1200 c0) : own_Met false l Z (⟨"com/example/fuseplan/fuseplan/runtime/CompensatedSum", "add", "([D[DID)V"⟩ : MethodName) prog_129_method_7_code 7 none [] ({ frames := 1, cells := 0, slots := 0, locals := 23 } : Room) #[(.ref ra), (.ref rc), (.int (0 : Int32)), (.double x)] h (fun v h' => v = none ∧ own_H Z h' os ((ra, .double, "[D", [(.double (FP.dadd s0 x)), (.double s1), (.double s2), (.double s3)]) :: (rc, .double, "[D", [(.double (FP.dadd c0 (own_er s0 x))), (.double c1), (.double c2), (.double c3)]) :: as)) := by
  refine own_met (by first | exact plainFor_of_name (by decide +kernel) | decide +kernel) ?_
  intro p e s m below meth c K
  refine own_cast (own_add0_ef m _ _ _ _) ?_
  refine own_aloadN K own_d2_0 rfl rfl ?_
  refine own_iloadN K own_d2_1 rfl ?_
  refine own_daload K own_d2_2 H (i := 0) rfl (q := 0) (by decide) (rfl) ?_
  refine own_dloadN K own_d2_3 rfl ?_
  refine own_dadd K own_d2_4 (((Fl.dadd_mag hs hv (by decide)).fin (by decide)).noNaN) ?_
  refine own_dstore K own_d2_5 (Ls' := #[.val (.ref ra), .val (.ref rc), .val (.int (0 : Int32)), .val (.double x), .second, .val (.double (FP.dadd s0 x)), .second]) rfl ?_
  refine own_aloadN K own_d2_7 rfl rfl ?_
  refine own_iloadN K own_d2_8 rfl ?_
  refine own_dup2 K own_d2_9 rfl rfl ?_
  refine own_daload K own_d2_10 H (i := 1) rfl (q := 0) (by decide) (rfl) ?_
  refine own_aloadN K own_d2_11 rfl rfl ?_
  refine own_iloadN K own_d2_12 rfl ?_
  refine own_daload K own_d2_13 H (i := 0) rfl (q := 0) (by decide) (rfl) ?_
  refine own_dloadN K own_d2_14 rfl ?_
  refine own_dload K own_d2_15 rfl ?_
  refine own_static K own_d2_17 (own_w15 hw) (own_w16 hw) (own_w8 hw) (own_w17 hw) (argsL := [(.double s0), (.double x), (.double (FP.dadd s0 x))]) (rest := [(.double c0), (.int (0 : Int32)), (.ref rc)]) (own_error hw hs hv) own_pd0 rfl rfl rfl (by decide) (W := 4) (Nat.le_of_eq rfl) (by decide) (by decide) (by decide) (by decide) ?_
  intro v3 h1 q2
  obtain ⟨rfl, rfl⟩ := q2
  refine own_dadd K own_d2_20 (((own_e5 hs hv hc).fin (by decide)).noNaN) ?_
  refine own_dastore K own_d2_21 H (i := 1) rfl (q := 0) (by decide) (own_le rfl) ?_
  intro h4 H5
  replace H5 : own_H Z h4 (os) ((ra, .double, "[D", [(.double s0), (.double s1), (.double s2), (.double s3)]) :: (rc, .double, "[D", [(.double (FP.dadd c0 (own_er s0 x))), (.double c1), (.double c2), (.double c3)]) :: as) := H5
  refine own_aloadN K own_d2_22 rfl rfl ?_
  refine own_iloadN K own_d2_23 rfl ?_
  refine own_dload K own_d2_24 rfl ?_
  refine own_dastore K own_d2_26 H5 (i := 0) rfl (q := 0) (by decide) (own_le rfl) ?_
  intro h6 H7
  replace H7 : own_H Z h6 (os) ((ra, .double, "[D", [(.double (FP.dadd s0 x)), (.double s1), (.double s2), (.double s3)]) :: (rc, .double, "[D", [(.double (FP.dadd c0 (own_er s0 x))), (.double c1), (.double c2), (.double c3)]) :: as) := H7
  exact own_retV K own_d2_27 (by decide) (by decide) (⟨rfl, H7⟩)
set_option maxRecDepth 65536 in
set_option maxHeartbeats 40000000 in
theorem own_add1_ef (m : MethodId) (x0 : Addr) (x1 : Addr) (x2 : Int32) (x3 : UInt64) : entryFrame m #[(.ref x0), (.ref x1), (.int x2), (.double x3)] 7 = mkF m 0 #[.val (.ref x0), .val (.ref x1), .val (.int x2), .val (.double x3), .second, .unset, .unset] [] := by first | (simp [entryFrame, mkF, argsToLocals, Value.category]; done) | rfl
set_option maxRecDepth 65536 in
set_option maxHeartbeats 40000000 in
theorem own_add1 {l : Launch} {Z : State} {a0 : Array Value} (hw : own_Z Z a0) {h : Heap} {os : List own_O} {as : List own_A} {ra rc : Addr} {s0 s1 s2 s3 c0 c1 c2 c3 x : UInt64} (H : own_H Z h os ((ra, .double, "[D", [(.double s0), (.double s1), (.double s2), (.double s3)]) :: (rc, .double, "[D", [(.double c0), (.double c1), (.double c2), (.double c3)]) :: as)) (hs : Fl.Mag64 1200 s1) (hv : Fl.Mag64 1200 x) (hc : Fl.Mag64 1200 c1) : own_Met false l Z (⟨"com/example/fuseplan/fuseplan/runtime/CompensatedSum", "add", "([D[DID)V"⟩ : MethodName) prog_129_method_7_code 7 none [] ({ frames := 1, cells := 0, slots := 0, locals := 23 } : Room) #[(.ref ra), (.ref rc), (.int (1 : Int32)), (.double x)] h (fun v h' => v = none ∧ own_H Z h' os ((ra, .double, "[D", [(.double s0), (.double (FP.dadd s1 x)), (.double s2), (.double s3)]) :: (rc, .double, "[D", [(.double c0), (.double (FP.dadd c1 (own_er s1 x))), (.double c2), (.double c3)]) :: as)) := by
  refine own_met (by first | exact plainFor_of_name (by decide +kernel) | decide +kernel) ?_
  intro p e s m below meth c K
  refine own_cast (own_add1_ef m _ _ _ _) ?_
  refine own_aloadN K own_d2_0 rfl rfl ?_
  refine own_iloadN K own_d2_1 rfl ?_
  refine own_daload K own_d2_2 H (i := 0) rfl (q := 1) (by decide) (rfl) ?_
  refine own_dloadN K own_d2_3 rfl ?_
  refine own_dadd K own_d2_4 (((Fl.dadd_mag hs hv (by decide)).fin (by decide)).noNaN) ?_
  refine own_dstore K own_d2_5 (Ls' := #[.val (.ref ra), .val (.ref rc), .val (.int (1 : Int32)), .val (.double x), .second, .val (.double (FP.dadd s1 x)), .second]) rfl ?_
  refine own_aloadN K own_d2_7 rfl rfl ?_
  refine own_iloadN K own_d2_8 rfl ?_
  refine own_dup2 K own_d2_9 rfl rfl ?_
  refine own_daload K own_d2_10 H (i := 1) rfl (q := 1) (by decide) (rfl) ?_
  refine own_aloadN K own_d2_11 rfl rfl ?_
  refine own_iloadN K own_d2_12 rfl ?_
  refine own_daload K own_d2_13 H (i := 0) rfl (q := 1) (by decide) (rfl) ?_
  refine own_dloadN K own_d2_14 rfl ?_
  refine own_dload K own_d2_15 rfl ?_
  refine own_static K own_d2_17 (own_w15 hw) (own_w16 hw) (own_w8 hw) (own_w17 hw) (argsL := [(.double s1), (.double x), (.double (FP.dadd s1 x))]) (rest := [(.double c1), (.int (1 : Int32)), (.ref rc)]) (own_error hw hs hv) own_pd0 rfl rfl rfl (by decide) (W := 4) (Nat.le_of_eq rfl) (by decide) (by decide) (by decide) (by decide) ?_
  intro v3 h1 q2
  obtain ⟨rfl, rfl⟩ := q2
  refine own_dadd K own_d2_20 (((own_e5 hs hv hc).fin (by decide)).noNaN) ?_
  refine own_dastore K own_d2_21 H (i := 1) rfl (q := 1) (by decide) (own_le rfl) ?_
  intro h4 H5
  replace H5 : own_H Z h4 (os) ((ra, .double, "[D", [(.double s0), (.double s1), (.double s2), (.double s3)]) :: (rc, .double, "[D", [(.double c0), (.double (FP.dadd c1 (own_er s1 x))), (.double c2), (.double c3)]) :: as) := H5
  refine own_aloadN K own_d2_22 rfl rfl ?_
  refine own_iloadN K own_d2_23 rfl ?_
  refine own_dload K own_d2_24 rfl ?_
  refine own_dastore K own_d2_26 H5 (i := 0) rfl (q := 1) (by decide) (own_le rfl) ?_
  intro h6 H7
  replace H7 : own_H Z h6 (os) ((ra, .double, "[D", [(.double s0), (.double (FP.dadd s1 x)), (.double s2), (.double s3)]) :: (rc, .double, "[D", [(.double c0), (.double (FP.dadd c1 (own_er s1 x))), (.double c2), (.double c3)]) :: as) := H7
  exact own_retV K own_d2_27 (by decide) (by decide) (⟨rfl, H7⟩)
set_option maxRecDepth 65536 in
set_option maxHeartbeats 40000000 in
theorem own_add2_ef (m : MethodId) (x0 : Addr) (x1 : Addr) (x2 : Int32) (x3 : UInt64) : entryFrame m #[(.ref x0), (.ref x1), (.int x2), (.double x3)] 7 = mkF m 0 #[.val (.ref x0), .val (.ref x1), .val (.int x2), .val (.double x3), .second, .unset, .unset] [] := by first | (simp [entryFrame, mkF, argsToLocals, Value.category]; done) | rfl
set_option maxRecDepth 65536 in
set_option maxHeartbeats 40000000 in
theorem own_add2 {l : Launch} {Z : State} {a0 : Array Value} (hw : own_Z Z a0) {h : Heap} {os : List own_O} {as : List own_A} {ra rc : Addr} {s0 s1 s2 s3 c0 c1 c2 c3 x : UInt64} (H : own_H Z h os ((ra, .double, "[D", [(.double s0), (.double s1), (.double s2), (.double s3)]) :: (rc, .double, "[D", [(.double c0), (.double c1), (.double c2), (.double c3)]) :: as)) (hs : Fl.Mag64 1200 s2) (hv : Fl.Mag64 1200 x) (hc : Fl.Mag64 1200 c2) : own_Met false l Z (⟨"com/example/fuseplan/fuseplan/runtime/CompensatedSum", "add", "([D[DID)V"⟩ : MethodName) prog_129_method_7_code 7 none [] ({ frames := 1, cells := 0, slots := 0, locals := 23 } : Room) #[(.ref ra), (.ref rc), (.int (2 : Int32)), (.double x)] h (fun v h' => v = none ∧ own_H Z h' os ((ra, .double, "[D", [(.double s0), (.double s1), (.double (FP.dadd s2 x)), (.double s3)]) :: (rc, .double, "[D", [(.double c0), (.double c1), (.double (FP.dadd c2 (own_er s2 x))), (.double c3)]) :: as)) := by
  refine own_met (by first | exact plainFor_of_name (by decide +kernel) | decide +kernel) ?_
  intro p e s m below meth c K
  refine own_cast (own_add2_ef m _ _ _ _) ?_
  refine own_aloadN K own_d2_0 rfl rfl ?_
  refine own_iloadN K own_d2_1 rfl ?_
  refine own_daload K own_d2_2 H (i := 0) rfl (q := 2) (by decide) (rfl) ?_
  refine own_dloadN K own_d2_3 rfl ?_
  refine own_dadd K own_d2_4 (((Fl.dadd_mag hs hv (by decide)).fin (by decide)).noNaN) ?_
  refine own_dstore K own_d2_5 (Ls' := #[.val (.ref ra), .val (.ref rc), .val (.int (2 : Int32)), .val (.double x), .second, .val (.double (FP.dadd s2 x)), .second]) rfl ?_
  refine own_aloadN K own_d2_7 rfl rfl ?_
  refine own_iloadN K own_d2_8 rfl ?_
  refine own_dup2 K own_d2_9 rfl rfl ?_
  refine own_daload K own_d2_10 H (i := 1) rfl (q := 2) (by decide) (rfl) ?_
  refine own_aloadN K own_d2_11 rfl rfl ?_
  refine own_iloadN K own_d2_12 rfl ?_
  refine own_daload K own_d2_13 H (i := 0) rfl (q := 2) (by decide) (rfl) ?_
  refine own_dloadN K own_d2_14 rfl ?_
  refine own_dload K own_d2_15 rfl ?_
  refine own_static K own_d2_17 (own_w15 hw) (own_w16 hw) (own_w8 hw) (own_w17 hw) (argsL := [(.double s2), (.double x), (.double (FP.dadd s2 x))]) (rest := [(.double c2), (.int (2 : Int32)), (.ref rc)]) (own_error hw hs hv) own_pd0 rfl rfl rfl (by decide) (W := 4) (Nat.le_of_eq rfl) (by decide) (by decide) (by decide) (by decide) ?_
  intro v3 h1 q2
  obtain ⟨rfl, rfl⟩ := q2
  refine own_dadd K own_d2_20 (((own_e5 hs hv hc).fin (by decide)).noNaN) ?_
  refine own_dastore K own_d2_21 H (i := 1) rfl (q := 2) (by decide) (own_le rfl) ?_
  intro h4 H5
  replace H5 : own_H Z h4 (os) ((ra, .double, "[D", [(.double s0), (.double s1), (.double s2), (.double s3)]) :: (rc, .double, "[D", [(.double c0), (.double c1), (.double (FP.dadd c2 (own_er s2 x))), (.double c3)]) :: as) := H5
  refine own_aloadN K own_d2_22 rfl rfl ?_
  refine own_iloadN K own_d2_23 rfl ?_
  refine own_dload K own_d2_24 rfl ?_
  refine own_dastore K own_d2_26 H5 (i := 0) rfl (q := 2) (by decide) (own_le rfl) ?_
  intro h6 H7
  replace H7 : own_H Z h6 (os) ((ra, .double, "[D", [(.double s0), (.double s1), (.double (FP.dadd s2 x)), (.double s3)]) :: (rc, .double, "[D", [(.double c0), (.double c1), (.double (FP.dadd c2 (own_er s2 x))), (.double c3)]) :: as) := H7
  exact own_retV K own_d2_27 (by decide) (by decide) (⟨rfl, H7⟩)
set_option maxRecDepth 65536 in
set_option maxHeartbeats 40000000 in
theorem own_add3_ef (m : MethodId) (x0 : Addr) (x1 : Addr) (x2 : Int32) (x3 : UInt64) : entryFrame m #[(.ref x0), (.ref x1), (.int x2), (.double x3)] 7 = mkF m 0 #[.val (.ref x0), .val (.ref x1), .val (.int x2), .val (.double x3), .second, .unset, .unset] [] := by first | (simp [entryFrame, mkF, argsToLocals, Value.category]; done) | rfl
set_option maxRecDepth 65536 in
set_option maxHeartbeats 40000000 in
theorem own_add3 {l : Launch} {Z : State} {a0 : Array Value} (hw : own_Z Z a0) {h : Heap} {os : List own_O} {as : List own_A} {ra rc : Addr} {s0 s1 s2 s3 c0 c1 c2 c3 x : UInt64} (H : own_H Z h os ((ra, .double, "[D", [(.double s0), (.double s1), (.double s2), (.double s3)]) :: (rc, .double, "[D", [(.double c0), (.double c1), (.double c2), (.double c3)]) :: as)) (hs : Fl.Mag64 1200 s3) (hv : Fl.Mag64 1200 x) (hc : Fl.Mag64 1200 c3) : own_Met false l Z (⟨"com/example/fuseplan/fuseplan/runtime/CompensatedSum", "add", "([D[DID)V"⟩ : MethodName) prog_129_method_7_code 7 none [] ({ frames := 1, cells := 0, slots := 0, locals := 23 } : Room) #[(.ref ra), (.ref rc), (.int (3 : Int32)), (.double x)] h (fun v h' => v = none ∧ own_H Z h' os ((ra, .double, "[D", [(.double s0), (.double s1), (.double s2), (.double (FP.dadd s3 x))]) :: (rc, .double, "[D", [(.double c0), (.double c1), (.double c2), (.double (FP.dadd c3 (own_er s3 x)))]) :: as)) := by
  refine own_met (by first | exact plainFor_of_name (by decide +kernel) | decide +kernel) ?_
  intro p e s m below meth c K
  refine own_cast (own_add3_ef m _ _ _ _) ?_
  refine own_aloadN K own_d2_0 rfl rfl ?_
  refine own_iloadN K own_d2_1 rfl ?_
  refine own_daload K own_d2_2 H (i := 0) rfl (q := 3) (by decide) (rfl) ?_
  refine own_dloadN K own_d2_3 rfl ?_
  refine own_dadd K own_d2_4 (((Fl.dadd_mag hs hv (by decide)).fin (by decide)).noNaN) ?_
  refine own_dstore K own_d2_5 (Ls' := #[.val (.ref ra), .val (.ref rc), .val (.int (3 : Int32)), .val (.double x), .second, .val (.double (FP.dadd s3 x)), .second]) rfl ?_
  refine own_aloadN K own_d2_7 rfl rfl ?_
  refine own_iloadN K own_d2_8 rfl ?_
  refine own_dup2 K own_d2_9 rfl rfl ?_
  refine own_daload K own_d2_10 H (i := 1) rfl (q := 3) (by decide) (rfl) ?_
  refine own_aloadN K own_d2_11 rfl rfl ?_
  refine own_iloadN K own_d2_12 rfl ?_
  refine own_daload K own_d2_13 H (i := 0) rfl (q := 3) (by decide) (rfl) ?_
  refine own_dloadN K own_d2_14 rfl ?_
  refine own_dload K own_d2_15 rfl ?_
  refine own_static K own_d2_17 (own_w15 hw) (own_w16 hw) (own_w8 hw) (own_w17 hw) (argsL := [(.double s3), (.double x), (.double (FP.dadd s3 x))]) (rest := [(.double c3), (.int (3 : Int32)), (.ref rc)]) (own_error hw hs hv) own_pd0 rfl rfl rfl (by decide) (W := 4) (Nat.le_of_eq rfl) (by decide) (by decide) (by decide) (by decide) ?_
  intro v3 h1 q2
  obtain ⟨rfl, rfl⟩ := q2
  refine own_dadd K own_d2_20 (((own_e5 hs hv hc).fin (by decide)).noNaN) ?_
  refine own_dastore K own_d2_21 H (i := 1) rfl (q := 3) (by decide) (own_le rfl) ?_
  intro h4 H5
  replace H5 : own_H Z h4 (os) ((ra, .double, "[D", [(.double s0), (.double s1), (.double s2), (.double s3)]) :: (rc, .double, "[D", [(.double c0), (.double c1), (.double c2), (.double (FP.dadd c3 (own_er s3 x)))]) :: as) := H5
  refine own_aloadN K own_d2_22 rfl rfl ?_
  refine own_iloadN K own_d2_23 rfl ?_
  refine own_dload K own_d2_24 rfl ?_
  refine own_dastore K own_d2_26 H5 (i := 0) rfl (q := 3) (by decide) (own_le rfl) ?_
  intro h6 H7
  replace H7 : own_H Z h6 (os) ((ra, .double, "[D", [(.double s0), (.double s1), (.double s2), (.double (FP.dadd s3 x))]) :: (rc, .double, "[D", [(.double c0), (.double c1), (.double c2), (.double (FP.dadd c3 (own_er s3 x)))]) :: as) := H7
  exact own_retV K own_d2_27 (by decide) (by decide) (⟨rfl, H7⟩)
set_option maxRecDepth 65536 in
set_option maxHeartbeats 40000000 in
theorem own_each_ef (m : MethodId) (x0 : Addr) (x1 : Addr) (x2 : Addr) (x3 : Int32) (x4 : Int32) : entryFrame m #[(.ref x0), (.ref x1), (.ref x2), (.int x3), (.int x4)] 14 = mkF m 0 #[.val (.ref x0), .val (.ref x1), .val (.ref x2), .val (.int x3), .val (.int x4), .unset, .unset, .unset, .unset, .unset, .unset, .unset, .unset, .unset] [] := by first | (simp [entryFrame, mkF, argsToLocals, Value.category]; done) | rfl
set_option maxRecDepth 65536 in
set_option maxHeartbeats 40000000 in
theorem own_each {l : Launch} {Z : State} {a0 : Array Value} (hw : own_Z Z a0) {h : Heap} {os : List own_O} {as : List own_A} {sa ca va : Addr} {s0 s1 s2 s3 c0 c1 c2 c3 v0 v1 v2 v3 : UInt64} {fr tt : Int32} (he : own_ends fr tt) (H : own_H Z h os ((sa, .double, "[D", [(.double s0), (.double s1), (.double s2), (.double s3)]) :: (ca, .double, "[D", [(.double c0), (.double c1), (.double c2), (.double c3)]) :: (va, .double, "[D", [(.double v0), (.double v1), (.double v2), (.double v3)]) :: as)) (hs0 : Fl.Mag64 1200 s0) (hv0 : Fl.Mag64 1200 v0) (hc0 : Fl.Mag64 1200 c0) (hs1 : Fl.Mag64 1200 s1) (hv1 : Fl.Mag64 1200 v1) (hc1 : Fl.Mag64 1200 c1) (hs2 : Fl.Mag64 1200 s2) (hv2 : Fl.Mag64 1200 v2) (hc2 : Fl.Mag64 1200 c2) (hs3 : Fl.Mag64 1200 s3) (hv3 : Fl.Mag64 1200 v3) (hc3 : Fl.Mag64 1200 c3) : own_Met false l Z (⟨"com/example/fuseplan/fuseplan/runtime/CompensatedSum", "addEach", "([D[D[DII)V"⟩ : MethodName) prog_129_method_8_code 14 none [] ({ frames := 0, cells := 0, slots := 0, locals := 0 } : Room) #[(.ref sa), (.ref ca), (.ref va), (.int fr), (.int tt)] h (fun v h' => v = none ∧ own_H Z h' os ((sa, .double, "[D", [(.double (if fr.toInt ≤ 0 ∧ 0 < tt.toInt then (FP.dadd s0 v0) else s0)), (.double (if fr.toInt ≤ 1 ∧ 1 < tt.toInt then (FP.dadd s1 v1) else s1)), (.double (if fr.toInt ≤ 2 ∧ 2 < tt.toInt then (FP.dadd s2 v2) else s2)), (.double (if fr.toInt ≤ 3 ∧ 3 < tt.toInt then (FP.dadd s3 v3) else s3))]) :: (ca, .double, "[D", [(.double (if fr.toInt ≤ 0 ∧ 0 < tt.toInt then (FP.dadd c0 (own_er s0 v0)) else c0)), (.double (if fr.toInt ≤ 1 ∧ 1 < tt.toInt then (FP.dadd c1 (own_er s1 v1)) else c1)), (.double (if fr.toInt ≤ 2 ∧ 2 < tt.toInt then (FP.dadd c2 (own_er s2 v2)) else c2)), (.double (if fr.toInt ≤ 3 ∧ 3 < tt.toInt then (FP.dadd c3 (own_er s3 v3)) else c3))]) :: (va, .double, "[D", [(.double v0), (.double v1), (.double v2), (.double v3)]) :: as)) := by
  refine own_met (by first | exact plainFor_of_name (by decide +kernel) | decide +kernel) ?_
  intro p e s m below meth c K
  refine own_cast (own_each_ef m _ _ _ _ _) ?_
  rcases he with q | q | q | q | q | q | q | q | q | q | q | q | q | q | q
  · obtain ⟨rfl, qt⟩ := q
    refine own_iloadN K own_d3_0 rfl ?_
    refine own_istore K own_d3_1 (Ls' := #[.val (.ref sa), .val (.ref ca), .val (.ref va), .val (.int (0 : Int32)), .val (.int tt), .val (.int (0 : Int32)), .unset, .unset, .unset, .unset, .unset, .unset, .unset, .unset]) rfl ?_
    refine own_iload K own_d3_3 rfl ?_
    refine own_iload K own_d3_5 rfl ?_
    refine own_icmpge K own_d3_7 (fun _ => ?_) (fun q => absurd (qt) q)
    have k0 : ¬ ((0 : Int32).toInt ≤ 0 ∧ 0 < tt.toInt) := by rw [show (0 : Int32).toInt = 0 from rfl] at qt ⊢; omega
    have k1 : ¬ ((0 : Int32).toInt ≤ 1 ∧ 1 < tt.toInt) := by rw [show (0 : Int32).toInt = 0 from rfl] at qt ⊢; omega
    have k2 : ¬ ((0 : Int32).toInt ≤ 2 ∧ 2 < tt.toInt) := by rw [show (0 : Int32).toInt = 0 from rfl] at qt ⊢; omega
    have k3 : ¬ ((0 : Int32).toInt ≤ 3 ∧ 3 < tt.toInt) := by rw [show (0 : Int32).toInt = 0 from rfl] at qt ⊢; omega
    simp only [if_neg k0, if_neg k1, if_neg k2, if_neg k3]
    exact own_retV K own_d3_69 (by decide) (by decide) (⟨rfl, H⟩)
  · obtain ⟨rfl, qt⟩ := q
    refine own_iloadN K own_d3_0 rfl ?_
    refine own_istore K own_d3_1 (Ls' := #[.val (.ref sa), .val (.ref ca), .val (.ref va), .val (.int (1 : Int32)), .val (.int tt), .val (.int (1 : Int32)), .unset, .unset, .unset, .unset, .unset, .unset, .unset, .unset]) rfl ?_
    refine own_iload K own_d3_3 rfl ?_
    refine own_iload K own_d3_5 rfl ?_
    refine own_icmpge K own_d3_7 (fun _ => ?_) (fun q => absurd (qt) q)
    have k0 : ¬ ((1 : Int32).toInt ≤ 0 ∧ 0 < tt.toInt) := by rw [show (1 : Int32).toInt = 1 from rfl] at qt ⊢; omega
    have k1 : ¬ ((1 : Int32).toInt ≤ 1 ∧ 1 < tt.toInt) := by rw [show (1 : Int32).toInt = 1 from rfl] at qt ⊢; omega
    have k2 : ¬ ((1 : Int32).toInt ≤ 2 ∧ 2 < tt.toInt) := by rw [show (1 : Int32).toInt = 1 from rfl] at qt ⊢; omega
    have k3 : ¬ ((1 : Int32).toInt ≤ 3 ∧ 3 < tt.toInt) := by rw [show (1 : Int32).toInt = 1 from rfl] at qt ⊢; omega
    simp only [if_neg k0, if_neg k1, if_neg k2, if_neg k3]
    exact own_retV K own_d3_69 (by decide) (by decide) (⟨rfl, H⟩)
  · obtain ⟨rfl, qt⟩ := q
    refine own_iloadN K own_d3_0 rfl ?_
    refine own_istore K own_d3_1 (Ls' := #[.val (.ref sa), .val (.ref ca), .val (.ref va), .val (.int (2 : Int32)), .val (.int tt), .val (.int (2 : Int32)), .unset, .unset, .unset, .unset, .unset, .unset, .unset, .unset]) rfl ?_
    refine own_iload K own_d3_3 rfl ?_
    refine own_iload K own_d3_5 rfl ?_
    refine own_icmpge K own_d3_7 (fun _ => ?_) (fun q => absurd (qt) q)
    have k0 : ¬ ((2 : Int32).toInt ≤ 0 ∧ 0 < tt.toInt) := by rw [show (2 : Int32).toInt = 2 from rfl] at qt ⊢; omega
    have k1 : ¬ ((2 : Int32).toInt ≤ 1 ∧ 1 < tt.toInt) := by rw [show (2 : Int32).toInt = 2 from rfl] at qt ⊢; omega
    have k2 : ¬ ((2 : Int32).toInt ≤ 2 ∧ 2 < tt.toInt) := by rw [show (2 : Int32).toInt = 2 from rfl] at qt ⊢; omega
    have k3 : ¬ ((2 : Int32).toInt ≤ 3 ∧ 3 < tt.toInt) := by rw [show (2 : Int32).toInt = 2 from rfl] at qt ⊢; omega
    simp only [if_neg k0, if_neg k1, if_neg k2, if_neg k3]
    exact own_retV K own_d3_69 (by decide) (by decide) (⟨rfl, H⟩)
  · obtain ⟨rfl, qt⟩ := q
    refine own_iloadN K own_d3_0 rfl ?_
    refine own_istore K own_d3_1 (Ls' := #[.val (.ref sa), .val (.ref ca), .val (.ref va), .val (.int (3 : Int32)), .val (.int tt), .val (.int (3 : Int32)), .unset, .unset, .unset, .unset, .unset, .unset, .unset, .unset]) rfl ?_
    refine own_iload K own_d3_3 rfl ?_
    refine own_iload K own_d3_5 rfl ?_
    refine own_icmpge K own_d3_7 (fun _ => ?_) (fun q => absurd (qt) q)
    have k0 : ¬ ((3 : Int32).toInt ≤ 0 ∧ 0 < tt.toInt) := by rw [show (3 : Int32).toInt = 3 from rfl] at qt ⊢; omega
    have k1 : ¬ ((3 : Int32).toInt ≤ 1 ∧ 1 < tt.toInt) := by rw [show (3 : Int32).toInt = 3 from rfl] at qt ⊢; omega
    have k2 : ¬ ((3 : Int32).toInt ≤ 2 ∧ 2 < tt.toInt) := by rw [show (3 : Int32).toInt = 3 from rfl] at qt ⊢; omega
    have k3 : ¬ ((3 : Int32).toInt ≤ 3 ∧ 3 < tt.toInt) := by rw [show (3 : Int32).toInt = 3 from rfl] at qt ⊢; omega
    simp only [if_neg k0, if_neg k1, if_neg k2, if_neg k3]
    exact own_retV K own_d3_69 (by decide) (by decide) (⟨rfl, H⟩)
  · obtain ⟨rfl, qt⟩ := q
    refine own_iloadN K own_d3_0 rfl ?_
    refine own_istore K own_d3_1 (Ls' := #[.val (.ref sa), .val (.ref ca), .val (.ref va), .val (.int (4 : Int32)), .val (.int tt), .val (.int (4 : Int32)), .unset, .unset, .unset, .unset, .unset, .unset, .unset, .unset]) rfl ?_
    refine own_iload K own_d3_3 rfl ?_
    refine own_iload K own_d3_5 rfl ?_
    refine own_icmpge K own_d3_7 (fun _ => ?_) (fun q => absurd (qt) q)
    have k0 : ¬ ((4 : Int32).toInt ≤ 0 ∧ 0 < tt.toInt) := by rw [show (4 : Int32).toInt = 4 from rfl] at qt ⊢; omega
    have k1 : ¬ ((4 : Int32).toInt ≤ 1 ∧ 1 < tt.toInt) := by rw [show (4 : Int32).toInt = 4 from rfl] at qt ⊢; omega
    have k2 : ¬ ((4 : Int32).toInt ≤ 2 ∧ 2 < tt.toInt) := by rw [show (4 : Int32).toInt = 4 from rfl] at qt ⊢; omega
    have k3 : ¬ ((4 : Int32).toInt ≤ 3 ∧ 3 < tt.toInt) := by rw [show (4 : Int32).toInt = 4 from rfl] at qt ⊢; omega
    simp only [if_neg k0, if_neg k1, if_neg k2, if_neg k3]
    exact own_retV K own_d3_69 (by decide) (by decide) (⟨rfl, H⟩)
  · obtain ⟨rfl, rfl⟩ := q
    refine own_iloadN K own_d3_0 rfl ?_
    refine own_istore K own_d3_1 (Ls' := #[.val (.ref sa), .val (.ref ca), .val (.ref va), .val (.int (0 : Int32)), .val (.int (1 : Int32)), .val (.int (0 : Int32)), .unset, .unset, .unset, .unset, .unset, .unset, .unset, .unset]) rfl ?_
    refine own_iload K own_d3_3 rfl ?_
    refine own_iload K own_d3_5 rfl ?_
    refine own_icmpge K own_d3_7 (fun q => absurd q (by decide)) (fun _ => ?_)
    refine own_aloadN K own_d3_10 rfl rfl ?_
    refine own_iload K own_d3_11 rfl ?_
    refine own_daload K own_d3_13 H (i := 0) rfl (q := 0) (by decide) (rfl) ?_
    refine own_dstore K own_d3_14 (Ls' := #[.val (.ref sa), .val (.ref ca), .val (.ref va), .val (.int (0 : Int32)), .val (.int (1 : Int32)), .val (.int (0 : Int32)), .val (.double s0), .second, .unset, .unset, .unset, .unset, .unset, .unset]) rfl ?_
    refine own_aloadN K own_d3_16 rfl rfl ?_
    refine own_iload K own_d3_17 rfl ?_
    refine own_daload K own_d3_19 H (i := 2) rfl (q := 0) (by decide) (rfl) ?_
    refine own_dstore K own_d3_20 (Ls' := #[.val (.ref sa), .val (.ref ca), .val (.ref va), .val (.int (0 : Int32)), .val (.int (1 : Int32)), .val (.int (0 : Int32)), .val (.double s0), .second, .val (.double v0), .second, .unset, .unset, .unset, .unset]) rfl ?_
    refine own_dload K own_d3_22 rfl ?_
    refine own_dload K own_d3_24 rfl ?_
    refine own_dadd K own_d3_26 (((Fl.dadd_mag hs0 hv0 (by decide)).fin (by decide)).noNaN) ?_
    refine own_dstore K own_d3_27 (Ls' := #[.val (.ref sa), .val (.ref ca), .val (.ref va), .val (.int (0 : Int32)), .val (.int (1 : Int32)), .val (.int (0 : Int32)), .val (.double s0), .second, .val (.double v0), .second, .val (.double (FP.dadd s0 v0)), .second, .unset, .unset]) rfl ?_
    refine own_dload K own_d3_29 rfl ?_
    refine own_dload K own_d3_31 rfl ?_
    refine own_dsub K own_d3_33 (((own_fv hs0 hv0).fin (by decide)).noNaN) ?_
    refine own_dstore K own_d3_34 (Ls' := #[.val (.ref sa), .val (.ref ca), .val (.ref va), .val (.int (0 : Int32)), .val (.int (1 : Int32)), .val (.int (0 : Int32)), .val (.double s0), .second, .val (.double v0), .second, .val (.double (FP.dadd s0 v0)), .second, .val (.double (FP.dsub (FP.dadd s0 v0) s0)), .second]) rfl ?_
    refine own_aloadN K own_d3_36 rfl rfl ?_
    refine own_iload K own_d3_37 rfl ?_
    refine own_dup2 K own_d3_39 rfl rfl ?_
    refine own_daload K own_d3_40 H (i := 1) rfl (q := 0) (by decide) (rfl) ?_
    refine own_dload K own_d3_41 rfl ?_
    refine own_dload K own_d3_43 rfl ?_
    refine own_dload K own_d3_45 rfl ?_
    refine own_dsub K own_d3_47 (((own_e1 hs0 hv0).fin (by decide)).noNaN) ?_
    refine own_dsub K own_d3_48 (((own_e2 hs0 hv0).fin (by decide)).noNaN) ?_
    refine own_dload K own_d3_49 rfl ?_
    refine own_dload K own_d3_51 rfl ?_
    refine own_dsub K own_d3_53 (((own_e3 hs0 hv0).fin (by decide)).noNaN) ?_
    refine own_dadd K own_d3_54 (((own_e4 hs0 hv0).fin (by decide)).noNaN) ?_
    refine own_dadd K own_d3_55 (((own_e5 hs0 hv0 hc0).fin (by decide)).noNaN) ?_
    refine own_dastore K own_d3_56 H (i := 1) rfl (q := 0) (by decide) (own_le rfl) ?_
    intro h1 H2
    replace H2 : own_H Z h1 (os) ((sa, .double, "[D", [(.double s0), (.double s1), (.double s2), (.double s3)]) :: (ca, .double, "[D", [(.double (FP.dadd c0 (FP.dadd (FP.dsub s0 (FP.dsub (FP.dadd s0 v0) (FP.dsub (FP.dadd s0 v0) s0))) (FP.dsub v0 (FP.dsub (FP.dadd s0 v0) s0))))), (.double c1), (.double c2), (.double c3)]) :: (va, .double, "[D", [(.double v0), (.double v1), (.double v2), (.double v3)]) :: as) := H2
    refine own_aloadN K own_d3_57 rfl rfl ?_
    refine own_iload K own_d3_58 rfl ?_
    refine own_dload K own_d3_60 rfl ?_
    refine own_dastore K own_d3_62 H2 (i := 0) rfl (q := 0) (by decide) (own_le rfl) ?_
    intro h3 H4
    replace H4 : own_H Z h3 (os) ((sa, .double, "[D", [(.double (FP.dadd s0 v0)), (.double s1), (.double s2), (.double s3)]) :: (ca, .double, "[D", [(.double (FP.dadd c0 (FP.dadd (FP.dsub s0 (FP.dsub (FP.dadd s0 v0) (FP.dsub (FP.dadd s0 v0) s0))) (FP.dsub v0 (FP.dsub (FP.dadd s0 v0) s0))))), (.double c1), (.double c2), (.double c3)]) :: (va, .double, "[D", [(.double v0), (.double v1), (.double v2), (.double v3)]) :: as) := H4
    refine own_iinc K own_d3_63 rfl (y := (1 : Int32)) (by decide) (Ls' := #[.val (.ref sa), .val (.ref ca), .val (.ref va), .val (.int (0 : Int32)), .val (.int (1 : Int32)), .val (.int (1 : Int32)), .val (.double s0), .second, .val (.double v0), .second, .val (.double (FP.dadd s0 v0)), .second, .val (.double (FP.dsub (FP.dadd s0 v0) s0)), .second]) rfl ?_
    refine own_goto K own_d3_66 ?_
    refine own_iload K own_d3_3 rfl ?_
    refine own_iload K own_d3_5 rfl ?_
    refine own_icmpge K own_d3_7 (fun _ => ?_) (fun q => absurd (by decide) q)
    exact own_retV K own_d3_69 (by decide) (by decide) (⟨rfl, H4⟩)
  · obtain ⟨rfl, rfl⟩ := q
    refine own_iloadN K own_d3_0 rfl ?_
    refine own_istore K own_d3_1 (Ls' := #[.val (.ref sa), .val (.ref ca), .val (.ref va), .val (.int (0 : Int32)), .val (.int (2 : Int32)), .val (.int (0 : Int32)), .unset, .unset, .unset, .unset, .unset, .unset, .unset, .unset]) rfl ?_
    refine own_iload K own_d3_3 rfl ?_
    refine own_iload K own_d3_5 rfl ?_
    refine own_icmpge K own_d3_7 (fun q => absurd q (by decide)) (fun _ => ?_)
    refine own_aloadN K own_d3_10 rfl rfl ?_
    refine own_iload K own_d3_11 rfl ?_
    refine own_daload K own_d3_13 H (i := 0) rfl (q := 0) (by decide) (rfl) ?_
    refine own_dstore K own_d3_14 (Ls' := #[.val (.ref sa), .val (.ref ca), .val (.ref va), .val (.int (0 : Int32)), .val (.int (2 : Int32)), .val (.int (0 : Int32)), .val (.double s0), .second, .unset, .unset, .unset, .unset, .unset, .unset]) rfl ?_
    refine own_aloadN K own_d3_16 rfl rfl ?_
    refine own_iload K own_d3_17 rfl ?_
    refine own_daload K own_d3_19 H (i := 2) rfl (q := 0) (by decide) (rfl) ?_
    refine own_dstore K own_d3_20 (Ls' := #[.val (.ref sa), .val (.ref ca), .val (.ref va), .val (.int (0 : Int32)), .val (.int (2 : Int32)), .val (.int (0 : Int32)), .val (.double s0), .second, .val (.double v0), .second, .unset, .unset, .unset, .unset]) rfl ?_
    refine own_dload K own_d3_22 rfl ?_
    refine own_dload K own_d3_24 rfl ?_
    refine own_dadd K own_d3_26 (((Fl.dadd_mag hs0 hv0 (by decide)).fin (by decide)).noNaN) ?_
    refine own_dstore K own_d3_27 (Ls' := #[.val (.ref sa), .val (.ref ca), .val (.ref va), .val (.int (0 : Int32)), .val (.int (2 : Int32)), .val (.int (0 : Int32)), .val (.double s0), .second, .val (.double v0), .second, .val (.double (FP.dadd s0 v0)), .second, .unset, .unset]) rfl ?_
    refine own_dload K own_d3_29 rfl ?_
    refine own_dload K own_d3_31 rfl ?_
    refine own_dsub K own_d3_33 (((own_fv hs0 hv0).fin (by decide)).noNaN) ?_
    refine own_dstore K own_d3_34 (Ls' := #[.val (.ref sa), .val (.ref ca), .val (.ref va), .val (.int (0 : Int32)), .val (.int (2 : Int32)), .val (.int (0 : Int32)), .val (.double s0), .second, .val (.double v0), .second, .val (.double (FP.dadd s0 v0)), .second, .val (.double (FP.dsub (FP.dadd s0 v0) s0)), .second]) rfl ?_
    refine own_aloadN K own_d3_36 rfl rfl ?_
    refine own_iload K own_d3_37 rfl ?_
    refine own_dup2 K own_d3_39 rfl rfl ?_
    refine own_daload K own_d3_40 H (i := 1) rfl (q := 0) (by decide) (rfl) ?_
    refine own_dload K own_d3_41 rfl ?_
    refine own_dload K own_d3_43 rfl ?_
    refine own_dload K own_d3_45 rfl ?_
    refine own_dsub K own_d3_47 (((own_e1 hs0 hv0).fin (by decide)).noNaN) ?_
    refine own_dsub K own_d3_48 (((own_e2 hs0 hv0).fin (by decide)).noNaN) ?_
    refine own_dload K own_d3_49 rfl ?_
    refine own_dload K own_d3_51 rfl ?_
    refine own_dsub K own_d3_53 (((own_e3 hs0 hv0).fin (by decide)).noNaN) ?_
    refine own_dadd K own_d3_54 (((own_e4 hs0 hv0).fin (by decide)).noNaN) ?_
    refine own_dadd K own_d3_55 (((own_e5 hs0 hv0 hc0).fin (by decide)).noNaN) ?_
    refine own_dastore K own_d3_56 H (i := 1) rfl (q := 0) (by decide) (own_le rfl) ?_
    intro h1 H2
    replace H2 : own_H Z h1 (os) ((sa, .double, "[D", [(.double s0), (.double s1), (.double s2), (.double s3)]) :: (ca, .double, "[D", [(.double (FP.dadd c0 (FP.dadd (FP.dsub s0 (FP.dsub (FP.dadd s0 v0) (FP.dsub (FP.dadd s0 v0) s0))) (FP.dsub v0 (FP.dsub (FP.dadd s0 v0) s0))))), (.double c1), (.double c2), (.double c3)]) :: (va, .double, "[D", [(.double v0), (.double v1), (.double v2), (.double v3)]) :: as) := H2
    refine own_aloadN K own_d3_57 rfl rfl ?_
    refine own_iload K own_d3_58 rfl ?_
    refine own_dload K own_d3_60 rfl ?_
    refine own_dastore K own_d3_62 H2 (i := 0) rfl (q := 0) (by decide) (own_le rfl) ?_
    intro h3 H4
    replace H4 : own_H Z h3 (os) ((sa, .double, "[D", [(.double (FP.dadd s0 v0)), (.double s1), (.double s2), (.double s3)]) :: (ca, .double, "[D", [(.double (FP.dadd c0 (FP.dadd (FP.dsub s0 (FP.dsub (FP.dadd s0 v0) (FP.dsub (FP.dadd s0 v0) s0))) (FP.dsub v0 (FP.dsub (FP.dadd s0 v0) s0))))), (.double c1), (.double c2), (.double c3)]) :: (va, .double, "[D", [(.double v0), (.double v1), (.double v2), (.double v3)]) :: as) := H4
    refine own_iinc K own_d3_63 rfl (y := (1 : Int32)) (by decide) (Ls' := #[.val (.ref sa), .val (.ref ca), .val (.ref va), .val (.int (0 : Int32)), .val (.int (2 : Int32)), .val (.int (1 : Int32)), .val (.double s0), .second, .val (.double v0), .second, .val (.double (FP.dadd s0 v0)), .second, .val (.double (FP.dsub (FP.dadd s0 v0) s0)), .second]) rfl ?_
    refine own_goto K own_d3_66 ?_
    refine own_iload K own_d3_3 rfl ?_
    refine own_iload K own_d3_5 rfl ?_
    refine own_icmpge K own_d3_7 (fun q => absurd q (by decide)) (fun _ => ?_)
    refine own_aloadN K own_d3_10 rfl rfl ?_
    refine own_iload K own_d3_11 rfl ?_
    refine own_daload K own_d3_13 H4 (i := 0) rfl (q := 1) (by decide) (rfl) ?_
    refine own_dstore K own_d3_14 (Ls' := #[.val (.ref sa), .val (.ref ca), .val (.ref va), .val (.int (0 : Int32)), .val (.int (2 : Int32)), .val (.int (1 : Int32)), .val (.double s1), .second, .val (.double v0), .second, .val (.double (FP.dadd s0 v0)), .second, .val (.double (FP.dsub (FP.dadd s0 v0) s0)), .second]) rfl ?_
    refine own_aloadN K own_d3_16 rfl rfl ?_
    refine own_iload K own_d3_17 rfl ?_
    refine own_daload K own_d3_19 H4 (i := 2) rfl (q := 1) (by decide) (rfl) ?_
    refine own_dstore K own_d3_20 (Ls' := #[.val (.ref sa), .val (.ref ca), .val (.ref va), .val (.int (0 : Int32)), .val (.int (2 : Int32)), .val (.int (1 : Int32)), .val (.double s1), .second, .val (.double v1), .second, .val (.double (FP.dadd s0 v0)), .second, .val (.double (FP.dsub (FP.dadd s0 v0) s0)), .second]) rfl ?_
    refine own_dload K own_d3_22 rfl ?_
    refine own_dload K own_d3_24 rfl ?_
    refine own_dadd K own_d3_26 (((Fl.dadd_mag hs1 hv1 (by decide)).fin (by decide)).noNaN) ?_
    refine own_dstore K own_d3_27 (Ls' := #[.val (.ref sa), .val (.ref ca), .val (.ref va), .val (.int (0 : Int32)), .val (.int (2 : Int32)), .val (.int (1 : Int32)), .val (.double s1), .second, .val (.double v1), .second, .val (.double (FP.dadd s1 v1)), .second, .val (.double (FP.dsub (FP.dadd s0 v0) s0)), .second]) rfl ?_
    refine own_dload K own_d3_29 rfl ?_
    refine own_dload K own_d3_31 rfl ?_
    refine own_dsub K own_d3_33 (((own_fv hs1 hv1).fin (by decide)).noNaN) ?_
    refine own_dstore K own_d3_34 (Ls' := #[.val (.ref sa), .val (.ref ca), .val (.ref va), .val (.int (0 : Int32)), .val (.int (2 : Int32)), .val (.int (1 : Int32)), .val (.double s1), .second, .val (.double v1), .second, .val (.double (FP.dadd s1 v1)), .second, .val (.double (FP.dsub (FP.dadd s1 v1) s1)), .second]) rfl ?_
    refine own_aloadN K own_d3_36 rfl rfl ?_
    refine own_iload K own_d3_37 rfl ?_
    refine own_dup2 K own_d3_39 rfl rfl ?_
    refine own_daload K own_d3_40 H4 (i := 1) rfl (q := 1) (by decide) (rfl) ?_
    refine own_dload K own_d3_41 rfl ?_
    refine own_dload K own_d3_43 rfl ?_
    refine own_dload K own_d3_45 rfl ?_
    refine own_dsub K own_d3_47 (((own_e1 hs1 hv1).fin (by decide)).noNaN) ?_
    refine own_dsub K own_d3_48 (((own_e2 hs1 hv1).fin (by decide)).noNaN) ?_
    refine own_dload K own_d3_49 rfl ?_
    refine own_dload K own_d3_51 rfl ?_
    refine own_dsub K own_d3_53 (((own_e3 hs1 hv1).fin (by decide)).noNaN) ?_
    refine own_dadd K own_d3_54 (((own_e4 hs1 hv1).fin (by decide)).noNaN) ?_
    refine own_dadd K own_d3_55 (((own_e5 hs1 hv1 hc1).fin (by decide)).noNaN) ?_
    refine own_dastore K own_d3_56 H4 (i := 1) rfl (q := 1) (by decide) (own_le rfl) ?_
    intro h5 H6
    replace H6 : own_H Z h5 (os) ((sa, .double, "[D", [(.double (FP.dadd s0 v0)), (.double s1), (.double s2), (.double s3)]) :: (ca, .double, "[D", [(.double (FP.dadd c0 (FP.dadd (FP.dsub s0 (FP.dsub (FP.dadd s0 v0) (FP.dsub (FP.dadd s0 v0) s0))) (FP.dsub v0 (FP.dsub (FP.dadd s0 v0) s0))))), (.double (FP.dadd c1 (FP.dadd (FP.dsub s1 (FP.dsub (FP.dadd s1 v1) (FP.dsub (FP.dadd s1 v1) s1))) (FP.dsub v1 (FP.dsub (FP.dadd s1 v1) s1))))), (.double c2), (.double c3)]) :: (va, .double, "[D", [(.double v0), (.double v1), (.double v2), (.double v3)]) :: as) := H6
    refine own_aloadN K own_d3_57 rfl rfl ?_
    refine own_iload K own_d3_58 rfl ?_
    refine own_dload K own_d3_60 rfl ?_
    refine own_dastore K own_d3_62 H6 (i := 0) rfl (q := 1) (by decide) (own_le rfl) ?_
    intro h7 H8
    replace H8 : own_H Z h7 (os) ((sa, .double, "[D", [(.double (FP.dadd s0 v0)), (.double (FP.dadd s1 v1)), (.double s2), (.double s3)]) :: (ca, .double, "[D", [(.double (FP.dadd c0 (FP.dadd (FP.dsub s0 (FP.dsub (FP.dadd s0 v0) (FP.dsub (FP.dadd s0 v0) s0))) (FP.dsub v0 (FP.dsub (FP.dadd s0 v0) s0))))), (.double (FP.dadd c1 (FP.dadd (FP.dsub s1 (FP.dsub (FP.dadd s1 v1) (FP.dsub (FP.dadd s1 v1) s1))) (FP.dsub v1 (FP.dsub (FP.dadd s1 v1) s1))))), (.double c2), (.double c3)]) :: (va, .double, "[D", [(.double v0), (.double v1), (.double v2), (.double v3)]) :: as) := H8
    refine own_iinc K own_d3_63 rfl (y := (2 : Int32)) (by decide) (Ls' := #[.val (.ref sa), .val (.ref ca), .val (.ref va), .val (.int (0 : Int32)), .val (.int (2 : Int32)), .val (.int (2 : Int32)), .val (.double s1), .second, .val (.double v1), .second, .val (.double (FP.dadd s1 v1)), .second, .val (.double (FP.dsub (FP.dadd s1 v1) s1)), .second]) rfl ?_
    refine own_goto K own_d3_66 ?_
    refine own_iload K own_d3_3 rfl ?_
    refine own_iload K own_d3_5 rfl ?_
    refine own_icmpge K own_d3_7 (fun _ => ?_) (fun q => absurd (by decide) q)
    exact own_retV K own_d3_69 (by decide) (by decide) (⟨rfl, H8⟩)
  · obtain ⟨rfl, rfl⟩ := q
    refine own_iloadN K own_d3_0 rfl ?_
    refine own_istore K own_d3_1 (Ls' := #[.val (.ref sa), .val (.ref ca), .val (.ref va), .val (.int (0 : Int32)), .val (.int (3 : Int32)), .val (.int (0 : Int32)), .unset, .unset, .unset, .unset, .unset, .unset, .unset, .unset]) rfl ?_
    refine own_iload K own_d3_3 rfl ?_
    refine own_iload K own_d3_5 rfl ?_
    refine own_icmpge K own_d3_7 (fun q => absurd q (by decide)) (fun _ => ?_)
    refine own_aloadN K own_d3_10 rfl rfl ?_
    refine own_iload K own_d3_11 rfl ?_
    refine own_daload K own_d3_13 H (i := 0) rfl (q := 0) (by decide) (rfl) ?_
    refine own_dstore K own_d3_14 (Ls' := #[.val (.ref sa), .val (.ref ca), .val (.ref va), .val (.int (0 : Int32)), .val (.int (3 : Int32)), .val (.int (0 : Int32)), .val (.double s0), .second, .unset, .unset, .unset, .unset, .unset, .unset]) rfl ?_
    refine own_aloadN K own_d3_16 rfl rfl ?_
    refine own_iload K own_d3_17 rfl ?_
    refine own_daload K own_d3_19 H (i := 2) rfl (q := 0) (by decide) (rfl) ?_
    refine own_dstore K own_d3_20 (Ls' := #[.val (.ref sa), .val (.ref ca), .val (.ref va), .val (.int (0 : Int32)), .val (.int (3 : Int32)), .val (.int (0 : Int32)), .val (.double s0), .second, .val (.double v0), .second, .unset, .unset, .unset, .unset]) rfl ?_
    refine own_dload K own_d3_22 rfl ?_
    refine own_dload K own_d3_24 rfl ?_
    refine own_dadd K own_d3_26 (((Fl.dadd_mag hs0 hv0 (by decide)).fin (by decide)).noNaN) ?_
    refine own_dstore K own_d3_27 (Ls' := #[.val (.ref sa), .val (.ref ca), .val (.ref va), .val (.int (0 : Int32)), .val (.int (3 : Int32)), .val (.int (0 : Int32)), .val (.double s0), .second, .val (.double v0), .second, .val (.double (FP.dadd s0 v0)), .second, .unset, .unset]) rfl ?_
    refine own_dload K own_d3_29 rfl ?_
    refine own_dload K own_d3_31 rfl ?_
    refine own_dsub K own_d3_33 (((own_fv hs0 hv0).fin (by decide)).noNaN) ?_
    refine own_dstore K own_d3_34 (Ls' := #[.val (.ref sa), .val (.ref ca), .val (.ref va), .val (.int (0 : Int32)), .val (.int (3 : Int32)), .val (.int (0 : Int32)), .val (.double s0), .second, .val (.double v0), .second, .val (.double (FP.dadd s0 v0)), .second, .val (.double (FP.dsub (FP.dadd s0 v0) s0)), .second]) rfl ?_
    refine own_aloadN K own_d3_36 rfl rfl ?_
    refine own_iload K own_d3_37 rfl ?_
    refine own_dup2 K own_d3_39 rfl rfl ?_
    refine own_daload K own_d3_40 H (i := 1) rfl (q := 0) (by decide) (rfl) ?_
    refine own_dload K own_d3_41 rfl ?_
    refine own_dload K own_d3_43 rfl ?_
    refine own_dload K own_d3_45 rfl ?_
    refine own_dsub K own_d3_47 (((own_e1 hs0 hv0).fin (by decide)).noNaN) ?_
    refine own_dsub K own_d3_48 (((own_e2 hs0 hv0).fin (by decide)).noNaN) ?_
    refine own_dload K own_d3_49 rfl ?_
    refine own_dload K own_d3_51 rfl ?_
    refine own_dsub K own_d3_53 (((own_e3 hs0 hv0).fin (by decide)).noNaN) ?_
    refine own_dadd K own_d3_54 (((own_e4 hs0 hv0).fin (by decide)).noNaN) ?_
    refine own_dadd K own_d3_55 (((own_e5 hs0 hv0 hc0).fin (by decide)).noNaN) ?_
    refine own_dastore K own_d3_56 H (i := 1) rfl (q := 0) (by decide) (own_le rfl) ?_
    intro h1 H2
    replace H2 : own_H Z h1 (os) ((sa, .double, "[D", [(.double s0), (.double s1), (.double s2), (.double s3)]) :: (ca, .double, "[D", [(.double (FP.dadd c0 (FP.dadd (FP.dsub s0 (FP.dsub (FP.dadd s0 v0) (FP.dsub (FP.dadd s0 v0) s0))) (FP.dsub v0 (FP.dsub (FP.dadd s0 v0) s0))))), (.double c1), (.double c2), (.double c3)]) :: (va, .double, "[D", [(.double v0), (.double v1), (.double v2), (.double v3)]) :: as) := H2
    refine own_aloadN K own_d3_57 rfl rfl ?_
    refine own_iload K own_d3_58 rfl ?_
    refine own_dload K own_d3_60 rfl ?_
    refine own_dastore K own_d3_62 H2 (i := 0) rfl (q := 0) (by decide) (own_le rfl) ?_
    intro h3 H4
    replace H4 : own_H Z h3 (os) ((sa, .double, "[D", [(.double (FP.dadd s0 v0)), (.double s1), (.double s2), (.double s3)]) :: (ca, .double, "[D", [(.double (FP.dadd c0 (FP.dadd (FP.dsub s0 (FP.dsub (FP.dadd s0 v0) (FP.dsub (FP.dadd s0 v0) s0))) (FP.dsub v0 (FP.dsub (FP.dadd s0 v0) s0))))), (.double c1), (.double c2), (.double c3)]) :: (va, .double, "[D", [(.double v0), (.double v1), (.double v2), (.double v3)]) :: as) := H4
    refine own_iinc K own_d3_63 rfl (y := (1 : Int32)) (by decide) (Ls' := #[.val (.ref sa), .val (.ref ca), .val (.ref va), .val (.int (0 : Int32)), .val (.int (3 : Int32)), .val (.int (1 : Int32)), .val (.double s0), .second, .val (.double v0), .second, .val (.double (FP.dadd s0 v0)), .second, .val (.double (FP.dsub (FP.dadd s0 v0) s0)), .second]) rfl ?_
    refine own_goto K own_d3_66 ?_
    refine own_iload K own_d3_3 rfl ?_
    refine own_iload K own_d3_5 rfl ?_
    refine own_icmpge K own_d3_7 (fun q => absurd q (by decide)) (fun _ => ?_)
    refine own_aloadN K own_d3_10 rfl rfl ?_
    refine own_iload K own_d3_11 rfl ?_
    refine own_daload K own_d3_13 H4 (i := 0) rfl (q := 1) (by decide) (rfl) ?_
    refine own_dstore K own_d3_14 (Ls' := #[.val (.ref sa), .val (.ref ca), .val (.ref va), .val (.int (0 : Int32)), .val (.int (3 : Int32)), .val (.int (1 : Int32)), .val (.double s1), .second, .val (.double v0), .second, .val (.double (FP.dadd s0 v0)), .second, .val (.double (FP.dsub (FP.dadd s0 v0) s0)), .second]) rfl ?_
    refine own_aloadN K own_d3_16 rfl rfl ?_
    refine own_iload K own_d3_17 rfl ?_
    refine own_daload K own_d3_19 H4 (i := 2) rfl (q := 1) (by decide) (rfl) ?_
    refine own_dstore K own_d3_20 (Ls' := #[.val (.ref sa), .val (.ref ca), .val (.ref va), .val (.int (0 : Int32)), .val (.int (3 : Int32)), .val (.int (1 : Int32)), .val (.double s1), .second, .val (.double v1), .second, .val (.double (FP.dadd s0 v0)), .second, .val (.double (FP.dsub (FP.dadd s0 v0) s0)), .second]) rfl ?_
    refine own_dload K own_d3_22 rfl ?_
    refine own_dload K own_d3_24 rfl ?_
    refine own_dadd K own_d3_26 (((Fl.dadd_mag hs1 hv1 (by decide)).fin (by decide)).noNaN) ?_
    refine own_dstore K own_d3_27 (Ls' := #[.val (.ref sa), .val (.ref ca), .val (.ref va), .val (.int (0 : Int32)), .val (.int (3 : Int32)), .val (.int (1 : Int32)), .val (.double s1), .second, .val (.double v1), .second, .val (.double (FP.dadd s1 v1)), .second, .val (.double (FP.dsub (FP.dadd s0 v0) s0)), .second]) rfl ?_
    refine own_dload K own_d3_29 rfl ?_
    refine own_dload K own_d3_31 rfl ?_
    refine own_dsub K own_d3_33 (((own_fv hs1 hv1).fin (by decide)).noNaN) ?_
    refine own_dstore K own_d3_34 (Ls' := #[.val (.ref sa), .val (.ref ca), .val (.ref va), .val (.int (0 : Int32)), .val (.int (3 : Int32)), .val (.int (1 : Int32)), .val (.double s1), .second, .val (.double v1), .second, .val (.double (FP.dadd s1 v1)), .second, .val (.double (FP.dsub (FP.dadd s1 v1) s1)), .second]) rfl ?_
    refine own_aloadN K own_d3_36 rfl rfl ?_
    refine own_iload K own_d3_37 rfl ?_
    refine own_dup2 K own_d3_39 rfl rfl ?_
    refine own_daload K own_d3_40 H4 (i := 1) rfl (q := 1) (by decide) (rfl) ?_
    refine own_dload K own_d3_41 rfl ?_
    refine own_dload K own_d3_43 rfl ?_
    refine own_dload K own_d3_45 rfl ?_
    refine own_dsub K own_d3_47 (((own_e1 hs1 hv1).fin (by decide)).noNaN) ?_
    refine own_dsub K own_d3_48 (((own_e2 hs1 hv1).fin (by decide)).noNaN) ?_
    refine own_dload K own_d3_49 rfl ?_
    refine own_dload K own_d3_51 rfl ?_
    refine own_dsub K own_d3_53 (((own_e3 hs1 hv1).fin (by decide)).noNaN) ?_
    refine own_dadd K own_d3_54 (((own_e4 hs1 hv1).fin (by decide)).noNaN) ?_
    refine own_dadd K own_d3_55 (((own_e5 hs1 hv1 hc1).fin (by decide)).noNaN) ?_
    refine own_dastore K own_d3_56 H4 (i := 1) rfl (q := 1) (by decide) (own_le rfl) ?_
    intro h5 H6
    replace H6 : own_H Z h5 (os) ((sa, .double, "[D", [(.double (FP.dadd s0 v0)), (.double s1), (.double s2), (.double s3)]) :: (ca, .double, "[D", [(.double (FP.dadd c0 (FP.dadd (FP.dsub s0 (FP.dsub (FP.dadd s0 v0) (FP.dsub (FP.dadd s0 v0) s0))) (FP.dsub v0 (FP.dsub (FP.dadd s0 v0) s0))))), (.double (FP.dadd c1 (FP.dadd (FP.dsub s1 (FP.dsub (FP.dadd s1 v1) (FP.dsub (FP.dadd s1 v1) s1))) (FP.dsub v1 (FP.dsub (FP.dadd s1 v1) s1))))), (.double c2), (.double c3)]) :: (va, .double, "[D", [(.double v0), (.double v1), (.double v2), (.double v3)]) :: as) := H6
    refine own_aloadN K own_d3_57 rfl rfl ?_
    refine own_iload K own_d3_58 rfl ?_
    refine own_dload K own_d3_60 rfl ?_
    refine own_dastore K own_d3_62 H6 (i := 0) rfl (q := 1) (by decide) (own_le rfl) ?_
    intro h7 H8
    replace H8 : own_H Z h7 (os) ((sa, .double, "[D", [(.double (FP.dadd s0 v0)), (.double (FP.dadd s1 v1)), (.double s2), (.double s3)]) :: (ca, .double, "[D", [(.double (FP.dadd c0 (FP.dadd (FP.dsub s0 (FP.dsub (FP.dadd s0 v0) (FP.dsub (FP.dadd s0 v0) s0))) (FP.dsub v0 (FP.dsub (FP.dadd s0 v0) s0))))), (.double (FP.dadd c1 (FP.dadd (FP.dsub s1 (FP.dsub (FP.dadd s1 v1) (FP.dsub (FP.dadd s1 v1) s1))) (FP.dsub v1 (FP.dsub (FP.dadd s1 v1) s1))))), (.double c2), (.double c3)]) :: (va, .double, "[D", [(.double v0), (.double v1), (.double v2), (.double v3)]) :: as) := H8
    refine own_iinc K own_d3_63 rfl (y := (2 : Int32)) (by decide) (Ls' := #[.val (.ref sa), .val (.ref ca), .val (.ref va), .val (.int (0 : Int32)), .val (.int (3 : Int32)), .val (.int (2 : Int32)), .val (.double s1), .second, .val (.double v1), .second, .val (.double (FP.dadd s1 v1)), .second, .val (.double (FP.dsub (FP.dadd s1 v1) s1)), .second]) rfl ?_
    refine own_goto K own_d3_66 ?_
    refine own_iload K own_d3_3 rfl ?_
    refine own_iload K own_d3_5 rfl ?_
    refine own_icmpge K own_d3_7 (fun q => absurd q (by decide)) (fun _ => ?_)
    refine own_aloadN K own_d3_10 rfl rfl ?_
    refine own_iload K own_d3_11 rfl ?_
    refine own_daload K own_d3_13 H8 (i := 0) rfl (q := 2) (by decide) (rfl) ?_
    refine own_dstore K own_d3_14 (Ls' := #[.val (.ref sa), .val (.ref ca), .val (.ref va), .val (.int (0 : Int32)), .val (.int (3 : Int32)), .val (.int (2 : Int32)), .val (.double s2), .second, .val (.double v1), .second, .val (.double (FP.dadd s1 v1)), .second, .val (.double (FP.dsub (FP.dadd s1 v1) s1)), .second]) rfl ?_
    refine own_aloadN K own_d3_16 rfl rfl ?_
    refine own_iload K own_d3_17 rfl ?_
    refine own_daload K own_d3_19 H8 (i := 2) rfl (q := 2) (by decide) (rfl) ?_
    refine own_dstore K own_d3_20 (Ls' := #[.val (.ref sa), .val (.ref ca), .val (.ref va), .val (.int (0 : Int32)), .val (.int (3 : Int32)), .val (.int (2 : Int32)), .val (.double s2), .second, .val (.double v2), .second, .val (.double (FP.dadd s1 v1)), .second, .val (.double (FP.dsub (FP.dadd s1 v1) s1)), .second]) rfl ?_
    refine own_dload K own_d3_22 rfl ?_
    refine own_dload K own_d3_24 rfl ?_
    refine own_dadd K own_d3_26 (((Fl.dadd_mag hs2 hv2 (by decide)).fin (by decide)).noNaN) ?_
    refine own_dstore K own_d3_27 (Ls' := #[.val (.ref sa), .val (.ref ca), .val (.ref va), .val (.int (0 : Int32)), .val (.int (3 : Int32)), .val (.int (2 : Int32)), .val (.double s2), .second, .val (.double v2), .second, .val (.double (FP.dadd s2 v2)), .second, .val (.double (FP.dsub (FP.dadd s1 v1) s1)), .second]) rfl ?_
    refine own_dload K own_d3_29 rfl ?_
    refine own_dload K own_d3_31 rfl ?_
    refine own_dsub K own_d3_33 (((own_fv hs2 hv2).fin (by decide)).noNaN) ?_
    refine own_dstore K own_d3_34 (Ls' := #[.val (.ref sa), .val (.ref ca), .val (.ref va), .val (.int (0 : Int32)), .val (.int (3 : Int32)), .val (.int (2 : Int32)), .val (.double s2), .second, .val (.double v2), .second, .val (.double (FP.dadd s2 v2)), .second, .val (.double (FP.dsub (FP.dadd s2 v2) s2)), .second]) rfl ?_
    refine own_aloadN K own_d3_36 rfl rfl ?_
    refine own_iload K own_d3_37 rfl ?_
    refine own_dup2 K own_d3_39 rfl rfl ?_
    refine own_daload K own_d3_40 H8 (i := 1) rfl (q := 2) (by decide) (rfl) ?_
    refine own_dload K own_d3_41 rfl ?_
    refine own_dload K own_d3_43 rfl ?_
    refine own_dload K own_d3_45 rfl ?_
    refine own_dsub K own_d3_47 (((own_e1 hs2 hv2).fin (by decide)).noNaN) ?_
    refine own_dsub K own_d3_48 (((own_e2 hs2 hv2).fin (by decide)).noNaN) ?_
    refine own_dload K own_d3_49 rfl ?_
    refine own_dload K own_d3_51 rfl ?_
    refine own_dsub K own_d3_53 (((own_e3 hs2 hv2).fin (by decide)).noNaN) ?_
    refine own_dadd K own_d3_54 (((own_e4 hs2 hv2).fin (by decide)).noNaN) ?_
    refine own_dadd K own_d3_55 (((own_e5 hs2 hv2 hc2).fin (by decide)).noNaN) ?_
    refine own_dastore K own_d3_56 H8 (i := 1) rfl (q := 2) (by decide) (own_le rfl) ?_
    intro h9 H10
    replace H10 : own_H Z h9 (os) ((sa, .double, "[D", [(.double (FP.dadd s0 v0)), (.double (FP.dadd s1 v1)), (.double s2), (.double s3)]) :: (ca, .double, "[D", [(.double (FP.dadd c0 (FP.dadd (FP.dsub s0 (FP.dsub (FP.dadd s0 v0) (FP.dsub (FP.dadd s0 v0) s0))) (FP.dsub v0 (FP.dsub (FP.dadd s0 v0) s0))))), (.double (FP.dadd c1 (FP.dadd (FP.dsub s1 (FP.dsub (FP.dadd s1 v1) (FP.dsub (FP.dadd s1 v1) s1))) (FP.dsub v1 (FP.dsub (FP.dadd s1 v1) s1))))), (.double (FP.dadd c2 (FP.dadd (FP.dsub s2 (FP.dsub (FP.dadd s2 v2) (FP.dsub (FP.dadd s2 v2) s2))) (FP.dsub v2 (FP.dsub (FP.dadd s2 v2) s2))))), (.double c3)]) :: (va, .double, "[D", [(.double v0), (.double v1), (.double v2), (.double v3)]) :: as) := H10
    refine own_aloadN K own_d3_57 rfl rfl ?_
    refine own_iload K own_d3_58 rfl ?_
    refine own_dload K own_d3_60 rfl ?_
    refine own_dastore K own_d3_62 H10 (i := 0) rfl (q := 2) (by decide) (own_le rfl) ?_
    intro h11 H12
    replace H12 : own_H Z h11 (os) ((sa, .double, "[D", [(.double (FP.dadd s0 v0)), (.double (FP.dadd s1 v1)), (.double (FP.dadd s2 v2)), (.double s3)]) :: (ca, .double, "[D", [(.double (FP.dadd c0 (FP.dadd (FP.dsub s0 (FP.dsub (FP.dadd s0 v0) (FP.dsub (FP.dadd s0 v0) s0))) (FP.dsub v0 (FP.dsub (FP.dadd s0 v0) s0))))), (.double (FP.dadd c1 (FP.dadd (FP.dsub s1 (FP.dsub (FP.dadd s1 v1) (FP.dsub (FP.dadd s1 v1) s1))) (FP.dsub v1 (FP.dsub (FP.dadd s1 v1) s1))))), (.double (FP.dadd c2 (FP.dadd (FP.dsub s2 (FP.dsub (FP.dadd s2 v2) (FP.dsub (FP.dadd s2 v2) s2))) (FP.dsub v2 (FP.dsub (FP.dadd s2 v2) s2))))), (.double c3)]) :: (va, .double, "[D", [(.double v0), (.double v1), (.double v2), (.double v3)]) :: as) := H12
    refine own_iinc K own_d3_63 rfl (y := (3 : Int32)) (by decide) (Ls' := #[.val (.ref sa), .val (.ref ca), .val (.ref va), .val (.int (0 : Int32)), .val (.int (3 : Int32)), .val (.int (3 : Int32)), .val (.double s2), .second, .val (.double v2), .second, .val (.double (FP.dadd s2 v2)), .second, .val (.double (FP.dsub (FP.dadd s2 v2) s2)), .second]) rfl ?_
    refine own_goto K own_d3_66 ?_
    refine own_iload K own_d3_3 rfl ?_
    refine own_iload K own_d3_5 rfl ?_
    refine own_icmpge K own_d3_7 (fun _ => ?_) (fun q => absurd (by decide) q)
    exact own_retV K own_d3_69 (by decide) (by decide) (⟨rfl, H12⟩)
  · obtain ⟨rfl, rfl⟩ := q
    refine own_iloadN K own_d3_0 rfl ?_
    refine own_istore K own_d3_1 (Ls' := #[.val (.ref sa), .val (.ref ca), .val (.ref va), .val (.int (0 : Int32)), .val (.int (4 : Int32)), .val (.int (0 : Int32)), .unset, .unset, .unset, .unset, .unset, .unset, .unset, .unset]) rfl ?_
    refine own_iload K own_d3_3 rfl ?_
    refine own_iload K own_d3_5 rfl ?_
    refine own_icmpge K own_d3_7 (fun q => absurd q (by decide)) (fun _ => ?_)
    refine own_aloadN K own_d3_10 rfl rfl ?_
    refine own_iload K own_d3_11 rfl ?_
    refine own_daload K own_d3_13 H (i := 0) rfl (q := 0) (by decide) (rfl) ?_
    refine own_dstore K own_d3_14 (Ls' := #[.val (.ref sa), .val (.ref ca), .val (.ref va), .val (.int (0 : Int32)), .val (.int (4 : Int32)), .val (.int (0 : Int32)), .val (.double s0), .second, .unset, .unset, .unset, .unset, .unset, .unset]) rfl ?_
    refine own_aloadN K own_d3_16 rfl rfl ?_
    refine own_iload K own_d3_17 rfl ?_
    refine own_daload K own_d3_19 H (i := 2) rfl (q := 0) (by decide) (rfl) ?_
    refine own_dstore K own_d3_20 (Ls' := #[.val (.ref sa), .val (.ref ca), .val (.ref va), .val (.int (0 : Int32)), .val (.int (4 : Int32)), .val (.int (0 : Int32)), .val (.double s0), .second, .val (.double v0), .second, .unset, .unset, .unset, .unset]) rfl ?_
    refine own_dload K own_d3_22 rfl ?_
    refine own_dload K own_d3_24 rfl ?_
    refine own_dadd K own_d3_26 (((Fl.dadd_mag hs0 hv0 (by decide)).fin (by decide)).noNaN) ?_
    refine own_dstore K own_d3_27 (Ls' := #[.val (.ref sa), .val (.ref ca), .val (.ref va), .val (.int (0 : Int32)), .val (.int (4 : Int32)), .val (.int (0 : Int32)), .val (.double s0), .second, .val (.double v0), .second, .val (.double (FP.dadd s0 v0)), .second, .unset, .unset]) rfl ?_
    refine own_dload K own_d3_29 rfl ?_
    refine own_dload K own_d3_31 rfl ?_
    refine own_dsub K own_d3_33 (((own_fv hs0 hv0).fin (by decide)).noNaN) ?_
    refine own_dstore K own_d3_34 (Ls' := #[.val (.ref sa), .val (.ref ca), .val (.ref va), .val (.int (0 : Int32)), .val (.int (4 : Int32)), .val (.int (0 : Int32)), .val (.double s0), .second, .val (.double v0), .second, .val (.double (FP.dadd s0 v0)), .second, .val (.double (FP.dsub (FP.dadd s0 v0) s0)), .second]) rfl ?_
    refine own_aloadN K own_d3_36 rfl rfl ?_
    refine own_iload K own_d3_37 rfl ?_
    refine own_dup2 K own_d3_39 rfl rfl ?_
    refine own_daload K own_d3_40 H (i := 1) rfl (q := 0) (by decide) (rfl) ?_
    refine own_dload K own_d3_41 rfl ?_
    refine own_dload K own_d3_43 rfl ?_
    refine own_dload K own_d3_45 rfl ?_
    refine own_dsub K own_d3_47 (((own_e1 hs0 hv0).fin (by decide)).noNaN) ?_
    refine own_dsub K own_d3_48 (((own_e2 hs0 hv0).fin (by decide)).noNaN) ?_
    refine own_dload K own_d3_49 rfl ?_
    refine own_dload K own_d3_51 rfl ?_
    refine own_dsub K own_d3_53 (((own_e3 hs0 hv0).fin (by decide)).noNaN) ?_
    refine own_dadd K own_d3_54 (((own_e4 hs0 hv0).fin (by decide)).noNaN) ?_
    refine own_dadd K own_d3_55 (((own_e5 hs0 hv0 hc0).fin (by decide)).noNaN) ?_
    refine own_dastore K own_d3_56 H (i := 1) rfl (q := 0) (by decide) (own_le rfl) ?_
    intro h1 H2
    replace H2 : own_H Z h1 (os) ((sa, .double, "[D", [(.double s0), (.double s1), (.double s2), (.double s3)]) :: (ca, .double, "[D", [(.double (FP.dadd c0 (FP.dadd (FP.dsub s0 (FP.dsub (FP.dadd s0 v0) (FP.dsub (FP.dadd s0 v0) s0))) (FP.dsub v0 (FP.dsub (FP.dadd s0 v0) s0))))), (.double c1), (.double c2), (.double c3)]) :: (va, .double, "[D", [(.double v0), (.double v1), (.double v2), (.double v3)]) :: as) := H2
    refine own_aloadN K own_d3_57 rfl rfl ?_
    refine own_iload K own_d3_58 rfl ?_
    refine own_dload K own_d3_60 rfl ?_
    refine own_dastore K own_d3_62 H2 (i := 0) rfl (q := 0) (by decide) (own_le rfl) ?_
    intro h3 H4
    replace H4 : own_H Z h3 (os) ((sa, .double, "[D", [(.double (FP.dadd s0 v0)), (.double s1), (.double s2), (.double s3)]) :: (ca, .double, "[D", [(.double (FP.dadd c0 (FP.dadd (FP.dsub s0 (FP.dsub (FP.dadd s0 v0) (FP.dsub (FP.dadd s0 v0) s0))) (FP.dsub v0 (FP.dsub (FP.dadd s0 v0) s0))))), (.double c1), (.double c2), (.double c3)]) :: (va, .double, "[D", [(.double v0), (.double v1), (.double v2), (.double v3)]) :: as) := H4
    refine own_iinc K own_d3_63 rfl (y := (1 : Int32)) (by decide) (Ls' := #[.val (.ref sa), .val (.ref ca), .val (.ref va), .val (.int (0 : Int32)), .val (.int (4 : Int32)), .val (.int (1 : Int32)), .val (.double s0), .second, .val (.double v0), .second, .val (.double (FP.dadd s0 v0)), .second, .val (.double (FP.dsub (FP.dadd s0 v0) s0)), .second]) rfl ?_
    refine own_goto K own_d3_66 ?_
    refine own_iload K own_d3_3 rfl ?_
    refine own_iload K own_d3_5 rfl ?_
    refine own_icmpge K own_d3_7 (fun q => absurd q (by decide)) (fun _ => ?_)
    refine own_aloadN K own_d3_10 rfl rfl ?_
    refine own_iload K own_d3_11 rfl ?_
    refine own_daload K own_d3_13 H4 (i := 0) rfl (q := 1) (by decide) (rfl) ?_
    refine own_dstore K own_d3_14 (Ls' := #[.val (.ref sa), .val (.ref ca), .val (.ref va), .val (.int (0 : Int32)), .val (.int (4 : Int32)), .val (.int (1 : Int32)), .val (.double s1), .second, .val (.double v0), .second, .val (.double (FP.dadd s0 v0)), .second, .val (.double (FP.dsub (FP.dadd s0 v0) s0)), .second]) rfl ?_
    refine own_aloadN K own_d3_16 rfl rfl ?_
    refine own_iload K own_d3_17 rfl ?_
    refine own_daload K own_d3_19 H4 (i := 2) rfl (q := 1) (by decide) (rfl) ?_
    refine own_dstore K own_d3_20 (Ls' := #[.val (.ref sa), .val (.ref ca), .val (.ref va), .val (.int (0 : Int32)), .val (.int (4 : Int32)), .val (.int (1 : Int32)), .val (.double s1), .second, .val (.double v1), .second, .val (.double (FP.dadd s0 v0)), .second, .val (.double (FP.dsub (FP.dadd s0 v0) s0)), .second]) rfl ?_
    refine own_dload K own_d3_22 rfl ?_
    refine own_dload K own_d3_24 rfl ?_
    refine own_dadd K own_d3_26 (((Fl.dadd_mag hs1 hv1 (by decide)).fin (by decide)).noNaN) ?_
    refine own_dstore K own_d3_27 (Ls' := #[.val (.ref sa), .val (.ref ca), .val (.ref va), .val (.int (0 : Int32)), .val (.int (4 : Int32)), .val (.int (1 : Int32)), .val (.double s1), .second, .val (.double v1), .second, .val (.double (FP.dadd s1 v1)), .second, .val (.double (FP.dsub (FP.dadd s0 v0) s0)), .second]) rfl ?_
    refine own_dload K own_d3_29 rfl ?_
    refine own_dload K own_d3_31 rfl ?_
    refine own_dsub K own_d3_33 (((own_fv hs1 hv1).fin (by decide)).noNaN) ?_
    refine own_dstore K own_d3_34 (Ls' := #[.val (.ref sa), .val (.ref ca), .val (.ref va), .val (.int (0 : Int32)), .val (.int (4 : Int32)), .val (.int (1 : Int32)), .val (.double s1), .second, .val (.double v1), .second, .val (.double (FP.dadd s1 v1)), .second, .val (.double (FP.dsub (FP.dadd s1 v1) s1)), .second]) rfl ?_
    refine own_aloadN K own_d3_36 rfl rfl ?_
    refine own_iload K own_d3_37 rfl ?_
    refine own_dup2 K own_d3_39 rfl rfl ?_
    refine own_daload K own_d3_40 H4 (i := 1) rfl (q := 1) (by decide) (rfl) ?_
    refine own_dload K own_d3_41 rfl ?_
    refine own_dload K own_d3_43 rfl ?_
    refine own_dload K own_d3_45 rfl ?_
    refine own_dsub K own_d3_47 (((own_e1 hs1 hv1).fin (by decide)).noNaN) ?_
    refine own_dsub K own_d3_48 (((own_e2 hs1 hv1).fin (by decide)).noNaN) ?_
    refine own_dload K own_d3_49 rfl ?_
    refine own_dload K own_d3_51 rfl ?_
    refine own_dsub K own_d3_53 (((own_e3 hs1 hv1).fin (by decide)).noNaN) ?_
    refine own_dadd K own_d3_54 (((own_e4 hs1 hv1).fin (by decide)).noNaN) ?_
    refine own_dadd K own_d3_55 (((own_e5 hs1 hv1 hc1).fin (by decide)).noNaN) ?_
    refine own_dastore K own_d3_56 H4 (i := 1) rfl (q := 1) (by decide) (own_le rfl) ?_
    intro h5 H6
    replace H6 : own_H Z h5 (os) ((sa, .double, "[D", [(.double (FP.dadd s0 v0)), (.double s1), (.double s2), (.double s3)]) :: (ca, .double, "[D", [(.double (FP.dadd c0 (FP.dadd (FP.dsub s0 (FP.dsub (FP.dadd s0 v0) (FP.dsub (FP.dadd s0 v0) s0))) (FP.dsub v0 (FP.dsub (FP.dadd s0 v0) s0))))), (.double (FP.dadd c1 (FP.dadd (FP.dsub s1 (FP.dsub (FP.dadd s1 v1) (FP.dsub (FP.dadd s1 v1) s1))) (FP.dsub v1 (FP.dsub (FP.dadd s1 v1) s1))))), (.double c2), (.double c3)]) :: (va, .double, "[D", [(.double v0), (.double v1), (.double v2), (.double v3)]) :: as) := H6
    refine own_aloadN K own_d3_57 rfl rfl ?_
    refine own_iload K own_d3_58 rfl ?_
    refine own_dload K own_d3_60 rfl ?_
    refine own_dastore K own_d3_62 H6 (i := 0) rfl (q := 1) (by decide) (own_le rfl) ?_
    intro h7 H8
    replace H8 : own_H Z h7 (os) ((sa, .double, "[D", [(.double (FP.dadd s0 v0)), (.double (FP.dadd s1 v1)), (.double s2), (.double s3)]) :: (ca, .double, "[D", [(.double (FP.dadd c0 (FP.dadd (FP.dsub s0 (FP.dsub (FP.dadd s0 v0) (FP.dsub (FP.dadd s0 v0) s0))) (FP.dsub v0 (FP.dsub (FP.dadd s0 v0) s0))))), (.double (FP.dadd c1 (FP.dadd (FP.dsub s1 (FP.dsub (FP.dadd s1 v1) (FP.dsub (FP.dadd s1 v1) s1))) (FP.dsub v1 (FP.dsub (FP.dadd s1 v1) s1))))), (.double c2), (.double c3)]) :: (va, .double, "[D", [(.double v0), (.double v1), (.double v2), (.double v3)]) :: as) := H8
    refine own_iinc K own_d3_63 rfl (y := (2 : Int32)) (by decide) (Ls' := #[.val (.ref sa), .val (.ref ca), .val (.ref va), .val (.int (0 : Int32)), .val (.int (4 : Int32)), .val (.int (2 : Int32)), .val (.double s1), .second, .val (.double v1), .second, .val (.double (FP.dadd s1 v1)), .second, .val (.double (FP.dsub (FP.dadd s1 v1) s1)), .second]) rfl ?_
    refine own_goto K own_d3_66 ?_
    refine own_iload K own_d3_3 rfl ?_
    refine own_iload K own_d3_5 rfl ?_
    refine own_icmpge K own_d3_7 (fun q => absurd q (by decide)) (fun _ => ?_)
    refine own_aloadN K own_d3_10 rfl rfl ?_
    refine own_iload K own_d3_11 rfl ?_
    refine own_daload K own_d3_13 H8 (i := 0) rfl (q := 2) (by decide) (rfl) ?_
    refine own_dstore K own_d3_14 (Ls' := #[.val (.ref sa), .val (.ref ca), .val (.ref va), .val (.int (0 : Int32)), .val (.int (4 : Int32)), .val (.int (2 : Int32)), .val (.double s2), .second, .val (.double v1), .second, .val (.double (FP.dadd s1 v1)), .second, .val (.double (FP.dsub (FP.dadd s1 v1) s1)), .second]) rfl ?_
    refine own_aloadN K own_d3_16 rfl rfl ?_
    refine own_iload K own_d3_17 rfl ?_
    refine own_daload K own_d3_19 H8 (i := 2) rfl (q := 2) (by decide) (rfl) ?_
    refine own_dstore K own_d3_20 (Ls' := #[.val (.ref sa), .val (.ref ca), .val (.ref va), .val (.int (0 : Int32)), .val (.int (4 : Int32)), .val (.int (2 : Int32)), .val (.double s2), .second, .val (.double v2), .second, .val (.double (FP.dadd s1 v1)), .second, .val (.double (FP.dsub (FP.dadd s1 v1) s1)), .second]) rfl ?_
    refine own_dload K own_d3_22 rfl ?_
    refine own_dload K own_d3_24 rfl ?_
    refine own_dadd K own_d3_26 (((Fl.dadd_mag hs2 hv2 (by decide)).fin (by decide)).noNaN) ?_
    refine own_dstore K own_d3_27 (Ls' := #[.val (.ref sa), .val (.ref ca), .val (.ref va), .val (.int (0 : Int32)), .val (.int (4 : Int32)), .val (.int (2 : Int32)), .val (.double s2), .second, .val (.double v2), .second, .val (.double (FP.dadd s2 v2)), .second, .val (.double (FP.dsub (FP.dadd s1 v1) s1)), .second]) rfl ?_
    refine own_dload K own_d3_29 rfl ?_
    refine own_dload K own_d3_31 rfl ?_
    refine own_dsub K own_d3_33 (((own_fv hs2 hv2).fin (by decide)).noNaN) ?_
    refine own_dstore K own_d3_34 (Ls' := #[.val (.ref sa), .val (.ref ca), .val (.ref va), .val (.int (0 : Int32)), .val (.int (4 : Int32)), .val (.int (2 : Int32)), .val (.double s2), .second, .val (.double v2), .second, .val (.double (FP.dadd s2 v2)), .second, .val (.double (FP.dsub (FP.dadd s2 v2) s2)), .second]) rfl ?_
    refine own_aloadN K own_d3_36 rfl rfl ?_
    refine own_iload K own_d3_37 rfl ?_
    refine own_dup2 K own_d3_39 rfl rfl ?_
    refine own_daload K own_d3_40 H8 (i := 1) rfl (q := 2) (by decide) (rfl) ?_
    refine own_dload K own_d3_41 rfl ?_
    refine own_dload K own_d3_43 rfl ?_
    refine own_dload K own_d3_45 rfl ?_
    refine own_dsub K own_d3_47 (((own_e1 hs2 hv2).fin (by decide)).noNaN) ?_
    refine own_dsub K own_d3_48 (((own_e2 hs2 hv2).fin (by decide)).noNaN) ?_
    refine own_dload K own_d3_49 rfl ?_
    refine own_dload K own_d3_51 rfl ?_
    refine own_dsub K own_d3_53 (((own_e3 hs2 hv2).fin (by decide)).noNaN) ?_
    refine own_dadd K own_d3_54 (((own_e4 hs2 hv2).fin (by decide)).noNaN) ?_
    refine own_dadd K own_d3_55 (((own_e5 hs2 hv2 hc2).fin (by decide)).noNaN) ?_
    refine own_dastore K own_d3_56 H8 (i := 1) rfl (q := 2) (by decide) (own_le rfl) ?_
    intro h9 H10
    replace H10 : own_H Z h9 (os) ((sa, .double, "[D", [(.double (FP.dadd s0 v0)), (.double (FP.dadd s1 v1)), (.double s2), (.double s3)]) :: (ca, .double, "[D", [(.double (FP.dadd c0 (FP.dadd (FP.dsub s0 (FP.dsub (FP.dadd s0 v0) (FP.dsub (FP.dadd s0 v0) s0))) (FP.dsub v0 (FP.dsub (FP.dadd s0 v0) s0))))), (.double (FP.dadd c1 (FP.dadd (FP.dsub s1 (FP.dsub (FP.dadd s1 v1) (FP.dsub (FP.dadd s1 v1) s1))) (FP.dsub v1 (FP.dsub (FP.dadd s1 v1) s1))))), (.double (FP.dadd c2 (FP.dadd (FP.dsub s2 (FP.dsub (FP.dadd s2 v2) (FP.dsub (FP.dadd s2 v2) s2))) (FP.dsub v2 (FP.dsub (FP.dadd s2 v2) s2))))), (.double c3)]) :: (va, .double, "[D", [(.double v0), (.double v1), (.double v2), (.double v3)]) :: as) := H10
    refine own_aloadN K own_d3_57 rfl rfl ?_
    refine own_iload K own_d3_58 rfl ?_
    refine own_dload K own_d3_60 rfl ?_
    refine own_dastore K own_d3_62 H10 (i := 0) rfl (q := 2) (by decide) (own_le rfl) ?_
    intro h11 H12
    replace H12 : own_H Z h11 (os) ((sa, .double, "[D", [(.double (FP.dadd s0 v0)), (.double (FP.dadd s1 v1)), (.double (FP.dadd s2 v2)), (.double s3)]) :: (ca, .double, "[D", [(.double (FP.dadd c0 (FP.dadd (FP.dsub s0 (FP.dsub (FP.dadd s0 v0) (FP.dsub (FP.dadd s0 v0) s0))) (FP.dsub v0 (FP.dsub (FP.dadd s0 v0) s0))))), (.double (FP.dadd c1 (FP.dadd (FP.dsub s1 (FP.dsub (FP.dadd s1 v1) (FP.dsub (FP.dadd s1 v1) s1))) (FP.dsub v1 (FP.dsub (FP.dadd s1 v1) s1))))), (.double (FP.dadd c2 (FP.dadd (FP.dsub s2 (FP.dsub (FP.dadd s2 v2) (FP.dsub (FP.dadd s2 v2) s2))) (FP.dsub v2 (FP.dsub (FP.dadd s2 v2) s2))))), (.double c3)]) :: (va, .double, "[D", [(.double v0), (.double v1), (.double v2), (.double v3)]) :: as) := H12
    refine own_iinc K own_d3_63 rfl (y := (3 : Int32)) (by decide) (Ls' := #[.val (.ref sa), .val (.ref ca), .val (.ref va), .val (.int (0 : Int32)), .val (.int (4 : Int32)), .val (.int (3 : Int32)), .val (.double s2), .second, .val (.double v2), .second, .val (.double (FP.dadd s2 v2)), .second, .val (.double (FP.dsub (FP.dadd s2 v2) s2)), .second]) rfl ?_
    refine own_goto K own_d3_66 ?_
    refine own_iload K own_d3_3 rfl ?_
    refine own_iload K own_d3_5 rfl ?_
    refine own_icmpge K own_d3_7 (fun q => absurd q (by decide)) (fun _ => ?_)
    refine own_aloadN K own_d3_10 rfl rfl ?_
    refine own_iload K own_d3_11 rfl ?_
    refine own_daload K own_d3_13 H12 (i := 0) rfl (q := 3) (by decide) (rfl) ?_
    refine own_dstore K own_d3_14 (Ls' := #[.val (.ref sa), .val (.ref ca), .val (.ref va), .val (.int (0 : Int32)), .val (.int (4 : Int32)), .val (.int (3 : Int32)), .val (.double s3), .second, .val (.double v2), .second, .val (.double (FP.dadd s2 v2)), .second, .val (.double (FP.dsub (FP.dadd s2 v2) s2)), .second]) rfl ?_
    refine own_aloadN K own_d3_16 rfl rfl ?_
    refine own_iload K own_d3_17 rfl ?_
    refine own_daload K own_d3_19 H12 (i := 2) rfl (q := 3) (by decide) (rfl) ?_
    refine own_dstore K own_d3_20 (Ls' := #[.val (.ref sa), .val (.ref ca), .val (.ref va), .val (.int (0 : Int32)), .val (.int (4 : Int32)), .val (.int (3 : Int32)), .val (.double s3), .second, .val (.double v3), .second, .val (.double (FP.dadd s2 v2)), .second, .val (.double (FP.dsub (FP.dadd s2 v2) s2)), .second]) rfl ?_
    refine own_dload K own_d3_22 rfl ?_
    refine own_dload K own_d3_24 rfl ?_
    refine own_dadd K own_d3_26 (((Fl.dadd_mag hs3 hv3 (by decide)).fin (by decide)).noNaN) ?_
    refine own_dstore K own_d3_27 (Ls' := #[.val (.ref sa), .val (.ref ca), .val (.ref va), .val (.int (0 : Int32)), .val (.int (4 : Int32)), .val (.int (3 : Int32)), .val (.double s3), .second, .val (.double v3), .second, .val (.double (FP.dadd s3 v3)), .second, .val (.double (FP.dsub (FP.dadd s2 v2) s2)), .second]) rfl ?_
    refine own_dload K own_d3_29 rfl ?_
    refine own_dload K own_d3_31 rfl ?_
    refine own_dsub K own_d3_33 (((own_fv hs3 hv3).fin (by decide)).noNaN) ?_
    refine own_dstore K own_d3_34 (Ls' := #[.val (.ref sa), .val (.ref ca), .val (.ref va), .val (.int (0 : Int32)), .val (.int (4 : Int32)), .val (.int (3 : Int32)), .val (.double s3), .second, .val (.double v3), .second, .val (.double (FP.dadd s3 v3)), .second, .val (.double (FP.dsub (FP.dadd s3 v3) s3)), .second]) rfl ?_
    refine own_aloadN K own_d3_36 rfl rfl ?_
    refine own_iload K own_d3_37 rfl ?_
    refine own_dup2 K own_d3_39 rfl rfl ?_
    refine own_daload K own_d3_40 H12 (i := 1) rfl (q := 3) (by decide) (rfl) ?_
    refine own_dload K own_d3_41 rfl ?_
    refine own_dload K own_d3_43 rfl ?_
    refine own_dload K own_d3_45 rfl ?_
    refine own_dsub K own_d3_47 (((own_e1 hs3 hv3).fin (by decide)).noNaN) ?_
    refine own_dsub K own_d3_48 (((own_e2 hs3 hv3).fin (by decide)).noNaN) ?_
    refine own_dload K own_d3_49 rfl ?_
    refine own_dload K own_d3_51 rfl ?_
    refine own_dsub K own_d3_53 (((own_e3 hs3 hv3).fin (by decide)).noNaN) ?_
    refine own_dadd K own_d3_54 (((own_e4 hs3 hv3).fin (by decide)).noNaN) ?_
    refine own_dadd K own_d3_55 (((own_e5 hs3 hv3 hc3).fin (by decide)).noNaN) ?_
    refine own_dastore K own_d3_56 H12 (i := 1) rfl (q := 3) (by decide) (own_le rfl) ?_
    intro h13 H14
    replace H14 : own_H Z h13 (os) ((sa, .double, "[D", [(.double (FP.dadd s0 v0)), (.double (FP.dadd s1 v1)), (.double (FP.dadd s2 v2)), (.double s3)]) :: (ca, .double, "[D", [(.double (FP.dadd c0 (FP.dadd (FP.dsub s0 (FP.dsub (FP.dadd s0 v0) (FP.dsub (FP.dadd s0 v0) s0))) (FP.dsub v0 (FP.dsub (FP.dadd s0 v0) s0))))), (.double (FP.dadd c1 (FP.dadd (FP.dsub s1 (FP.dsub (FP.dadd s1 v1) (FP.dsub (FP.dadd s1 v1) s1))) (FP.dsub v1 (FP.dsub (FP.dadd s1 v1) s1))))), (.double (FP.dadd c2 (FP.dadd (FP.dsub s2 (FP.dsub (FP.dadd s2 v2) (FP.dsub (FP.dadd s2 v2) s2))) (FP.dsub v2 (FP.dsub (FP.dadd s2 v2) s2))))), (.double (FP.dadd c3 (FP.dadd (FP.dsub s3 (FP.dsub (FP.dadd s3 v3) (FP.dsub (FP.dadd s3 v3) s3))) (FP.dsub v3 (FP.dsub (FP.dadd s3 v3) s3)))))]) :: (va, .double, "[D", [(.double v0), (.double v1), (.double v2), (.double v3)]) :: as) := H14
    refine own_aloadN K own_d3_57 rfl rfl ?_
    refine own_iload K own_d3_58 rfl ?_
    refine own_dload K own_d3_60 rfl ?_
    refine own_dastore K own_d3_62 H14 (i := 0) rfl (q := 3) (by decide) (own_le rfl) ?_
    intro h15 H16
    replace H16 : own_H Z h15 (os) ((sa, .double, "[D", [(.double (FP.dadd s0 v0)), (.double (FP.dadd s1 v1)), (.double (FP.dadd s2 v2)), (.double (FP.dadd s3 v3))]) :: (ca, .double, "[D", [(.double (FP.dadd c0 (FP.dadd (FP.dsub s0 (FP.dsub (FP.dadd s0 v0) (FP.dsub (FP.dadd s0 v0) s0))) (FP.dsub v0 (FP.dsub (FP.dadd s0 v0) s0))))), (.double (FP.dadd c1 (FP.dadd (FP.dsub s1 (FP.dsub (FP.dadd s1 v1) (FP.dsub (FP.dadd s1 v1) s1))) (FP.dsub v1 (FP.dsub (FP.dadd s1 v1) s1))))), (.double (FP.dadd c2 (FP.dadd (FP.dsub s2 (FP.dsub (FP.dadd s2 v2) (FP.dsub (FP.dadd s2 v2) s2))) (FP.dsub v2 (FP.dsub (FP.dadd s2 v2) s2))))), (.double (FP.dadd c3 (FP.dadd (FP.dsub s3 (FP.dsub (FP.dadd s3 v3) (FP.dsub (FP.dadd s3 v3) s3))) (FP.dsub v3 (FP.dsub (FP.dadd s3 v3) s3)))))]) :: (va, .double, "[D", [(.double v0), (.double v1), (.double v2), (.double v3)]) :: as) := H16
    refine own_iinc K own_d3_63 rfl (y := (4 : Int32)) (by decide) (Ls' := #[.val (.ref sa), .val (.ref ca), .val (.ref va), .val (.int (0 : Int32)), .val (.int (4 : Int32)), .val (.int (4 : Int32)), .val (.double s3), .second, .val (.double v3), .second, .val (.double (FP.dadd s3 v3)), .second, .val (.double (FP.dsub (FP.dadd s3 v3) s3)), .second]) rfl ?_
    refine own_goto K own_d3_66 ?_
    refine own_iload K own_d3_3 rfl ?_
    refine own_iload K own_d3_5 rfl ?_
    refine own_icmpge K own_d3_7 (fun _ => ?_) (fun q => absurd (by decide) q)
    exact own_retV K own_d3_69 (by decide) (by decide) (⟨rfl, H16⟩)
  · obtain ⟨rfl, rfl⟩ := q
    refine own_iloadN K own_d3_0 rfl ?_
    refine own_istore K own_d3_1 (Ls' := #[.val (.ref sa), .val (.ref ca), .val (.ref va), .val (.int (1 : Int32)), .val (.int (2 : Int32)), .val (.int (1 : Int32)), .unset, .unset, .unset, .unset, .unset, .unset, .unset, .unset]) rfl ?_
    refine own_iload K own_d3_3 rfl ?_
    refine own_iload K own_d3_5 rfl ?_
    refine own_icmpge K own_d3_7 (fun q => absurd q (by decide)) (fun _ => ?_)
    refine own_aloadN K own_d3_10 rfl rfl ?_
    refine own_iload K own_d3_11 rfl ?_
    refine own_daload K own_d3_13 H (i := 0) rfl (q := 1) (by decide) (rfl) ?_
    refine own_dstore K own_d3_14 (Ls' := #[.val (.ref sa), .val (.ref ca), .val (.ref va), .val (.int (1 : Int32)), .val (.int (2 : Int32)), .val (.int (1 : Int32)), .val (.double s1), .second, .unset, .unset, .unset, .unset, .unset, .unset]) rfl ?_
    refine own_aloadN K own_d3_16 rfl rfl ?_
    refine own_iload K own_d3_17 rfl ?_
    refine own_daload K own_d3_19 H (i := 2) rfl (q := 1) (by decide) (rfl) ?_
    refine own_dstore K own_d3_20 (Ls' := #[.val (.ref sa), .val (.ref ca), .val (.ref va), .val (.int (1 : Int32)), .val (.int (2 : Int32)), .val (.int (1 : Int32)), .val (.double s1), .second, .val (.double v1), .second, .unset, .unset, .unset, .unset]) rfl ?_
    refine own_dload K own_d3_22 rfl ?_
    refine own_dload K own_d3_24 rfl ?_
    refine own_dadd K own_d3_26 (((Fl.dadd_mag hs1 hv1 (by decide)).fin (by decide)).noNaN) ?_
    refine own_dstore K own_d3_27 (Ls' := #[.val (.ref sa), .val (.ref ca), .val (.ref va), .val (.int (1 : Int32)), .val (.int (2 : Int32)), .val (.int (1 : Int32)), .val (.double s1), .second, .val (.double v1), .second, .val (.double (FP.dadd s1 v1)), .second, .unset, .unset]) rfl ?_
    refine own_dload K own_d3_29 rfl ?_
    refine own_dload K own_d3_31 rfl ?_
    refine own_dsub K own_d3_33 (((own_fv hs1 hv1).fin (by decide)).noNaN) ?_
    refine own_dstore K own_d3_34 (Ls' := #[.val (.ref sa), .val (.ref ca), .val (.ref va), .val (.int (1 : Int32)), .val (.int (2 : Int32)), .val (.int (1 : Int32)), .val (.double s1), .second, .val (.double v1), .second, .val (.double (FP.dadd s1 v1)), .second, .val (.double (FP.dsub (FP.dadd s1 v1) s1)), .second]) rfl ?_
    refine own_aloadN K own_d3_36 rfl rfl ?_
    refine own_iload K own_d3_37 rfl ?_
    refine own_dup2 K own_d3_39 rfl rfl ?_
    refine own_daload K own_d3_40 H (i := 1) rfl (q := 1) (by decide) (rfl) ?_
    refine own_dload K own_d3_41 rfl ?_
    refine own_dload K own_d3_43 rfl ?_
    refine own_dload K own_d3_45 rfl ?_
    refine own_dsub K own_d3_47 (((own_e1 hs1 hv1).fin (by decide)).noNaN) ?_
    refine own_dsub K own_d3_48 (((own_e2 hs1 hv1).fin (by decide)).noNaN) ?_
    refine own_dload K own_d3_49 rfl ?_
    refine own_dload K own_d3_51 rfl ?_
    refine own_dsub K own_d3_53 (((own_e3 hs1 hv1).fin (by decide)).noNaN) ?_
    refine own_dadd K own_d3_54 (((own_e4 hs1 hv1).fin (by decide)).noNaN) ?_
    refine own_dadd K own_d3_55 (((own_e5 hs1 hv1 hc1).fin (by decide)).noNaN) ?_
    refine own_dastore K own_d3_56 H (i := 1) rfl (q := 1) (by decide) (own_le rfl) ?_
    intro h1 H2
    replace H2 : own_H Z h1 (os) ((sa, .double, "[D", [(.double s0), (.double s1), (.double s2), (.double s3)]) :: (ca, .double, "[D", [(.double c0), (.double (FP.dadd c1 (FP.dadd (FP.dsub s1 (FP.dsub (FP.dadd s1 v1) (FP.dsub (FP.dadd s1 v1) s1))) (FP.dsub v1 (FP.dsub (FP.dadd s1 v1) s1))))), (.double c2), (.double c3)]) :: (va, .double, "[D", [(.double v0), (.double v1), (.double v2), (.double v3)]) :: as) := H2
    refine own_aloadN K own_d3_57 rfl rfl ?_
    refine own_iload K own_d3_58 rfl ?_
    refine own_dload K own_d3_60 rfl ?_
    refine own_dastore K own_d3_62 H2 (i := 0) rfl (q := 1) (by decide) (own_le rfl) ?_
    intro h3 H4
    replace H4 : own_H Z h3 (os) ((sa, .double, "[D", [(.double s0), (.double (FP.dadd s1 v1)), (.double s2), (.double s3)]) :: (ca, .double, "[D", [(.double c0), (.double (FP.dadd c1 (FP.dadd (FP.dsub s1 (FP.dsub (FP.dadd s1 v1) (FP.dsub (FP.dadd s1 v1) s1))) (FP.dsub v1 (FP.dsub (FP.dadd s1 v1) s1))))), (.double c2), (.double c3)]) :: (va, .double, "[D", [(.double v0), (.double v1), (.double v2), (.double v3)]) :: as) := H4
    refine own_iinc K own_d3_63 rfl (y := (2 : Int32)) (by decide) (Ls' := #[.val (.ref sa), .val (.ref ca), .val (.ref va), .val (.int (1 : Int32)), .val (.int (2 : Int32)), .val (.int (2 : Int32)), .val (.double s1), .second, .val (.double v1), .second, .val (.double (FP.dadd s1 v1)), .second, .val (.double (FP.dsub (FP.dadd s1 v1) s1)), .second]) rfl ?_
    refine own_goto K own_d3_66 ?_
    refine own_iload K own_d3_3 rfl ?_
    refine own_iload K own_d3_5 rfl ?_
    refine own_icmpge K own_d3_7 (fun _ => ?_) (fun q => absurd (by decide) q)
    exact own_retV K own_d3_69 (by decide) (by decide) (⟨rfl, H4⟩)
  · obtain ⟨rfl, rfl⟩ := q
    refine own_iloadN K own_d3_0 rfl ?_
    refine own_istore K own_d3_1 (Ls' := #[.val (.ref sa), .val (.ref ca), .val (.ref va), .val (.int (1 : Int32)), .val (.int (3 : Int32)), .val (.int (1 : Int32)), .unset, .unset, .unset, .unset, .unset, .unset, .unset, .unset]) rfl ?_
    refine own_iload K own_d3_3 rfl ?_
    refine own_iload K own_d3_5 rfl ?_
    refine own_icmpge K own_d3_7 (fun q => absurd q (by decide)) (fun _ => ?_)
    refine own_aloadN K own_d3_10 rfl rfl ?_
    refine own_iload K own_d3_11 rfl ?_
    refine own_daload K own_d3_13 H (i := 0) rfl (q := 1) (by decide) (rfl) ?_
    refine own_dstore K own_d3_14 (Ls' := #[.val (.ref sa), .val (.ref ca), .val (.ref va), .val (.int (1 : Int32)), .val (.int (3 : Int32)), .val (.int (1 : Int32)), .val (.double s1), .second, .unset, .unset, .unset, .unset, .unset, .unset]) rfl ?_
    refine own_aloadN K own_d3_16 rfl rfl ?_
    refine own_iload K own_d3_17 rfl ?_
    refine own_daload K own_d3_19 H (i := 2) rfl (q := 1) (by decide) (rfl) ?_
    refine own_dstore K own_d3_20 (Ls' := #[.val (.ref sa), .val (.ref ca), .val (.ref va), .val (.int (1 : Int32)), .val (.int (3 : Int32)), .val (.int (1 : Int32)), .val (.double s1), .second, .val (.double v1), .second, .unset, .unset, .unset, .unset]) rfl ?_
    refine own_dload K own_d3_22 rfl ?_
    refine own_dload K own_d3_24 rfl ?_
    refine own_dadd K own_d3_26 (((Fl.dadd_mag hs1 hv1 (by decide)).fin (by decide)).noNaN) ?_
    refine own_dstore K own_d3_27 (Ls' := #[.val (.ref sa), .val (.ref ca), .val (.ref va), .val (.int (1 : Int32)), .val (.int (3 : Int32)), .val (.int (1 : Int32)), .val (.double s1), .second, .val (.double v1), .second, .val (.double (FP.dadd s1 v1)), .second, .unset, .unset]) rfl ?_
    refine own_dload K own_d3_29 rfl ?_
    refine own_dload K own_d3_31 rfl ?_
    refine own_dsub K own_d3_33 (((own_fv hs1 hv1).fin (by decide)).noNaN) ?_
    refine own_dstore K own_d3_34 (Ls' := #[.val (.ref sa), .val (.ref ca), .val (.ref va), .val (.int (1 : Int32)), .val (.int (3 : Int32)), .val (.int (1 : Int32)), .val (.double s1), .second, .val (.double v1), .second, .val (.double (FP.dadd s1 v1)), .second, .val (.double (FP.dsub (FP.dadd s1 v1) s1)), .second]) rfl ?_
    refine own_aloadN K own_d3_36 rfl rfl ?_
    refine own_iload K own_d3_37 rfl ?_
    refine own_dup2 K own_d3_39 rfl rfl ?_
    refine own_daload K own_d3_40 H (i := 1) rfl (q := 1) (by decide) (rfl) ?_
    refine own_dload K own_d3_41 rfl ?_
    refine own_dload K own_d3_43 rfl ?_
    refine own_dload K own_d3_45 rfl ?_
    refine own_dsub K own_d3_47 (((own_e1 hs1 hv1).fin (by decide)).noNaN) ?_
    refine own_dsub K own_d3_48 (((own_e2 hs1 hv1).fin (by decide)).noNaN) ?_
    refine own_dload K own_d3_49 rfl ?_
    refine own_dload K own_d3_51 rfl ?_
    refine own_dsub K own_d3_53 (((own_e3 hs1 hv1).fin (by decide)).noNaN) ?_
    refine own_dadd K own_d3_54 (((own_e4 hs1 hv1).fin (by decide)).noNaN) ?_
    refine own_dadd K own_d3_55 (((own_e5 hs1 hv1 hc1).fin (by decide)).noNaN) ?_
    refine own_dastore K own_d3_56 H (i := 1) rfl (q := 1) (by decide) (own_le rfl) ?_
    intro h1 H2
    replace H2 : own_H Z h1 (os) ((sa, .double, "[D", [(.double s0), (.double s1), (.double s2), (.double s3)]) :: (ca, .double, "[D", [(.double c0), (.double (FP.dadd c1 (FP.dadd (FP.dsub s1 (FP.dsub (FP.dadd s1 v1) (FP.dsub (FP.dadd s1 v1) s1))) (FP.dsub v1 (FP.dsub (FP.dadd s1 v1) s1))))), (.double c2), (.double c3)]) :: (va, .double, "[D", [(.double v0), (.double v1), (.double v2), (.double v3)]) :: as) := H2
    refine own_aloadN K own_d3_57 rfl rfl ?_
    refine own_iload K own_d3_58 rfl ?_
    refine own_dload K own_d3_60 rfl ?_
    refine own_dastore K own_d3_62 H2 (i := 0) rfl (q := 1) (by decide) (own_le rfl) ?_
    intro h3 H4
    replace H4 : own_H Z h3 (os) ((sa, .double, "[D", [(.double s0), (.double (FP.dadd s1 v1)), (.double s2), (.double s3)]) :: (ca, .double, "[D", [(.double c0), (.double (FP.dadd c1 (FP.dadd (FP.dsub s1 (FP.dsub (FP.dadd s1 v1) (FP.dsub (FP.dadd s1 v1) s1))) (FP.dsub v1 (FP.dsub (FP.dadd s1 v1) s1))))), (.double c2), (.double c3)]) :: (va, .double, "[D", [(.double v0), (.double v1), (.double v2), (.double v3)]) :: as) := H4
    refine own_iinc K own_d3_63 rfl (y := (2 : Int32)) (by decide) (Ls' := #[.val (.ref sa), .val (.ref ca), .val (.ref va), .val (.int (1 : Int32)), .val (.int (3 : Int32)), .val (.int (2 : Int32)), .val (.double s1), .second, .val (.double v1), .second, .val (.double (FP.dadd s1 v1)), .second, .val (.double (FP.dsub (FP.dadd s1 v1) s1)), .second]) rfl ?_
    refine own_goto K own_d3_66 ?_
    refine own_iload K own_d3_3 rfl ?_
    refine own_iload K own_d3_5 rfl ?_
    refine own_icmpge K own_d3_7 (fun q => absurd q (by decide)) (fun _ => ?_)
    refine own_aloadN K own_d3_10 rfl rfl ?_
    refine own_iload K own_d3_11 rfl ?_
    refine own_daload K own_d3_13 H4 (i := 0) rfl (q := 2) (by decide) (rfl) ?_
    refine own_dstore K own_d3_14 (Ls' := #[.val (.ref sa), .val (.ref ca), .val (.ref va), .val (.int (1 : Int32)), .val (.int (3 : Int32)), .val (.int (2 : Int32)), .val (.double s2), .second, .val (.double v1), .second, .val (.double (FP.dadd s1 v1)), .second, .val (.double (FP.dsub (FP.dadd s1 v1) s1)), .second]) rfl ?_
    refine own_aloadN K own_d3_16 rfl rfl ?_
    refine own_iload K own_d3_17 rfl ?_
    refine own_daload K own_d3_19 H4 (i := 2) rfl (q := 2) (by decide) (rfl) ?_
    refine own_dstore K own_d3_20 (Ls' := #[.val (.ref sa), .val (.ref ca), .val (.ref va), .val (.int (1 : Int32)), .val (.int (3 : Int32)), .val (.int (2 : Int32)), .val (.double s2), .second, .val (.double v2), .second, .val (.double (FP.dadd s1 v1)), .second, .val (.double (FP.dsub (FP.dadd s1 v1) s1)), .second]) rfl ?_
    refine own_dload K own_d3_22 rfl ?_
    refine own_dload K own_d3_24 rfl ?_
    refine own_dadd K own_d3_26 (((Fl.dadd_mag hs2 hv2 (by decide)).fin (by decide)).noNaN) ?_
    refine own_dstore K own_d3_27 (Ls' := #[.val (.ref sa), .val (.ref ca), .val (.ref va), .val (.int (1 : Int32)), .val (.int (3 : Int32)), .val (.int (2 : Int32)), .val (.double s2), .second, .val (.double v2), .second, .val (.double (FP.dadd s2 v2)), .second, .val (.double (FP.dsub (FP.dadd s1 v1) s1)), .second]) rfl ?_
    refine own_dload K own_d3_29 rfl ?_
    refine own_dload K own_d3_31 rfl ?_
    refine own_dsub K own_d3_33 (((own_fv hs2 hv2).fin (by decide)).noNaN) ?_
    refine own_dstore K own_d3_34 (Ls' := #[.val (.ref sa), .val (.ref ca), .val (.ref va), .val (.int (1 : Int32)), .val (.int (3 : Int32)), .val (.int (2 : Int32)), .val (.double s2), .second, .val (.double v2), .second, .val (.double (FP.dadd s2 v2)), .second, .val (.double (FP.dsub (FP.dadd s2 v2) s2)), .second]) rfl ?_
    refine own_aloadN K own_d3_36 rfl rfl ?_
    refine own_iload K own_d3_37 rfl ?_
    refine own_dup2 K own_d3_39 rfl rfl ?_
    refine own_daload K own_d3_40 H4 (i := 1) rfl (q := 2) (by decide) (rfl) ?_
    refine own_dload K own_d3_41 rfl ?_
    refine own_dload K own_d3_43 rfl ?_
    refine own_dload K own_d3_45 rfl ?_
    refine own_dsub K own_d3_47 (((own_e1 hs2 hv2).fin (by decide)).noNaN) ?_
    refine own_dsub K own_d3_48 (((own_e2 hs2 hv2).fin (by decide)).noNaN) ?_
    refine own_dload K own_d3_49 rfl ?_
    refine own_dload K own_d3_51 rfl ?_
    refine own_dsub K own_d3_53 (((own_e3 hs2 hv2).fin (by decide)).noNaN) ?_
    refine own_dadd K own_d3_54 (((own_e4 hs2 hv2).fin (by decide)).noNaN) ?_
    refine own_dadd K own_d3_55 (((own_e5 hs2 hv2 hc2).fin (by decide)).noNaN) ?_
    refine own_dastore K own_d3_56 H4 (i := 1) rfl (q := 2) (by decide) (own_le rfl) ?_
    intro h5 H6
    replace H6 : own_H Z h5 (os) ((sa, .double, "[D", [(.double s0), (.double (FP.dadd s1 v1)), (.double s2), (.double s3)]) :: (ca, .double, "[D", [(.double c0), (.double (FP.dadd c1 (FP.dadd (FP.dsub s1 (FP.dsub (FP.dadd s1 v1) (FP.dsub (FP.dadd s1 v1) s1))) (FP.dsub v1 (FP.dsub (FP.dadd s1 v1) s1))))), (.double (FP.dadd c2 (FP.dadd (FP.dsub s2 (FP.dsub (FP.dadd s2 v2) (FP.dsub (FP.dadd s2 v2) s2))) (FP.dsub v2 (FP.dsub (FP.dadd s2 v2) s2))))), (.double c3)]) :: (va, .double, "[D", [(.double v0), (.double v1), (.double v2), (.double v3)]) :: as) := H6
    refine own_aloadN K own_d3_57 rfl rfl ?_
    refine own_iload K own_d3_58 rfl ?_
    refine own_dload K own_d3_60 rfl ?_
    refine own_dastore K own_d3_62 H6 (i := 0) rfl (q := 2) (by decide) (own_le rfl) ?_
    intro h7 H8
    replace H8 : own_H Z h7 (os) ((sa, .double, "[D", [(.double s0), (.double (FP.dadd s1 v1)), (.double (FP.dadd s2 v2)), (.double s3)]) :: (ca, .double, "[D", [(.double c0), (.double (FP.dadd c1 (FP.dadd (FP.dsub s1 (FP.dsub (FP.dadd s1 v1) (FP.dsub (FP.dadd s1 v1) s1))) (FP.dsub v1 (FP.dsub (FP.dadd s1 v1) s1))))), (.double (FP.dadd c2 (FP.dadd (FP.dsub s2 (FP.dsub (FP.dadd s2 v2) (FP.dsub (FP.dadd s2 v2) s2))) (FP.dsub v2 (FP.dsub (FP.dadd s2 v2) s2))))), (.double c3)]) :: (va, .double, "[D", [(.double v0), (.double v1), (.double v2), (.double v3)]) :: as) := H8
    refine own_iinc K own_d3_63 rfl (y := (3 : Int32)) (by decide) (Ls' := #[.val (.ref sa), .val (.ref ca), .val (.ref va), .val (.int (1 : Int32)), .val (.int (3 : Int32)), .val (.int (3 : Int32)), .val (.double s2), .second, .val (.double v2), .second, .val (.double (FP.dadd s2 v2)), .second, .val (.double (FP.dsub (FP.dadd s2 v2) s2)), .second]) rfl ?_
    refine own_goto K own_d3_66 ?_
    refine own_iload K own_d3_3 rfl ?_
    refine own_iload K own_d3_5 rfl ?_
    refine own_icmpge K own_d3_7 (fun _ => ?_) (fun q => absurd (by decide) q)
    exact own_retV K own_d3_69 (by decide) (by decide) (⟨rfl, H8⟩)
  · obtain ⟨rfl, rfl⟩ := q
    refine own_iloadN K own_d3_0 rfl ?_
    refine own_istore K own_d3_1 (Ls' := #[.val (.ref sa), .val (.ref ca), .val (.ref va), .val (.int (1 : Int32)), .val (.int (4 : Int32)), .val (.int (1 : Int32)), .unset, .unset, .unset, .unset, .unset, .unset, .unset, .unset]) rfl ?_
    refine own_iload K own_d3_3 rfl ?_
    refine own_iload K own_d3_5 rfl ?_
    refine own_icmpge K own_d3_7 (fun q => absurd q (by decide)) (fun _ => ?_)
    refine own_aloadN K own_d3_10 rfl rfl ?_
    refine own_iload K own_d3_11 rfl ?_
    refine own_daload K own_d3_13 H (i := 0) rfl (q := 1) (by decide) (rfl) ?_
    refine own_dstore K own_d3_14 (Ls' := #[.val (.ref sa), .val (.ref ca), .val (.ref va), .val (.int (1 : Int32)), .val (.int (4 : Int32)), .val (.int (1 : Int32)), .val (.double s1), .second, .unset, .unset, .unset, .unset, .unset, .unset]) rfl ?_
    refine own_aloadN K own_d3_16 rfl rfl ?_
    refine own_iload K own_d3_17 rfl ?_
    refine own_daload K own_d3_19 H (i := 2) rfl (q := 1) (by decide) (rfl) ?_
    refine own_dstore K own_d3_20 (Ls' := #[.val (.ref sa), .val (.ref ca), .val (.ref va), .val (.int (1 : Int32)), .val (.int (4 : Int32)), .val (.int (1 : Int32)), .val (.double s1), .second, .val (.double v1), .second, .unset, .unset, .unset, .unset]) rfl ?_
    refine own_dload K own_d3_22 rfl ?_
    refine own_dload K own_d3_24 rfl ?_
    refine own_dadd K own_d3_26 (((Fl.dadd_mag hs1 hv1 (by decide)).fin (by decide)).noNaN) ?_
    refine own_dstore K own_d3_27 (Ls' := #[.val (.ref sa), .val (.ref ca), .val (.ref va), .val (.int (1 : Int32)), .val (.int (4 : Int32)), .val (.int (1 : Int32)), .val (.double s1), .second, .val (.double v1), .second, .val (.double (FP.dadd s1 v1)), .second, .unset, .unset]) rfl ?_
    refine own_dload K own_d3_29 rfl ?_
    refine own_dload K own_d3_31 rfl ?_
    refine own_dsub K own_d3_33 (((own_fv hs1 hv1).fin (by decide)).noNaN) ?_
    refine own_dstore K own_d3_34 (Ls' := #[.val (.ref sa), .val (.ref ca), .val (.ref va), .val (.int (1 : Int32)), .val (.int (4 : Int32)), .val (.int (1 : Int32)), .val (.double s1), .second, .val (.double v1), .second, .val (.double (FP.dadd s1 v1)), .second, .val (.double (FP.dsub (FP.dadd s1 v1) s1)), .second]) rfl ?_
    refine own_aloadN K own_d3_36 rfl rfl ?_
    refine own_iload K own_d3_37 rfl ?_
    refine own_dup2 K own_d3_39 rfl rfl ?_
    refine own_daload K own_d3_40 H (i := 1) rfl (q := 1) (by decide) (rfl) ?_
    refine own_dload K own_d3_41 rfl ?_
    refine own_dload K own_d3_43 rfl ?_
    refine own_dload K own_d3_45 rfl ?_
    refine own_dsub K own_d3_47 (((own_e1 hs1 hv1).fin (by decide)).noNaN) ?_
    refine own_dsub K own_d3_48 (((own_e2 hs1 hv1).fin (by decide)).noNaN) ?_
    refine own_dload K own_d3_49 rfl ?_
    refine own_dload K own_d3_51 rfl ?_
    refine own_dsub K own_d3_53 (((own_e3 hs1 hv1).fin (by decide)).noNaN) ?_
    refine own_dadd K own_d3_54 (((own_e4 hs1 hv1).fin (by decide)).noNaN) ?_
    refine own_dadd K own_d3_55 (((own_e5 hs1 hv1 hc1).fin (by decide)).noNaN) ?_
    refine own_dastore K own_d3_56 H (i := 1) rfl (q := 1) (by decide) (own_le rfl) ?_
    intro h1 H2
    replace H2 : own_H Z h1 (os) ((sa, .double, "[D", [(.double s0), (.double s1), (.double s2), (.double s3)]) :: (ca, .double, "[D", [(.double c0), (.double (FP.dadd c1 (FP.dadd (FP.dsub s1 (FP.dsub (FP.dadd s1 v1) (FP.dsub (FP.dadd s1 v1) s1))) (FP.dsub v1 (FP.dsub (FP.dadd s1 v1) s1))))), (.double c2), (.double c3)]) :: (va, .double, "[D", [(.double v0), (.double v1), (.double v2), (.double v3)]) :: as) := H2
    refine own_aloadN K own_d3_57 rfl rfl ?_
    refine own_iload K own_d3_58 rfl ?_
    refine own_dload K own_d3_60 rfl ?_
    refine own_dastore K own_d3_62 H2 (i := 0) rfl (q := 1) (by decide) (own_le rfl) ?_
    intro h3 H4
    replace H4 : own_H Z h3 (os) ((sa, .double, "[D", [(.double s0), (.double (FP.dadd s1 v1)), (.double s2), (.double s3)]) :: (ca, .double, "[D", [(.double c0), (.double (FP.dadd c1 (FP.dadd (FP.dsub s1 (FP.dsub (FP.dadd s1 v1) (FP.dsub (FP.dadd s1 v1) s1))) (FP.dsub v1 (FP.dsub (FP.dadd s1 v1) s1))))), (.double c2), (.double c3)]) :: (va, .double, "[D", [(.double v0), (.double v1), (.double v2), (.double v3)]) :: as) := H4
    refine own_iinc K own_d3_63 rfl (y := (2 : Int32)) (by decide) (Ls' := #[.val (.ref sa), .val (.ref ca), .val (.ref va), .val (.int (1 : Int32)), .val (.int (4 : Int32)), .val (.int (2 : Int32)), .val (.double s1), .second, .val (.double v1), .second, .val (.double (FP.dadd s1 v1)), .second, .val (.double (FP.dsub (FP.dadd s1 v1) s1)), .second]) rfl ?_
    refine own_goto K own_d3_66 ?_
    refine own_iload K own_d3_3 rfl ?_
    refine own_iload K own_d3_5 rfl ?_
    refine own_icmpge K own_d3_7 (fun q => absurd q (by decide)) (fun _ => ?_)
    refine own_aloadN K own_d3_10 rfl rfl ?_
    refine own_iload K own_d3_11 rfl ?_
    refine own_daload K own_d3_13 H4 (i := 0) rfl (q := 2) (by decide) (rfl) ?_
    refine own_dstore K own_d3_14 (Ls' := #[.val (.ref sa), .val (.ref ca), .val (.ref va), .val (.int (1 : Int32)), .val (.int (4 : Int32)), .val (.int (2 : Int32)), .val (.double s2), .second, .val (.double v1), .second, .val (.double (FP.dadd s1 v1)), .second, .val (.double (FP.dsub (FP.dadd s1 v1) s1)), .second]) rfl ?_
    refine own_aloadN K own_d3_16 rfl rfl ?_
    refine own_iload K own_d3_17 rfl ?_
    refine own_daload K own_d3_19 H4 (i := 2) rfl (q := 2) (by decide) (rfl) ?_
    refine own_dstore K own_d3_20 (Ls' := #[.val (.ref sa), .val (.ref ca), .val (.ref va), .val (.int (1 : Int32)), .val (.int (4 : Int32)), .val (.int (2 : Int32)), .val (.double s2), .second, .val (.double v2), .second, .val (.double (FP.dadd s1 v1)), .second, .val (.double (FP.dsub (FP.dadd s1 v1) s1)), .second]) rfl ?_
    refine own_dload K own_d3_22 rfl ?_
    refine own_dload K own_d3_24 rfl ?_
    refine own_dadd K own_d3_26 (((Fl.dadd_mag hs2 hv2 (by decide)).fin (by decide)).noNaN) ?_
    refine own_dstore K own_d3_27 (Ls' := #[.val (.ref sa), .val (.ref ca), .val (.ref va), .val (.int (1 : Int32)), .val (.int (4 : Int32)), .val (.int (2 : Int32)), .val (.double s2), .second, .val (.double v2), .second, .val (.double (FP.dadd s2 v2)), .second, .val (.double (FP.dsub (FP.dadd s1 v1) s1)), .second]) rfl ?_
    refine own_dload K own_d3_29 rfl ?_
    refine own_dload K own_d3_31 rfl ?_
    refine own_dsub K own_d3_33 (((own_fv hs2 hv2).fin (by decide)).noNaN) ?_
    refine own_dstore K own_d3_34 (Ls' := #[.val (.ref sa), .val (.ref ca), .val (.ref va), .val (.int (1 : Int32)), .val (.int (4 : Int32)), .val (.int (2 : Int32)), .val (.double s2), .second, .val (.double v2), .second, .val (.double (FP.dadd s2 v2)), .second, .val (.double (FP.dsub (FP.dadd s2 v2) s2)), .second]) rfl ?_
    refine own_aloadN K own_d3_36 rfl rfl ?_
    refine own_iload K own_d3_37 rfl ?_
    refine own_dup2 K own_d3_39 rfl rfl ?_
    refine own_daload K own_d3_40 H4 (i := 1) rfl (q := 2) (by decide) (rfl) ?_
    refine own_dload K own_d3_41 rfl ?_
    refine own_dload K own_d3_43 rfl ?_
    refine own_dload K own_d3_45 rfl ?_
    refine own_dsub K own_d3_47 (((own_e1 hs2 hv2).fin (by decide)).noNaN) ?_
    refine own_dsub K own_d3_48 (((own_e2 hs2 hv2).fin (by decide)).noNaN) ?_
    refine own_dload K own_d3_49 rfl ?_
    refine own_dload K own_d3_51 rfl ?_
    refine own_dsub K own_d3_53 (((own_e3 hs2 hv2).fin (by decide)).noNaN) ?_
    refine own_dadd K own_d3_54 (((own_e4 hs2 hv2).fin (by decide)).noNaN) ?_
    refine own_dadd K own_d3_55 (((own_e5 hs2 hv2 hc2).fin (by decide)).noNaN) ?_
    refine own_dastore K own_d3_56 H4 (i := 1) rfl (q := 2) (by decide) (own_le rfl) ?_
    intro h5 H6
    replace H6 : own_H Z h5 (os) ((sa, .double, "[D", [(.double s0), (.double (FP.dadd s1 v1)), (.double s2), (.double s3)]) :: (ca, .double, "[D", [(.double c0), (.double (FP.dadd c1 (FP.dadd (FP.dsub s1 (FP.dsub (FP.dadd s1 v1) (FP.dsub (FP.dadd s1 v1) s1))) (FP.dsub v1 (FP.dsub (FP.dadd s1 v1) s1))))), (.double (FP.dadd c2 (FP.dadd (FP.dsub s2 (FP.dsub (FP.dadd s2 v2) (FP.dsub (FP.dadd s2 v2) s2))) (FP.dsub v2 (FP.dsub (FP.dadd s2 v2) s2))))), (.double c3)]) :: (va, .double, "[D", [(.double v0), (.double v1), (.double v2), (.double v3)]) :: as) := H6
    refine own_aloadN K own_d3_57 rfl rfl ?_
    refine own_iload K own_d3_58 rfl ?_
    refine own_dload K own_d3_60 rfl ?_
    refine own_dastore K own_d3_62 H6 (i := 0) rfl (q := 2) (by decide) (own_le rfl) ?_
    intro h7 H8
    replace H8 : own_H Z h7 (os) ((sa, .double, "[D", [(.double s0), (.double (FP.dadd s1 v1)), (.double (FP.dadd s2 v2)), (.double s3)]) :: (ca, .double, "[D", [(.double c0), (.double (FP.dadd c1 (FP.dadd (FP.dsub s1 (FP.dsub (FP.dadd s1 v1) (FP.dsub (FP.dadd s1 v1) s1))) (FP.dsub v1 (FP.dsub (FP.dadd s1 v1) s1))))), (.double (FP.dadd c2 (FP.dadd (FP.dsub s2 (FP.dsub (FP.dadd s2 v2) (FP.dsub (FP.dadd s2 v2) s2))) (FP.dsub v2 (FP.dsub (FP.dadd s2 v2) s2))))), (.double c3)]) :: (va, .double, "[D", [(.double v0), (.double v1), (.double v2), (.double v3)]) :: as) := H8
    refine own_iinc K own_d3_63 rfl (y := (3 : Int32)) (by decide) (Ls' := #[.val (.ref sa), .val (.ref ca), .val (.ref va), .val (.int (1 : Int32)), .val (.int (4 : Int32)), .val (.int (3 : Int32)), .val (.double s2), .second, .val (.double v2), .second, .val (.double (FP.dadd s2 v2)), .second, .val (.double (FP.dsub (FP.dadd s2 v2) s2)), .second]) rfl ?_
    refine own_goto K own_d3_66 ?_
    refine own_iload K own_d3_3 rfl ?_
    refine own_iload K own_d3_5 rfl ?_
    refine own_icmpge K own_d3_7 (fun q => absurd q (by decide)) (fun _ => ?_)
    refine own_aloadN K own_d3_10 rfl rfl ?_
    refine own_iload K own_d3_11 rfl ?_
    refine own_daload K own_d3_13 H8 (i := 0) rfl (q := 3) (by decide) (rfl) ?_
    refine own_dstore K own_d3_14 (Ls' := #[.val (.ref sa), .val (.ref ca), .val (.ref va), .val (.int (1 : Int32)), .val (.int (4 : Int32)), .val (.int (3 : Int32)), .val (.double s3), .second, .val (.double v2), .second, .val (.double (FP.dadd s2 v2)), .second, .val (.double (FP.dsub (FP.dadd s2 v2) s2)), .second]) rfl ?_
    refine own_aloadN K own_d3_16 rfl rfl ?_
    refine own_iload K own_d3_17 rfl ?_
    refine own_daload K own_d3_19 H8 (i := 2) rfl (q := 3) (by decide) (rfl) ?_
    refine own_dstore K own_d3_20 (Ls' := #[.val (.ref sa), .val (.ref ca), .val (.ref va), .val (.int (1 : Int32)), .val (.int (4 : Int32)), .val (.int (3 : Int32)), .val (.double s3), .second, .val (.double v3), .second, .val (.double (FP.dadd s2 v2)), .second, .val (.double (FP.dsub (FP.dadd s2 v2) s2)), .second]) rfl ?_
    refine own_dload K own_d3_22 rfl ?_
    refine own_dload K own_d3_24 rfl ?_
    refine own_dadd K own_d3_26 (((Fl.dadd_mag hs3 hv3 (by decide)).fin (by decide)).noNaN) ?_
    refine own_dstore K own_d3_27 (Ls' := #[.val (.ref sa), .val (.ref ca), .val (.ref va), .val (.int (1 : Int32)), .val (.int (4 : Int32)), .val (.int (3 : Int32)), .val (.double s3), .second, .val (.double v3), .second, .val (.double (FP.dadd s3 v3)), .second, .val (.double (FP.dsub (FP.dadd s2 v2) s2)), .second]) rfl ?_
    refine own_dload K own_d3_29 rfl ?_
    refine own_dload K own_d3_31 rfl ?_
    refine own_dsub K own_d3_33 (((own_fv hs3 hv3).fin (by decide)).noNaN) ?_
    refine own_dstore K own_d3_34 (Ls' := #[.val (.ref sa), .val (.ref ca), .val (.ref va), .val (.int (1 : Int32)), .val (.int (4 : Int32)), .val (.int (3 : Int32)), .val (.double s3), .second, .val (.double v3), .second, .val (.double (FP.dadd s3 v3)), .second, .val (.double (FP.dsub (FP.dadd s3 v3) s3)), .second]) rfl ?_
    refine own_aloadN K own_d3_36 rfl rfl ?_
    refine own_iload K own_d3_37 rfl ?_
    refine own_dup2 K own_d3_39 rfl rfl ?_
    refine own_daload K own_d3_40 H8 (i := 1) rfl (q := 3) (by decide) (rfl) ?_
    refine own_dload K own_d3_41 rfl ?_
    refine own_dload K own_d3_43 rfl ?_
    refine own_dload K own_d3_45 rfl ?_
    refine own_dsub K own_d3_47 (((own_e1 hs3 hv3).fin (by decide)).noNaN) ?_
    refine own_dsub K own_d3_48 (((own_e2 hs3 hv3).fin (by decide)).noNaN) ?_
    refine own_dload K own_d3_49 rfl ?_
    refine own_dload K own_d3_51 rfl ?_
    refine own_dsub K own_d3_53 (((own_e3 hs3 hv3).fin (by decide)).noNaN) ?_
    refine own_dadd K own_d3_54 (((own_e4 hs3 hv3).fin (by decide)).noNaN) ?_
    refine own_dadd K own_d3_55 (((own_e5 hs3 hv3 hc3).fin (by decide)).noNaN) ?_
    refine own_dastore K own_d3_56 H8 (i := 1) rfl (q := 3) (by decide) (own_le rfl) ?_
    intro h9 H10
    replace H10 : own_H Z h9 (os) ((sa, .double, "[D", [(.double s0), (.double (FP.dadd s1 v1)), (.double (FP.dadd s2 v2)), (.double s3)]) :: (ca, .double, "[D", [(.double c0), (.double (FP.dadd c1 (FP.dadd (FP.dsub s1 (FP.dsub (FP.dadd s1 v1) (FP.dsub (FP.dadd s1 v1) s1))) (FP.dsub v1 (FP.dsub (FP.dadd s1 v1) s1))))), (.double (FP.dadd c2 (FP.dadd (FP.dsub s2 (FP.dsub (FP.dadd s2 v2) (FP.dsub (FP.dadd s2 v2) s2))) (FP.dsub v2 (FP.dsub (FP.dadd s2 v2) s2))))), (.double (FP.dadd c3 (FP.dadd (FP.dsub s3 (FP.dsub (FP.dadd s3 v3) (FP.dsub (FP.dadd s3 v3) s3))) (FP.dsub v3 (FP.dsub (FP.dadd s3 v3) s3)))))]) :: (va, .double, "[D", [(.double v0), (.double v1), (.double v2), (.double v3)]) :: as) := H10
    refine own_aloadN K own_d3_57 rfl rfl ?_
    refine own_iload K own_d3_58 rfl ?_
    refine own_dload K own_d3_60 rfl ?_
    refine own_dastore K own_d3_62 H10 (i := 0) rfl (q := 3) (by decide) (own_le rfl) ?_
    intro h11 H12
    replace H12 : own_H Z h11 (os) ((sa, .double, "[D", [(.double s0), (.double (FP.dadd s1 v1)), (.double (FP.dadd s2 v2)), (.double (FP.dadd s3 v3))]) :: (ca, .double, "[D", [(.double c0), (.double (FP.dadd c1 (FP.dadd (FP.dsub s1 (FP.dsub (FP.dadd s1 v1) (FP.dsub (FP.dadd s1 v1) s1))) (FP.dsub v1 (FP.dsub (FP.dadd s1 v1) s1))))), (.double (FP.dadd c2 (FP.dadd (FP.dsub s2 (FP.dsub (FP.dadd s2 v2) (FP.dsub (FP.dadd s2 v2) s2))) (FP.dsub v2 (FP.dsub (FP.dadd s2 v2) s2))))), (.double (FP.dadd c3 (FP.dadd (FP.dsub s3 (FP.dsub (FP.dadd s3 v3) (FP.dsub (FP.dadd s3 v3) s3))) (FP.dsub v3 (FP.dsub (FP.dadd s3 v3) s3)))))]) :: (va, .double, "[D", [(.double v0), (.double v1), (.double v2), (.double v3)]) :: as) := H12
    refine own_iinc K own_d3_63 rfl (y := (4 : Int32)) (by decide) (Ls' := #[.val (.ref sa), .val (.ref ca), .val (.ref va), .val (.int (1 : Int32)), .val (.int (4 : Int32)), .val (.int (4 : Int32)), .val (.double s3), .second, .val (.double v3), .second, .val (.double (FP.dadd s3 v3)), .second, .val (.double (FP.dsub (FP.dadd s3 v3) s3)), .second]) rfl ?_
    refine own_goto K own_d3_66 ?_
    refine own_iload K own_d3_3 rfl ?_
    refine own_iload K own_d3_5 rfl ?_
    refine own_icmpge K own_d3_7 (fun _ => ?_) (fun q => absurd (by decide) q)
    exact own_retV K own_d3_69 (by decide) (by decide) (⟨rfl, H12⟩)
  · obtain ⟨rfl, rfl⟩ := q
    refine own_iloadN K own_d3_0 rfl ?_
    refine own_istore K own_d3_1 (Ls' := #[.val (.ref sa), .val (.ref ca), .val (.ref va), .val (.int (2 : Int32)), .val (.int (3 : Int32)), .val (.int (2 : Int32)), .unset, .unset, .unset, .unset, .unset, .unset, .unset, .unset]) rfl ?_
    refine own_iload K own_d3_3 rfl ?_
    refine own_iload K own_d3_5 rfl ?_
    refine own_icmpge K own_d3_7 (fun q => absurd q (by decide)) (fun _ => ?_)
    refine own_aloadN K own_d3_10 rfl rfl ?_
    refine own_iload K own_d3_11 rfl ?_
    refine own_daload K own_d3_13 H (i := 0) rfl (q := 2) (by decide) (rfl) ?_
    refine own_dstore K own_d3_14 (Ls' := #[.val (.ref sa), .val (.ref ca), .val (.ref va), .val (.int (2 : Int32)), .val (.int (3 : Int32)), .val (.int (2 : Int32)), .val (.double s2), .second, .unset, .unset, .unset, .unset, .unset, .unset]) rfl ?_
    refine own_aloadN K own_d3_16 rfl rfl ?_
    refine own_iload K own_d3_17 rfl ?_
    refine own_daload K own_d3_19 H (i := 2) rfl (q := 2) (by decide) (rfl) ?_
    refine own_dstore K own_d3_20 (Ls' := #[.val (.ref sa), .val (.ref ca), .val (.ref va), .val (.int (2 : Int32)), .val (.int (3 : Int32)), .val (.int (2 : Int32)), .val (.double s2), .second, .val (.double v2), .second, .unset, .unset, .unset, .unset]) rfl ?_
    refine own_dload K own_d3_22 rfl ?_
    refine own_dload K own_d3_24 rfl ?_
    refine own_dadd K own_d3_26 (((Fl.dadd_mag hs2 hv2 (by decide)).fin (by decide)).noNaN) ?_
    refine own_dstore K own_d3_27 (Ls' := #[.val (.ref sa), .val (.ref ca), .val (.ref va), .val (.int (2 : Int32)), .val (.int (3 : Int32)), .val (.int (2 : Int32)), .val (.double s2), .second, .val (.double v2), .second, .val (.double (FP.dadd s2 v2)), .second, .unset, .unset]) rfl ?_
    refine own_dload K own_d3_29 rfl ?_
    refine own_dload K own_d3_31 rfl ?_
    refine own_dsub K own_d3_33 (((own_fv hs2 hv2).fin (by decide)).noNaN) ?_
    refine own_dstore K own_d3_34 (Ls' := #[.val (.ref sa), .val (.ref ca), .val (.ref va), .val (.int (2 : Int32)), .val (.int (3 : Int32)), .val (.int (2 : Int32)), .val (.double s2), .second, .val (.double v2), .second, .val (.double (FP.dadd s2 v2)), .second, .val (.double (FP.dsub (FP.dadd s2 v2) s2)), .second]) rfl ?_
    refine own_aloadN K own_d3_36 rfl rfl ?_
    refine own_iload K own_d3_37 rfl ?_
    refine own_dup2 K own_d3_39 rfl rfl ?_
    refine own_daload K own_d3_40 H (i := 1) rfl (q := 2) (by decide) (rfl) ?_
    refine own_dload K own_d3_41 rfl ?_
    refine own_dload K own_d3_43 rfl ?_
    refine own_dload K own_d3_45 rfl ?_
    refine own_dsub K own_d3_47 (((own_e1 hs2 hv2).fin (by decide)).noNaN) ?_
    refine own_dsub K own_d3_48 (((own_e2 hs2 hv2).fin (by decide)).noNaN) ?_
    refine own_dload K own_d3_49 rfl ?_
    refine own_dload K own_d3_51 rfl ?_
    refine own_dsub K own_d3_53 (((own_e3 hs2 hv2).fin (by decide)).noNaN) ?_
    refine own_dadd K own_d3_54 (((own_e4 hs2 hv2).fin (by decide)).noNaN) ?_
    refine own_dadd K own_d3_55 (((own_e5 hs2 hv2 hc2).fin (by decide)).noNaN) ?_
    refine own_dastore K own_d3_56 H (i := 1) rfl (q := 2) (by decide) (own_le rfl) ?_
    intro h1 H2
    replace H2 : own_H Z h1 (os) ((sa, .double, "[D", [(.double s0), (.double s1), (.double s2), (.double s3)]) :: (ca, .double, "[D", [(.double c0), (.double c1), (.double (FP.dadd c2 (FP.dadd (FP.dsub s2 (FP.dsub (FP.dadd s2 v2) (FP.dsub (FP.dadd s2 v2) s2))) (FP.dsub v2 (FP.dsub (FP.dadd s2 v2) s2))))), (.double c3)]) :: (va, .double, "[D", [(.double v0), (.double v1), (.double v2), (.double v3)]) :: as) := H2
    refine own_aloadN K own_d3_57 rfl rfl ?_
    refine own_iload K own_d3_58 rfl ?_
    refine own_dload K own_d3_60 rfl ?_
    refine own_dastore K own_d3_62 H2 (i := 0) rfl (q := 2) (by decide) (own_le rfl) ?_
    intro h3 H4
    replace H4 : own_H Z h3 (os) ((sa, .double, "[D", [(.double s0), (.double s1), (.double (FP.dadd s2 v2)), (.double s3)]) :: (ca, .double, "[D", [(.double c0), (.double c1), (.double (FP.dadd c2 (FP.dadd (FP.dsub s2 (FP.dsub (FP.dadd s2 v2) (FP.dsub (FP.dadd s2 v2) s2))) (FP.dsub v2 (FP.dsub (FP.dadd s2 v2) s2))))), (.double c3)]) :: (va, .double, "[D", [(.double v0), (.double v1), (.double v2), (.double v3)]) :: as) := H4
    refine own_iinc K own_d3_63 rfl (y := (3 : Int32)) (by decide) (Ls' := #[.val (.ref sa), .val (.ref ca), .val (.ref va), .val (.int (2 : Int32)), .val (.int (3 : Int32)), .val (.int (3 : Int32)), .val (.double s2), .second, .val (.double v2), .second, .val (.double (FP.dadd s2 v2)), .second, .val (.double (FP.dsub (FP.dadd s2 v2) s2)), .second]) rfl ?_
    refine own_goto K own_d3_66 ?_
    refine own_iload K own_d3_3 rfl ?_
    refine own_iload K own_d3_5 rfl ?_
    refine own_icmpge K own_d3_7 (fun _ => ?_) (fun q => absurd (by decide) q)
    exact own_retV K own_d3_69 (by decide) (by decide) (⟨rfl, H4⟩)
  · obtain ⟨rfl, rfl⟩ := q
    refine own_iloadN K own_d3_0 rfl ?_
    refine own_istore K own_d3_1 (Ls' := #[.val (.ref sa), .val (.ref ca), .val (.ref va), .val (.int (2 : Int32)), .val (.int (4 : Int32)), .val (.int (2 : Int32)), .unset, .unset, .unset, .unset, .unset, .unset, .unset, .unset]) rfl ?_
    refine own_iload K own_d3_3 rfl ?_
    refine own_iload K own_d3_5 rfl ?_
    refine own_icmpge K own_d3_7 (fun q => absurd q (by decide)) (fun _ => ?_)
    refine own_aloadN K own_d3_10 rfl rfl ?_
    refine own_iload K own_d3_11 rfl ?_
    refine own_daload K own_d3_13 H (i := 0) rfl (q := 2) (by decide) (rfl) ?_
    refine own_dstore K own_d3_14 (Ls' := #[.val (.ref sa), .val (.ref ca), .val (.ref va), .val (.int (2 : Int32)), .val (.int (4 : Int32)), .val (.int (2 : Int32)), .val (.double s2), .second, .unset, .unset, .unset, .unset, .unset, .unset]) rfl ?_
    refine own_aloadN K own_d3_16 rfl rfl ?_
    refine own_iload K own_d3_17 rfl ?_
    refine own_daload K own_d3_19 H (i := 2) rfl (q := 2) (by decide) (rfl) ?_
    refine own_dstore K own_d3_20 (Ls' := #[.val (.ref sa), .val (.ref ca), .val (.ref va), .val (.int (2 : Int32)), .val (.int (4 : Int32)), .val (.int (2 : Int32)), .val (.double s2), .second, .val (.double v2), .second, .unset, .unset, .unset, .unset]) rfl ?_
    refine own_dload K own_d3_22 rfl ?_
    refine own_dload K own_d3_24 rfl ?_
    refine own_dadd K own_d3_26 (((Fl.dadd_mag hs2 hv2 (by decide)).fin (by decide)).noNaN) ?_
    refine own_dstore K own_d3_27 (Ls' := #[.val (.ref sa), .val (.ref ca), .val (.ref va), .val (.int (2 : Int32)), .val (.int (4 : Int32)), .val (.int (2 : Int32)), .val (.double s2), .second, .val (.double v2), .second, .val (.double (FP.dadd s2 v2)), .second, .unset, .unset]) rfl ?_
    refine own_dload K own_d3_29 rfl ?_
    refine own_dload K own_d3_31 rfl ?_
    refine own_dsub K own_d3_33 (((own_fv hs2 hv2).fin (by decide)).noNaN) ?_
    refine own_dstore K own_d3_34 (Ls' := #[.val (.ref sa), .val (.ref ca), .val (.ref va), .val (.int (2 : Int32)), .val (.int (4 : Int32)), .val (.int (2 : Int32)), .val (.double s2), .second, .val (.double v2), .second, .val (.double (FP.dadd s2 v2)), .second, .val (.double (FP.dsub (FP.dadd s2 v2) s2)), .second]) rfl ?_
    refine own_aloadN K own_d3_36 rfl rfl ?_
    refine own_iload K own_d3_37 rfl ?_
    refine own_dup2 K own_d3_39 rfl rfl ?_
    refine own_daload K own_d3_40 H (i := 1) rfl (q := 2) (by decide) (rfl) ?_
    refine own_dload K own_d3_41 rfl ?_
    refine own_dload K own_d3_43 rfl ?_
    refine own_dload K own_d3_45 rfl ?_
    refine own_dsub K own_d3_47 (((own_e1 hs2 hv2).fin (by decide)).noNaN) ?_
    refine own_dsub K own_d3_48 (((own_e2 hs2 hv2).fin (by decide)).noNaN) ?_
    refine own_dload K own_d3_49 rfl ?_
    refine own_dload K own_d3_51 rfl ?_
    refine own_dsub K own_d3_53 (((own_e3 hs2 hv2).fin (by decide)).noNaN) ?_
    refine own_dadd K own_d3_54 (((own_e4 hs2 hv2).fin (by decide)).noNaN) ?_
    refine own_dadd K own_d3_55 (((own_e5 hs2 hv2 hc2).fin (by decide)).noNaN) ?_
    refine own_dastore K own_d3_56 H (i := 1) rfl (q := 2) (by decide) (own_le rfl) ?_
    intro h1 H2
    replace H2 : own_H Z h1 (os) ((sa, .double, "[D", [(.double s0), (.double s1), (.double s2), (.double s3)]) :: (ca, .double, "[D", [(.double c0), (.double c1), (.double (FP.dadd c2 (FP.dadd (FP.dsub s2 (FP.dsub (FP.dadd s2 v2) (FP.dsub (FP.dadd s2 v2) s2))) (FP.dsub v2 (FP.dsub (FP.dadd s2 v2) s2))))), (.double c3)]) :: (va, .double, "[D", [(.double v0), (.double v1), (.double v2), (.double v3)]) :: as) := H2
    refine own_aloadN K own_d3_57 rfl rfl ?_
    refine own_iload K own_d3_58 rfl ?_
    refine own_dload K own_d3_60 rfl ?_
    refine own_dastore K own_d3_62 H2 (i := 0) rfl (q := 2) (by decide) (own_le rfl) ?_
    intro h3 H4
    replace H4 : own_H Z h3 (os) ((sa, .double, "[D", [(.double s0), (.double s1), (.double (FP.dadd s2 v2)), (.double s3)]) :: (ca, .double, "[D", [(.double c0), (.double c1), (.double (FP.dadd c2 (FP.dadd (FP.dsub s2 (FP.dsub (FP.dadd s2 v2) (FP.dsub (FP.dadd s2 v2) s2))) (FP.dsub v2 (FP.dsub (FP.dadd s2 v2) s2))))), (.double c3)]) :: (va, .double, "[D", [(.double v0), (.double v1), (.double v2), (.double v3)]) :: as) := H4
    refine own_iinc K own_d3_63 rfl (y := (3 : Int32)) (by decide) (Ls' := #[.val (.ref sa), .val (.ref ca), .val (.ref va), .val (.int (2 : Int32)), .val (.int (4 : Int32)), .val (.int (3 : Int32)), .val (.double s2), .second, .val (.double v2), .second, .val (.double (FP.dadd s2 v2)), .second, .val (.double (FP.dsub (FP.dadd s2 v2) s2)), .second]) rfl ?_
    refine own_goto K own_d3_66 ?_
    refine own_iload K own_d3_3 rfl ?_
    refine own_iload K own_d3_5 rfl ?_
    refine own_icmpge K own_d3_7 (fun q => absurd q (by decide)) (fun _ => ?_)
    refine own_aloadN K own_d3_10 rfl rfl ?_
    refine own_iload K own_d3_11 rfl ?_
    refine own_daload K own_d3_13 H4 (i := 0) rfl (q := 3) (by decide) (rfl) ?_
    refine own_dstore K own_d3_14 (Ls' := #[.val (.ref sa), .val (.ref ca), .val (.ref va), .val (.int (2 : Int32)), .val (.int (4 : Int32)), .val (.int (3 : Int32)), .val (.double s3), .second, .val (.double v2), .second, .val (.double (FP.dadd s2 v2)), .second, .val (.double (FP.dsub (FP.dadd s2 v2) s2)), .second]) rfl ?_
    refine own_aloadN K own_d3_16 rfl rfl ?_
    refine own_iload K own_d3_17 rfl ?_
    refine own_daload K own_d3_19 H4 (i := 2) rfl (q := 3) (by decide) (rfl) ?_
    refine own_dstore K own_d3_20 (Ls' := #[.val (.ref sa), .val (.ref ca), .val (.ref va), .val (.int (2 : Int32)), .val (.int (4 : Int32)), .val (.int (3 : Int32)), .val (.double s3), .second, .val (.double v3), .second, .val (.double (FP.dadd s2 v2)), .second, .val (.double (FP.dsub (FP.dadd s2 v2) s2)), .second]) rfl ?_
    refine own_dload K own_d3_22 rfl ?_
    refine own_dload K own_d3_24 rfl ?_
    refine own_dadd K own_d3_26 (((Fl.dadd_mag hs3 hv3 (by decide)).fin (by decide)).noNaN) ?_
    refine own_dstore K own_d3_27 (Ls' := #[.val (.ref sa), .val (.ref ca), .val (.ref va), .val (.int (2 : Int32)), .val (.int (4 : Int32)), .val (.int (3 : Int32)), .val (.double s3), .second, .val (.double v3), .second, .val (.double (FP.dadd s3 v3)), .second, .val (.double (FP.dsub (FP.dadd s2 v2) s2)), .second]) rfl ?_
    refine own_dload K own_d3_29 rfl ?_
    refine own_dload K own_d3_31 rfl ?_
    refine own_dsub K own_d3_33 (((own_fv hs3 hv3).fin (by decide)).noNaN) ?_
    refine own_dstore K own_d3_34 (Ls' := #[.val (.ref sa), .val (.ref ca), .val (.ref va), .val (.int (2 : Int32)), .val (.int (4 : Int32)), .val (.int (3 : Int32)), .val (.double s3), .second, .val (.double v3), .second, .val (.double (FP.dadd s3 v3)), .second, .val (.double (FP.dsub (FP.dadd s3 v3) s3)), .second]) rfl ?_
    refine own_aloadN K own_d3_36 rfl rfl ?_
    refine own_iload K own_d3_37 rfl ?_
    refine own_dup2 K own_d3_39 rfl rfl ?_
    refine own_daload K own_d3_40 H4 (i := 1) rfl (q := 3) (by decide) (rfl) ?_
    refine own_dload K own_d3_41 rfl ?_
    refine own_dload K own_d3_43 rfl ?_
    refine own_dload K own_d3_45 rfl ?_
    refine own_dsub K own_d3_47 (((own_e1 hs3 hv3).fin (by decide)).noNaN) ?_
    refine own_dsub K own_d3_48 (((own_e2 hs3 hv3).fin (by decide)).noNaN) ?_
    refine own_dload K own_d3_49 rfl ?_
    refine own_dload K own_d3_51 rfl ?_
    refine own_dsub K own_d3_53 (((own_e3 hs3 hv3).fin (by decide)).noNaN) ?_
    refine own_dadd K own_d3_54 (((own_e4 hs3 hv3).fin (by decide)).noNaN) ?_
    refine own_dadd K own_d3_55 (((own_e5 hs3 hv3 hc3).fin (by decide)).noNaN) ?_
    refine own_dastore K own_d3_56 H4 (i := 1) rfl (q := 3) (by decide) (own_le rfl) ?_
    intro h5 H6
    replace H6 : own_H Z h5 (os) ((sa, .double, "[D", [(.double s0), (.double s1), (.double (FP.dadd s2 v2)), (.double s3)]) :: (ca, .double, "[D", [(.double c0), (.double c1), (.double (FP.dadd c2 (FP.dadd (FP.dsub s2 (FP.dsub (FP.dadd s2 v2) (FP.dsub (FP.dadd s2 v2) s2))) (FP.dsub v2 (FP.dsub (FP.dadd s2 v2) s2))))), (.double (FP.dadd c3 (FP.dadd (FP.dsub s3 (FP.dsub (FP.dadd s3 v3) (FP.dsub (FP.dadd s3 v3) s3))) (FP.dsub v3 (FP.dsub (FP.dadd s3 v3) s3)))))]) :: (va, .double, "[D", [(.double v0), (.double v1), (.double v2), (.double v3)]) :: as) := H6
    refine own_aloadN K own_d3_57 rfl rfl ?_
    refine own_iload K own_d3_58 rfl ?_
    refine own_dload K own_d3_60 rfl ?_
    refine own_dastore K own_d3_62 H6 (i := 0) rfl (q := 3) (by decide) (own_le rfl) ?_
    intro h7 H8
    replace H8 : own_H Z h7 (os) ((sa, .double, "[D", [(.double s0), (.double s1), (.double (FP.dadd s2 v2)), (.double (FP.dadd s3 v3))]) :: (ca, .double, "[D", [(.double c0), (.double c1), (.double (FP.dadd c2 (FP.dadd (FP.dsub s2 (FP.dsub (FP.dadd s2 v2) (FP.dsub (FP.dadd s2 v2) s2))) (FP.dsub v2 (FP.dsub (FP.dadd s2 v2) s2))))), (.double (FP.dadd c3 (FP.dadd (FP.dsub s3 (FP.dsub (FP.dadd s3 v3) (FP.dsub (FP.dadd s3 v3) s3))) (FP.dsub v3 (FP.dsub (FP.dadd s3 v3) s3)))))]) :: (va, .double, "[D", [(.double v0), (.double v1), (.double v2), (.double v3)]) :: as) := H8
    refine own_iinc K own_d3_63 rfl (y := (4 : Int32)) (by decide) (Ls' := #[.val (.ref sa), .val (.ref ca), .val (.ref va), .val (.int (2 : Int32)), .val (.int (4 : Int32)), .val (.int (4 : Int32)), .val (.double s3), .second, .val (.double v3), .second, .val (.double (FP.dadd s3 v3)), .second, .val (.double (FP.dsub (FP.dadd s3 v3) s3)), .second]) rfl ?_
    refine own_goto K own_d3_66 ?_
    refine own_iload K own_d3_3 rfl ?_
    refine own_iload K own_d3_5 rfl ?_
    refine own_icmpge K own_d3_7 (fun _ => ?_) (fun q => absurd (by decide) q)
    exact own_retV K own_d3_69 (by decide) (by decide) (⟨rfl, H8⟩)
  · obtain ⟨rfl, rfl⟩ := q
    refine own_iloadN K own_d3_0 rfl ?_
    refine own_istore K own_d3_1 (Ls' := #[.val (.ref sa), .val (.ref ca), .val (.ref va), .val (.int (3 : Int32)), .val (.int (4 : Int32)), .val (.int (3 : Int32)), .unset, .unset, .unset, .unset, .unset, .unset, .unset, .unset]) rfl ?_
    refine own_iload K own_d3_3 rfl ?_
    refine own_iload K own_d3_5 rfl ?_
    refine own_icmpge K own_d3_7 (fun q => absurd q (by decide)) (fun _ => ?_)
    refine own_aloadN K own_d3_10 rfl rfl ?_
    refine own_iload K own_d3_11 rfl ?_
    refine own_daload K own_d3_13 H (i := 0) rfl (q := 3) (by decide) (rfl) ?_
    refine own_dstore K own_d3_14 (Ls' := #[.val (.ref sa), .val (.ref ca), .val (.ref va), .val (.int (3 : Int32)), .val (.int (4 : Int32)), .val (.int (3 : Int32)), .val (.double s3), .second, .unset, .unset, .unset, .unset, .unset, .unset]) rfl ?_
    refine own_aloadN K own_d3_16 rfl rfl ?_
    refine own_iload K own_d3_17 rfl ?_
    refine own_daload K own_d3_19 H (i := 2) rfl (q := 3) (by decide) (rfl) ?_
    refine own_dstore K own_d3_20 (Ls' := #[.val (.ref sa), .val (.ref ca), .val (.ref va), .val (.int (3 : Int32)), .val (.int (4 : Int32)), .val (.int (3 : Int32)), .val (.double s3), .second, .val (.double v3), .second, .unset, .unset, .unset, .unset]) rfl ?_
    refine own_dload K own_d3_22 rfl ?_
    refine own_dload K own_d3_24 rfl ?_
    refine own_dadd K own_d3_26 (((Fl.dadd_mag hs3 hv3 (by decide)).fin (by decide)).noNaN) ?_
    refine own_dstore K own_d3_27 (Ls' := #[.val (.ref sa), .val (.ref ca), .val (.ref va), .val (.int (3 : Int32)), .val (.int (4 : Int32)), .val (.int (3 : Int32)), .val (.double s3), .second, .val (.double v3), .second, .val (.double (FP.dadd s3 v3)), .second, .unset, .unset]) rfl ?_
    refine own_dload K own_d3_29 rfl ?_
    refine own_dload K own_d3_31 rfl ?_
    refine own_dsub K own_d3_33 (((own_fv hs3 hv3).fin (by decide)).noNaN) ?_
    refine own_dstore K own_d3_34 (Ls' := #[.val (.ref sa), .val (.ref ca), .val (.ref va), .val (.int (3 : Int32)), .val (.int (4 : Int32)), .val (.int (3 : Int32)), .val (.double s3), .second, .val (.double v3), .second, .val (.double (FP.dadd s3 v3)), .second, .val (.double (FP.dsub (FP.dadd s3 v3) s3)), .second]) rfl ?_
    refine own_aloadN K own_d3_36 rfl rfl ?_
    refine own_iload K own_d3_37 rfl ?_
    refine own_dup2 K own_d3_39 rfl rfl ?_
    refine own_daload K own_d3_40 H (i := 1) rfl (q := 3) (by decide) (rfl) ?_
    refine own_dload K own_d3_41 rfl ?_
    refine own_dload K own_d3_43 rfl ?_
    refine own_dload K own_d3_45 rfl ?_
    refine own_dsub K own_d3_47 (((own_e1 hs3 hv3).fin (by decide)).noNaN) ?_
    refine own_dsub K own_d3_48 (((own_e2 hs3 hv3).fin (by decide)).noNaN) ?_
    refine own_dload K own_d3_49 rfl ?_
    refine own_dload K own_d3_51 rfl ?_
    refine own_dsub K own_d3_53 (((own_e3 hs3 hv3).fin (by decide)).noNaN) ?_
    refine own_dadd K own_d3_54 (((own_e4 hs3 hv3).fin (by decide)).noNaN) ?_
    refine own_dadd K own_d3_55 (((own_e5 hs3 hv3 hc3).fin (by decide)).noNaN) ?_
    refine own_dastore K own_d3_56 H (i := 1) rfl (q := 3) (by decide) (own_le rfl) ?_
    intro h1 H2
    replace H2 : own_H Z h1 (os) ((sa, .double, "[D", [(.double s0), (.double s1), (.double s2), (.double s3)]) :: (ca, .double, "[D", [(.double c0), (.double c1), (.double c2), (.double (FP.dadd c3 (FP.dadd (FP.dsub s3 (FP.dsub (FP.dadd s3 v3) (FP.dsub (FP.dadd s3 v3) s3))) (FP.dsub v3 (FP.dsub (FP.dadd s3 v3) s3)))))]) :: (va, .double, "[D", [(.double v0), (.double v1), (.double v2), (.double v3)]) :: as) := H2
    refine own_aloadN K own_d3_57 rfl rfl ?_
    refine own_iload K own_d3_58 rfl ?_
    refine own_dload K own_d3_60 rfl ?_
    refine own_dastore K own_d3_62 H2 (i := 0) rfl (q := 3) (by decide) (own_le rfl) ?_
    intro h3 H4
    replace H4 : own_H Z h3 (os) ((sa, .double, "[D", [(.double s0), (.double s1), (.double s2), (.double (FP.dadd s3 v3))]) :: (ca, .double, "[D", [(.double c0), (.double c1), (.double c2), (.double (FP.dadd c3 (FP.dadd (FP.dsub s3 (FP.dsub (FP.dadd s3 v3) (FP.dsub (FP.dadd s3 v3) s3))) (FP.dsub v3 (FP.dsub (FP.dadd s3 v3) s3)))))]) :: (va, .double, "[D", [(.double v0), (.double v1), (.double v2), (.double v3)]) :: as) := H4
    refine own_iinc K own_d3_63 rfl (y := (4 : Int32)) (by decide) (Ls' := #[.val (.ref sa), .val (.ref ca), .val (.ref va), .val (.int (3 : Int32)), .val (.int (4 : Int32)), .val (.int (4 : Int32)), .val (.double s3), .second, .val (.double v3), .second, .val (.double (FP.dadd s3 v3)), .second, .val (.double (FP.dsub (FP.dadd s3 v3) s3)), .second]) rfl ?_
    refine own_goto K own_d3_66 ?_
    refine own_iload K own_d3_3 rfl ?_
    refine own_iload K own_d3_5 rfl ?_
    refine own_icmpge K own_d3_7 (fun _ => ?_) (fun q => absurd (by decide) q)
    exact own_retV K own_d3_69 (by decide) (by decide) (⟨rfl, H4⟩)
set_option maxRecDepth 65536 in
set_option maxHeartbeats 40000000 in
theorem own_law_ef (m : MethodId) (x0 : Int64) (x1 : Int64) (x2 : Int32) (x3 : Int32) : entryFrame m #[(.long x0), (.long x1), (.int x2), (.int x3)] 23 = mkF m 0 #[.val (.long x0), .second, .val (.long x1), .second, .val (.int x2), .val (.int x3), .unset, .unset, .unset, .unset, .unset, .unset, .unset, .unset, .unset, .unset, .unset, .unset, .unset, .unset, .unset, .unset, .unset] [] := by first | (simp [entryFrame, mkF, argsToLocals, Value.category]; done) | rfl
set_option maxRecDepth 65536 in
set_option maxHeartbeats 40000000 in
theorem own_law {l : Launch} {Z : State} {a0 : Array Value} (hw : own_Z Z a0) {sl vl : Int64} {ic ct : Int32} : own_Met false l Z (⟨"com/example/fuseplan/fuseplan/runtime/CompensatedSumAddEachPinLaw", "law", "(JJII)Z"⟩ : MethodName) code 23 (some .boolean) tables_1 room_1 #[(.long sl), (.long vl), (.int ic), (.int ct)] Z.heap (fun v h' => v = some (.int 1)) := by
  refine own_met (by first | exact plainFor_of_name (by decide +kernel) | decide +kernel) ?_
  intro p e s m below meth c K
  refine own_cast (own_law_ef m _ _ _ _) ?_
  have H := own_H.start Z
  refine own_iload K own_d4_0 rfl ?_
  refine own_bipush K own_d4_2 (v := (7 : Int32)) rfl ?_
  refine own_iand K own_d4_4 ?_
  refine own_iconst K own_d4_5 (v := (5 : Int32)) rfl ?_
  refine own_irem K own_d4_6 (by decide) ?_
  obtain ⟨fr, e_fr⟩ : ∃ z : Int32, z = ((ct &&& (7 : Int32)) % (5 : Int32)) := ⟨_, rfl⟩
  have fr_0 : 0 ≤ fr.toInt ∧ fr.toInt ≤ 4 := by rw [e_fr]; exact own_cnt _
  refine own_topI (x' := fr) (e_fr.symm) ?_
  refine own_istore K own_d4_7 (Ls' := #[.val (.long sl), .second, .val (.long vl), .second, .val (.int ic), .val (.int ct), .val (.int fr), .unset, .unset, .unset, .unset, .unset, .unset, .unset, .unset, .unset, .unset, .unset, .unset, .unset, .unset, .unset, .unset]) rfl ?_
  refine own_iload K own_d4_9 rfl ?_
  refine own_iconst K own_d4_11 (v := (3 : Int32)) rfl ?_
  refine own_iushr K own_d4_12 ?_
  refine own_bipush K own_d4_13 (v := (7 : Int32)) rfl ?_
  refine own_iand K own_d4_15 ?_
  refine own_iconst K own_d4_16 (v := (5 : Int32)) rfl ?_
  refine own_irem K own_d4_17 (by decide) ?_
  obtain ⟨tt, e_tt⟩ : ∃ z : Int32, z = (((XT.ushr ct (3 : Int32)) &&& (7 : Int32)) % (5 : Int32)) := ⟨_, rfl⟩
  have tt_0 : 0 ≤ tt.toInt ∧ tt.toInt ≤ 4 := by rw [e_tt]; exact own_cnt _
  refine own_topI (x' := tt) (e_tt.symm) ?_
  refine own_istore K own_d4_18 (Ls' := #[.val (.long sl), .second, .val (.long vl), .second, .val (.int ic), .val (.int ct), .val (.int fr), .val (.int tt), .unset, .unset, .unset, .unset, .unset, .unset, .unset, .unset, .unset, .unset, .unset, .unset, .unset, .unset, .unset]) rfl ?_
  refine own_iload K own_d4_20 rfl ?_
  refine own_bipush K own_d4_22 (v := (6 : Int32)) rfl ?_
  refine own_iushr K own_d4_24 ?_
  refine own_iconst K own_d4_25 (v := (3 : Int32)) rfl ?_
  refine own_iand K own_d4_26 ?_
  refine own_static K own_d4_27 (own_w0 hw) (own_w1 hw) (own_w2 hw) (own_w3 hw) (argsL := [(.int ((XT.ushr ct (6 : Int32)) &&& (3 : Int32)))]) (rest := []) (own_scale hw) own_pd1 rfl rfl rfl (by decide) (W := 0) (Nat.le_of_eq rfl) (by decide) (by decide) (by decide) (by decide) ?_
  intro v3 h1 q2
  obtain ⟨⟨ss, rfl, m_ss⟩, rfl⟩ := q2
  refine own_dstore K own_d4_30 (Ls' := #[.val (.long sl), .second, .val (.long vl), .second, .val (.int ic), .val (.int ct), .val (.int fr), .val (.int tt), .val (.double ss), .second, .unset, .unset, .unset, .unset, .unset, .unset, .unset, .unset, .unset, .unset, .unset, .unset, .unset]) rfl ?_
  refine own_iload K own_d4_32 rfl ?_
  refine own_bipush K own_d4_34 (v := (8 : Int32)) rfl ?_
  refine own_iushr K own_d4_36 ?_
  refine own_iconst K own_d4_37 (v := (3 : Int32)) rfl ?_
  refine own_iand K own_d4_38 ?_
  refine own_static K own_d4_39 (own_w0 hw) (own_w1 hw) (own_w2 hw) (own_w3 hw) (argsL := [(.int ((XT.ushr ct (8 : Int32)) &&& (3 : Int32)))]) (rest := []) (own_scale hw) own_pd1 rfl rfl rfl (by decide) (W := 0) (Nat.le_of_eq rfl) (by decide) (by decide) (by decide) (by decide) ?_
  intro v6 h4 q5
  obtain ⟨⟨vz, rfl, m_vz⟩, rfl⟩ := q5
  refine own_dstore K own_d4_42 (Ls' := #[.val (.long sl), .second, .val (.long vl), .second, .val (.int ic), .val (.int ct), .val (.int fr), .val (.int tt), .val (.double ss), .second, .val (.double vz), .second, .unset, .unset, .unset, .unset, .unset, .unset, .unset, .unset, .unset, .unset, .unset]) rfl ?_
  refine own_ldc2D K own_d4_44 (own_w4 hw) ?_
  refine own_dstore K own_d4_47 (Ls' := #[.val (.long sl), .second, .val (.long vl), .second, .val (.int ic), .val (.int ct), .val (.int fr), .val (.int tt), .val (.double ss), .second, .val (.double vz), .second, .val (.double (4562146422526312448 : UInt64)), .second, .unset, .unset, .unset, .unset, .unset, .unset, .unset, .unset, .unset]) rfl ?_
  refine own_iconst K own_d4_49 (v := (4 : Int32)) rfl ?_
  refine own_newarray K own_d4_50 (ty := .double) rfl (own_w5 hw) H (q := 4) (by decide) (ad := "[D") (by decide +kernel) (vs := [(.double (0 : UInt64)), (.double (0 : UInt64)), (.double (0 : UInt64)), (.double (0 : UInt64))]) rfl (by decide) (by decide) (by decide) ?_
  intro h7 a9 H8
  replace H8 : own_H Z h7 ([]) ((a9, .double, "[D", [(.double (0 : UInt64)), (.double (0 : UInt64)), (.double (0 : UInt64)), (.double (0 : UInt64))]) :: []) := H8
  refine own_astore K own_d4_52 rfl (Ls' := #[.val (.long sl), .second, .val (.long vl), .second, .val (.int ic), .val (.int ct), .val (.int fr), .val (.int tt), .val (.double ss), .second, .val (.double vz), .second, .val (.double (4562146422526312448 : UInt64)), .second, .val (.ref a9), .unset, .unset, .unset, .unset, .unset, .unset, .unset, .unset]) rfl ?_
  refine own_iconst K own_d4_54 (v := (4 : Int32)) rfl ?_
  refine own_newarray K own_d4_55 (ty := .double) rfl (own_w5 hw) H8 (q := 4) (by decide) (ad := "[D") (by decide +kernel) (vs := [(.double (0 : UInt64)), (.double (0 : UInt64)), (.double (0 : UInt64)), (.double (0 : UInt64))]) rfl (by decide) (by decide) (by decide) ?_
  intro h10 a12 H11
  replace H11 : own_H Z h10 ([]) ((a12, .double, "[D", [(.double (0 : UInt64)), (.double (0 : UInt64)), (.double (0 : UInt64)), (.double (0 : UInt64))]) :: (a9, .double, "[D", [(.double (0 : UInt64)), (.double (0 : UInt64)), (.double (0 : UInt64)), (.double (0 : UInt64))]) :: []) := H11
  refine own_astore K own_d4_57 rfl (Ls' := #[.val (.long sl), .second, .val (.long vl), .second, .val (.int ic), .val (.int ct), .val (.int fr), .val (.int tt), .val (.double ss), .second, .val (.double vz), .second, .val (.double (4562146422526312448 : UInt64)), .second, .val (.ref a9), .val (.ref a12), .unset, .unset, .unset, .unset, .unset, .unset, .unset]) rfl ?_
  refine own_iconst K own_d4_59 (v := (4 : Int32)) rfl ?_
  refine own_newarray K own_d4_60 (ty := .double) rfl (own_w5 hw) H11 (q := 4) (by decide) (ad := "[D") (by decide +kernel) (vs := [(.double (0 : UInt64)), (.double (0 : UInt64)), (.double (0 : UInt64)), (.double (0 : UInt64))]) rfl (by decide) (by decide) (by decide) ?_
  intro h13 a15 H14
  replace H14 : own_H Z h13 ([]) ((a15, .double, "[D", [(.double (0 : UInt64)), (.double (0 : UInt64)), (.double (0 : UInt64)), (.double (0 : UInt64))]) :: (a12, .double, "[D", [(.double (0 : UInt64)), (.double (0 : UInt64)), (.double (0 : UInt64)), (.double (0 : UInt64))]) :: (a9, .double, "[D", [(.double (0 : UInt64)), (.double (0 : UInt64)), (.double (0 : UInt64)), (.double (0 : UInt64))]) :: []) := H14
  refine own_astore K own_d4_62 rfl (Ls' := #[.val (.long sl), .second, .val (.long vl), .second, .val (.int ic), .val (.int ct), .val (.int fr), .val (.int tt), .val (.double ss), .second, .val (.double vz), .second, .val (.double (4562146422526312448 : UInt64)), .second, .val (.ref a9), .val (.ref a12), .val (.ref a15), .unset, .unset, .unset, .unset, .unset, .unset]) rfl ?_
  refine own_iconst K own_d4_64 (v := (4 : Int32)) rfl ?_
  refine own_newarray K own_d4_65 (ty := .double) rfl (own_w5 hw) H14 (q := 4) (by decide) (ad := "[D") (by decide +kernel) (vs := [(.double (0 : UInt64)), (.double (0 : UInt64)), (.double (0 : UInt64)), (.double (0 : UInt64))]) rfl (by decide) (by decide) (by decide) ?_
  intro h16 a18 H17
  replace H17 : own_H Z h16 ([]) ((a18, .double, "[D", [(.double (0 : UInt64)), (.double (0 : UInt64)), (.double (0 : UInt64)), (.double (0 : UInt64))]) :: (a15, .double, "[D", [(.double (0 : UInt64)), (.double (0 : UInt64)), (.double (0 : UInt64)), (.double (0 : UInt64))]) :: (a12, .double, "[D", [(.double (0 : UInt64)), (.double (0 : UInt64)), (.double (0 : UInt64)), (.double (0 : UInt64))]) :: (a9, .double, "[D", [(.double (0 : UInt64)), (.double (0 : UInt64)), (.double (0 : UInt64)), (.double (0 : UInt64))]) :: []) := H17
  refine own_astore K own_d4_67 rfl (Ls' := #[.val (.long sl), .second, .val (.long vl), .second, .val (.int ic), .val (.int ct), .val (.int fr), .val (.int tt), .val (.double ss), .second, .val (.double vz), .second, .val (.double (4562146422526312448 : UInt64)), .second, .val (.ref a9), .val (.ref a12), .val (.ref a15), .val (.ref a18), .unset, .unset, .unset, .unset, .unset]) rfl ?_
  refine own_iconst K own_d4_69 (v := (4 : Int32)) rfl ?_
  refine own_newarray K own_d4_70 (ty := .double) rfl (own_w5 hw) H17 (q := 4) (by decide) (ad := "[D") (by decide +kernel) (vs := [(.double (0 : UInt64)), (.double (0 : UInt64)), (.double (0 : UInt64)), (.double (0 : UInt64))]) rfl (by decide) (by decide) (by decide) ?_
  intro h19 a21 H20
  replace H20 : own_H Z h19 ([]) ((a21, .double, "[D", [(.double (0 : UInt64)), (.double (0 : UInt64)), (.double (0 : UInt64)), (.double (0 : UInt64))]) :: (a18, .double, "[D", [(.double (0 : UInt64)), (.double (0 : UInt64)), (.double (0 : UInt64)), (.double (0 : UInt64))]) :: (a15, .double, "[D", [(.double (0 : UInt64)), (.double (0 : UInt64)), (.double (0 : UInt64)), (.double (0 : UInt64))]) :: (a12, .double, "[D", [(.double (0 : UInt64)), (.double (0 : UInt64)), (.double (0 : UInt64)), (.double (0 : UInt64))]) :: (a9, .double, "[D", [(.double (0 : UInt64)), (.double (0 : UInt64)), (.double (0 : UInt64)), (.double (0 : UInt64))]) :: []) := H20
  refine own_astore K own_d4_72 rfl (Ls' := #[.val (.long sl), .second, .val (.long vl), .second, .val (.int ic), .val (.int ct), .val (.int fr), .val (.int tt), .val (.double ss), .second, .val (.double vz), .second, .val (.double (4562146422526312448 : UInt64)), .second, .val (.ref a9), .val (.ref a12), .val (.ref a15), .val (.ref a18), .val (.ref a21), .unset, .unset, .unset, .unset]) rfl ?_
  refine own_iconst K own_d4_74 (v := (4 : Int32)) rfl ?_
  refine own_newarray K own_d4_75 (ty := .double) rfl (own_w5 hw) H20 (q := 4) (by decide) (ad := "[D") (by decide +kernel) (vs := [(.double (0 : UInt64)), (.double (0 : UInt64)), (.double (0 : UInt64)), (.double (0 : UInt64))]) rfl (by decide) (by decide) (by decide) ?_
  intro h22 a24 H23
  replace H23 : own_H Z h22 ([]) ((a24, .double, "[D", [(.double (0 : UInt64)), (.double (0 : UInt64)), (.double (0 : UInt64)), (.double (0 : UInt64))]) :: (a21, .double, "[D", [(.double (0 : UInt64)), (.double (0 : UInt64)), (.double (0 : UInt64)), (.double (0 : UInt64))]) :: (a18, .double, "[D", [(.double (0 : UInt64)), (.double (0 : UInt64)), (.double (0 : UInt64)), (.double (0 : UInt64))]) :: (a15, .double, "[D", [(.double (0 : UInt64)), (.double (0 : UInt64)), (.double (0 : UInt64)), (.double (0 : UInt64))]) :: (a12, .double, "[D", [(.double (0 : UInt64)), (.double (0 : UInt64)), (.double (0 : UInt64)), (.double (0 : UInt64))]) :: (a9, .double, "[D", [(.double (0 : UInt64)), (.double (0 : UInt64)), (.double (0 : UInt64)), (.double (0 : UInt64))]) :: []) := H23
  refine own_astore K own_d4_77 rfl (Ls' := #[.val (.long sl), .second, .val (.long vl), .second, .val (.int ic), .val (.int ct), .val (.int fr), .val (.int tt), .val (.double ss), .second, .val (.double vz), .second, .val (.double (4562146422526312448 : UInt64)), .second, .val (.ref a9), .val (.ref a12), .val (.ref a15), .val (.ref a18), .val (.ref a21), .val (.ref a24), .unset, .unset, .unset]) rfl ?_
  refine own_aload K own_d4_79 rfl rfl ?_
  refine own_iconst K own_d4_81 (v := (0 : Int32)) rfl ?_
  refine own_lloadN K own_d4_82 rfl ?_
  refine own_l2i K own_d4_83 ?_
  refine own_i2s K own_d4_84 ?_
  refine own_i2d K own_d4_85 ?_
  refine own_dload K own_d4_86 rfl ?_
  refine own_dmul K own_d4_88 (((own_mm m_ss).fin (by decide)).noNaN) ?_
  obtain ⟨s0, e_s0, hs0⟩ : ∃ z : UInt64, z = (FP.dmul (FP.i2d (sl.toInt32).toInt16.toInt32) ss) ∧ Fl.Mag64 1200 z := ⟨_, rfl, own_mm m_ss⟩
  refine own_topD (x' := s0) (e_s0.symm) ?_
  refine own_dastore K own_d4_89 H23 (i := 5) rfl (q := 0) (by decide) (own_le rfl) ?_
  intro h25 H26
  replace H26 : own_H Z h25 ([]) ((a24, .double, "[D", [(.double (0 : UInt64)), (.double (0 : UInt64)), (.double (0 : UInt64)), (.double (0 : UInt64))]) :: (a21, .double, "[D", [(.double (0 : UInt64)), (.double (0 : UInt64)), (.double (0 : UInt64)), (.double (0 : UInt64))]) :: (a18, .double, "[D", [(.double (0 : UInt64)), (.double (0 : UInt64)), (.double (0 : UInt64)), (.double (0 : UInt64))]) :: (a15, .double, "[D", [(.double (0 : UInt64)), (.double (0 : UInt64)), (.double (0 : UInt64)), (.double (0 : UInt64))]) :: (a12, .double, "[D", [(.double (0 : UInt64)), (.double (0 : UInt64)), (.double (0 : UInt64)), (.double (0 : UInt64))]) :: (a9, .double, "[D", [(.double s0), (.double (0 : UInt64)), (.double (0 : UInt64)), (.double (0 : UInt64))]) :: []) := H26
  refine own_aload K own_d4_90 rfl rfl ?_
  refine own_iconst K own_d4_92 (v := (1 : Int32)) rfl ?_
  refine own_lloadN K own_d4_93 rfl ?_
  refine own_bipush K own_d4_94 (v := (16 : Int32)) rfl ?_
  refine own_lushr K own_d4_96 ?_
  refine own_l2i K own_d4_97 ?_
  refine own_i2s K own_d4_98 ?_
  refine own_i2d K own_d4_99 ?_
  refine own_dload K own_d4_100 rfl ?_
  refine own_dmul K own_d4_102 (((own_mm m_ss).fin (by decide)).noNaN) ?_
  obtain ⟨s1, e_s1, hs1⟩ : ∃ z : UInt64, z = (FP.dmul (FP.i2d (XT.ushrL sl (16 : Int32)).toInt32.toInt16.toInt32) ss) ∧ Fl.Mag64 1200 z := ⟨_, rfl, own_mm m_ss⟩
  refine own_topD (x' := s1) (e_s1.symm) ?_
  refine own_dastore K own_d4_103 H26 (i := 5) rfl (q := 1) (by decide) (own_le rfl) ?_
  intro h27 H28
  replace H28 : own_H Z h27 ([]) ((a24, .double, "[D", [(.double (0 : UInt64)), (.double (0 : UInt64)), (.double (0 : UInt64)), (.double (0 : UInt64))]) :: (a21, .double, "[D", [(.double (0 : UInt64)), (.double (0 : UInt64)), (.double (0 : UInt64)), (.double (0 : UInt64))]) :: (a18, .double, "[D", [(.double (0 : UInt64)), (.double (0 : UInt64)), (.double (0 : UInt64)), (.double (0 : UInt64))]) :: (a15, .double, "[D", [(.double (0 : UInt64)), (.double (0 : UInt64)), (.double (0 : UInt64)), (.double (0 : UInt64))]) :: (a12, .double, "[D", [(.double (0 : UInt64)), (.double (0 : UInt64)), (.double (0 : UInt64)), (.double (0 : UInt64))]) :: (a9, .double, "[D", [(.double s0), (.double s1), (.double (0 : UInt64)), (.double (0 : UInt64))]) :: []) := H28
  refine own_aload K own_d4_104 rfl rfl ?_
  refine own_iconst K own_d4_106 (v := (2 : Int32)) rfl ?_
  refine own_lloadN K own_d4_107 rfl ?_
  refine own_bipush K own_d4_108 (v := (32 : Int32)) rfl ?_
  refine own_lushr K own_d4_110 ?_
  refine own_l2i K own_d4_111 ?_
  refine own_i2s K own_d4_112 ?_
  refine own_i2d K own_d4_113 ?_
  refine own_dload K own_d4_114 rfl ?_
  refine own_dmul K own_d4_116 (((own_mm m_ss).fin (by decide)).noNaN) ?_
  obtain ⟨s2, e_s2, hs2⟩ : ∃ z : UInt64, z = (FP.dmul (FP.i2d (XT.ushrL sl (32 : Int32)).toInt32.toInt16.toInt32) ss) ∧ Fl.Mag64 1200 z := ⟨_, rfl, own_mm m_ss⟩
  refine own_topD (x' := s2) (e_s2.symm) ?_
  refine own_dastore K own_d4_117 H28 (i := 5) rfl (q := 2) (by decide) (own_le rfl) ?_
  intro h29 H30
  replace H30 : own_H Z h29 ([]) ((a24, .double, "[D", [(.double (0 : UInt64)), (.double (0 : UInt64)), (.double (0 : UInt64)), (.double (0 : UInt64))]) :: (a21, .double, "[D", [(.double (0 : UInt64)), (.double (0 : UInt64)), (.double (0 : UInt64)), (.double (0 : UInt64))]) :: (a18, .double, "[D", [(.double (0 : UInt64)), (.double (0 : UInt64)), (.double (0 : UInt64)), (.double (0 : UInt64))]) :: (a15, .double, "[D", [(.double (0 : UInt64)), (.double (0 : UInt64)), (.double (0 : UInt64)), (.double (0 : UInt64))]) :: (a12, .double, "[D", [(.double (0 : UInt64)), (.double (0 : UInt64)), (.double (0 : UInt64)), (.double (0 : UInt64))]) :: (a9, .double, "[D", [(.double s0), (.double s1), (.double s2), (.double (0 : UInt64))]) :: []) := H30
  refine own_aload K own_d4_118 rfl rfl ?_
  refine own_iconst K own_d4_120 (v := (3 : Int32)) rfl ?_
  refine own_lloadN K own_d4_121 rfl ?_
  refine own_bipush K own_d4_122 (v := (48 : Int32)) rfl ?_
  refine own_lushr K own_d4_124 ?_
  refine own_l2i K own_d4_125 ?_
  refine own_i2s K own_d4_126 ?_
  refine own_i2d K own_d4_127 ?_
  refine own_dload K own_d4_128 rfl ?_
  refine own_dmul K own_d4_130 (((own_mm m_ss).fin (by decide)).noNaN) ?_
  obtain ⟨s3, e_s3, hs3⟩ : ∃ z : UInt64, z = (FP.dmul (FP.i2d (XT.ushrL sl (48 : Int32)).toInt32.toInt16.toInt32) ss) ∧ Fl.Mag64 1200 z := ⟨_, rfl, own_mm m_ss⟩
  refine own_topD (x' := s3) (e_s3.symm) ?_
  refine own_dastore K own_d4_131 H30 (i := 5) rfl (q := 3) (by decide) (own_le rfl) ?_
  intro h31 H32
  replace H32 : own_H Z h31 ([]) ((a24, .double, "[D", [(.double (0 : UInt64)), (.double (0 : UInt64)), (.double (0 : UInt64)), (.double (0 : UInt64))]) :: (a21, .double, "[D", [(.double (0 : UInt64)), (.double (0 : UInt64)), (.double (0 : UInt64)), (.double (0 : UInt64))]) :: (a18, .double, "[D", [(.double (0 : UInt64)), (.double (0 : UInt64)), (.double (0 : UInt64)), (.double (0 : UInt64))]) :: (a15, .double, "[D", [(.double (0 : UInt64)), (.double (0 : UInt64)), (.double (0 : UInt64)), (.double (0 : UInt64))]) :: (a12, .double, "[D", [(.double (0 : UInt64)), (.double (0 : UInt64)), (.double (0 : UInt64)), (.double (0 : UInt64))]) :: (a9, .double, "[D", [(.double s0), (.double s1), (.double s2), (.double s3)]) :: []) := H32
  refine own_aload K own_d4_132 rfl rfl ?_
  refine own_iconst K own_d4_134 (v := (0 : Int32)) rfl ?_
  refine own_lloadN K own_d4_135 rfl ?_
  refine own_l2i K own_d4_136 ?_
  refine own_i2s K own_d4_137 ?_
  refine own_i2d K own_d4_138 ?_
  refine own_dload K own_d4_139 rfl ?_
  refine own_dmul K own_d4_141 (((own_mm m_vz).fin (by decide)).noNaN) ?_
  obtain ⟨v0, e_v0, hv0⟩ : ∃ z : UInt64, z = (FP.dmul (FP.i2d (vl.toInt32).toInt16.toInt32) vz) ∧ Fl.Mag64 1200 z := ⟨_, rfl, own_mm m_vz⟩
  refine own_topD (x' := v0) (e_v0.symm) ?_
  refine own_dastore K own_d4_142 H32 (i := 3) rfl (q := 0) (by decide) (own_le rfl) ?_
  intro h33 H34
  replace H34 : own_H Z h33 ([]) ((a24, .double, "[D", [(.double (0 : UInt64)), (.double (0 : UInt64)), (.double (0 : UInt64)), (.double (0 : UInt64))]) :: (a21, .double, "[D", [(.double (0 : UInt64)), (.double (0 : UInt64)), (.double (0 : UInt64)), (.double (0 : UInt64))]) :: (a18, .double, "[D", [(.double (0 : UInt64)), (.double (0 : UInt64)), (.double (0 : UInt64)), (.double (0 : UInt64))]) :: (a15, .double, "[D", [(.double v0), (.double (0 : UInt64)), (.double (0 : UInt64)), (.double (0 : UInt64))]) :: (a12, .double, "[D", [(.double (0 : UInt64)), (.double (0 : UInt64)), (.double (0 : UInt64)), (.double (0 : UInt64))]) :: (a9, .double, "[D", [(.double s0), (.double s1), (.double s2), (.double s3)]) :: []) := H34
  refine own_aload K own_d4_143 rfl rfl ?_
  refine own_iconst K own_d4_145 (v := (1 : Int32)) rfl ?_
  refine own_lloadN K own_d4_146 rfl ?_
  refine own_bipush K own_d4_147 (v := (16 : Int32)) rfl ?_
  refine own_lushr K own_d4_149 ?_
  refine own_l2i K own_d4_150 ?_
  refine own_i2s K own_d4_151 ?_
  refine own_i2d K own_d4_152 ?_
  refine own_dload K own_d4_153 rfl ?_
  refine own_dmul K own_d4_155 (((own_mm m_vz).fin (by decide)).noNaN) ?_
  obtain ⟨v1, e_v1, hv1⟩ : ∃ z : UInt64, z = (FP.dmul (FP.i2d (XT.ushrL vl (16 : Int32)).toInt32.toInt16.toInt32) vz) ∧ Fl.Mag64 1200 z := ⟨_, rfl, own_mm m_vz⟩
  refine own_topD (x' := v1) (e_v1.symm) ?_
  refine own_dastore K own_d4_156 H34 (i := 3) rfl (q := 1) (by decide) (own_le rfl) ?_
  intro h35 H36
  replace H36 : own_H Z h35 ([]) ((a24, .double, "[D", [(.double (0 : UInt64)), (.double (0 : UInt64)), (.double (0 : UInt64)), (.double (0 : UInt64))]) :: (a21, .double, "[D", [(.double (0 : UInt64)), (.double (0 : UInt64)), (.double (0 : UInt64)), (.double (0 : UInt64))]) :: (a18, .double, "[D", [(.double (0 : UInt64)), (.double (0 : UInt64)), (.double (0 : UInt64)), (.double (0 : UInt64))]) :: (a15, .double, "[D", [(.double v0), (.double v1), (.double (0 : UInt64)), (.double (0 : UInt64))]) :: (a12, .double, "[D", [(.double (0 : UInt64)), (.double (0 : UInt64)), (.double (0 : UInt64)), (.double (0 : UInt64))]) :: (a9, .double, "[D", [(.double s0), (.double s1), (.double s2), (.double s3)]) :: []) := H36
  refine own_aload K own_d4_157 rfl rfl ?_
  refine own_iconst K own_d4_159 (v := (2 : Int32)) rfl ?_
  refine own_lloadN K own_d4_160 rfl ?_
  refine own_bipush K own_d4_161 (v := (32 : Int32)) rfl ?_
  refine own_lushr K own_d4_163 ?_
  refine own_l2i K own_d4_164 ?_
  refine own_i2s K own_d4_165 ?_
  refine own_i2d K own_d4_166 ?_
  refine own_dload K own_d4_167 rfl ?_
  refine own_dmul K own_d4_169 (((own_mm m_vz).fin (by decide)).noNaN) ?_
  obtain ⟨v2, e_v2, hv2⟩ : ∃ z : UInt64, z = (FP.dmul (FP.i2d (XT.ushrL vl (32 : Int32)).toInt32.toInt16.toInt32) vz) ∧ Fl.Mag64 1200 z := ⟨_, rfl, own_mm m_vz⟩
  refine own_topD (x' := v2) (e_v2.symm) ?_
  refine own_dastore K own_d4_170 H36 (i := 3) rfl (q := 2) (by decide) (own_le rfl) ?_
  intro h37 H38
  replace H38 : own_H Z h37 ([]) ((a24, .double, "[D", [(.double (0 : UInt64)), (.double (0 : UInt64)), (.double (0 : UInt64)), (.double (0 : UInt64))]) :: (a21, .double, "[D", [(.double (0 : UInt64)), (.double (0 : UInt64)), (.double (0 : UInt64)), (.double (0 : UInt64))]) :: (a18, .double, "[D", [(.double (0 : UInt64)), (.double (0 : UInt64)), (.double (0 : UInt64)), (.double (0 : UInt64))]) :: (a15, .double, "[D", [(.double v0), (.double v1), (.double v2), (.double (0 : UInt64))]) :: (a12, .double, "[D", [(.double (0 : UInt64)), (.double (0 : UInt64)), (.double (0 : UInt64)), (.double (0 : UInt64))]) :: (a9, .double, "[D", [(.double s0), (.double s1), (.double s2), (.double s3)]) :: []) := H38
  refine own_aload K own_d4_171 rfl rfl ?_
  refine own_iconst K own_d4_173 (v := (3 : Int32)) rfl ?_
  refine own_lloadN K own_d4_174 rfl ?_
  refine own_bipush K own_d4_175 (v := (48 : Int32)) rfl ?_
  refine own_lushr K own_d4_177 ?_
  refine own_l2i K own_d4_178 ?_
  refine own_i2s K own_d4_179 ?_
  refine own_i2d K own_d4_180 ?_
  refine own_dload K own_d4_181 rfl ?_
  refine own_dmul K own_d4_183 (((own_mm m_vz).fin (by decide)).noNaN) ?_
  obtain ⟨v3, e_v3, hv3⟩ : ∃ z : UInt64, z = (FP.dmul (FP.i2d (XT.ushrL vl (48 : Int32)).toInt32.toInt16.toInt32) vz) ∧ Fl.Mag64 1200 z := ⟨_, rfl, own_mm m_vz⟩
  refine own_topD (x' := v3) (e_v3.symm) ?_
  refine own_dastore K own_d4_184 H38 (i := 3) rfl (q := 3) (by decide) (own_le rfl) ?_
  intro h39 H40
  replace H40 : own_H Z h39 ([]) ((a24, .double, "[D", [(.double (0 : UInt64)), (.double (0 : UInt64)), (.double (0 : UInt64)), (.double (0 : UInt64))]) :: (a21, .double, "[D", [(.double (0 : UInt64)), (.double (0 : UInt64)), (.double (0 : UInt64)), (.double (0 : UInt64))]) :: (a18, .double, "[D", [(.double (0 : UInt64)), (.double (0 : UInt64)), (.double (0 : UInt64)), (.double (0 : UInt64))]) :: (a15, .double, "[D", [(.double v0), (.double v1), (.double v2), (.double v3)]) :: (a12, .double, "[D", [(.double (0 : UInt64)), (.double (0 : UInt64)), (.double (0 : UInt64)), (.double (0 : UInt64))]) :: (a9, .double, "[D", [(.double s0), (.double s1), (.double s2), (.double s3)]) :: []) := H40
  refine own_aload K own_d4_185 rfl rfl ?_
  refine own_iconst K own_d4_187 (v := (0 : Int32)) rfl ?_
  refine own_iload K own_d4_188 rfl ?_
  refine own_i2b K own_d4_190 ?_
  refine own_i2d K own_d4_191 ?_
  refine own_dload K own_d4_192 rfl ?_
  refine own_dmul K own_d4_194 (((own_mm (by unfold Fl.Mag64; decide)).fin (by decide)).noNaN) ?_
  obtain ⟨c0, e_c0, hc0⟩ : ∃ z : UInt64, z = (FP.dmul (FP.i2d (ic.toInt8.toInt32)) (4562146422526312448 : UInt64)) ∧ Fl.Mag64 1200 z := ⟨_, rfl, own_mm (by unfold Fl.Mag64; decide)⟩
  refine own_topD (x' := c0) (e_c0.symm) ?_
  refine own_dastore K own_d4_195 H40 (i := 4) rfl (q := 0) (by decide) (own_le rfl) ?_
  intro h41 H42
  replace H42 : own_H Z h41 ([]) ((a24, .double, "[D", [(.double (0 : UInt64)), (.double (0 : UInt64)), (.double (0 : UInt64)), (.double (0 : UInt64))]) :: (a21, .double, "[D", [(.double (0 : UInt64)), (.double (0 : UInt64)), (.double (0 : UInt64)), (.double (0 : UInt64))]) :: (a18, .double, "[D", [(.double (0 : UInt64)), (.double (0 : UInt64)), (.double (0 : UInt64)), (.double (0 : UInt64))]) :: (a15, .double, "[D", [(.double v0), (.double v1), (.double v2), (.double v3)]) :: (a12, .double, "[D", [(.double c0), (.double (0 : UInt64)), (.double (0 : UInt64)), (.double (0 : UInt64))]) :: (a9, .double, "[D", [(.double s0), (.double s1), (.double s2), (.double s3)]) :: []) := H42
  refine own_aload K own_d4_196 rfl rfl ?_
  refine own_iconst K own_d4_198 (v := (1 : Int32)) rfl ?_
  refine own_iload K own_d4_199 rfl ?_
  refine own_bipush K own_d4_201 (v := (8 : Int32)) rfl ?_
  refine own_iushr K own_d4_203 ?_
  refine own_i2b K own_d4_204 ?_
  refine own_i2d K own_d4_205 ?_
  refine own_dload K own_d4_206 rfl ?_
  refine own_dmul K own_d4_208 (((own_mm (by unfold Fl.Mag64; decide)).fin (by decide)).noNaN) ?_
  obtain ⟨c1, e_c1, hc1⟩ : ∃ z : UInt64, z = (FP.dmul (FP.i2d (XT.ushr ic (8 : Int32)).toInt8.toInt32) (4562146422526312448 : UInt64)) ∧ Fl.Mag64 1200 z := ⟨_, rfl, own_mm (by unfold Fl.Mag64; decide)⟩
  refine own_topD (x' := c1) (e_c1.symm) ?_
  refine own_dastore K own_d4_209 H42 (i := 4) rfl (q := 1) (by decide) (own_le rfl) ?_
  intro h43 H44
  replace H44 : own_H Z h43 ([]) ((a24, .double, "[D", [(.double (0 : UInt64)), (.double (0 : UInt64)), (.double (0 : UInt64)), (.double (0 : UInt64))]) :: (a21, .double, "[D", [(.double (0 : UInt64)), (.double (0 : UInt64)), (.double (0 : UInt64)), (.double (0 : UInt64))]) :: (a18, .double, "[D", [(.double (0 : UInt64)), (.double (0 : UInt64)), (.double (0 : UInt64)), (.double (0 : UInt64))]) :: (a15, .double, "[D", [(.double v0), (.double v1), (.double v2), (.double v3)]) :: (a12, .double, "[D", [(.double c0), (.double c1), (.double (0 : UInt64)), (.double (0 : UInt64))]) :: (a9, .double, "[D", [(.double s0), (.double s1), (.double s2), (.double s3)]) :: []) := H44
  refine own_aload K own_d4_210 rfl rfl ?_
  refine own_iconst K own_d4_212 (v := (2 : Int32)) rfl ?_
  refine own_iload K own_d4_213 rfl ?_
  refine own_bipush K own_d4_215 (v := (16 : Int32)) rfl ?_
  refine own_iushr K own_d4_217 ?_
  refine own_i2b K own_d4_218 ?_
  refine own_i2d K own_d4_219 ?_
  refine own_dload K own_d4_220 rfl ?_
  refine own_dmul K own_d4_222 (((own_mm (by unfold Fl.Mag64; decide)).fin (by decide)).noNaN) ?_
  obtain ⟨c2, e_c2, hc2⟩ : ∃ z : UInt64, z = (FP.dmul (FP.i2d (XT.ushr ic (16 : Int32)).toInt8.toInt32) (4562146422526312448 : UInt64)) ∧ Fl.Mag64 1200 z := ⟨_, rfl, own_mm (by unfold Fl.Mag64; decide)⟩
  refine own_topD (x' := c2) (e_c2.symm) ?_
  refine own_dastore K own_d4_223 H44 (i := 4) rfl (q := 2) (by decide) (own_le rfl) ?_
  intro h45 H46
  replace H46 : own_H Z h45 ([]) ((a24, .double, "[D", [(.double (0 : UInt64)), (.double (0 : UInt64)), (.double (0 : UInt64)), (.double (0 : UInt64))]) :: (a21, .double, "[D", [(.double (0 : UInt64)), (.double (0 : UInt64)), (.double (0 : UInt64)), (.double (0 : UInt64))]) :: (a18, .double, "[D", [(.double (0 : UInt64)), (.double (0 : UInt64)), (.double (0 : UInt64)), (.double (0 : UInt64))]) :: (a15, .double, "[D", [(.double v0), (.double v1), (.double v2), (.double v3)]) :: (a12, .double, "[D", [(.double c0), (.double c1), (.double c2), (.double (0 : UInt64))]) :: (a9, .double, "[D", [(.double s0), (.double s1), (.double s2), (.double s3)]) :: []) := H46
  refine own_aload K own_d4_224 rfl rfl ?_
  refine own_iconst K own_d4_226 (v := (3 : Int32)) rfl ?_
  refine own_iload K own_d4_227 rfl ?_
  refine own_bipush K own_d4_229 (v := (24 : Int32)) rfl ?_
  refine own_iushr K own_d4_231 ?_
  refine own_i2b K own_d4_232 ?_
  refine own_i2d K own_d4_233 ?_
  refine own_dload K own_d4_234 rfl ?_
  refine own_dmul K own_d4_236 (((own_mm (by unfold Fl.Mag64; decide)).fin (by decide)).noNaN) ?_
  obtain ⟨c3, e_c3, hc3⟩ : ∃ z : UInt64, z = (FP.dmul (FP.i2d (XT.ushr ic (24 : Int32)).toInt8.toInt32) (4562146422526312448 : UInt64)) ∧ Fl.Mag64 1200 z := ⟨_, rfl, own_mm (by unfold Fl.Mag64; decide)⟩
  refine own_topD (x' := c3) (e_c3.symm) ?_
  refine own_dastore K own_d4_237 H46 (i := 4) rfl (q := 3) (by decide) (own_le rfl) ?_
  intro h47 H48
  replace H48 : own_H Z h47 ([]) ((a24, .double, "[D", [(.double (0 : UInt64)), (.double (0 : UInt64)), (.double (0 : UInt64)), (.double (0 : UInt64))]) :: (a21, .double, "[D", [(.double (0 : UInt64)), (.double (0 : UInt64)), (.double (0 : UInt64)), (.double (0 : UInt64))]) :: (a18, .double, "[D", [(.double (0 : UInt64)), (.double (0 : UInt64)), (.double (0 : UInt64)), (.double (0 : UInt64))]) :: (a15, .double, "[D", [(.double v0), (.double v1), (.double v2), (.double v3)]) :: (a12, .double, "[D", [(.double c0), (.double c1), (.double c2), (.double c3)]) :: (a9, .double, "[D", [(.double s0), (.double s1), (.double s2), (.double s3)]) :: []) := H48
  refine own_aload K own_d4_238 rfl rfl ?_
  refine own_iconst K own_d4_240 (v := (0 : Int32)) rfl ?_
  refine own_aload K own_d4_241 rfl rfl ?_
  refine own_iconst K own_d4_243 (v := (0 : Int32)) rfl ?_
  refine own_daload K own_d4_244 H48 (i := 5) rfl (q := 0) (by decide) (rfl) ?_
  refine own_dastore K own_d4_245 H48 (i := 2) rfl (q := 0) (by decide) (own_le rfl) ?_
  intro h49 H50
  replace H50 : own_H Z h49 ([]) ((a24, .double, "[D", [(.double (0 : UInt64)), (.double (0 : UInt64)), (.double (0 : UInt64)), (.double (0 : UInt64))]) :: (a21, .double, "[D", [(.double (0 : UInt64)), (.double (0 : UInt64)), (.double (0 : UInt64)), (.double (0 : UInt64))]) :: (a18, .double, "[D", [(.double s0), (.double (0 : UInt64)), (.double (0 : UInt64)), (.double (0 : UInt64))]) :: (a15, .double, "[D", [(.double v0), (.double v1), (.double v2), (.double v3)]) :: (a12, .double, "[D", [(.double c0), (.double c1), (.double c2), (.double c3)]) :: (a9, .double, "[D", [(.double s0), (.double s1), (.double s2), (.double s3)]) :: []) := H50
  refine own_aload K own_d4_246 rfl rfl ?_
  refine own_iconst K own_d4_248 (v := (1 : Int32)) rfl ?_
  refine own_aload K own_d4_249 rfl rfl ?_
  refine own_iconst K own_d4_251 (v := (1 : Int32)) rfl ?_
  refine own_daload K own_d4_252 H50 (i := 5) rfl (q := 1) (by decide) (rfl) ?_
  refine own_dastore K own_d4_253 H50 (i := 2) rfl (q := 1) (by decide) (own_le rfl) ?_
  intro h51 H52
  replace H52 : own_H Z h51 ([]) ((a24, .double, "[D", [(.double (0 : UInt64)), (.double (0 : UInt64)), (.double (0 : UInt64)), (.double (0 : UInt64))]) :: (a21, .double, "[D", [(.double (0 : UInt64)), (.double (0 : UInt64)), (.double (0 : UInt64)), (.double (0 : UInt64))]) :: (a18, .double, "[D", [(.double s0), (.double s1), (.double (0 : UInt64)), (.double (0 : UInt64))]) :: (a15, .double, "[D", [(.double v0), (.double v1), (.double v2), (.double v3)]) :: (a12, .double, "[D", [(.double c0), (.double c1), (.double c2), (.double c3)]) :: (a9, .double, "[D", [(.double s0), (.double s1), (.double s2), (.double s3)]) :: []) := H52
  refine own_aload K own_d4_254 rfl rfl ?_
  refine own_iconst K own_d4_256 (v := (2 : Int32)) rfl ?_
  refine own_aload K own_d4_257 rfl rfl ?_
  refine own_iconst K own_d4_259 (v := (2 : Int32)) rfl ?_
  refine own_daload K own_d4_260 H52 (i := 5) rfl (q := 2) (by decide) (rfl) ?_
  refine own_dastore K own_d4_261 H52 (i := 2) rfl (q := 2) (by decide) (own_le rfl) ?_
  intro h53 H54
  replace H54 : own_H Z h53 ([]) ((a24, .double, "[D", [(.double (0 : UInt64)), (.double (0 : UInt64)), (.double (0 : UInt64)), (.double (0 : UInt64))]) :: (a21, .double, "[D", [(.double (0 : UInt64)), (.double (0 : UInt64)), (.double (0 : UInt64)), (.double (0 : UInt64))]) :: (a18, .double, "[D", [(.double s0), (.double s1), (.double s2), (.double (0 : UInt64))]) :: (a15, .double, "[D", [(.double v0), (.double v1), (.double v2), (.double v3)]) :: (a12, .double, "[D", [(.double c0), (.double c1), (.double c2), (.double c3)]) :: (a9, .double, "[D", [(.double s0), (.double s1), (.double s2), (.double s3)]) :: []) := H54
  refine own_aload K own_d4_262 rfl rfl ?_
  refine own_iconst K own_d4_264 (v := (3 : Int32)) rfl ?_
  refine own_aload K own_d4_265 rfl rfl ?_
  refine own_iconst K own_d4_267 (v := (3 : Int32)) rfl ?_
  refine own_daload K own_d4_268 H54 (i := 5) rfl (q := 3) (by decide) (rfl) ?_
  refine own_dastore K own_d4_269 H54 (i := 2) rfl (q := 3) (by decide) (own_le rfl) ?_
  intro h55 H56
  replace H56 : own_H Z h55 ([]) ((a24, .double, "[D", [(.double (0 : UInt64)), (.double (0 : UInt64)), (.double (0 : UInt64)), (.double (0 : UInt64))]) :: (a21, .double, "[D", [(.double (0 : UInt64)), (.double (0 : UInt64)), (.double (0 : UInt64)), (.double (0 : UInt64))]) :: (a18, .double, "[D", [(.double s0), (.double s1), (.double s2), (.double s3)]) :: (a15, .double, "[D", [(.double v0), (.double v1), (.double v2), (.double v3)]) :: (a12, .double, "[D", [(.double c0), (.double c1), (.double c2), (.double c3)]) :: (a9, .double, "[D", [(.double s0), (.double s1), (.double s2), (.double s3)]) :: []) := H56
  refine own_aload K own_d4_270 rfl rfl ?_
  refine own_iconst K own_d4_272 (v := (0 : Int32)) rfl ?_
  refine own_aload K own_d4_273 rfl rfl ?_
  refine own_iconst K own_d4_275 (v := (0 : Int32)) rfl ?_
  refine own_daload K own_d4_276 H56 (i := 4) rfl (q := 0) (by decide) (rfl) ?_
  refine own_dastore K own_d4_277 H56 (i := 1) rfl (q := 0) (by decide) (own_le rfl) ?_
  intro h57 H58
  replace H58 : own_H Z h57 ([]) ((a24, .double, "[D", [(.double (0 : UInt64)), (.double (0 : UInt64)), (.double (0 : UInt64)), (.double (0 : UInt64))]) :: (a21, .double, "[D", [(.double c0), (.double (0 : UInt64)), (.double (0 : UInt64)), (.double (0 : UInt64))]) :: (a18, .double, "[D", [(.double s0), (.double s1), (.double s2), (.double s3)]) :: (a15, .double, "[D", [(.double v0), (.double v1), (.double v2), (.double v3)]) :: (a12, .double, "[D", [(.double c0), (.double c1), (.double c2), (.double c3)]) :: (a9, .double, "[D", [(.double s0), (.double s1), (.double s2), (.double s3)]) :: []) := H58
  refine own_aload K own_d4_278 rfl rfl ?_
  refine own_iconst K own_d4_280 (v := (1 : Int32)) rfl ?_
  refine own_aload K own_d4_281 rfl rfl ?_
  refine own_iconst K own_d4_283 (v := (1 : Int32)) rfl ?_
  refine own_daload K own_d4_284 H58 (i := 4) rfl (q := 1) (by decide) (rfl) ?_
  refine own_dastore K own_d4_285 H58 (i := 1) rfl (q := 1) (by decide) (own_le rfl) ?_
  intro h59 H60
  replace H60 : own_H Z h59 ([]) ((a24, .double, "[D", [(.double (0 : UInt64)), (.double (0 : UInt64)), (.double (0 : UInt64)), (.double (0 : UInt64))]) :: (a21, .double, "[D", [(.double c0), (.double c1), (.double (0 : UInt64)), (.double (0 : UInt64))]) :: (a18, .double, "[D", [(.double s0), (.double s1), (.double s2), (.double s3)]) :: (a15, .double, "[D", [(.double v0), (.double v1), (.double v2), (.double v3)]) :: (a12, .double, "[D", [(.double c0), (.double c1), (.double c2), (.double c3)]) :: (a9, .double, "[D", [(.double s0), (.double s1), (.double s2), (.double s3)]) :: []) := H60
  refine own_aload K own_d4_286 rfl rfl ?_
  refine own_iconst K own_d4_288 (v := (2 : Int32)) rfl ?_
  refine own_aload K own_d4_289 rfl rfl ?_
  refine own_iconst K own_d4_291 (v := (2 : Int32)) rfl ?_
  refine own_daload K own_d4_292 H60 (i := 4) rfl (q := 2) (by decide) (rfl) ?_
  refine own_dastore K own_d4_293 H60 (i := 1) rfl (q := 2) (by decide) (own_le rfl) ?_
  intro h61 H62
  replace H62 : own_H Z h61 ([]) ((a24, .double, "[D", [(.double (0 : UInt64)), (.double (0 : UInt64)), (.double (0 : UInt64)), (.double (0 : UInt64))]) :: (a21, .double, "[D", [(.double c0), (.double c1), (.double c2), (.double (0 : UInt64))]) :: (a18, .double, "[D", [(.double s0), (.double s1), (.double s2), (.double s3)]) :: (a15, .double, "[D", [(.double v0), (.double v1), (.double v2), (.double v3)]) :: (a12, .double, "[D", [(.double c0), (.double c1), (.double c2), (.double c3)]) :: (a9, .double, "[D", [(.double s0), (.double s1), (.double s2), (.double s3)]) :: []) := H62
  refine own_aload K own_d4_294 rfl rfl ?_
  refine own_iconst K own_d4_296 (v := (3 : Int32)) rfl ?_
  refine own_aload K own_d4_297 rfl rfl ?_
  refine own_iconst K own_d4_299 (v := (3 : Int32)) rfl ?_
  refine own_daload K own_d4_300 H62 (i := 4) rfl (q := 3) (by decide) (rfl) ?_
  refine own_dastore K own_d4_301 H62 (i := 1) rfl (q := 3) (by decide) (own_le rfl) ?_
  intro h63 H64
  replace H64 : own_H Z h63 ([]) ((a24, .double, "[D", [(.double (0 : UInt64)), (.double (0 : UInt64)), (.double (0 : UInt64)), (.double (0 : UInt64))]) :: (a21, .double, "[D", [(.double c0), (.double c1), (.double c2), (.double c3)]) :: (a18, .double, "[D", [(.double s0), (.double s1), (.double s2), (.double s3)]) :: (a15, .double, "[D", [(.double v0), (.double v1), (.double v2), (.double v3)]) :: (a12, .double, "[D", [(.double c0), (.double c1), (.double c2), (.double c3)]) :: (a9, .double, "[D", [(.double s0), (.double s1), (.double s2), (.double s3)]) :: []) := H64
  refine own_aload K own_d4_302 rfl rfl ?_
  refine own_iconst K own_d4_304 (v := (0 : Int32)) rfl ?_
  refine own_aload K own_d4_305 rfl rfl ?_
  refine own_iconst K own_d4_307 (v := (0 : Int32)) rfl ?_
  refine own_daload K own_d4_308 H64 (i := 3) rfl (q := 0) (by decide) (rfl) ?_
  refine own_dastore K own_d4_309 H64 (i := 0) rfl (q := 0) (by decide) (own_le rfl) ?_
  intro h65 H66
  replace H66 : own_H Z h65 ([]) ((a24, .double, "[D", [(.double v0), (.double (0 : UInt64)), (.double (0 : UInt64)), (.double (0 : UInt64))]) :: (a21, .double, "[D", [(.double c0), (.double c1), (.double c2), (.double c3)]) :: (a18, .double, "[D", [(.double s0), (.double s1), (.double s2), (.double s3)]) :: (a15, .double, "[D", [(.double v0), (.double v1), (.double v2), (.double v3)]) :: (a12, .double, "[D", [(.double c0), (.double c1), (.double c2), (.double c3)]) :: (a9, .double, "[D", [(.double s0), (.double s1), (.double s2), (.double s3)]) :: []) := H66
  refine own_aload K own_d4_310 rfl rfl ?_
  refine own_iconst K own_d4_312 (v := (1 : Int32)) rfl ?_
  refine own_aload K own_d4_313 rfl rfl ?_
  refine own_iconst K own_d4_315 (v := (1 : Int32)) rfl ?_
  refine own_daload K own_d4_316 H66 (i := 3) rfl (q := 1) (by decide) (rfl) ?_
  refine own_dastore K own_d4_317 H66 (i := 0) rfl (q := 1) (by decide) (own_le rfl) ?_
  intro h67 H68
  replace H68 : own_H Z h67 ([]) ((a24, .double, "[D", [(.double v0), (.double v1), (.double (0 : UInt64)), (.double (0 : UInt64))]) :: (a21, .double, "[D", [(.double c0), (.double c1), (.double c2), (.double c3)]) :: (a18, .double, "[D", [(.double s0), (.double s1), (.double s2), (.double s3)]) :: (a15, .double, "[D", [(.double v0), (.double v1), (.double v2), (.double v3)]) :: (a12, .double, "[D", [(.double c0), (.double c1), (.double c2), (.double c3)]) :: (a9, .double, "[D", [(.double s0), (.double s1), (.double s2), (.double s3)]) :: []) := H68
  refine own_aload K own_d4_318 rfl rfl ?_
  refine own_iconst K own_d4_320 (v := (2 : Int32)) rfl ?_
  refine own_aload K own_d4_321 rfl rfl ?_
  refine own_iconst K own_d4_323 (v := (2 : Int32)) rfl ?_
  refine own_daload K own_d4_324 H68 (i := 3) rfl (q := 2) (by decide) (rfl) ?_
  refine own_dastore K own_d4_325 H68 (i := 0) rfl (q := 2) (by decide) (own_le rfl) ?_
  intro h69 H70
  replace H70 : own_H Z h69 ([]) ((a24, .double, "[D", [(.double v0), (.double v1), (.double v2), (.double (0 : UInt64))]) :: (a21, .double, "[D", [(.double c0), (.double c1), (.double c2), (.double c3)]) :: (a18, .double, "[D", [(.double s0), (.double s1), (.double s2), (.double s3)]) :: (a15, .double, "[D", [(.double v0), (.double v1), (.double v2), (.double v3)]) :: (a12, .double, "[D", [(.double c0), (.double c1), (.double c2), (.double c3)]) :: (a9, .double, "[D", [(.double s0), (.double s1), (.double s2), (.double s3)]) :: []) := H70
  refine own_aload K own_d4_326 rfl rfl ?_
  refine own_iconst K own_d4_328 (v := (3 : Int32)) rfl ?_
  refine own_aload K own_d4_329 rfl rfl ?_
  refine own_iconst K own_d4_331 (v := (3 : Int32)) rfl ?_
  refine own_daload K own_d4_332 H70 (i := 3) rfl (q := 3) (by decide) (rfl) ?_
  refine own_dastore K own_d4_333 H70 (i := 0) rfl (q := 3) (by decide) (own_le rfl) ?_
  intro h71 H72
  replace H72 : own_H Z h71 ([]) ((a24, .double, "[D", [(.double v0), (.double v1), (.double v2), (.double v3)]) :: (a21, .double, "[D", [(.double c0), (.double c1), (.double c2), (.double c3)]) :: (a18, .double, "[D", [(.double s0), (.double s1), (.double s2), (.double s3)]) :: (a15, .double, "[D", [(.double v0), (.double v1), (.double v2), (.double v3)]) :: (a12, .double, "[D", [(.double c0), (.double c1), (.double c2), (.double c3)]) :: (a9, .double, "[D", [(.double s0), (.double s1), (.double s2), (.double s3)]) :: []) := H72
  refine own_aload K own_d4_334 rfl rfl ?_
  refine own_aload K own_d4_336 rfl rfl ?_
  refine own_aload K own_d4_338 rfl rfl ?_
  refine own_iload K own_d4_340 rfl ?_
  refine own_iload K own_d4_342 rfl ?_
  have H73 := H72.frontA 3 rfl
  replace H73 : own_H Z h71 ([]) ((a15, .double, "[D", [(.double v0), (.double v1), (.double v2), (.double v3)]) :: (a24, .double, "[D", [(.double v0), (.double v1), (.double v2), (.double v3)]) :: (a21, .double, "[D", [(.double c0), (.double c1), (.double c2), (.double c3)]) :: (a18, .double, "[D", [(.double s0), (.double s1), (.double s2), (.double s3)]) :: (a12, .double, "[D", [(.double c0), (.double c1), (.double c2), (.double c3)]) :: (a9, .double, "[D", [(.double s0), (.double s1), (.double s2), (.double s3)]) :: []) := H73
  have H74 := H73.frontA 4 rfl
  replace H74 : own_H Z h71 ([]) ((a12, .double, "[D", [(.double c0), (.double c1), (.double c2), (.double c3)]) :: (a15, .double, "[D", [(.double v0), (.double v1), (.double v2), (.double v3)]) :: (a24, .double, "[D", [(.double v0), (.double v1), (.double v2), (.double v3)]) :: (a21, .double, "[D", [(.double c0), (.double c1), (.double c2), (.double c3)]) :: (a18, .double, "[D", [(.double s0), (.double s1), (.double s2), (.double s3)]) :: (a9, .double, "[D", [(.double s0), (.double s1), (.double s2), (.double s3)]) :: []) := H74
  have H75 := H74.frontA 5 rfl
  replace H75 : own_H Z h71 ([]) ((a9, .double, "[D", [(.double s0), (.double s1), (.double s2), (.double s3)]) :: (a12, .double, "[D", [(.double c0), (.double c1), (.double c2), (.double c3)]) :: (a15, .double, "[D", [(.double v0), (.double v1), (.double v2), (.double v3)]) :: (a24, .double, "[D", [(.double v0), (.double v1), (.double v2), (.double v3)]) :: (a21, .double, "[D", [(.double c0), (.double c1), (.double c2), (.double c3)]) :: (a18, .double, "[D", [(.double s0), (.double s1), (.double s2), (.double s3)]) :: []) := H75
  refine own_static K own_d4_344 (own_w6 hw) (own_w7 hw) (own_w8 hw) (own_w9 hw) (argsL := [(.ref a9), (.ref a12), (.ref a15), (.int fr), (.int tt)]) (rest := []) (own_each hw (own_ends_of fr_0.1 fr_0.2 tt_0.1 tt_0.2) H75 hs0 hv0 hc0 hs1 hv1 hc1 hs2 hv2 hc2 hs3 hv3 hc3) own_pd2 rfl rfl rfl (by decide) (W := 0) (Nat.le_of_eq rfl) (by decide) (by decide) (by decide) (by decide) ?_
  intro v78 h76 q77
  obtain ⟨rfl, H79⟩ := q77
  replace H79 : own_H Z h76 ([]) ((a9, .double, "[D", [(.double (if fr.toInt ≤ 0 ∧ 0 < tt.toInt then (FP.dadd s0 v0) else s0)), (.double (if fr.toInt ≤ 1 ∧ 1 < tt.toInt then (FP.dadd s1 v1) else s1)), (.double (if fr.toInt ≤ 2 ∧ 2 < tt.toInt then (FP.dadd s2 v2) else s2)), (.double (if fr.toInt ≤ 3 ∧ 3 < tt.toInt then (FP.dadd s3 v3) else s3))]) :: (a12, .double, "[D", [(.double (if fr.toInt ≤ 0 ∧ 0 < tt.toInt then (FP.dadd c0 (own_er s0 v0)) else c0)), (.double (if fr.toInt ≤ 1 ∧ 1 < tt.toInt then (FP.dadd c1 (own_er s1 v1)) else c1)), (.double (if fr.toInt ≤ 2 ∧ 2 < tt.toInt then (FP.dadd c2 (own_er s2 v2)) else c2)), (.double (if fr.toInt ≤ 3 ∧ 3 < tt.toInt then (FP.dadd c3 (own_er s3 v3)) else c3))]) :: (a15, .double, "[D", [(.double v0), (.double v1), (.double v2), (.double v3)]) :: (a24, .double, "[D", [(.double v0), (.double v1), (.double v2), (.double v3)]) :: (a21, .double, "[D", [(.double c0), (.double c1), (.double c2), (.double c3)]) :: (a18, .double, "[D", [(.double s0), (.double s1), (.double s2), (.double s3)]) :: []) := H79
  rcases own_ends_of fr_0.1 fr_0.2 tt_0.1 tt_0.2 with q | q | q | q | q | q | q | q | q | q | q | q | q | q | q
  · obtain ⟨rfl, qt⟩ := q
    rw [show (0 : Int32).toInt = 0 from rfl] at qt
    have k0 : ¬ ((0 : Int32).toInt ≤ 0 ∧ 0 < tt.toInt) := by rw [show (0 : Int32).toInt = 0 from rfl]; omega
    have k1 : ¬ ((0 : Int32).toInt ≤ 1 ∧ 1 < tt.toInt) := by rw [show (0 : Int32).toInt = 0 from rfl]; omega
    have k2 : ¬ ((0 : Int32).toInt ≤ 2 ∧ 2 < tt.toInt) := by rw [show (0 : Int32).toInt = 0 from rfl]; omega
    have k3 : ¬ ((0 : Int32).toInt ≤ 3 ∧ 3 < tt.toInt) := by rw [show (0 : Int32).toInt = 0 from rfl]; omega
    have H80 := H79
    simp only [if_neg k0, if_neg k1, if_neg k2, if_neg k3] at H80
    replace H80 : own_H Z h76 ([]) ((a9, .double, "[D", [(.double s0), (.double s1), (.double s2), (.double s3)]) :: (a12, .double, "[D", [(.double c0), (.double c1), (.double c2), (.double c3)]) :: (a15, .double, "[D", [(.double v0), (.double v1), (.double v2), (.double v3)]) :: (a24, .double, "[D", [(.double v0), (.double v1), (.double v2), (.double v3)]) :: (a21, .double, "[D", [(.double c0), (.double c1), (.double c2), (.double c3)]) :: (a18, .double, "[D", [(.double s0), (.double s1), (.double s2), (.double s3)]) :: []) := H80
    refine own_iload K own_d4_347 rfl ?_
    refine own_ifgt K own_d4_349 (fun q => absurd q (by decide)) (fun _ => ?_)
    refine own_iconst K own_d4_352 (v := (0 : Int32)) rfl ?_
    refine own_iload K own_d4_353 rfl ?_
    refine own_icmpge K own_d4_355 (fun _ => ?_) (fun q => absurd (by rw [show ((0 : Int32) : Int32).toInt = 0 from rfl]; omega) q)
    refine own_iload K own_d4_370 rfl ?_
    refine own_iconst K own_d4_372 (v := (1 : Int32)) rfl ?_
    refine own_icmpgt K own_d4_373 (fun q => absurd q (by decide)) (fun _ => ?_)
    refine own_iconst K own_d4_376 (v := (1 : Int32)) rfl ?_
    refine own_iload K own_d4_377 rfl ?_
    refine own_icmpge K own_d4_379 (fun _ => ?_) (fun q => absurd (by rw [show ((1 : Int32) : Int32).toInt = 1 from rfl]; omega) q)
    refine own_iload K own_d4_394 rfl ?_
    refine own_iconst K own_d4_396 (v := (2 : Int32)) rfl ?_
    refine own_icmpgt K own_d4_397 (fun q => absurd q (by decide)) (fun _ => ?_)
    refine own_iconst K own_d4_400 (v := (2 : Int32)) rfl ?_
    refine own_iload K own_d4_401 rfl ?_
    refine own_icmpge K own_d4_403 (fun _ => ?_) (fun q => absurd (by rw [show ((2 : Int32) : Int32).toInt = 2 from rfl]; omega) q)
    refine own_iload K own_d4_418 rfl ?_
    refine own_iconst K own_d4_420 (v := (3 : Int32)) rfl ?_
    refine own_icmpgt K own_d4_421 (fun q => absurd q (by decide)) (fun _ => ?_)
    refine own_iconst K own_d4_424 (v := (3 : Int32)) rfl ?_
    refine own_iload K own_d4_425 rfl ?_
    refine own_icmpge K own_d4_427 (fun _ => ?_) (fun q => absurd (by rw [show ((3 : Int32) : Int32).toInt = 3 from rfl]; omega) q)
    refine own_aload K own_d4_442 rfl rfl ?_
    refine own_iconst K own_d4_444 (v := (0 : Int32)) rfl ?_
    refine own_daload K own_d4_445 H80 (i := 0) rfl (q := 0) (by decide) (rfl) ?_
    refine own_aload K own_d4_446 rfl rfl ?_
    refine own_iconst K own_d4_448 (v := (0 : Int32)) rfl ?_
    refine own_daload K own_d4_449 H80 (i := 5) rfl (q := 0) (by decide) (rfl) ?_
    refine own_dcmp K own_d4_450 ?_
    refine own_ifne K own_d4_451 (fun q => absurd q (fun z => z (dcmpV_self ((hs0.fin (by decide)).noNaN) _))) (fun _ => ?_)
    refine own_aload K own_d4_454 rfl rfl ?_
    refine own_iconst K own_d4_456 (v := (1 : Int32)) rfl ?_
    refine own_daload K own_d4_457 H80 (i := 0) rfl (q := 1) (by decide) (rfl) ?_
    refine own_aload K own_d4_458 rfl rfl ?_
    refine own_iconst K own_d4_460 (v := (1 : Int32)) rfl ?_
    refine own_daload K own_d4_461 H80 (i := 5) rfl (q := 1) (by decide) (rfl) ?_
    refine own_dcmp K own_d4_462 ?_
    refine own_ifne K own_d4_463 (fun q => absurd q (fun z => z (dcmpV_self ((hs1.fin (by decide)).noNaN) _))) (fun _ => ?_)
    refine own_aload K own_d4_466 rfl rfl ?_
    refine own_iconst K own_d4_468 (v := (2 : Int32)) rfl ?_
    refine own_daload K own_d4_469 H80 (i := 0) rfl (q := 2) (by decide) (rfl) ?_
    refine own_aload K own_d4_470 rfl rfl ?_
    refine own_iconst K own_d4_472 (v := (2 : Int32)) rfl ?_
    refine own_daload K own_d4_473 H80 (i := 5) rfl (q := 2) (by decide) (rfl) ?_
    refine own_dcmp K own_d4_474 ?_
    refine own_ifne K own_d4_475 (fun q => absurd q (fun z => z (dcmpV_self ((hs2.fin (by decide)).noNaN) _))) (fun _ => ?_)
    refine own_aload K own_d4_478 rfl rfl ?_
    refine own_iconst K own_d4_480 (v := (3 : Int32)) rfl ?_
    refine own_daload K own_d4_481 H80 (i := 0) rfl (q := 3) (by decide) (rfl) ?_
    refine own_aload K own_d4_482 rfl rfl ?_
    refine own_iconst K own_d4_484 (v := (3 : Int32)) rfl ?_
    refine own_daload K own_d4_485 H80 (i := 5) rfl (q := 3) (by decide) (rfl) ?_
    refine own_dcmp K own_d4_486 ?_
    refine own_ifne K own_d4_487 (fun q => absurd q (fun z => z (dcmpV_self ((hs3.fin (by decide)).noNaN) _))) (fun _ => ?_)
    refine own_iconst K own_d4_490 (v := (1 : Int32)) rfl ?_
    refine own_goto K own_d4_491 ?_
    refine own_istore K own_d4_495 (Ls' := #[.val (.long sl), .second, .val (.long vl), .second, .val (.int ic), .val (.int ct), .val (.int (0 : Int32)), .val (.int tt), .val (.double ss), .second, .val (.double vz), .second, .val (.double (4562146422526312448 : UInt64)), .second, .val (.ref a9), .val (.ref a12), .val (.ref a15), .val (.ref a18), .val (.ref a21), .val (.ref a24), .val (.int (1 : Int32)), .unset, .unset]) rfl ?_
    refine own_aload K own_d4_497 rfl rfl ?_
    refine own_iconst K own_d4_499 (v := (0 : Int32)) rfl ?_
    refine own_daload K own_d4_500 H80 (i := 1) rfl (q := 0) (by decide) (rfl) ?_
    refine own_aload K own_d4_501 rfl rfl ?_
    refine own_iconst K own_d4_503 (v := (0 : Int32)) rfl ?_
    refine own_daload K own_d4_504 H80 (i := 4) rfl (q := 0) (by decide) (rfl) ?_
    refine own_dcmp K own_d4_505 ?_
    refine own_ifne K own_d4_506 (fun q => absurd q (fun z => z (dcmpV_self ((hc0.fin (by decide)).noNaN) _))) (fun _ => ?_)
    refine own_aload K own_d4_509 rfl rfl ?_
    refine own_iconst K own_d4_511 (v := (1 : Int32)) rfl ?_
    refine own_daload K own_d4_512 H80 (i := 1) rfl (q := 1) (by decide) (rfl) ?_
    refine own_aload K own_d4_513 rfl rfl ?_
    refine own_iconst K own_d4_515 (v := (1 : Int32)) rfl ?_
    refine own_daload K own_d4_516 H80 (i := 4) rfl (q := 1) (by decide) (rfl) ?_
    refine own_dcmp K own_d4_517 ?_
    refine own_ifne K own_d4_518 (fun q => absurd q (fun z => z (dcmpV_self ((hc1.fin (by decide)).noNaN) _))) (fun _ => ?_)
    refine own_aload K own_d4_521 rfl rfl ?_
    refine own_iconst K own_d4_523 (v := (2 : Int32)) rfl ?_
    refine own_daload K own_d4_524 H80 (i := 1) rfl (q := 2) (by decide) (rfl) ?_
    refine own_aload K own_d4_525 rfl rfl ?_
    refine own_iconst K own_d4_527 (v := (2 : Int32)) rfl ?_
    refine own_daload K own_d4_528 H80 (i := 4) rfl (q := 2) (by decide) (rfl) ?_
    refine own_dcmp K own_d4_529 ?_
    refine own_ifne K own_d4_530 (fun q => absurd q (fun z => z (dcmpV_self ((hc2.fin (by decide)).noNaN) _))) (fun _ => ?_)
    refine own_aload K own_d4_533 rfl rfl ?_
    refine own_iconst K own_d4_535 (v := (3 : Int32)) rfl ?_
    refine own_daload K own_d4_536 H80 (i := 1) rfl (q := 3) (by decide) (rfl) ?_
    refine own_aload K own_d4_537 rfl rfl ?_
    refine own_iconst K own_d4_539 (v := (3 : Int32)) rfl ?_
    refine own_daload K own_d4_540 H80 (i := 4) rfl (q := 3) (by decide) (rfl) ?_
    refine own_dcmp K own_d4_541 ?_
    refine own_ifne K own_d4_542 (fun q => absurd q (fun z => z (dcmpV_self ((hc3.fin (by decide)).noNaN) _))) (fun _ => ?_)
    refine own_iconst K own_d4_545 (v := (1 : Int32)) rfl ?_
    refine own_goto K own_d4_546 ?_
    refine own_istore K own_d4_550 (Ls' := #[.val (.long sl), .second, .val (.long vl), .second, .val (.int ic), .val (.int ct), .val (.int (0 : Int32)), .val (.int tt), .val (.double ss), .second, .val (.double vz), .second, .val (.double (4562146422526312448 : UInt64)), .second, .val (.ref a9), .val (.ref a12), .val (.ref a15), .val (.ref a18), .val (.ref a21), .val (.ref a24), .val (.int (1 : Int32)), .val (.int (1 : Int32)), .unset]) rfl ?_
    refine own_aload K own_d4_552 rfl rfl ?_
    refine own_iconst K own_d4_554 (v := (0 : Int32)) rfl ?_
    refine own_daload K own_d4_555 H80 (i := 2) rfl (q := 0) (by decide) (rfl) ?_
    refine own_aload K own_d4_556 rfl rfl ?_
    refine own_iconst K own_d4_558 (v := (0 : Int32)) rfl ?_
    refine own_daload K own_d4_559 H80 (i := 3) rfl (q := 0) (by decide) (rfl) ?_
    refine own_dcmp K own_d4_560 ?_
    refine own_ifne K own_d4_561 (fun q => absurd q (fun z => z (dcmpV_self ((hv0.fin (by decide)).noNaN) _))) (fun _ => ?_)
    refine own_aload K own_d4_564 rfl rfl ?_
    refine own_iconst K own_d4_566 (v := (1 : Int32)) rfl ?_
    refine own_daload K own_d4_567 H80 (i := 2) rfl (q := 1) (by decide) (rfl) ?_
    refine own_aload K own_d4_568 rfl rfl ?_
    refine own_iconst K own_d4_570 (v := (1 : Int32)) rfl ?_
    refine own_daload K own_d4_571 H80 (i := 3) rfl (q := 1) (by decide) (rfl) ?_
    refine own_dcmp K own_d4_572 ?_
    refine own_ifne K own_d4_573 (fun q => absurd q (fun z => z (dcmpV_self ((hv1.fin (by decide)).noNaN) _))) (fun _ => ?_)
    refine own_aload K own_d4_576 rfl rfl ?_
    refine own_iconst K own_d4_578 (v := (2 : Int32)) rfl ?_
    refine own_daload K own_d4_579 H80 (i := 2) rfl (q := 2) (by decide) (rfl) ?_
    refine own_aload K own_d4_580 rfl rfl ?_
    refine own_iconst K own_d4_582 (v := (2 : Int32)) rfl ?_
    refine own_daload K own_d4_583 H80 (i := 3) rfl (q := 2) (by decide) (rfl) ?_
    refine own_dcmp K own_d4_584 ?_
    refine own_ifne K own_d4_585 (fun q => absurd q (fun z => z (dcmpV_self ((hv2.fin (by decide)).noNaN) _))) (fun _ => ?_)
    refine own_aload K own_d4_588 rfl rfl ?_
    refine own_iconst K own_d4_590 (v := (3 : Int32)) rfl ?_
    refine own_daload K own_d4_591 H80 (i := 2) rfl (q := 3) (by decide) (rfl) ?_
    refine own_aload K own_d4_592 rfl rfl ?_
    refine own_iconst K own_d4_594 (v := (3 : Int32)) rfl ?_
    refine own_daload K own_d4_595 H80 (i := 3) rfl (q := 3) (by decide) (rfl) ?_
    refine own_dcmp K own_d4_596 ?_
    refine own_ifne K own_d4_597 (fun q => absurd q (fun z => z (dcmpV_self ((hv3.fin (by decide)).noNaN) _))) (fun _ => ?_)
    refine own_iconst K own_d4_600 (v := (1 : Int32)) rfl ?_
    refine own_goto K own_d4_601 ?_
    refine own_istore K own_d4_605 (Ls' := #[.val (.long sl), .second, .val (.long vl), .second, .val (.int ic), .val (.int ct), .val (.int (0 : Int32)), .val (.int tt), .val (.double ss), .second, .val (.double vz), .second, .val (.double (4562146422526312448 : UInt64)), .second, .val (.ref a9), .val (.ref a12), .val (.ref a15), .val (.ref a18), .val (.ref a21), .val (.ref a24), .val (.int (1 : Int32)), .val (.int (1 : Int32)), .val (.int (1 : Int32))]) rfl ?_
    refine own_iload K own_d4_607 rfl ?_
    refine own_ifeq K own_d4_609 (fun q => absurd q (by decide)) (fun _ => ?_)
    refine own_iload K own_d4_612 rfl ?_
    refine own_ifeq K own_d4_614 (fun q => absurd q (by decide)) (fun _ => ?_)
    refine own_iload K own_d4_617 rfl ?_
    refine own_ifeq K own_d4_619 (fun q => absurd q (by decide)) (fun _ => ?_)
    refine own_iconst K own_d4_622 (v := (1 : Int32)) rfl ?_
    refine own_goto K own_d4_623 ?_
    exact own_retZ K (by first | exact Or.inl rfl | exact Or.inr rfl | decide) own_d4_627 (by decide) (by decide) (rfl)
  · obtain ⟨rfl, qt⟩ := q
    rw [show (1 : Int32).toInt = 1 from rfl] at qt
    have k0 : ¬ ((1 : Int32).toInt ≤ 0 ∧ 0 < tt.toInt) := by rw [show (1 : Int32).toInt = 1 from rfl]; omega
    have k1 : ¬ ((1 : Int32).toInt ≤ 1 ∧ 1 < tt.toInt) := by rw [show (1 : Int32).toInt = 1 from rfl]; omega
    have k2 : ¬ ((1 : Int32).toInt ≤ 2 ∧ 2 < tt.toInt) := by rw [show (1 : Int32).toInt = 1 from rfl]; omega
    have k3 : ¬ ((1 : Int32).toInt ≤ 3 ∧ 3 < tt.toInt) := by rw [show (1 : Int32).toInt = 1 from rfl]; omega
    have H81 := H79
    simp only [if_neg k0, if_neg k1, if_neg k2, if_neg k3] at H81
    replace H81 : own_H Z h76 ([]) ((a9, .double, "[D", [(.double s0), (.double s1), (.double s2), (.double s3)]) :: (a12, .double, "[D", [(.double c0), (.double c1), (.double c2), (.double c3)]) :: (a15, .double, "[D", [(.double v0), (.double v1), (.double v2), (.double v3)]) :: (a24, .double, "[D", [(.double v0), (.double v1), (.double v2), (.double v3)]) :: (a21, .double, "[D", [(.double c0), (.double c1), (.double c2), (.double c3)]) :: (a18, .double, "[D", [(.double s0), (.double s1), (.double s2), (.double s3)]) :: []) := H81
    refine own_iload K own_d4_347 rfl ?_
    refine own_ifgt K own_d4_349 (fun _ => ?_) (fun q => absurd (by decide) q)
    refine own_iload K own_d4_370 rfl ?_
    refine own_iconst K own_d4_372 (v := (1 : Int32)) rfl ?_
    refine own_icmpgt K own_d4_373 (fun q => absurd q (by decide)) (fun _ => ?_)
    refine own_iconst K own_d4_376 (v := (1 : Int32)) rfl ?_
    refine own_iload K own_d4_377 rfl ?_
    refine own_icmpge K own_d4_379 (fun _ => ?_) (fun q => absurd (by rw [show ((1 : Int32) : Int32).toInt = 1 from rfl]; omega) q)
    refine own_iload K own_d4_394 rfl ?_
    refine own_iconst K own_d4_396 (v := (2 : Int32)) rfl ?_
    refine own_icmpgt K own_d4_397 (fun q => absurd q (by decide)) (fun _ => ?_)
    refine own_iconst K own_d4_400 (v := (2 : Int32)) rfl ?_
    refine own_iload K own_d4_401 rfl ?_
    refine own_icmpge K own_d4_403 (fun _ => ?_) (fun q => absurd (by rw [show ((2 : Int32) : Int32).toInt = 2 from rfl]; omega) q)
    refine own_iload K own_d4_418 rfl ?_
    refine own_iconst K own_d4_420 (v := (3 : Int32)) rfl ?_
    refine own_icmpgt K own_d4_421 (fun q => absurd q (by decide)) (fun _ => ?_)
    refine own_iconst K own_d4_424 (v := (3 : Int32)) rfl ?_
    refine own_iload K own_d4_425 rfl ?_
    refine own_icmpge K own_d4_427 (fun _ => ?_) (fun q => absurd (by rw [show ((3 : Int32) : Int32).toInt = 3 from rfl]; omega) q)
    refine own_aload K own_d4_442 rfl rfl ?_
    refine own_iconst K own_d4_444 (v := (0 : Int32)) rfl ?_
    refine own_daload K own_d4_445 H81 (i := 0) rfl (q := 0) (by decide) (rfl) ?_
    refine own_aload K own_d4_446 rfl rfl ?_
    refine own_iconst K own_d4_448 (v := (0 : Int32)) rfl ?_
    refine own_daload K own_d4_449 H81 (i := 5) rfl (q := 0) (by decide) (rfl) ?_
    refine own_dcmp K own_d4_450 ?_
    refine own_ifne K own_d4_451 (fun q => absurd q (fun z => z (dcmpV_self ((hs0.fin (by decide)).noNaN) _))) (fun _ => ?_)
    refine own_aload K own_d4_454 rfl rfl ?_
    refine own_iconst K own_d4_456 (v := (1 : Int32)) rfl ?_
    refine own_daload K own_d4_457 H81 (i := 0) rfl (q := 1) (by decide) (rfl) ?_
    refine own_aload K own_d4_458 rfl rfl ?_
    refine own_iconst K own_d4_460 (v := (1 : Int32)) rfl ?_
    refine own_daload K own_d4_461 H81 (i := 5) rfl (q := 1) (by decide) (rfl) ?_
    refine own_dcmp K own_d4_462 ?_
    refine own_ifne K own_d4_463 (fun q => absurd q (fun z => z (dcmpV_self ((hs1.fin (by decide)).noNaN) _))) (fun _ => ?_)
    refine own_aload K own_d4_466 rfl rfl ?_
    refine own_iconst K own_d4_468 (v := (2 : Int32)) rfl ?_
    refine own_daload K own_d4_469 H81 (i := 0) rfl (q := 2) (by decide) (rfl) ?_
    refine own_aload K own_d4_470 rfl rfl ?_
    refine own_iconst K own_d4_472 (v := (2 : Int32)) rfl ?_
    refine own_daload K own_d4_473 H81 (i := 5) rfl (q := 2) (by decide) (rfl) ?_
    refine own_dcmp K own_d4_474 ?_
    refine own_ifne K own_d4_475 (fun q => absurd q (fun z => z (dcmpV_self ((hs2.fin (by decide)).noNaN) _))) (fun _ => ?_)
    refine own_aload K own_d4_478 rfl rfl ?_
    refine own_iconst K own_d4_480 (v := (3 : Int32)) rfl ?_
    refine own_daload K own_d4_481 H81 (i := 0) rfl (q := 3) (by decide) (rfl) ?_
    refine own_aload K own_d4_482 rfl rfl ?_
    refine own_iconst K own_d4_484 (v := (3 : Int32)) rfl ?_
    refine own_daload K own_d4_485 H81 (i := 5) rfl (q := 3) (by decide) (rfl) ?_
    refine own_dcmp K own_d4_486 ?_
    refine own_ifne K own_d4_487 (fun q => absurd q (fun z => z (dcmpV_self ((hs3.fin (by decide)).noNaN) _))) (fun _ => ?_)
    refine own_iconst K own_d4_490 (v := (1 : Int32)) rfl ?_
    refine own_goto K own_d4_491 ?_
    refine own_istore K own_d4_495 (Ls' := #[.val (.long sl), .second, .val (.long vl), .second, .val (.int ic), .val (.int ct), .val (.int (1 : Int32)), .val (.int tt), .val (.double ss), .second, .val (.double vz), .second, .val (.double (4562146422526312448 : UInt64)), .second, .val (.ref a9), .val (.ref a12), .val (.ref a15), .val (.ref a18), .val (.ref a21), .val (.ref a24), .val (.int (1 : Int32)), .unset, .unset]) rfl ?_
    refine own_aload K own_d4_497 rfl rfl ?_
    refine own_iconst K own_d4_499 (v := (0 : Int32)) rfl ?_
    refine own_daload K own_d4_500 H81 (i := 1) rfl (q := 0) (by decide) (rfl) ?_
    refine own_aload K own_d4_501 rfl rfl ?_
    refine own_iconst K own_d4_503 (v := (0 : Int32)) rfl ?_
    refine own_daload K own_d4_504 H81 (i := 4) rfl (q := 0) (by decide) (rfl) ?_
    refine own_dcmp K own_d4_505 ?_
    refine own_ifne K own_d4_506 (fun q => absurd q (fun z => z (dcmpV_self ((hc0.fin (by decide)).noNaN) _))) (fun _ => ?_)
    refine own_aload K own_d4_509 rfl rfl ?_
    refine own_iconst K own_d4_511 (v := (1 : Int32)) rfl ?_
    refine own_daload K own_d4_512 H81 (i := 1) rfl (q := 1) (by decide) (rfl) ?_
    refine own_aload K own_d4_513 rfl rfl ?_
    refine own_iconst K own_d4_515 (v := (1 : Int32)) rfl ?_
    refine own_daload K own_d4_516 H81 (i := 4) rfl (q := 1) (by decide) (rfl) ?_
    refine own_dcmp K own_d4_517 ?_
    refine own_ifne K own_d4_518 (fun q => absurd q (fun z => z (dcmpV_self ((hc1.fin (by decide)).noNaN) _))) (fun _ => ?_)
    refine own_aload K own_d4_521 rfl rfl ?_
    refine own_iconst K own_d4_523 (v := (2 : Int32)) rfl ?_
    refine own_daload K own_d4_524 H81 (i := 1) rfl (q := 2) (by decide) (rfl) ?_
    refine own_aload K own_d4_525 rfl rfl ?_
    refine own_iconst K own_d4_527 (v := (2 : Int32)) rfl ?_
    refine own_daload K own_d4_528 H81 (i := 4) rfl (q := 2) (by decide) (rfl) ?_
    refine own_dcmp K own_d4_529 ?_
    refine own_ifne K own_d4_530 (fun q => absurd q (fun z => z (dcmpV_self ((hc2.fin (by decide)).noNaN) _))) (fun _ => ?_)
    refine own_aload K own_d4_533 rfl rfl ?_
    refine own_iconst K own_d4_535 (v := (3 : Int32)) rfl ?_
    refine own_daload K own_d4_536 H81 (i := 1) rfl (q := 3) (by decide) (rfl) ?_
    refine own_aload K own_d4_537 rfl rfl ?_
    refine own_iconst K own_d4_539 (v := (3 : Int32)) rfl ?_
    refine own_daload K own_d4_540 H81 (i := 4) rfl (q := 3) (by decide) (rfl) ?_
    refine own_dcmp K own_d4_541 ?_
    refine own_ifne K own_d4_542 (fun q => absurd q (fun z => z (dcmpV_self ((hc3.fin (by decide)).noNaN) _))) (fun _ => ?_)
    refine own_iconst K own_d4_545 (v := (1 : Int32)) rfl ?_
    refine own_goto K own_d4_546 ?_
    refine own_istore K own_d4_550 (Ls' := #[.val (.long sl), .second, .val (.long vl), .second, .val (.int ic), .val (.int ct), .val (.int (1 : Int32)), .val (.int tt), .val (.double ss), .second, .val (.double vz), .second, .val (.double (4562146422526312448 : UInt64)), .second, .val (.ref a9), .val (.ref a12), .val (.ref a15), .val (.ref a18), .val (.ref a21), .val (.ref a24), .val (.int (1 : Int32)), .val (.int (1 : Int32)), .unset]) rfl ?_
    refine own_aload K own_d4_552 rfl rfl ?_
    refine own_iconst K own_d4_554 (v := (0 : Int32)) rfl ?_
    refine own_daload K own_d4_555 H81 (i := 2) rfl (q := 0) (by decide) (rfl) ?_
    refine own_aload K own_d4_556 rfl rfl ?_
    refine own_iconst K own_d4_558 (v := (0 : Int32)) rfl ?_
    refine own_daload K own_d4_559 H81 (i := 3) rfl (q := 0) (by decide) (rfl) ?_
    refine own_dcmp K own_d4_560 ?_
    refine own_ifne K own_d4_561 (fun q => absurd q (fun z => z (dcmpV_self ((hv0.fin (by decide)).noNaN) _))) (fun _ => ?_)
    refine own_aload K own_d4_564 rfl rfl ?_
    refine own_iconst K own_d4_566 (v := (1 : Int32)) rfl ?_
    refine own_daload K own_d4_567 H81 (i := 2) rfl (q := 1) (by decide) (rfl) ?_
    refine own_aload K own_d4_568 rfl rfl ?_
    refine own_iconst K own_d4_570 (v := (1 : Int32)) rfl ?_
    refine own_daload K own_d4_571 H81 (i := 3) rfl (q := 1) (by decide) (rfl) ?_
    refine own_dcmp K own_d4_572 ?_
    refine own_ifne K own_d4_573 (fun q => absurd q (fun z => z (dcmpV_self ((hv1.fin (by decide)).noNaN) _))) (fun _ => ?_)
    refine own_aload K own_d4_576 rfl rfl ?_
    refine own_iconst K own_d4_578 (v := (2 : Int32)) rfl ?_
    refine own_daload K own_d4_579 H81 (i := 2) rfl (q := 2) (by decide) (rfl) ?_
    refine own_aload K own_d4_580 rfl rfl ?_
    refine own_iconst K own_d4_582 (v := (2 : Int32)) rfl ?_
    refine own_daload K own_d4_583 H81 (i := 3) rfl (q := 2) (by decide) (rfl) ?_
    refine own_dcmp K own_d4_584 ?_
    refine own_ifne K own_d4_585 (fun q => absurd q (fun z => z (dcmpV_self ((hv2.fin (by decide)).noNaN) _))) (fun _ => ?_)
    refine own_aload K own_d4_588 rfl rfl ?_
    refine own_iconst K own_d4_590 (v := (3 : Int32)) rfl ?_
    refine own_daload K own_d4_591 H81 (i := 2) rfl (q := 3) (by decide) (rfl) ?_
    refine own_aload K own_d4_592 rfl rfl ?_
    refine own_iconst K own_d4_594 (v := (3 : Int32)) rfl ?_
    refine own_daload K own_d4_595 H81 (i := 3) rfl (q := 3) (by decide) (rfl) ?_
    refine own_dcmp K own_d4_596 ?_
    refine own_ifne K own_d4_597 (fun q => absurd q (fun z => z (dcmpV_self ((hv3.fin (by decide)).noNaN) _))) (fun _ => ?_)
    refine own_iconst K own_d4_600 (v := (1 : Int32)) rfl ?_
    refine own_goto K own_d4_601 ?_
    refine own_istore K own_d4_605 (Ls' := #[.val (.long sl), .second, .val (.long vl), .second, .val (.int ic), .val (.int ct), .val (.int (1 : Int32)), .val (.int tt), .val (.double ss), .second, .val (.double vz), .second, .val (.double (4562146422526312448 : UInt64)), .second, .val (.ref a9), .val (.ref a12), .val (.ref a15), .val (.ref a18), .val (.ref a21), .val (.ref a24), .val (.int (1 : Int32)), .val (.int (1 : Int32)), .val (.int (1 : Int32))]) rfl ?_
    refine own_iload K own_d4_607 rfl ?_
    refine own_ifeq K own_d4_609 (fun q => absurd q (by decide)) (fun _ => ?_)
    refine own_iload K own_d4_612 rfl ?_
    refine own_ifeq K own_d4_614 (fun q => absurd q (by decide)) (fun _ => ?_)
    refine own_iload K own_d4_617 rfl ?_
    refine own_ifeq K own_d4_619 (fun q => absurd q (by decide)) (fun _ => ?_)
    refine own_iconst K own_d4_622 (v := (1 : Int32)) rfl ?_
    refine own_goto K own_d4_623 ?_
    exact own_retZ K (by first | exact Or.inl rfl | exact Or.inr rfl | decide) own_d4_627 (by decide) (by decide) (rfl)
  · obtain ⟨rfl, qt⟩ := q
    rw [show (2 : Int32).toInt = 2 from rfl] at qt
    have k0 : ¬ ((2 : Int32).toInt ≤ 0 ∧ 0 < tt.toInt) := by rw [show (2 : Int32).toInt = 2 from rfl]; omega
    have k1 : ¬ ((2 : Int32).toInt ≤ 1 ∧ 1 < tt.toInt) := by rw [show (2 : Int32).toInt = 2 from rfl]; omega
    have k2 : ¬ ((2 : Int32).toInt ≤ 2 ∧ 2 < tt.toInt) := by rw [show (2 : Int32).toInt = 2 from rfl]; omega
    have k3 : ¬ ((2 : Int32).toInt ≤ 3 ∧ 3 < tt.toInt) := by rw [show (2 : Int32).toInt = 2 from rfl]; omega
    have H82 := H79
    simp only [if_neg k0, if_neg k1, if_neg k2, if_neg k3] at H82
    replace H82 : own_H Z h76 ([]) ((a9, .double, "[D", [(.double s0), (.double s1), (.double s2), (.double s3)]) :: (a12, .double, "[D", [(.double c0), (.double c1), (.double c2), (.double c3)]) :: (a15, .double, "[D", [(.double v0), (.double v1), (.double v2), (.double v3)]) :: (a24, .double, "[D", [(.double v0), (.double v1), (.double v2), (.double v3)]) :: (a21, .double, "[D", [(.double c0), (.double c1), (.double c2), (.double c3)]) :: (a18, .double, "[D", [(.double s0), (.double s1), (.double s2), (.double s3)]) :: []) := H82
    refine own_iload K own_d4_347 rfl ?_
    refine own_ifgt K own_d4_349 (fun _ => ?_) (fun q => absurd (by decide) q)
    refine own_iload K own_d4_370 rfl ?_
    refine own_iconst K own_d4_372 (v := (1 : Int32)) rfl ?_
    refine own_icmpgt K own_d4_373 (fun _ => ?_) (fun q => absurd (by decide) q)
    refine own_iload K own_d4_394 rfl ?_
    refine own_iconst K own_d4_396 (v := (2 : Int32)) rfl ?_
    refine own_icmpgt K own_d4_397 (fun q => absurd q (by decide)) (fun _ => ?_)
    refine own_iconst K own_d4_400 (v := (2 : Int32)) rfl ?_
    refine own_iload K own_d4_401 rfl ?_
    refine own_icmpge K own_d4_403 (fun _ => ?_) (fun q => absurd (by rw [show ((2 : Int32) : Int32).toInt = 2 from rfl]; omega) q)
    refine own_iload K own_d4_418 rfl ?_
    refine own_iconst K own_d4_420 (v := (3 : Int32)) rfl ?_
    refine own_icmpgt K own_d4_421 (fun q => absurd q (by decide)) (fun _ => ?_)
    refine own_iconst K own_d4_424 (v := (3 : Int32)) rfl ?_
    refine own_iload K own_d4_425 rfl ?_
    refine own_icmpge K own_d4_427 (fun _ => ?_) (fun q => absurd (by rw [show ((3 : Int32) : Int32).toInt = 3 from rfl]; omega) q)
    refine own_aload K own_d4_442 rfl rfl ?_
    refine own_iconst K own_d4_444 (v := (0 : Int32)) rfl ?_
    refine own_daload K own_d4_445 H82 (i := 0) rfl (q := 0) (by decide) (rfl) ?_
    refine own_aload K own_d4_446 rfl rfl ?_
    refine own_iconst K own_d4_448 (v := (0 : Int32)) rfl ?_
    refine own_daload K own_d4_449 H82 (i := 5) rfl (q := 0) (by decide) (rfl) ?_
    refine own_dcmp K own_d4_450 ?_
    refine own_ifne K own_d4_451 (fun q => absurd q (fun z => z (dcmpV_self ((hs0.fin (by decide)).noNaN) _))) (fun _ => ?_)
    refine own_aload K own_d4_454 rfl rfl ?_
    refine own_iconst K own_d4_456 (v := (1 : Int32)) rfl ?_
    refine own_daload K own_d4_457 H82 (i := 0) rfl (q := 1) (by decide) (rfl) ?_
    refine own_aload K own_d4_458 rfl rfl ?_
    refine own_iconst K own_d4_460 (v := (1 : Int32)) rfl ?_
    refine own_daload K own_d4_461 H82 (i := 5) rfl (q := 1) (by decide) (rfl) ?_
    refine own_dcmp K own_d4_462 ?_
    refine own_ifne K own_d4_463 (fun q => absurd q (fun z => z (dcmpV_self ((hs1.fin (by decide)).noNaN) _))) (fun _ => ?_)
    refine own_aload K own_d4_466 rfl rfl ?_
    refine own_iconst K own_d4_468 (v := (2 : Int32)) rfl ?_
    refine own_daload K own_d4_469 H82 (i := 0) rfl (q := 2) (by decide) (rfl) ?_
    refine own_aload K own_d4_470 rfl rfl ?_
    refine own_iconst K own_d4_472 (v := (2 : Int32)) rfl ?_
    refine own_daload K own_d4_473 H82 (i := 5) rfl (q := 2) (by decide) (rfl) ?_
    refine own_dcmp K own_d4_474 ?_
    refine own_ifne K own_d4_475 (fun q => absurd q (fun z => z (dcmpV_self ((hs2.fin (by decide)).noNaN) _))) (fun _ => ?_)
    refine own_aload K own_d4_478 rfl rfl ?_
    refine own_iconst K own_d4_480 (v := (3 : Int32)) rfl ?_
    refine own_daload K own_d4_481 H82 (i := 0) rfl (q := 3) (by decide) (rfl) ?_
    refine own_aload K own_d4_482 rfl rfl ?_
    refine own_iconst K own_d4_484 (v := (3 : Int32)) rfl ?_
    refine own_daload K own_d4_485 H82 (i := 5) rfl (q := 3) (by decide) (rfl) ?_
    refine own_dcmp K own_d4_486 ?_
    refine own_ifne K own_d4_487 (fun q => absurd q (fun z => z (dcmpV_self ((hs3.fin (by decide)).noNaN) _))) (fun _ => ?_)
    refine own_iconst K own_d4_490 (v := (1 : Int32)) rfl ?_
    refine own_goto K own_d4_491 ?_
    refine own_istore K own_d4_495 (Ls' := #[.val (.long sl), .second, .val (.long vl), .second, .val (.int ic), .val (.int ct), .val (.int (2 : Int32)), .val (.int tt), .val (.double ss), .second, .val (.double vz), .second, .val (.double (4562146422526312448 : UInt64)), .second, .val (.ref a9), .val (.ref a12), .val (.ref a15), .val (.ref a18), .val (.ref a21), .val (.ref a24), .val (.int (1 : Int32)), .unset, .unset]) rfl ?_
    refine own_aload K own_d4_497 rfl rfl ?_
    refine own_iconst K own_d4_499 (v := (0 : Int32)) rfl ?_
    refine own_daload K own_d4_500 H82 (i := 1) rfl (q := 0) (by decide) (rfl) ?_
    refine own_aload K own_d4_501 rfl rfl ?_
    refine own_iconst K own_d4_503 (v := (0 : Int32)) rfl ?_
    refine own_daload K own_d4_504 H82 (i := 4) rfl (q := 0) (by decide) (rfl) ?_
    refine own_dcmp K own_d4_505 ?_
    refine own_ifne K own_d4_506 (fun q => absurd q (fun z => z (dcmpV_self ((hc0.fin (by decide)).noNaN) _))) (fun _ => ?_)
    refine own_aload K own_d4_509 rfl rfl ?_
    refine own_iconst K own_d4_511 (v := (1 : Int32)) rfl ?_
    refine own_daload K own_d4_512 H82 (i := 1) rfl (q := 1) (by decide) (rfl) ?_
    refine own_aload K own_d4_513 rfl rfl ?_
    refine own_iconst K own_d4_515 (v := (1 : Int32)) rfl ?_
    refine own_daload K own_d4_516 H82 (i := 4) rfl (q := 1) (by decide) (rfl) ?_
    refine own_dcmp K own_d4_517 ?_
    refine own_ifne K own_d4_518 (fun q => absurd q (fun z => z (dcmpV_self ((hc1.fin (by decide)).noNaN) _))) (fun _ => ?_)
    refine own_aload K own_d4_521 rfl rfl ?_
    refine own_iconst K own_d4_523 (v := (2 : Int32)) rfl ?_
    refine own_daload K own_d4_524 H82 (i := 1) rfl (q := 2) (by decide) (rfl) ?_
    refine own_aload K own_d4_525 rfl rfl ?_
    refine own_iconst K own_d4_527 (v := (2 : Int32)) rfl ?_
    refine own_daload K own_d4_528 H82 (i := 4) rfl (q := 2) (by decide) (rfl) ?_
    refine own_dcmp K own_d4_529 ?_
    refine own_ifne K own_d4_530 (fun q => absurd q (fun z => z (dcmpV_self ((hc2.fin (by decide)).noNaN) _))) (fun _ => ?_)
    refine own_aload K own_d4_533 rfl rfl ?_
    refine own_iconst K own_d4_535 (v := (3 : Int32)) rfl ?_
    refine own_daload K own_d4_536 H82 (i := 1) rfl (q := 3) (by decide) (rfl) ?_
    refine own_aload K own_d4_537 rfl rfl ?_
    refine own_iconst K own_d4_539 (v := (3 : Int32)) rfl ?_
    refine own_daload K own_d4_540 H82 (i := 4) rfl (q := 3) (by decide) (rfl) ?_
    refine own_dcmp K own_d4_541 ?_
    refine own_ifne K own_d4_542 (fun q => absurd q (fun z => z (dcmpV_self ((hc3.fin (by decide)).noNaN) _))) (fun _ => ?_)
    refine own_iconst K own_d4_545 (v := (1 : Int32)) rfl ?_
    refine own_goto K own_d4_546 ?_
    refine own_istore K own_d4_550 (Ls' := #[.val (.long sl), .second, .val (.long vl), .second, .val (.int ic), .val (.int ct), .val (.int (2 : Int32)), .val (.int tt), .val (.double ss), .second, .val (.double vz), .second, .val (.double (4562146422526312448 : UInt64)), .second, .val (.ref a9), .val (.ref a12), .val (.ref a15), .val (.ref a18), .val (.ref a21), .val (.ref a24), .val (.int (1 : Int32)), .val (.int (1 : Int32)), .unset]) rfl ?_
    refine own_aload K own_d4_552 rfl rfl ?_
    refine own_iconst K own_d4_554 (v := (0 : Int32)) rfl ?_
    refine own_daload K own_d4_555 H82 (i := 2) rfl (q := 0) (by decide) (rfl) ?_
    refine own_aload K own_d4_556 rfl rfl ?_
    refine own_iconst K own_d4_558 (v := (0 : Int32)) rfl ?_
    refine own_daload K own_d4_559 H82 (i := 3) rfl (q := 0) (by decide) (rfl) ?_
    refine own_dcmp K own_d4_560 ?_
    refine own_ifne K own_d4_561 (fun q => absurd q (fun z => z (dcmpV_self ((hv0.fin (by decide)).noNaN) _))) (fun _ => ?_)
    refine own_aload K own_d4_564 rfl rfl ?_
    refine own_iconst K own_d4_566 (v := (1 : Int32)) rfl ?_
    refine own_daload K own_d4_567 H82 (i := 2) rfl (q := 1) (by decide) (rfl) ?_
    refine own_aload K own_d4_568 rfl rfl ?_
    refine own_iconst K own_d4_570 (v := (1 : Int32)) rfl ?_
    refine own_daload K own_d4_571 H82 (i := 3) rfl (q := 1) (by decide) (rfl) ?_
    refine own_dcmp K own_d4_572 ?_
    refine own_ifne K own_d4_573 (fun q => absurd q (fun z => z (dcmpV_self ((hv1.fin (by decide)).noNaN) _))) (fun _ => ?_)
    refine own_aload K own_d4_576 rfl rfl ?_
    refine own_iconst K own_d4_578 (v := (2 : Int32)) rfl ?_
    refine own_daload K own_d4_579 H82 (i := 2) rfl (q := 2) (by decide) (rfl) ?_
    refine own_aload K own_d4_580 rfl rfl ?_
    refine own_iconst K own_d4_582 (v := (2 : Int32)) rfl ?_
    refine own_daload K own_d4_583 H82 (i := 3) rfl (q := 2) (by decide) (rfl) ?_
    refine own_dcmp K own_d4_584 ?_
    refine own_ifne K own_d4_585 (fun q => absurd q (fun z => z (dcmpV_self ((hv2.fin (by decide)).noNaN) _))) (fun _ => ?_)
    refine own_aload K own_d4_588 rfl rfl ?_
    refine own_iconst K own_d4_590 (v := (3 : Int32)) rfl ?_
    refine own_daload K own_d4_591 H82 (i := 2) rfl (q := 3) (by decide) (rfl) ?_
    refine own_aload K own_d4_592 rfl rfl ?_
    refine own_iconst K own_d4_594 (v := (3 : Int32)) rfl ?_
    refine own_daload K own_d4_595 H82 (i := 3) rfl (q := 3) (by decide) (rfl) ?_
    refine own_dcmp K own_d4_596 ?_
    refine own_ifne K own_d4_597 (fun q => absurd q (fun z => z (dcmpV_self ((hv3.fin (by decide)).noNaN) _))) (fun _ => ?_)
    refine own_iconst K own_d4_600 (v := (1 : Int32)) rfl ?_
    refine own_goto K own_d4_601 ?_
    refine own_istore K own_d4_605 (Ls' := #[.val (.long sl), .second, .val (.long vl), .second, .val (.int ic), .val (.int ct), .val (.int (2 : Int32)), .val (.int tt), .val (.double ss), .second, .val (.double vz), .second, .val (.double (4562146422526312448 : UInt64)), .second, .val (.ref a9), .val (.ref a12), .val (.ref a15), .val (.ref a18), .val (.ref a21), .val (.ref a24), .val (.int (1 : Int32)), .val (.int (1 : Int32)), .val (.int (1 : Int32))]) rfl ?_
    refine own_iload K own_d4_607 rfl ?_
    refine own_ifeq K own_d4_609 (fun q => absurd q (by decide)) (fun _ => ?_)
    refine own_iload K own_d4_612 rfl ?_
    refine own_ifeq K own_d4_614 (fun q => absurd q (by decide)) (fun _ => ?_)
    refine own_iload K own_d4_617 rfl ?_
    refine own_ifeq K own_d4_619 (fun q => absurd q (by decide)) (fun _ => ?_)
    refine own_iconst K own_d4_622 (v := (1 : Int32)) rfl ?_
    refine own_goto K own_d4_623 ?_
    exact own_retZ K (by first | exact Or.inl rfl | exact Or.inr rfl | decide) own_d4_627 (by decide) (by decide) (rfl)
  · obtain ⟨rfl, qt⟩ := q
    rw [show (3 : Int32).toInt = 3 from rfl] at qt
    have k0 : ¬ ((3 : Int32).toInt ≤ 0 ∧ 0 < tt.toInt) := by rw [show (3 : Int32).toInt = 3 from rfl]; omega
    have k1 : ¬ ((3 : Int32).toInt ≤ 1 ∧ 1 < tt.toInt) := by rw [show (3 : Int32).toInt = 3 from rfl]; omega
    have k2 : ¬ ((3 : Int32).toInt ≤ 2 ∧ 2 < tt.toInt) := by rw [show (3 : Int32).toInt = 3 from rfl]; omega
    have k3 : ¬ ((3 : Int32).toInt ≤ 3 ∧ 3 < tt.toInt) := by rw [show (3 : Int32).toInt = 3 from rfl]; omega
    have H83 := H79
    simp only [if_neg k0, if_neg k1, if_neg k2, if_neg k3] at H83
    replace H83 : own_H Z h76 ([]) ((a9, .double, "[D", [(.double s0), (.double s1), (.double s2), (.double s3)]) :: (a12, .double, "[D", [(.double c0), (.double c1), (.double c2), (.double c3)]) :: (a15, .double, "[D", [(.double v0), (.double v1), (.double v2), (.double v3)]) :: (a24, .double, "[D", [(.double v0), (.double v1), (.double v2), (.double v3)]) :: (a21, .double, "[D", [(.double c0), (.double c1), (.double c2), (.double c3)]) :: (a18, .double, "[D", [(.double s0), (.double s1), (.double s2), (.double s3)]) :: []) := H83
    refine own_iload K own_d4_347 rfl ?_
    refine own_ifgt K own_d4_349 (fun _ => ?_) (fun q => absurd (by decide) q)
    refine own_iload K own_d4_370 rfl ?_
    refine own_iconst K own_d4_372 (v := (1 : Int32)) rfl ?_
    refine own_icmpgt K own_d4_373 (fun _ => ?_) (fun q => absurd (by decide) q)
    refine own_iload K own_d4_394 rfl ?_
    refine own_iconst K own_d4_396 (v := (2 : Int32)) rfl ?_
    refine own_icmpgt K own_d4_397 (fun _ => ?_) (fun q => absurd (by decide) q)
    refine own_iload K own_d4_418 rfl ?_
    refine own_iconst K own_d4_420 (v := (3 : Int32)) rfl ?_
    refine own_icmpgt K own_d4_421 (fun q => absurd q (by decide)) (fun _ => ?_)
    refine own_iconst K own_d4_424 (v := (3 : Int32)) rfl ?_
    refine own_iload K own_d4_425 rfl ?_
    refine own_icmpge K own_d4_427 (fun _ => ?_) (fun q => absurd (by rw [show ((3 : Int32) : Int32).toInt = 3 from rfl]; omega) q)
    refine own_aload K own_d4_442 rfl rfl ?_
    refine own_iconst K own_d4_444 (v := (0 : Int32)) rfl ?_
    refine own_daload K own_d4_445 H83 (i := 0) rfl (q := 0) (by decide) (rfl) ?_
    refine own_aload K own_d4_446 rfl rfl ?_
    refine own_iconst K own_d4_448 (v := (0 : Int32)) rfl ?_
    refine own_daload K own_d4_449 H83 (i := 5) rfl (q := 0) (by decide) (rfl) ?_
    refine own_dcmp K own_d4_450 ?_
    refine own_ifne K own_d4_451 (fun q => absurd q (fun z => z (dcmpV_self ((hs0.fin (by decide)).noNaN) _))) (fun _ => ?_)
    refine own_aload K own_d4_454 rfl rfl ?_
    refine own_iconst K own_d4_456 (v := (1 : Int32)) rfl ?_
    refine own_daload K own_d4_457 H83 (i := 0) rfl (q := 1) (by decide) (rfl) ?_
    refine own_aload K own_d4_458 rfl rfl ?_
    refine own_iconst K own_d4_460 (v := (1 : Int32)) rfl ?_
    refine own_daload K own_d4_461 H83 (i := 5) rfl (q := 1) (by decide) (rfl) ?_
    refine own_dcmp K own_d4_462 ?_
    refine own_ifne K own_d4_463 (fun q => absurd q (fun z => z (dcmpV_self ((hs1.fin (by decide)).noNaN) _))) (fun _ => ?_)
    refine own_aload K own_d4_466 rfl rfl ?_
    refine own_iconst K own_d4_468 (v := (2 : Int32)) rfl ?_
    refine own_daload K own_d4_469 H83 (i := 0) rfl (q := 2) (by decide) (rfl) ?_
    refine own_aload K own_d4_470 rfl rfl ?_
    refine own_iconst K own_d4_472 (v := (2 : Int32)) rfl ?_
    refine own_daload K own_d4_473 H83 (i := 5) rfl (q := 2) (by decide) (rfl) ?_
    refine own_dcmp K own_d4_474 ?_
    refine own_ifne K own_d4_475 (fun q => absurd q (fun z => z (dcmpV_self ((hs2.fin (by decide)).noNaN) _))) (fun _ => ?_)
    refine own_aload K own_d4_478 rfl rfl ?_
    refine own_iconst K own_d4_480 (v := (3 : Int32)) rfl ?_
    refine own_daload K own_d4_481 H83 (i := 0) rfl (q := 3) (by decide) (rfl) ?_
    refine own_aload K own_d4_482 rfl rfl ?_
    refine own_iconst K own_d4_484 (v := (3 : Int32)) rfl ?_
    refine own_daload K own_d4_485 H83 (i := 5) rfl (q := 3) (by decide) (rfl) ?_
    refine own_dcmp K own_d4_486 ?_
    refine own_ifne K own_d4_487 (fun q => absurd q (fun z => z (dcmpV_self ((hs3.fin (by decide)).noNaN) _))) (fun _ => ?_)
    refine own_iconst K own_d4_490 (v := (1 : Int32)) rfl ?_
    refine own_goto K own_d4_491 ?_
    refine own_istore K own_d4_495 (Ls' := #[.val (.long sl), .second, .val (.long vl), .second, .val (.int ic), .val (.int ct), .val (.int (3 : Int32)), .val (.int tt), .val (.double ss), .second, .val (.double vz), .second, .val (.double (4562146422526312448 : UInt64)), .second, .val (.ref a9), .val (.ref a12), .val (.ref a15), .val (.ref a18), .val (.ref a21), .val (.ref a24), .val (.int (1 : Int32)), .unset, .unset]) rfl ?_
    refine own_aload K own_d4_497 rfl rfl ?_
    refine own_iconst K own_d4_499 (v := (0 : Int32)) rfl ?_
    refine own_daload K own_d4_500 H83 (i := 1) rfl (q := 0) (by decide) (rfl) ?_
    refine own_aload K own_d4_501 rfl rfl ?_
    refine own_iconst K own_d4_503 (v := (0 : Int32)) rfl ?_
    refine own_daload K own_d4_504 H83 (i := 4) rfl (q := 0) (by decide) (rfl) ?_
    refine own_dcmp K own_d4_505 ?_
    refine own_ifne K own_d4_506 (fun q => absurd q (fun z => z (dcmpV_self ((hc0.fin (by decide)).noNaN) _))) (fun _ => ?_)
    refine own_aload K own_d4_509 rfl rfl ?_
    refine own_iconst K own_d4_511 (v := (1 : Int32)) rfl ?_
    refine own_daload K own_d4_512 H83 (i := 1) rfl (q := 1) (by decide) (rfl) ?_
    refine own_aload K own_d4_513 rfl rfl ?_
    refine own_iconst K own_d4_515 (v := (1 : Int32)) rfl ?_
    refine own_daload K own_d4_516 H83 (i := 4) rfl (q := 1) (by decide) (rfl) ?_
    refine own_dcmp K own_d4_517 ?_
    refine own_ifne K own_d4_518 (fun q => absurd q (fun z => z (dcmpV_self ((hc1.fin (by decide)).noNaN) _))) (fun _ => ?_)
    refine own_aload K own_d4_521 rfl rfl ?_
    refine own_iconst K own_d4_523 (v := (2 : Int32)) rfl ?_
    refine own_daload K own_d4_524 H83 (i := 1) rfl (q := 2) (by decide) (rfl) ?_
    refine own_aload K own_d4_525 rfl rfl ?_
    refine own_iconst K own_d4_527 (v := (2 : Int32)) rfl ?_
    refine own_daload K own_d4_528 H83 (i := 4) rfl (q := 2) (by decide) (rfl) ?_
    refine own_dcmp K own_d4_529 ?_
    refine own_ifne K own_d4_530 (fun q => absurd q (fun z => z (dcmpV_self ((hc2.fin (by decide)).noNaN) _))) (fun _ => ?_)
    refine own_aload K own_d4_533 rfl rfl ?_
    refine own_iconst K own_d4_535 (v := (3 : Int32)) rfl ?_
    refine own_daload K own_d4_536 H83 (i := 1) rfl (q := 3) (by decide) (rfl) ?_
    refine own_aload K own_d4_537 rfl rfl ?_
    refine own_iconst K own_d4_539 (v := (3 : Int32)) rfl ?_
    refine own_daload K own_d4_540 H83 (i := 4) rfl (q := 3) (by decide) (rfl) ?_
    refine own_dcmp K own_d4_541 ?_
    refine own_ifne K own_d4_542 (fun q => absurd q (fun z => z (dcmpV_self ((hc3.fin (by decide)).noNaN) _))) (fun _ => ?_)
    refine own_iconst K own_d4_545 (v := (1 : Int32)) rfl ?_
    refine own_goto K own_d4_546 ?_
    refine own_istore K own_d4_550 (Ls' := #[.val (.long sl), .second, .val (.long vl), .second, .val (.int ic), .val (.int ct), .val (.int (3 : Int32)), .val (.int tt), .val (.double ss), .second, .val (.double vz), .second, .val (.double (4562146422526312448 : UInt64)), .second, .val (.ref a9), .val (.ref a12), .val (.ref a15), .val (.ref a18), .val (.ref a21), .val (.ref a24), .val (.int (1 : Int32)), .val (.int (1 : Int32)), .unset]) rfl ?_
    refine own_aload K own_d4_552 rfl rfl ?_
    refine own_iconst K own_d4_554 (v := (0 : Int32)) rfl ?_
    refine own_daload K own_d4_555 H83 (i := 2) rfl (q := 0) (by decide) (rfl) ?_
    refine own_aload K own_d4_556 rfl rfl ?_
    refine own_iconst K own_d4_558 (v := (0 : Int32)) rfl ?_
    refine own_daload K own_d4_559 H83 (i := 3) rfl (q := 0) (by decide) (rfl) ?_
    refine own_dcmp K own_d4_560 ?_
    refine own_ifne K own_d4_561 (fun q => absurd q (fun z => z (dcmpV_self ((hv0.fin (by decide)).noNaN) _))) (fun _ => ?_)
    refine own_aload K own_d4_564 rfl rfl ?_
    refine own_iconst K own_d4_566 (v := (1 : Int32)) rfl ?_
    refine own_daload K own_d4_567 H83 (i := 2) rfl (q := 1) (by decide) (rfl) ?_
    refine own_aload K own_d4_568 rfl rfl ?_
    refine own_iconst K own_d4_570 (v := (1 : Int32)) rfl ?_
    refine own_daload K own_d4_571 H83 (i := 3) rfl (q := 1) (by decide) (rfl) ?_
    refine own_dcmp K own_d4_572 ?_
    refine own_ifne K own_d4_573 (fun q => absurd q (fun z => z (dcmpV_self ((hv1.fin (by decide)).noNaN) _))) (fun _ => ?_)
    refine own_aload K own_d4_576 rfl rfl ?_
    refine own_iconst K own_d4_578 (v := (2 : Int32)) rfl ?_
    refine own_daload K own_d4_579 H83 (i := 2) rfl (q := 2) (by decide) (rfl) ?_
    refine own_aload K own_d4_580 rfl rfl ?_
    refine own_iconst K own_d4_582 (v := (2 : Int32)) rfl ?_
    refine own_daload K own_d4_583 H83 (i := 3) rfl (q := 2) (by decide) (rfl) ?_
    refine own_dcmp K own_d4_584 ?_
    refine own_ifne K own_d4_585 (fun q => absurd q (fun z => z (dcmpV_self ((hv2.fin (by decide)).noNaN) _))) (fun _ => ?_)
    refine own_aload K own_d4_588 rfl rfl ?_
    refine own_iconst K own_d4_590 (v := (3 : Int32)) rfl ?_
    refine own_daload K own_d4_591 H83 (i := 2) rfl (q := 3) (by decide) (rfl) ?_
    refine own_aload K own_d4_592 rfl rfl ?_
    refine own_iconst K own_d4_594 (v := (3 : Int32)) rfl ?_
    refine own_daload K own_d4_595 H83 (i := 3) rfl (q := 3) (by decide) (rfl) ?_
    refine own_dcmp K own_d4_596 ?_
    refine own_ifne K own_d4_597 (fun q => absurd q (fun z => z (dcmpV_self ((hv3.fin (by decide)).noNaN) _))) (fun _ => ?_)
    refine own_iconst K own_d4_600 (v := (1 : Int32)) rfl ?_
    refine own_goto K own_d4_601 ?_
    refine own_istore K own_d4_605 (Ls' := #[.val (.long sl), .second, .val (.long vl), .second, .val (.int ic), .val (.int ct), .val (.int (3 : Int32)), .val (.int tt), .val (.double ss), .second, .val (.double vz), .second, .val (.double (4562146422526312448 : UInt64)), .second, .val (.ref a9), .val (.ref a12), .val (.ref a15), .val (.ref a18), .val (.ref a21), .val (.ref a24), .val (.int (1 : Int32)), .val (.int (1 : Int32)), .val (.int (1 : Int32))]) rfl ?_
    refine own_iload K own_d4_607 rfl ?_
    refine own_ifeq K own_d4_609 (fun q => absurd q (by decide)) (fun _ => ?_)
    refine own_iload K own_d4_612 rfl ?_
    refine own_ifeq K own_d4_614 (fun q => absurd q (by decide)) (fun _ => ?_)
    refine own_iload K own_d4_617 rfl ?_
    refine own_ifeq K own_d4_619 (fun q => absurd q (by decide)) (fun _ => ?_)
    refine own_iconst K own_d4_622 (v := (1 : Int32)) rfl ?_
    refine own_goto K own_d4_623 ?_
    exact own_retZ K (by first | exact Or.inl rfl | exact Or.inr rfl | decide) own_d4_627 (by decide) (by decide) (rfl)
  · obtain ⟨rfl, qt⟩ := q
    rw [show (4 : Int32).toInt = 4 from rfl] at qt
    have k0 : ¬ ((4 : Int32).toInt ≤ 0 ∧ 0 < tt.toInt) := by rw [show (4 : Int32).toInt = 4 from rfl]; omega
    have k1 : ¬ ((4 : Int32).toInt ≤ 1 ∧ 1 < tt.toInt) := by rw [show (4 : Int32).toInt = 4 from rfl]; omega
    have k2 : ¬ ((4 : Int32).toInt ≤ 2 ∧ 2 < tt.toInt) := by rw [show (4 : Int32).toInt = 4 from rfl]; omega
    have k3 : ¬ ((4 : Int32).toInt ≤ 3 ∧ 3 < tt.toInt) := by rw [show (4 : Int32).toInt = 4 from rfl]; omega
    have H84 := H79
    simp only [if_neg k0, if_neg k1, if_neg k2, if_neg k3] at H84
    replace H84 : own_H Z h76 ([]) ((a9, .double, "[D", [(.double s0), (.double s1), (.double s2), (.double s3)]) :: (a12, .double, "[D", [(.double c0), (.double c1), (.double c2), (.double c3)]) :: (a15, .double, "[D", [(.double v0), (.double v1), (.double v2), (.double v3)]) :: (a24, .double, "[D", [(.double v0), (.double v1), (.double v2), (.double v3)]) :: (a21, .double, "[D", [(.double c0), (.double c1), (.double c2), (.double c3)]) :: (a18, .double, "[D", [(.double s0), (.double s1), (.double s2), (.double s3)]) :: []) := H84
    refine own_iload K own_d4_347 rfl ?_
    refine own_ifgt K own_d4_349 (fun _ => ?_) (fun q => absurd (by decide) q)
    refine own_iload K own_d4_370 rfl ?_
    refine own_iconst K own_d4_372 (v := (1 : Int32)) rfl ?_
    refine own_icmpgt K own_d4_373 (fun _ => ?_) (fun q => absurd (by decide) q)
    refine own_iload K own_d4_394 rfl ?_
    refine own_iconst K own_d4_396 (v := (2 : Int32)) rfl ?_
    refine own_icmpgt K own_d4_397 (fun _ => ?_) (fun q => absurd (by decide) q)
    refine own_iload K own_d4_418 rfl ?_
    refine own_iconst K own_d4_420 (v := (3 : Int32)) rfl ?_
    refine own_icmpgt K own_d4_421 (fun _ => ?_) (fun q => absurd (by decide) q)
    refine own_aload K own_d4_442 rfl rfl ?_
    refine own_iconst K own_d4_444 (v := (0 : Int32)) rfl ?_
    refine own_daload K own_d4_445 H84 (i := 0) rfl (q := 0) (by decide) (rfl) ?_
    refine own_aload K own_d4_446 rfl rfl ?_
    refine own_iconst K own_d4_448 (v := (0 : Int32)) rfl ?_
    refine own_daload K own_d4_449 H84 (i := 5) rfl (q := 0) (by decide) (rfl) ?_
    refine own_dcmp K own_d4_450 ?_
    refine own_ifne K own_d4_451 (fun q => absurd q (fun z => z (dcmpV_self ((hs0.fin (by decide)).noNaN) _))) (fun _ => ?_)
    refine own_aload K own_d4_454 rfl rfl ?_
    refine own_iconst K own_d4_456 (v := (1 : Int32)) rfl ?_
    refine own_daload K own_d4_457 H84 (i := 0) rfl (q := 1) (by decide) (rfl) ?_
    refine own_aload K own_d4_458 rfl rfl ?_
    refine own_iconst K own_d4_460 (v := (1 : Int32)) rfl ?_
    refine own_daload K own_d4_461 H84 (i := 5) rfl (q := 1) (by decide) (rfl) ?_
    refine own_dcmp K own_d4_462 ?_
    refine own_ifne K own_d4_463 (fun q => absurd q (fun z => z (dcmpV_self ((hs1.fin (by decide)).noNaN) _))) (fun _ => ?_)
    refine own_aload K own_d4_466 rfl rfl ?_
    refine own_iconst K own_d4_468 (v := (2 : Int32)) rfl ?_
    refine own_daload K own_d4_469 H84 (i := 0) rfl (q := 2) (by decide) (rfl) ?_
    refine own_aload K own_d4_470 rfl rfl ?_
    refine own_iconst K own_d4_472 (v := (2 : Int32)) rfl ?_
    refine own_daload K own_d4_473 H84 (i := 5) rfl (q := 2) (by decide) (rfl) ?_
    refine own_dcmp K own_d4_474 ?_
    refine own_ifne K own_d4_475 (fun q => absurd q (fun z => z (dcmpV_self ((hs2.fin (by decide)).noNaN) _))) (fun _ => ?_)
    refine own_aload K own_d4_478 rfl rfl ?_
    refine own_iconst K own_d4_480 (v := (3 : Int32)) rfl ?_
    refine own_daload K own_d4_481 H84 (i := 0) rfl (q := 3) (by decide) (rfl) ?_
    refine own_aload K own_d4_482 rfl rfl ?_
    refine own_iconst K own_d4_484 (v := (3 : Int32)) rfl ?_
    refine own_daload K own_d4_485 H84 (i := 5) rfl (q := 3) (by decide) (rfl) ?_
    refine own_dcmp K own_d4_486 ?_
    refine own_ifne K own_d4_487 (fun q => absurd q (fun z => z (dcmpV_self ((hs3.fin (by decide)).noNaN) _))) (fun _ => ?_)
    refine own_iconst K own_d4_490 (v := (1 : Int32)) rfl ?_
    refine own_goto K own_d4_491 ?_
    refine own_istore K own_d4_495 (Ls' := #[.val (.long sl), .second, .val (.long vl), .second, .val (.int ic), .val (.int ct), .val (.int (4 : Int32)), .val (.int tt), .val (.double ss), .second, .val (.double vz), .second, .val (.double (4562146422526312448 : UInt64)), .second, .val (.ref a9), .val (.ref a12), .val (.ref a15), .val (.ref a18), .val (.ref a21), .val (.ref a24), .val (.int (1 : Int32)), .unset, .unset]) rfl ?_
    refine own_aload K own_d4_497 rfl rfl ?_
    refine own_iconst K own_d4_499 (v := (0 : Int32)) rfl ?_
    refine own_daload K own_d4_500 H84 (i := 1) rfl (q := 0) (by decide) (rfl) ?_
    refine own_aload K own_d4_501 rfl rfl ?_
    refine own_iconst K own_d4_503 (v := (0 : Int32)) rfl ?_
    refine own_daload K own_d4_504 H84 (i := 4) rfl (q := 0) (by decide) (rfl) ?_
    refine own_dcmp K own_d4_505 ?_
    refine own_ifne K own_d4_506 (fun q => absurd q (fun z => z (dcmpV_self ((hc0.fin (by decide)).noNaN) _))) (fun _ => ?_)
    refine own_aload K own_d4_509 rfl rfl ?_
    refine own_iconst K own_d4_511 (v := (1 : Int32)) rfl ?_
    refine own_daload K own_d4_512 H84 (i := 1) rfl (q := 1) (by decide) (rfl) ?_
    refine own_aload K own_d4_513 rfl rfl ?_
    refine own_iconst K own_d4_515 (v := (1 : Int32)) rfl ?_
    refine own_daload K own_d4_516 H84 (i := 4) rfl (q := 1) (by decide) (rfl) ?_
    refine own_dcmp K own_d4_517 ?_
    refine own_ifne K own_d4_518 (fun q => absurd q (fun z => z (dcmpV_self ((hc1.fin (by decide)).noNaN) _))) (fun _ => ?_)
    refine own_aload K own_d4_521 rfl rfl ?_
    refine own_iconst K own_d4_523 (v := (2 : Int32)) rfl ?_
    refine own_daload K own_d4_524 H84 (i := 1) rfl (q := 2) (by decide) (rfl) ?_
    refine own_aload K own_d4_525 rfl rfl ?_
    refine own_iconst K own_d4_527 (v := (2 : Int32)) rfl ?_
    refine own_daload K own_d4_528 H84 (i := 4) rfl (q := 2) (by decide) (rfl) ?_
    refine own_dcmp K own_d4_529 ?_
    refine own_ifne K own_d4_530 (fun q => absurd q (fun z => z (dcmpV_self ((hc2.fin (by decide)).noNaN) _))) (fun _ => ?_)
    refine own_aload K own_d4_533 rfl rfl ?_
    refine own_iconst K own_d4_535 (v := (3 : Int32)) rfl ?_
    refine own_daload K own_d4_536 H84 (i := 1) rfl (q := 3) (by decide) (rfl) ?_
    refine own_aload K own_d4_537 rfl rfl ?_
    refine own_iconst K own_d4_539 (v := (3 : Int32)) rfl ?_
    refine own_daload K own_d4_540 H84 (i := 4) rfl (q := 3) (by decide) (rfl) ?_
    refine own_dcmp K own_d4_541 ?_
    refine own_ifne K own_d4_542 (fun q => absurd q (fun z => z (dcmpV_self ((hc3.fin (by decide)).noNaN) _))) (fun _ => ?_)
    refine own_iconst K own_d4_545 (v := (1 : Int32)) rfl ?_
    refine own_goto K own_d4_546 ?_
    refine own_istore K own_d4_550 (Ls' := #[.val (.long sl), .second, .val (.long vl), .second, .val (.int ic), .val (.int ct), .val (.int (4 : Int32)), .val (.int tt), .val (.double ss), .second, .val (.double vz), .second, .val (.double (4562146422526312448 : UInt64)), .second, .val (.ref a9), .val (.ref a12), .val (.ref a15), .val (.ref a18), .val (.ref a21), .val (.ref a24), .val (.int (1 : Int32)), .val (.int (1 : Int32)), .unset]) rfl ?_
    refine own_aload K own_d4_552 rfl rfl ?_
    refine own_iconst K own_d4_554 (v := (0 : Int32)) rfl ?_
    refine own_daload K own_d4_555 H84 (i := 2) rfl (q := 0) (by decide) (rfl) ?_
    refine own_aload K own_d4_556 rfl rfl ?_
    refine own_iconst K own_d4_558 (v := (0 : Int32)) rfl ?_
    refine own_daload K own_d4_559 H84 (i := 3) rfl (q := 0) (by decide) (rfl) ?_
    refine own_dcmp K own_d4_560 ?_
    refine own_ifne K own_d4_561 (fun q => absurd q (fun z => z (dcmpV_self ((hv0.fin (by decide)).noNaN) _))) (fun _ => ?_)
    refine own_aload K own_d4_564 rfl rfl ?_
    refine own_iconst K own_d4_566 (v := (1 : Int32)) rfl ?_
    refine own_daload K own_d4_567 H84 (i := 2) rfl (q := 1) (by decide) (rfl) ?_
    refine own_aload K own_d4_568 rfl rfl ?_
    refine own_iconst K own_d4_570 (v := (1 : Int32)) rfl ?_
    refine own_daload K own_d4_571 H84 (i := 3) rfl (q := 1) (by decide) (rfl) ?_
    refine own_dcmp K own_d4_572 ?_
    refine own_ifne K own_d4_573 (fun q => absurd q (fun z => z (dcmpV_self ((hv1.fin (by decide)).noNaN) _))) (fun _ => ?_)
    refine own_aload K own_d4_576 rfl rfl ?_
    refine own_iconst K own_d4_578 (v := (2 : Int32)) rfl ?_
    refine own_daload K own_d4_579 H84 (i := 2) rfl (q := 2) (by decide) (rfl) ?_
    refine own_aload K own_d4_580 rfl rfl ?_
    refine own_iconst K own_d4_582 (v := (2 : Int32)) rfl ?_
    refine own_daload K own_d4_583 H84 (i := 3) rfl (q := 2) (by decide) (rfl) ?_
    refine own_dcmp K own_d4_584 ?_
    refine own_ifne K own_d4_585 (fun q => absurd q (fun z => z (dcmpV_self ((hv2.fin (by decide)).noNaN) _))) (fun _ => ?_)
    refine own_aload K own_d4_588 rfl rfl ?_
    refine own_iconst K own_d4_590 (v := (3 : Int32)) rfl ?_
    refine own_daload K own_d4_591 H84 (i := 2) rfl (q := 3) (by decide) (rfl) ?_
    refine own_aload K own_d4_592 rfl rfl ?_
    refine own_iconst K own_d4_594 (v := (3 : Int32)) rfl ?_
    refine own_daload K own_d4_595 H84 (i := 3) rfl (q := 3) (by decide) (rfl) ?_
    refine own_dcmp K own_d4_596 ?_
    refine own_ifne K own_d4_597 (fun q => absurd q (fun z => z (dcmpV_self ((hv3.fin (by decide)).noNaN) _))) (fun _ => ?_)
    refine own_iconst K own_d4_600 (v := (1 : Int32)) rfl ?_
    refine own_goto K own_d4_601 ?_
    refine own_istore K own_d4_605 (Ls' := #[.val (.long sl), .second, .val (.long vl), .second, .val (.int ic), .val (.int ct), .val (.int (4 : Int32)), .val (.int tt), .val (.double ss), .second, .val (.double vz), .second, .val (.double (4562146422526312448 : UInt64)), .second, .val (.ref a9), .val (.ref a12), .val (.ref a15), .val (.ref a18), .val (.ref a21), .val (.ref a24), .val (.int (1 : Int32)), .val (.int (1 : Int32)), .val (.int (1 : Int32))]) rfl ?_
    refine own_iload K own_d4_607 rfl ?_
    refine own_ifeq K own_d4_609 (fun q => absurd q (by decide)) (fun _ => ?_)
    refine own_iload K own_d4_612 rfl ?_
    refine own_ifeq K own_d4_614 (fun q => absurd q (by decide)) (fun _ => ?_)
    refine own_iload K own_d4_617 rfl ?_
    refine own_ifeq K own_d4_619 (fun q => absurd q (by decide)) (fun _ => ?_)
    refine own_iconst K own_d4_622 (v := (1 : Int32)) rfl ?_
    refine own_goto K own_d4_623 ?_
    exact own_retZ K (by first | exact Or.inl rfl | exact Or.inr rfl | decide) own_d4_627 (by decide) (by decide) (rfl)
  · obtain ⟨rfl, rfl⟩ := q
    have k0 : ((0 : Int32).toInt ≤ 0 ∧ 0 < (1 : Int32).toInt) := by decide
    have k1 : ¬ ((0 : Int32).toInt ≤ 1 ∧ 1 < (1 : Int32).toInt) := by decide
    have k2 : ¬ ((0 : Int32).toInt ≤ 2 ∧ 2 < (1 : Int32).toInt) := by decide
    have k3 : ¬ ((0 : Int32).toInt ≤ 3 ∧ 3 < (1 : Int32).toInt) := by decide
    have H85 := H79
    simp only [if_pos k0, if_neg k1, if_neg k2, if_neg k3] at H85
    replace H85 : own_H Z h76 ([]) ((a9, .double, "[D", [(.double (FP.dadd s0 v0)), (.double s1), (.double s2), (.double s3)]) :: (a12, .double, "[D", [(.double (FP.dadd c0 (own_er s0 v0))), (.double c1), (.double c2), (.double c3)]) :: (a15, .double, "[D", [(.double v0), (.double v1), (.double v2), (.double v3)]) :: (a24, .double, "[D", [(.double v0), (.double v1), (.double v2), (.double v3)]) :: (a21, .double, "[D", [(.double c0), (.double c1), (.double c2), (.double c3)]) :: (a18, .double, "[D", [(.double s0), (.double s1), (.double s2), (.double s3)]) :: []) := H85
    refine own_iload K own_d4_347 rfl ?_
    refine own_ifgt K own_d4_349 (fun q => absurd q (by decide)) (fun _ => ?_)
    refine own_iconst K own_d4_352 (v := (0 : Int32)) rfl ?_
    refine own_iload K own_d4_353 rfl ?_
    refine own_icmpge K own_d4_355 (fun q => absurd q (by decide)) (fun _ => ?_)
    refine own_aload K own_d4_358 rfl rfl ?_
    refine own_aload K own_d4_360 rfl rfl ?_
    refine own_iconst K own_d4_362 (v := (0 : Int32)) rfl ?_
    refine own_aload K own_d4_363 rfl rfl ?_
    refine own_iconst K own_d4_365 (v := (0 : Int32)) rfl ?_
    refine own_daload K own_d4_366 H85 (i := 3) rfl (q := 0) (by decide) (rfl) ?_
    have H86 := H85.frontA 4 rfl
    replace H86 : own_H Z h76 ([]) ((a21, .double, "[D", [(.double c0), (.double c1), (.double c2), (.double c3)]) :: (a9, .double, "[D", [(.double (FP.dadd s0 v0)), (.double s1), (.double s2), (.double s3)]) :: (a12, .double, "[D", [(.double (FP.dadd c0 (own_er s0 v0))), (.double c1), (.double c2), (.double c3)]) :: (a15, .double, "[D", [(.double v0), (.double v1), (.double v2), (.double v3)]) :: (a24, .double, "[D", [(.double v0), (.double v1), (.double v2), (.double v3)]) :: (a18, .double, "[D", [(.double s0), (.double s1), (.double s2), (.double s3)]) :: []) := H86
    have H87 := H86.frontA 5 rfl
    replace H87 : own_H Z h76 ([]) ((a18, .double, "[D", [(.double s0), (.double s1), (.double s2), (.double s3)]) :: (a21, .double, "[D", [(.double c0), (.double c1), (.double c2), (.double c3)]) :: (a9, .double, "[D", [(.double (FP.dadd s0 v0)), (.double s1), (.double s2), (.double s3)]) :: (a12, .double, "[D", [(.double (FP.dadd c0 (own_er s0 v0))), (.double c1), (.double c2), (.double c3)]) :: (a15, .double, "[D", [(.double v0), (.double v1), (.double v2), (.double v3)]) :: (a24, .double, "[D", [(.double v0), (.double v1), (.double v2), (.double v3)]) :: []) := H87
    refine own_static K own_d4_367 (own_w12 hw) (own_w13 hw) (own_w8 hw) (own_w14 hw) (argsL := [(.ref a18), (.ref a21), (.int (0 : Int32)), (.double v0)]) (rest := []) (own_add0 hw H87 hs0 hv0 hc0) own_pd3 rfl rfl rfl (by decide) (W := 0) (Nat.le_of_eq rfl) (by decide) (by decide) (by decide) (by decide) ?_
    intro v90 h88 q89
    obtain ⟨rfl, H91⟩ := q89
    replace H91 : own_H Z h88 ([]) ((a18, .double, "[D", [(.double (FP.dadd s0 v0)), (.double s1), (.double s2), (.double s3)]) :: (a21, .double, "[D", [(.double (FP.dadd c0 (own_er s0 v0))), (.double c1), (.double c2), (.double c3)]) :: (a9, .double, "[D", [(.double (FP.dadd s0 v0)), (.double s1), (.double s2), (.double s3)]) :: (a12, .double, "[D", [(.double (FP.dadd c0 (own_er s0 v0))), (.double c1), (.double c2), (.double c3)]) :: (a15, .double, "[D", [(.double v0), (.double v1), (.double v2), (.double v3)]) :: (a24, .double, "[D", [(.double v0), (.double v1), (.double v2), (.double v3)]) :: []) := H91
    refine own_iload K own_d4_370 rfl ?_
    refine own_iconst K own_d4_372 (v := (1 : Int32)) rfl ?_
    refine own_icmpgt K own_d4_373 (fun q => absurd q (by decide)) (fun _ => ?_)
    refine own_iconst K own_d4_376 (v := (1 : Int32)) rfl ?_
    refine own_iload K own_d4_377 rfl ?_
    refine own_icmpge K own_d4_379 (fun _ => ?_) (fun q => absurd (by decide) q)
    refine own_iload K own_d4_394 rfl ?_
    refine own_iconst K own_d4_396 (v := (2 : Int32)) rfl ?_
    refine own_icmpgt K own_d4_397 (fun q => absurd q (by decide)) (fun _ => ?_)
    refine own_iconst K own_d4_400 (v := (2 : Int32)) rfl ?_
    refine own_iload K own_d4_401 rfl ?_
    refine own_icmpge K own_d4_403 (fun _ => ?_) (fun q => absurd (by decide) q)
    refine own_iload K own_d4_418 rfl ?_
    refine own_iconst K own_d4_420 (v := (3 : Int32)) rfl ?_
    refine own_icmpgt K own_d4_421 (fun q => absurd q (by decide)) (fun _ => ?_)
    refine own_iconst K own_d4_424 (v := (3 : Int32)) rfl ?_
    refine own_iload K own_d4_425 rfl ?_
    refine own_icmpge K own_d4_427 (fun _ => ?_) (fun q => absurd (by decide) q)
    refine own_aload K own_d4_442 rfl rfl ?_
    refine own_iconst K own_d4_444 (v := (0 : Int32)) rfl ?_
    refine own_daload K own_d4_445 H91 (i := 2) rfl (q := 0) (by decide) (rfl) ?_
    refine own_aload K own_d4_446 rfl rfl ?_
    refine own_iconst K own_d4_448 (v := (0 : Int32)) rfl ?_
    refine own_daload K own_d4_449 H91 (i := 0) rfl (q := 0) (by decide) (rfl) ?_
    refine own_dcmp K own_d4_450 ?_
    refine own_ifne K own_d4_451 (fun q => absurd q (fun z => z (dcmpV_self (((Fl.dadd_mag hs0 hv0 (by decide)).fin (by decide)).noNaN) _))) (fun _ => ?_)
    refine own_aload K own_d4_454 rfl rfl ?_
    refine own_iconst K own_d4_456 (v := (1 : Int32)) rfl ?_
    refine own_daload K own_d4_457 H91 (i := 2) rfl (q := 1) (by decide) (rfl) ?_
    refine own_aload K own_d4_458 rfl rfl ?_
    refine own_iconst K own_d4_460 (v := (1 : Int32)) rfl ?_
    refine own_daload K own_d4_461 H91 (i := 0) rfl (q := 1) (by decide) (rfl) ?_
    refine own_dcmp K own_d4_462 ?_
    refine own_ifne K own_d4_463 (fun q => absurd q (fun z => z (dcmpV_self ((hs1.fin (by decide)).noNaN) _))) (fun _ => ?_)
    refine own_aload K own_d4_466 rfl rfl ?_
    refine own_iconst K own_d4_468 (v := (2 : Int32)) rfl ?_
    refine own_daload K own_d4_469 H91 (i := 2) rfl (q := 2) (by decide) (rfl) ?_
    refine own_aload K own_d4_470 rfl rfl ?_
    refine own_iconst K own_d4_472 (v := (2 : Int32)) rfl ?_
    refine own_daload K own_d4_473 H91 (i := 0) rfl (q := 2) (by decide) (rfl) ?_
    refine own_dcmp K own_d4_474 ?_
    refine own_ifne K own_d4_475 (fun q => absurd q (fun z => z (dcmpV_self ((hs2.fin (by decide)).noNaN) _))) (fun _ => ?_)
    refine own_aload K own_d4_478 rfl rfl ?_
    refine own_iconst K own_d4_480 (v := (3 : Int32)) rfl ?_
    refine own_daload K own_d4_481 H91 (i := 2) rfl (q := 3) (by decide) (rfl) ?_
    refine own_aload K own_d4_482 rfl rfl ?_
    refine own_iconst K own_d4_484 (v := (3 : Int32)) rfl ?_
    refine own_daload K own_d4_485 H91 (i := 0) rfl (q := 3) (by decide) (rfl) ?_
    refine own_dcmp K own_d4_486 ?_
    refine own_ifne K own_d4_487 (fun q => absurd q (fun z => z (dcmpV_self ((hs3.fin (by decide)).noNaN) _))) (fun _ => ?_)
    refine own_iconst K own_d4_490 (v := (1 : Int32)) rfl ?_
    refine own_goto K own_d4_491 ?_
    refine own_istore K own_d4_495 (Ls' := #[.val (.long sl), .second, .val (.long vl), .second, .val (.int ic), .val (.int ct), .val (.int (0 : Int32)), .val (.int (1 : Int32)), .val (.double ss), .second, .val (.double vz), .second, .val (.double (4562146422526312448 : UInt64)), .second, .val (.ref a9), .val (.ref a12), .val (.ref a15), .val (.ref a18), .val (.ref a21), .val (.ref a24), .val (.int (1 : Int32)), .unset, .unset]) rfl ?_
    refine own_aload K own_d4_497 rfl rfl ?_
    refine own_iconst K own_d4_499 (v := (0 : Int32)) rfl ?_
    refine own_daload K own_d4_500 H91 (i := 3) rfl (q := 0) (by decide) (rfl) ?_
    refine own_aload K own_d4_501 rfl rfl ?_
    refine own_iconst K own_d4_503 (v := (0 : Int32)) rfl ?_
    refine own_daload K own_d4_504 H91 (i := 1) rfl (q := 0) (by decide) (rfl) ?_
    refine own_dcmp K own_d4_505 ?_
    refine own_ifne K own_d4_506 (fun q => absurd q (fun z => z (dcmpV_self (((own_e5 hs0 hv0 hc0).fin (by decide)).noNaN) _))) (fun _ => ?_)
    refine own_aload K own_d4_509 rfl rfl ?_
    refine own_iconst K own_d4_511 (v := (1 : Int32)) rfl ?_
    refine own_daload K own_d4_512 H91 (i := 3) rfl (q := 1) (by decide) (rfl) ?_
    refine own_aload K own_d4_513 rfl rfl ?_
    refine own_iconst K own_d4_515 (v := (1 : Int32)) rfl ?_
    refine own_daload K own_d4_516 H91 (i := 1) rfl (q := 1) (by decide) (rfl) ?_
    refine own_dcmp K own_d4_517 ?_
    refine own_ifne K own_d4_518 (fun q => absurd q (fun z => z (dcmpV_self ((hc1.fin (by decide)).noNaN) _))) (fun _ => ?_)
    refine own_aload K own_d4_521 rfl rfl ?_
    refine own_iconst K own_d4_523 (v := (2 : Int32)) rfl ?_
    refine own_daload K own_d4_524 H91 (i := 3) rfl (q := 2) (by decide) (rfl) ?_
    refine own_aload K own_d4_525 rfl rfl ?_
    refine own_iconst K own_d4_527 (v := (2 : Int32)) rfl ?_
    refine own_daload K own_d4_528 H91 (i := 1) rfl (q := 2) (by decide) (rfl) ?_
    refine own_dcmp K own_d4_529 ?_
    refine own_ifne K own_d4_530 (fun q => absurd q (fun z => z (dcmpV_self ((hc2.fin (by decide)).noNaN) _))) (fun _ => ?_)
    refine own_aload K own_d4_533 rfl rfl ?_
    refine own_iconst K own_d4_535 (v := (3 : Int32)) rfl ?_
    refine own_daload K own_d4_536 H91 (i := 3) rfl (q := 3) (by decide) (rfl) ?_
    refine own_aload K own_d4_537 rfl rfl ?_
    refine own_iconst K own_d4_539 (v := (3 : Int32)) rfl ?_
    refine own_daload K own_d4_540 H91 (i := 1) rfl (q := 3) (by decide) (rfl) ?_
    refine own_dcmp K own_d4_541 ?_
    refine own_ifne K own_d4_542 (fun q => absurd q (fun z => z (dcmpV_self ((hc3.fin (by decide)).noNaN) _))) (fun _ => ?_)
    refine own_iconst K own_d4_545 (v := (1 : Int32)) rfl ?_
    refine own_goto K own_d4_546 ?_
    refine own_istore K own_d4_550 (Ls' := #[.val (.long sl), .second, .val (.long vl), .second, .val (.int ic), .val (.int ct), .val (.int (0 : Int32)), .val (.int (1 : Int32)), .val (.double ss), .second, .val (.double vz), .second, .val (.double (4562146422526312448 : UInt64)), .second, .val (.ref a9), .val (.ref a12), .val (.ref a15), .val (.ref a18), .val (.ref a21), .val (.ref a24), .val (.int (1 : Int32)), .val (.int (1 : Int32)), .unset]) rfl ?_
    refine own_aload K own_d4_552 rfl rfl ?_
    refine own_iconst K own_d4_554 (v := (0 : Int32)) rfl ?_
    refine own_daload K own_d4_555 H91 (i := 4) rfl (q := 0) (by decide) (rfl) ?_
    refine own_aload K own_d4_556 rfl rfl ?_
    refine own_iconst K own_d4_558 (v := (0 : Int32)) rfl ?_
    refine own_daload K own_d4_559 H91 (i := 5) rfl (q := 0) (by decide) (rfl) ?_
    refine own_dcmp K own_d4_560 ?_
    refine own_ifne K own_d4_561 (fun q => absurd q (fun z => z (dcmpV_self ((hv0.fin (by decide)).noNaN) _))) (fun _ => ?_)
    refine own_aload K own_d4_564 rfl rfl ?_
    refine own_iconst K own_d4_566 (v := (1 : Int32)) rfl ?_
    refine own_daload K own_d4_567 H91 (i := 4) rfl (q := 1) (by decide) (rfl) ?_
    refine own_aload K own_d4_568 rfl rfl ?_
    refine own_iconst K own_d4_570 (v := (1 : Int32)) rfl ?_
    refine own_daload K own_d4_571 H91 (i := 5) rfl (q := 1) (by decide) (rfl) ?_
    refine own_dcmp K own_d4_572 ?_
    refine own_ifne K own_d4_573 (fun q => absurd q (fun z => z (dcmpV_self ((hv1.fin (by decide)).noNaN) _))) (fun _ => ?_)
    refine own_aload K own_d4_576 rfl rfl ?_
    refine own_iconst K own_d4_578 (v := (2 : Int32)) rfl ?_
    refine own_daload K own_d4_579 H91 (i := 4) rfl (q := 2) (by decide) (rfl) ?_
    refine own_aload K own_d4_580 rfl rfl ?_
    refine own_iconst K own_d4_582 (v := (2 : Int32)) rfl ?_
    refine own_daload K own_d4_583 H91 (i := 5) rfl (q := 2) (by decide) (rfl) ?_
    refine own_dcmp K own_d4_584 ?_
    refine own_ifne K own_d4_585 (fun q => absurd q (fun z => z (dcmpV_self ((hv2.fin (by decide)).noNaN) _))) (fun _ => ?_)
    refine own_aload K own_d4_588 rfl rfl ?_
    refine own_iconst K own_d4_590 (v := (3 : Int32)) rfl ?_
    refine own_daload K own_d4_591 H91 (i := 4) rfl (q := 3) (by decide) (rfl) ?_
    refine own_aload K own_d4_592 rfl rfl ?_
    refine own_iconst K own_d4_594 (v := (3 : Int32)) rfl ?_
    refine own_daload K own_d4_595 H91 (i := 5) rfl (q := 3) (by decide) (rfl) ?_
    refine own_dcmp K own_d4_596 ?_
    refine own_ifne K own_d4_597 (fun q => absurd q (fun z => z (dcmpV_self ((hv3.fin (by decide)).noNaN) _))) (fun _ => ?_)
    refine own_iconst K own_d4_600 (v := (1 : Int32)) rfl ?_
    refine own_goto K own_d4_601 ?_
    refine own_istore K own_d4_605 (Ls' := #[.val (.long sl), .second, .val (.long vl), .second, .val (.int ic), .val (.int ct), .val (.int (0 : Int32)), .val (.int (1 : Int32)), .val (.double ss), .second, .val (.double vz), .second, .val (.double (4562146422526312448 : UInt64)), .second, .val (.ref a9), .val (.ref a12), .val (.ref a15), .val (.ref a18), .val (.ref a21), .val (.ref a24), .val (.int (1 : Int32)), .val (.int (1 : Int32)), .val (.int (1 : Int32))]) rfl ?_
    refine own_iload K own_d4_607 rfl ?_
    refine own_ifeq K own_d4_609 (fun q => absurd q (by decide)) (fun _ => ?_)
    refine own_iload K own_d4_612 rfl ?_
    refine own_ifeq K own_d4_614 (fun q => absurd q (by decide)) (fun _ => ?_)
    refine own_iload K own_d4_617 rfl ?_
    refine own_ifeq K own_d4_619 (fun q => absurd q (by decide)) (fun _ => ?_)
    refine own_iconst K own_d4_622 (v := (1 : Int32)) rfl ?_
    refine own_goto K own_d4_623 ?_
    exact own_retZ K (by first | exact Or.inl rfl | exact Or.inr rfl | decide) own_d4_627 (by decide) (by decide) (rfl)
  · obtain ⟨rfl, rfl⟩ := q
    have k0 : ((0 : Int32).toInt ≤ 0 ∧ 0 < (2 : Int32).toInt) := by decide
    have k1 : ((0 : Int32).toInt ≤ 1 ∧ 1 < (2 : Int32).toInt) := by decide
    have k2 : ¬ ((0 : Int32).toInt ≤ 2 ∧ 2 < (2 : Int32).toInt) := by decide
    have k3 : ¬ ((0 : Int32).toInt ≤ 3 ∧ 3 < (2 : Int32).toInt) := by decide
    have H92 := H79
    simp only [if_pos k0, if_pos k1, if_neg k2, if_neg k3] at H92
    replace H92 : own_H Z h76 ([]) ((a9, .double, "[D", [(.double (FP.dadd s0 v0)), (.double (FP.dadd s1 v1)), (.double s2), (.double s3)]) :: (a12, .double, "[D", [(.double (FP.dadd c0 (own_er s0 v0))), (.double (FP.dadd c1 (own_er s1 v1))), (.double c2), (.double c3)]) :: (a15, .double, "[D", [(.double v0), (.double v1), (.double v2), (.double v3)]) :: (a24, .double, "[D", [(.double v0), (.double v1), (.double v2), (.double v3)]) :: (a21, .double, "[D", [(.double c0), (.double c1), (.double c2), (.double c3)]) :: (a18, .double, "[D", [(.double s0), (.double s1), (.double s2), (.double s3)]) :: []) := H92
    refine own_iload K own_d4_347 rfl ?_
    refine own_ifgt K own_d4_349 (fun q => absurd q (by decide)) (fun _ => ?_)
    refine own_iconst K own_d4_352 (v := (0 : Int32)) rfl ?_
    refine own_iload K own_d4_353 rfl ?_
    refine own_icmpge K own_d4_355 (fun q => absurd q (by decide)) (fun _ => ?_)
    refine own_aload K own_d4_358 rfl rfl ?_
    refine own_aload K own_d4_360 rfl rfl ?_
    refine own_iconst K own_d4_362 (v := (0 : Int32)) rfl ?_
    refine own_aload K own_d4_363 rfl rfl ?_
    refine own_iconst K own_d4_365 (v := (0 : Int32)) rfl ?_
    refine own_daload K own_d4_366 H92 (i := 3) rfl (q := 0) (by decide) (rfl) ?_
    have H93 := H92.frontA 4 rfl
    replace H93 : own_H Z h76 ([]) ((a21, .double, "[D", [(.double c0), (.double c1), (.double c2), (.double c3)]) :: (a9, .double, "[D", [(.double (FP.dadd s0 v0)), (.double (FP.dadd s1 v1)), (.double s2), (.double s3)]) :: (a12, .double, "[D", [(.double (FP.dadd c0 (own_er s0 v0))), (.double (FP.dadd c1 (own_er s1 v1))), (.double c2), (.double c3)]) :: (a15, .double, "[D", [(.double v0), (.double v1), (.double v2), (.double v3)]) :: (a24, .double, "[D", [(.double v0), (.double v1), (.double v2), (.double v3)]) :: (a18, .double, "[D", [(.double s0), (.double s1), (.double s2), (.double s3)]) :: []) := H93
    have H94 := H93.frontA 5 rfl
    replace H94 : own_H Z h76 ([]) ((a18, .double, "[D", [(.double s0), (.double s1), (.double s2), (.double s3)]) :: (a21, .double, "[D", [(.double c0), (.double c1), (.double c2), (.double c3)]) :: (a9, .double, "[D", [(.double (FP.dadd s0 v0)), (.double (FP.dadd s1 v1)), (.double s2), (.double s3)]) :: (a12, .double, "[D", [(.double (FP.dadd c0 (own_er s0 v0))), (.double (FP.dadd c1 (own_er s1 v1))), (.double c2), (.double c3)]) :: (a15, .double, "[D", [(.double v0), (.double v1), (.double v2), (.double v3)]) :: (a24, .double, "[D", [(.double v0), (.double v1), (.double v2), (.double v3)]) :: []) := H94
    refine own_static K own_d4_367 (own_w12 hw) (own_w13 hw) (own_w8 hw) (own_w14 hw) (argsL := [(.ref a18), (.ref a21), (.int (0 : Int32)), (.double v0)]) (rest := []) (own_add0 hw H94 hs0 hv0 hc0) own_pd3 rfl rfl rfl (by decide) (W := 0) (Nat.le_of_eq rfl) (by decide) (by decide) (by decide) (by decide) ?_
    intro v97 h95 q96
    obtain ⟨rfl, H98⟩ := q96
    replace H98 : own_H Z h95 ([]) ((a18, .double, "[D", [(.double (FP.dadd s0 v0)), (.double s1), (.double s2), (.double s3)]) :: (a21, .double, "[D", [(.double (FP.dadd c0 (own_er s0 v0))), (.double c1), (.double c2), (.double c3)]) :: (a9, .double, "[D", [(.double (FP.dadd s0 v0)), (.double (FP.dadd s1 v1)), (.double s2), (.double s3)]) :: (a12, .double, "[D", [(.double (FP.dadd c0 (own_er s0 v0))), (.double (FP.dadd c1 (own_er s1 v1))), (.double c2), (.double c3)]) :: (a15, .double, "[D", [(.double v0), (.double v1), (.double v2), (.double v3)]) :: (a24, .double, "[D", [(.double v0), (.double v1), (.double v2), (.double v3)]) :: []) := H98
    refine own_iload K own_d4_370 rfl ?_
    refine own_iconst K own_d4_372 (v := (1 : Int32)) rfl ?_
    refine own_icmpgt K own_d4_373 (fun q => absurd q (by decide)) (fun _ => ?_)
    refine own_iconst K own_d4_376 (v := (1 : Int32)) rfl ?_
    refine own_iload K own_d4_377 rfl ?_
    refine own_icmpge K own_d4_379 (fun q => absurd q (by decide)) (fun _ => ?_)
    refine own_aload K own_d4_382 rfl rfl ?_
    refine own_aload K own_d4_384 rfl rfl ?_
    refine own_iconst K own_d4_386 (v := (1 : Int32)) rfl ?_
    refine own_aload K own_d4_387 rfl rfl ?_
    refine own_iconst K own_d4_389 (v := (1 : Int32)) rfl ?_
    refine own_daload K own_d4_390 H98 (i := 5) rfl (q := 1) (by decide) (rfl) ?_
    have H99 := H98.frontA 1 rfl
    replace H99 : own_H Z h95 ([]) ((a21, .double, "[D", [(.double (FP.dadd c0 (own_er s0 v0))), (.double c1), (.double c2), (.double c3)]) :: (a18, .double, "[D", [(.double (FP.dadd s0 v0)), (.double s1), (.double s2), (.double s3)]) :: (a9, .double, "[D", [(.double (FP.dadd s0 v0)), (.double (FP.dadd s1 v1)), (.double s2), (.double s3)]) :: (a12, .double, "[D", [(.double (FP.dadd c0 (own_er s0 v0))), (.double (FP.dadd c1 (own_er s1 v1))), (.double c2), (.double c3)]) :: (a15, .double, "[D", [(.double v0), (.double v1), (.double v2), (.double v3)]) :: (a24, .double, "[D", [(.double v0), (.double v1), (.double v2), (.double v3)]) :: []) := H99
    have H100 := H99.frontA 1 rfl
    replace H100 : own_H Z h95 ([]) ((a18, .double, "[D", [(.double (FP.dadd s0 v0)), (.double s1), (.double s2), (.double s3)]) :: (a21, .double, "[D", [(.double (FP.dadd c0 (own_er s0 v0))), (.double c1), (.double c2), (.double c3)]) :: (a9, .double, "[D", [(.double (FP.dadd s0 v0)), (.double (FP.dadd s1 v1)), (.double s2), (.double s3)]) :: (a12, .double, "[D", [(.double (FP.dadd c0 (own_er s0 v0))), (.double (FP.dadd c1 (own_er s1 v1))), (.double c2), (.double c3)]) :: (a15, .double, "[D", [(.double v0), (.double v1), (.double v2), (.double v3)]) :: (a24, .double, "[D", [(.double v0), (.double v1), (.double v2), (.double v3)]) :: []) := H100
    refine own_static K own_d4_391 (own_w12 hw) (own_w13 hw) (own_w8 hw) (own_w14 hw) (argsL := [(.ref a18), (.ref a21), (.int (1 : Int32)), (.double v1)]) (rest := []) (own_add1 hw H100 hs1 hv1 hc1) own_pd3 rfl rfl rfl (by decide) (W := 0) (Nat.le_of_eq rfl) (by decide) (by decide) (by decide) (by decide) ?_
    intro v103 h101 q102
    obtain ⟨rfl, H104⟩ := q102
    replace H104 : own_H Z h101 ([]) ((a18, .double, "[D", [(.double (FP.dadd s0 v0)), (.double (FP.dadd s1 v1)), (.double s2), (.double s3)]) :: (a21, .double, "[D", [(.double (FP.dadd c0 (own_er s0 v0))), (.double (FP.dadd c1 (own_er s1 v1))), (.double c2), (.double c3)]) :: (a9, .double, "[D", [(.double (FP.dadd s0 v0)), (.double (FP.dadd s1 v1)), (.double s2), (.double s3)]) :: (a12, .double, "[D", [(.double (FP.dadd c0 (own_er s0 v0))), (.double (FP.dadd c1 (own_er s1 v1))), (.double c2), (.double c3)]) :: (a15, .double, "[D", [(.double v0), (.double v1), (.double v2), (.double v3)]) :: (a24, .double, "[D", [(.double v0), (.double v1), (.double v2), (.double v3)]) :: []) := H104
    refine own_iload K own_d4_394 rfl ?_
    refine own_iconst K own_d4_396 (v := (2 : Int32)) rfl ?_
    refine own_icmpgt K own_d4_397 (fun q => absurd q (by decide)) (fun _ => ?_)
    refine own_iconst K own_d4_400 (v := (2 : Int32)) rfl ?_
    refine own_iload K own_d4_401 rfl ?_
    refine own_icmpge K own_d4_403 (fun _ => ?_) (fun q => absurd (by decide) q)
    refine own_iload K own_d4_418 rfl ?_
    refine own_iconst K own_d4_420 (v := (3 : Int32)) rfl ?_
    refine own_icmpgt K own_d4_421 (fun q => absurd q (by decide)) (fun _ => ?_)
    refine own_iconst K own_d4_424 (v := (3 : Int32)) rfl ?_
    refine own_iload K own_d4_425 rfl ?_
    refine own_icmpge K own_d4_427 (fun _ => ?_) (fun q => absurd (by decide) q)
    refine own_aload K own_d4_442 rfl rfl ?_
    refine own_iconst K own_d4_444 (v := (0 : Int32)) rfl ?_
    refine own_daload K own_d4_445 H104 (i := 2) rfl (q := 0) (by decide) (rfl) ?_
    refine own_aload K own_d4_446 rfl rfl ?_
    refine own_iconst K own_d4_448 (v := (0 : Int32)) rfl ?_
    refine own_daload K own_d4_449 H104 (i := 0) rfl (q := 0) (by decide) (rfl) ?_
    refine own_dcmp K own_d4_450 ?_
    refine own_ifne K own_d4_451 (fun q => absurd q (fun z => z (dcmpV_self (((Fl.dadd_mag hs0 hv0 (by decide)).fin (by decide)).noNaN) _))) (fun _ => ?_)
    refine own_aload K own_d4_454 rfl rfl ?_
    refine own_iconst K own_d4_456 (v := (1 : Int32)) rfl ?_
    refine own_daload K own_d4_457 H104 (i := 2) rfl (q := 1) (by decide) (rfl) ?_
    refine own_aload K own_d4_458 rfl rfl ?_
    refine own_iconst K own_d4_460 (v := (1 : Int32)) rfl ?_
    refine own_daload K own_d4_461 H104 (i := 0) rfl (q := 1) (by decide) (rfl) ?_
    refine own_dcmp K own_d4_462 ?_
    refine own_ifne K own_d4_463 (fun q => absurd q (fun z => z (dcmpV_self (((Fl.dadd_mag hs1 hv1 (by decide)).fin (by decide)).noNaN) _))) (fun _ => ?_)
    refine own_aload K own_d4_466 rfl rfl ?_
    refine own_iconst K own_d4_468 (v := (2 : Int32)) rfl ?_
    refine own_daload K own_d4_469 H104 (i := 2) rfl (q := 2) (by decide) (rfl) ?_
    refine own_aload K own_d4_470 rfl rfl ?_
    refine own_iconst K own_d4_472 (v := (2 : Int32)) rfl ?_
    refine own_daload K own_d4_473 H104 (i := 0) rfl (q := 2) (by decide) (rfl) ?_
    refine own_dcmp K own_d4_474 ?_
    refine own_ifne K own_d4_475 (fun q => absurd q (fun z => z (dcmpV_self ((hs2.fin (by decide)).noNaN) _))) (fun _ => ?_)
    refine own_aload K own_d4_478 rfl rfl ?_
    refine own_iconst K own_d4_480 (v := (3 : Int32)) rfl ?_
    refine own_daload K own_d4_481 H104 (i := 2) rfl (q := 3) (by decide) (rfl) ?_
    refine own_aload K own_d4_482 rfl rfl ?_
    refine own_iconst K own_d4_484 (v := (3 : Int32)) rfl ?_
    refine own_daload K own_d4_485 H104 (i := 0) rfl (q := 3) (by decide) (rfl) ?_
    refine own_dcmp K own_d4_486 ?_
    refine own_ifne K own_d4_487 (fun q => absurd q (fun z => z (dcmpV_self ((hs3.fin (by decide)).noNaN) _))) (fun _ => ?_)
    refine own_iconst K own_d4_490 (v := (1 : Int32)) rfl ?_
    refine own_goto K own_d4_491 ?_
    refine own_istore K own_d4_495 (Ls' := #[.val (.long sl), .second, .val (.long vl), .second, .val (.int ic), .val (.int ct), .val (.int (0 : Int32)), .val (.int (2 : Int32)), .val (.double ss), .second, .val (.double vz), .second, .val (.double (4562146422526312448 : UInt64)), .second, .val (.ref a9), .val (.ref a12), .val (.ref a15), .val (.ref a18), .val (.ref a21), .val (.ref a24), .val (.int (1 : Int32)), .unset, .unset]) rfl ?_
    refine own_aload K own_d4_497 rfl rfl ?_
    refine own_iconst K own_d4_499 (v := (0 : Int32)) rfl ?_
    refine own_daload K own_d4_500 H104 (i := 3) rfl (q := 0) (by decide) (rfl) ?_
    refine own_aload K own_d4_501 rfl rfl ?_
    refine own_iconst K own_d4_503 (v := (0 : Int32)) rfl ?_
    refine own_daload K own_d4_504 H104 (i := 1) rfl (q := 0) (by decide) (rfl) ?_
    refine own_dcmp K own_d4_505 ?_
    refine own_ifne K own_d4_506 (fun q => absurd q (fun z => z (dcmpV_self (((own_e5 hs0 hv0 hc0).fin (by decide)).noNaN) _))) (fun _ => ?_)
    refine own_aload K own_d4_509 rfl rfl ?_
    refine own_iconst K own_d4_511 (v := (1 : Int32)) rfl ?_
    refine own_daload K own_d4_512 H104 (i := 3) rfl (q := 1) (by decide) (rfl) ?_
    refine own_aload K own_d4_513 rfl rfl ?_
    refine own_iconst K own_d4_515 (v := (1 : Int32)) rfl ?_
    refine own_daload K own_d4_516 H104 (i := 1) rfl (q := 1) (by decide) (rfl) ?_
    refine own_dcmp K own_d4_517 ?_
    refine own_ifne K own_d4_518 (fun q => absurd q (fun z => z (dcmpV_self (((own_e5 hs1 hv1 hc1).fin (by decide)).noNaN) _))) (fun _ => ?_)
    refine own_aload K own_d4_521 rfl rfl ?_
    refine own_iconst K own_d4_523 (v := (2 : Int32)) rfl ?_
    refine own_daload K own_d4_524 H104 (i := 3) rfl (q := 2) (by decide) (rfl) ?_
    refine own_aload K own_d4_525 rfl rfl ?_
    refine own_iconst K own_d4_527 (v := (2 : Int32)) rfl ?_
    refine own_daload K own_d4_528 H104 (i := 1) rfl (q := 2) (by decide) (rfl) ?_
    refine own_dcmp K own_d4_529 ?_
    refine own_ifne K own_d4_530 (fun q => absurd q (fun z => z (dcmpV_self ((hc2.fin (by decide)).noNaN) _))) (fun _ => ?_)
    refine own_aload K own_d4_533 rfl rfl ?_
    refine own_iconst K own_d4_535 (v := (3 : Int32)) rfl ?_
    refine own_daload K own_d4_536 H104 (i := 3) rfl (q := 3) (by decide) (rfl) ?_
    refine own_aload K own_d4_537 rfl rfl ?_
    refine own_iconst K own_d4_539 (v := (3 : Int32)) rfl ?_
    refine own_daload K own_d4_540 H104 (i := 1) rfl (q := 3) (by decide) (rfl) ?_
    refine own_dcmp K own_d4_541 ?_
    refine own_ifne K own_d4_542 (fun q => absurd q (fun z => z (dcmpV_self ((hc3.fin (by decide)).noNaN) _))) (fun _ => ?_)
    refine own_iconst K own_d4_545 (v := (1 : Int32)) rfl ?_
    refine own_goto K own_d4_546 ?_
    refine own_istore K own_d4_550 (Ls' := #[.val (.long sl), .second, .val (.long vl), .second, .val (.int ic), .val (.int ct), .val (.int (0 : Int32)), .val (.int (2 : Int32)), .val (.double ss), .second, .val (.double vz), .second, .val (.double (4562146422526312448 : UInt64)), .second, .val (.ref a9), .val (.ref a12), .val (.ref a15), .val (.ref a18), .val (.ref a21), .val (.ref a24), .val (.int (1 : Int32)), .val (.int (1 : Int32)), .unset]) rfl ?_
    refine own_aload K own_d4_552 rfl rfl ?_
    refine own_iconst K own_d4_554 (v := (0 : Int32)) rfl ?_
    refine own_daload K own_d4_555 H104 (i := 4) rfl (q := 0) (by decide) (rfl) ?_
    refine own_aload K own_d4_556 rfl rfl ?_
    refine own_iconst K own_d4_558 (v := (0 : Int32)) rfl ?_
    refine own_daload K own_d4_559 H104 (i := 5) rfl (q := 0) (by decide) (rfl) ?_
    refine own_dcmp K own_d4_560 ?_
    refine own_ifne K own_d4_561 (fun q => absurd q (fun z => z (dcmpV_self ((hv0.fin (by decide)).noNaN) _))) (fun _ => ?_)
    refine own_aload K own_d4_564 rfl rfl ?_
    refine own_iconst K own_d4_566 (v := (1 : Int32)) rfl ?_
    refine own_daload K own_d4_567 H104 (i := 4) rfl (q := 1) (by decide) (rfl) ?_
    refine own_aload K own_d4_568 rfl rfl ?_
    refine own_iconst K own_d4_570 (v := (1 : Int32)) rfl ?_
    refine own_daload K own_d4_571 H104 (i := 5) rfl (q := 1) (by decide) (rfl) ?_
    refine own_dcmp K own_d4_572 ?_
    refine own_ifne K own_d4_573 (fun q => absurd q (fun z => z (dcmpV_self ((hv1.fin (by decide)).noNaN) _))) (fun _ => ?_)
    refine own_aload K own_d4_576 rfl rfl ?_
    refine own_iconst K own_d4_578 (v := (2 : Int32)) rfl ?_
    refine own_daload K own_d4_579 H104 (i := 4) rfl (q := 2) (by decide) (rfl) ?_
    refine own_aload K own_d4_580 rfl rfl ?_
    refine own_iconst K own_d4_582 (v := (2 : Int32)) rfl ?_
    refine own_daload K own_d4_583 H104 (i := 5) rfl (q := 2) (by decide) (rfl) ?_
    refine own_dcmp K own_d4_584 ?_
    refine own_ifne K own_d4_585 (fun q => absurd q (fun z => z (dcmpV_self ((hv2.fin (by decide)).noNaN) _))) (fun _ => ?_)
    refine own_aload K own_d4_588 rfl rfl ?_
    refine own_iconst K own_d4_590 (v := (3 : Int32)) rfl ?_
    refine own_daload K own_d4_591 H104 (i := 4) rfl (q := 3) (by decide) (rfl) ?_
    refine own_aload K own_d4_592 rfl rfl ?_
    refine own_iconst K own_d4_594 (v := (3 : Int32)) rfl ?_
    refine own_daload K own_d4_595 H104 (i := 5) rfl (q := 3) (by decide) (rfl) ?_
    refine own_dcmp K own_d4_596 ?_
    refine own_ifne K own_d4_597 (fun q => absurd q (fun z => z (dcmpV_self ((hv3.fin (by decide)).noNaN) _))) (fun _ => ?_)
    refine own_iconst K own_d4_600 (v := (1 : Int32)) rfl ?_
    refine own_goto K own_d4_601 ?_
    refine own_istore K own_d4_605 (Ls' := #[.val (.long sl), .second, .val (.long vl), .second, .val (.int ic), .val (.int ct), .val (.int (0 : Int32)), .val (.int (2 : Int32)), .val (.double ss), .second, .val (.double vz), .second, .val (.double (4562146422526312448 : UInt64)), .second, .val (.ref a9), .val (.ref a12), .val (.ref a15), .val (.ref a18), .val (.ref a21), .val (.ref a24), .val (.int (1 : Int32)), .val (.int (1 : Int32)), .val (.int (1 : Int32))]) rfl ?_
    refine own_iload K own_d4_607 rfl ?_
    refine own_ifeq K own_d4_609 (fun q => absurd q (by decide)) (fun _ => ?_)
    refine own_iload K own_d4_612 rfl ?_
    refine own_ifeq K own_d4_614 (fun q => absurd q (by decide)) (fun _ => ?_)
    refine own_iload K own_d4_617 rfl ?_
    refine own_ifeq K own_d4_619 (fun q => absurd q (by decide)) (fun _ => ?_)
    refine own_iconst K own_d4_622 (v := (1 : Int32)) rfl ?_
    refine own_goto K own_d4_623 ?_
    exact own_retZ K (by first | exact Or.inl rfl | exact Or.inr rfl | decide) own_d4_627 (by decide) (by decide) (rfl)
  · obtain ⟨rfl, rfl⟩ := q
    have k0 : ((0 : Int32).toInt ≤ 0 ∧ 0 < (3 : Int32).toInt) := by decide
    have k1 : ((0 : Int32).toInt ≤ 1 ∧ 1 < (3 : Int32).toInt) := by decide
    have k2 : ((0 : Int32).toInt ≤ 2 ∧ 2 < (3 : Int32).toInt) := by decide
    have k3 : ¬ ((0 : Int32).toInt ≤ 3 ∧ 3 < (3 : Int32).toInt) := by decide
    have H105 := H79
    simp only [if_pos k0, if_pos k1, if_pos k2, if_neg k3] at H105
    replace H105 : own_H Z h76 ([]) ((a9, .double, "[D", [(.double (FP.dadd s0 v0)), (.double (FP.dadd s1 v1)), (.double (FP.dadd s2 v2)), (.double s3)]) :: (a12, .double, "[D", [(.double (FP.dadd c0 (own_er s0 v0))), (.double (FP.dadd c1 (own_er s1 v1))), (.double (FP.dadd c2 (own_er s2 v2))), (.double c3)]) :: (a15, .double, "[D", [(.double v0), (.double v1), (.double v2), (.double v3)]) :: (a24, .double, "[D", [(.double v0), (.double v1), (.double v2), (.double v3)]) :: (a21, .double, "[D", [(.double c0), (.double c1), (.double c2), (.double c3)]) :: (a18, .double, "[D", [(.double s0), (.double s1), (.double s2), (.double s3)]) :: []) := H105
    refine own_iload K own_d4_347 rfl ?_
    refine own_ifgt K own_d4_349 (fun q => absurd q (by decide)) (fun _ => ?_)
    refine own_iconst K own_d4_352 (v := (0 : Int32)) rfl ?_
    refine own_iload K own_d4_353 rfl ?_
    refine own_icmpge K own_d4_355 (fun q => absurd q (by decide)) (fun _ => ?_)
    refine own_aload K own_d4_358 rfl rfl ?_
    refine own_aload K own_d4_360 rfl rfl ?_
    refine own_iconst K own_d4_362 (v := (0 : Int32)) rfl ?_
    refine own_aload K own_d4_363 rfl rfl ?_
    refine own_iconst K own_d4_365 (v := (0 : Int32)) rfl ?_
    refine own_daload K own_d4_366 H105 (i := 3) rfl (q := 0) (by decide) (rfl) ?_
    have H106 := H105.frontA 4 rfl
    replace H106 : own_H Z h76 ([]) ((a21, .double, "[D", [(.double c0), (.double c1), (.double c2), (.double c3)]) :: (a9, .double, "[D", [(.double (FP.dadd s0 v0)), (.double (FP.dadd s1 v1)), (.double (FP.dadd s2 v2)), (.double s3)]) :: (a12, .double, "[D", [(.double (FP.dadd c0 (own_er s0 v0))), (.double (FP.dadd c1 (own_er s1 v1))), (.double (FP.dadd c2 (own_er s2 v2))), (.double c3)]) :: (a15, .double, "[D", [(.double v0), (.double v1), (.double v2), (.double v3)]) :: (a24, .double, "[D", [(.double v0), (.double v1), (.double v2), (.double v3)]) :: (a18, .double, "[D", [(.double s0), (.double s1), (.double s2), (.double s3)]) :: []) := H106
    have H107 := H106.frontA 5 rfl
    replace H107 : own_H Z h76 ([]) ((a18, .double, "[D", [(.double s0), (.double s1), (.double s2), (.double s3)]) :: (a21, .double, "[D", [(.double c0), (.double c1), (.double c2), (.double c3)]) :: (a9, .double, "[D", [(.double (FP.dadd s0 v0)), (.double (FP.dadd s1 v1)), (.double (FP.dadd s2 v2)), (.double s3)]) :: (a12, .double, "[D", [(.double (FP.dadd c0 (own_er s0 v0))), (.double (FP.dadd c1 (own_er s1 v1))), (.double (FP.dadd c2 (own_er s2 v2))), (.double c3)]) :: (a15, .double, "[D", [(.double v0), (.double v1), (.double v2), (.double v3)]) :: (a24, .double, "[D", [(.double v0), (.double v1), (.double v2), (.double v3)]) :: []) := H107
    refine own_static K own_d4_367 (own_w12 hw) (own_w13 hw) (own_w8 hw) (own_w14 hw) (argsL := [(.ref a18), (.ref a21), (.int (0 : Int32)), (.double v0)]) (rest := []) (own_add0 hw H107 hs0 hv0 hc0) own_pd3 rfl rfl rfl (by decide) (W := 0) (Nat.le_of_eq rfl) (by decide) (by decide) (by decide) (by decide) ?_
    intro v110 h108 q109
    obtain ⟨rfl, H111⟩ := q109
    replace H111 : own_H Z h108 ([]) ((a18, .double, "[D", [(.double (FP.dadd s0 v0)), (.double s1), (.double s2), (.double s3)]) :: (a21, .double, "[D", [(.double (FP.dadd c0 (own_er s0 v0))), (.double c1), (.double c2), (.double c3)]) :: (a9, .double, "[D", [(.double (FP.dadd s0 v0)), (.double (FP.dadd s1 v1)), (.double (FP.dadd s2 v2)), (.double s3)]) :: (a12, .double, "[D", [(.double (FP.dadd c0 (own_er s0 v0))), (.double (FP.dadd c1 (own_er s1 v1))), (.double (FP.dadd c2 (own_er s2 v2))), (.double c3)]) :: (a15, .double, "[D", [(.double v0), (.double v1), (.double v2), (.double v3)]) :: (a24, .double, "[D", [(.double v0), (.double v1), (.double v2), (.double v3)]) :: []) := H111
    refine own_iload K own_d4_370 rfl ?_
    refine own_iconst K own_d4_372 (v := (1 : Int32)) rfl ?_
    refine own_icmpgt K own_d4_373 (fun q => absurd q (by decide)) (fun _ => ?_)
    refine own_iconst K own_d4_376 (v := (1 : Int32)) rfl ?_
    refine own_iload K own_d4_377 rfl ?_
    refine own_icmpge K own_d4_379 (fun q => absurd q (by decide)) (fun _ => ?_)
    refine own_aload K own_d4_382 rfl rfl ?_
    refine own_aload K own_d4_384 rfl rfl ?_
    refine own_iconst K own_d4_386 (v := (1 : Int32)) rfl ?_
    refine own_aload K own_d4_387 rfl rfl ?_
    refine own_iconst K own_d4_389 (v := (1 : Int32)) rfl ?_
    refine own_daload K own_d4_390 H111 (i := 5) rfl (q := 1) (by decide) (rfl) ?_
    have H112 := H111.frontA 1 rfl
    replace H112 : own_H Z h108 ([]) ((a21, .double, "[D", [(.double (FP.dadd c0 (own_er s0 v0))), (.double c1), (.double c2), (.double c3)]) :: (a18, .double, "[D", [(.double (FP.dadd s0 v0)), (.double s1), (.double s2), (.double s3)]) :: (a9, .double, "[D", [(.double (FP.dadd s0 v0)), (.double (FP.dadd s1 v1)), (.double (FP.dadd s2 v2)), (.double s3)]) :: (a12, .double, "[D", [(.double (FP.dadd c0 (own_er s0 v0))), (.double (FP.dadd c1 (own_er s1 v1))), (.double (FP.dadd c2 (own_er s2 v2))), (.double c3)]) :: (a15, .double, "[D", [(.double v0), (.double v1), (.double v2), (.double v3)]) :: (a24, .double, "[D", [(.double v0), (.double v1), (.double v2), (.double v3)]) :: []) := H112
    have H113 := H112.frontA 1 rfl
    replace H113 : own_H Z h108 ([]) ((a18, .double, "[D", [(.double (FP.dadd s0 v0)), (.double s1), (.double s2), (.double s3)]) :: (a21, .double, "[D", [(.double (FP.dadd c0 (own_er s0 v0))), (.double c1), (.double c2), (.double c3)]) :: (a9, .double, "[D", [(.double (FP.dadd s0 v0)), (.double (FP.dadd s1 v1)), (.double (FP.dadd s2 v2)), (.double s3)]) :: (a12, .double, "[D", [(.double (FP.dadd c0 (own_er s0 v0))), (.double (FP.dadd c1 (own_er s1 v1))), (.double (FP.dadd c2 (own_er s2 v2))), (.double c3)]) :: (a15, .double, "[D", [(.double v0), (.double v1), (.double v2), (.double v3)]) :: (a24, .double, "[D", [(.double v0), (.double v1), (.double v2), (.double v3)]) :: []) := H113
    refine own_static K own_d4_391 (own_w12 hw) (own_w13 hw) (own_w8 hw) (own_w14 hw) (argsL := [(.ref a18), (.ref a21), (.int (1 : Int32)), (.double v1)]) (rest := []) (own_add1 hw H113 hs1 hv1 hc1) own_pd3 rfl rfl rfl (by decide) (W := 0) (Nat.le_of_eq rfl) (by decide) (by decide) (by decide) (by decide) ?_
    intro v116 h114 q115
    obtain ⟨rfl, H117⟩ := q115
    replace H117 : own_H Z h114 ([]) ((a18, .double, "[D", [(.double (FP.dadd s0 v0)), (.double (FP.dadd s1 v1)), (.double s2), (.double s3)]) :: (a21, .double, "[D", [(.double (FP.dadd c0 (own_er s0 v0))), (.double (FP.dadd c1 (own_er s1 v1))), (.double c2), (.double c3)]) :: (a9, .double, "[D", [(.double (FP.dadd s0 v0)), (.double (FP.dadd s1 v1)), (.double (FP.dadd s2 v2)), (.double s3)]) :: (a12, .double, "[D", [(.double (FP.dadd c0 (own_er s0 v0))), (.double (FP.dadd c1 (own_er s1 v1))), (.double (FP.dadd c2 (own_er s2 v2))), (.double c3)]) :: (a15, .double, "[D", [(.double v0), (.double v1), (.double v2), (.double v3)]) :: (a24, .double, "[D", [(.double v0), (.double v1), (.double v2), (.double v3)]) :: []) := H117
    refine own_iload K own_d4_394 rfl ?_
    refine own_iconst K own_d4_396 (v := (2 : Int32)) rfl ?_
    refine own_icmpgt K own_d4_397 (fun q => absurd q (by decide)) (fun _ => ?_)
    refine own_iconst K own_d4_400 (v := (2 : Int32)) rfl ?_
    refine own_iload K own_d4_401 rfl ?_
    refine own_icmpge K own_d4_403 (fun q => absurd q (by decide)) (fun _ => ?_)
    refine own_aload K own_d4_406 rfl rfl ?_
    refine own_aload K own_d4_408 rfl rfl ?_
    refine own_iconst K own_d4_410 (v := (2 : Int32)) rfl ?_
    refine own_aload K own_d4_411 rfl rfl ?_
    refine own_iconst K own_d4_413 (v := (2 : Int32)) rfl ?_
    refine own_daload K own_d4_414 H117 (i := 5) rfl (q := 2) (by decide) (rfl) ?_
    have H118 := H117.frontA 1 rfl
    replace H118 : own_H Z h114 ([]) ((a21, .double, "[D", [(.double (FP.dadd c0 (own_er s0 v0))), (.double (FP.dadd c1 (own_er s1 v1))), (.double c2), (.double c3)]) :: (a18, .double, "[D", [(.double (FP.dadd s0 v0)), (.double (FP.dadd s1 v1)), (.double s2), (.double s3)]) :: (a9, .double, "[D", [(.double (FP.dadd s0 v0)), (.double (FP.dadd s1 v1)), (.double (FP.dadd s2 v2)), (.double s3)]) :: (a12, .double, "[D", [(.double (FP.dadd c0 (own_er s0 v0))), (.double (FP.dadd c1 (own_er s1 v1))), (.double (FP.dadd c2 (own_er s2 v2))), (.double c3)]) :: (a15, .double, "[D", [(.double v0), (.double v1), (.double v2), (.double v3)]) :: (a24, .double, "[D", [(.double v0), (.double v1), (.double v2), (.double v3)]) :: []) := H118
    have H119 := H118.frontA 1 rfl
    replace H119 : own_H Z h114 ([]) ((a18, .double, "[D", [(.double (FP.dadd s0 v0)), (.double (FP.dadd s1 v1)), (.double s2), (.double s3)]) :: (a21, .double, "[D", [(.double (FP.dadd c0 (own_er s0 v0))), (.double (FP.dadd c1 (own_er s1 v1))), (.double c2), (.double c3)]) :: (a9, .double, "[D", [(.double (FP.dadd s0 v0)), (.double (FP.dadd s1 v1)), (.double (FP.dadd s2 v2)), (.double s3)]) :: (a12, .double, "[D", [(.double (FP.dadd c0 (own_er s0 v0))), (.double (FP.dadd c1 (own_er s1 v1))), (.double (FP.dadd c2 (own_er s2 v2))), (.double c3)]) :: (a15, .double, "[D", [(.double v0), (.double v1), (.double v2), (.double v3)]) :: (a24, .double, "[D", [(.double v0), (.double v1), (.double v2), (.double v3)]) :: []) := H119
    refine own_static K own_d4_415 (own_w12 hw) (own_w13 hw) (own_w8 hw) (own_w14 hw) (argsL := [(.ref a18), (.ref a21), (.int (2 : Int32)), (.double v2)]) (rest := []) (own_add2 hw H119 hs2 hv2 hc2) own_pd3 rfl rfl rfl (by decide) (W := 0) (Nat.le_of_eq rfl) (by decide) (by decide) (by decide) (by decide) ?_
    intro v122 h120 q121
    obtain ⟨rfl, H123⟩ := q121
    replace H123 : own_H Z h120 ([]) ((a18, .double, "[D", [(.double (FP.dadd s0 v0)), (.double (FP.dadd s1 v1)), (.double (FP.dadd s2 v2)), (.double s3)]) :: (a21, .double, "[D", [(.double (FP.dadd c0 (own_er s0 v0))), (.double (FP.dadd c1 (own_er s1 v1))), (.double (FP.dadd c2 (own_er s2 v2))), (.double c3)]) :: (a9, .double, "[D", [(.double (FP.dadd s0 v0)), (.double (FP.dadd s1 v1)), (.double (FP.dadd s2 v2)), (.double s3)]) :: (a12, .double, "[D", [(.double (FP.dadd c0 (own_er s0 v0))), (.double (FP.dadd c1 (own_er s1 v1))), (.double (FP.dadd c2 (own_er s2 v2))), (.double c3)]) :: (a15, .double, "[D", [(.double v0), (.double v1), (.double v2), (.double v3)]) :: (a24, .double, "[D", [(.double v0), (.double v1), (.double v2), (.double v3)]) :: []) := H123
    refine own_iload K own_d4_418 rfl ?_
    refine own_iconst K own_d4_420 (v := (3 : Int32)) rfl ?_
    refine own_icmpgt K own_d4_421 (fun q => absurd q (by decide)) (fun _ => ?_)
    refine own_iconst K own_d4_424 (v := (3 : Int32)) rfl ?_
    refine own_iload K own_d4_425 rfl ?_
    refine own_icmpge K own_d4_427 (fun _ => ?_) (fun q => absurd (by decide) q)
    refine own_aload K own_d4_442 rfl rfl ?_
    refine own_iconst K own_d4_444 (v := (0 : Int32)) rfl ?_
    refine own_daload K own_d4_445 H123 (i := 2) rfl (q := 0) (by decide) (rfl) ?_
    refine own_aload K own_d4_446 rfl rfl ?_
    refine own_iconst K own_d4_448 (v := (0 : Int32)) rfl ?_
    refine own_daload K own_d4_449 H123 (i := 0) rfl (q := 0) (by decide) (rfl) ?_
    refine own_dcmp K own_d4_450 ?_
    refine own_ifne K own_d4_451 (fun q => absurd q (fun z => z (dcmpV_self (((Fl.dadd_mag hs0 hv0 (by decide)).fin (by decide)).noNaN) _))) (fun _ => ?_)
    refine own_aload K own_d4_454 rfl rfl ?_
    refine own_iconst K own_d4_456 (v := (1 : Int32)) rfl ?_
    refine own_daload K own_d4_457 H123 (i := 2) rfl (q := 1) (by decide) (rfl) ?_
    refine own_aload K own_d4_458 rfl rfl ?_
    refine own_iconst K own_d4_460 (v := (1 : Int32)) rfl ?_
    refine own_daload K own_d4_461 H123 (i := 0) rfl (q := 1) (by decide) (rfl) ?_
    refine own_dcmp K own_d4_462 ?_
    refine own_ifne K own_d4_463 (fun q => absurd q (fun z => z (dcmpV_self (((Fl.dadd_mag hs1 hv1 (by decide)).fin (by decide)).noNaN) _))) (fun _ => ?_)
    refine own_aload K own_d4_466 rfl rfl ?_
    refine own_iconst K own_d4_468 (v := (2 : Int32)) rfl ?_
    refine own_daload K own_d4_469 H123 (i := 2) rfl (q := 2) (by decide) (rfl) ?_
    refine own_aload K own_d4_470 rfl rfl ?_
    refine own_iconst K own_d4_472 (v := (2 : Int32)) rfl ?_
    refine own_daload K own_d4_473 H123 (i := 0) rfl (q := 2) (by decide) (rfl) ?_
    refine own_dcmp K own_d4_474 ?_
    refine own_ifne K own_d4_475 (fun q => absurd q (fun z => z (dcmpV_self (((Fl.dadd_mag hs2 hv2 (by decide)).fin (by decide)).noNaN) _))) (fun _ => ?_)
    refine own_aload K own_d4_478 rfl rfl ?_
    refine own_iconst K own_d4_480 (v := (3 : Int32)) rfl ?_
    refine own_daload K own_d4_481 H123 (i := 2) rfl (q := 3) (by decide) (rfl) ?_
    refine own_aload K own_d4_482 rfl rfl ?_
    refine own_iconst K own_d4_484 (v := (3 : Int32)) rfl ?_
    refine own_daload K own_d4_485 H123 (i := 0) rfl (q := 3) (by decide) (rfl) ?_
    refine own_dcmp K own_d4_486 ?_
    refine own_ifne K own_d4_487 (fun q => absurd q (fun z => z (dcmpV_self ((hs3.fin (by decide)).noNaN) _))) (fun _ => ?_)
    refine own_iconst K own_d4_490 (v := (1 : Int32)) rfl ?_
    refine own_goto K own_d4_491 ?_
    refine own_istore K own_d4_495 (Ls' := #[.val (.long sl), .second, .val (.long vl), .second, .val (.int ic), .val (.int ct), .val (.int (0 : Int32)), .val (.int (3 : Int32)), .val (.double ss), .second, .val (.double vz), .second, .val (.double (4562146422526312448 : UInt64)), .second, .val (.ref a9), .val (.ref a12), .val (.ref a15), .val (.ref a18), .val (.ref a21), .val (.ref a24), .val (.int (1 : Int32)), .unset, .unset]) rfl ?_
    refine own_aload K own_d4_497 rfl rfl ?_
    refine own_iconst K own_d4_499 (v := (0 : Int32)) rfl ?_
    refine own_daload K own_d4_500 H123 (i := 3) rfl (q := 0) (by decide) (rfl) ?_
    refine own_aload K own_d4_501 rfl rfl ?_
    refine own_iconst K own_d4_503 (v := (0 : Int32)) rfl ?_
    refine own_daload K own_d4_504 H123 (i := 1) rfl (q := 0) (by decide) (rfl) ?_
    refine own_dcmp K own_d4_505 ?_
    refine own_ifne K own_d4_506 (fun q => absurd q (fun z => z (dcmpV_self (((own_e5 hs0 hv0 hc0).fin (by decide)).noNaN) _))) (fun _ => ?_)
    refine own_aload K own_d4_509 rfl rfl ?_
    refine own_iconst K own_d4_511 (v := (1 : Int32)) rfl ?_
    refine own_daload K own_d4_512 H123 (i := 3) rfl (q := 1) (by decide) (rfl) ?_
    refine own_aload K own_d4_513 rfl rfl ?_
    refine own_iconst K own_d4_515 (v := (1 : Int32)) rfl ?_
    refine own_daload K own_d4_516 H123 (i := 1) rfl (q := 1) (by decide) (rfl) ?_
    refine own_dcmp K own_d4_517 ?_
    refine own_ifne K own_d4_518 (fun q => absurd q (fun z => z (dcmpV_self (((own_e5 hs1 hv1 hc1).fin (by decide)).noNaN) _))) (fun _ => ?_)
    refine own_aload K own_d4_521 rfl rfl ?_
    refine own_iconst K own_d4_523 (v := (2 : Int32)) rfl ?_
    refine own_daload K own_d4_524 H123 (i := 3) rfl (q := 2) (by decide) (rfl) ?_
    refine own_aload K own_d4_525 rfl rfl ?_
    refine own_iconst K own_d4_527 (v := (2 : Int32)) rfl ?_
    refine own_daload K own_d4_528 H123 (i := 1) rfl (q := 2) (by decide) (rfl) ?_
    refine own_dcmp K own_d4_529 ?_
    refine own_ifne K own_d4_530 (fun q => absurd q (fun z => z (dcmpV_self (((own_e5 hs2 hv2 hc2).fin (by decide)).noNaN) _))) (fun _ => ?_)
    refine own_aload K own_d4_533 rfl rfl ?_
    refine own_iconst K own_d4_535 (v := (3 : Int32)) rfl ?_
    refine own_daload K own_d4_536 H123 (i := 3) rfl (q := 3) (by decide) (rfl) ?_
    refine own_aload K own_d4_537 rfl rfl ?_
    refine own_iconst K own_d4_539 (v := (3 : Int32)) rfl ?_
    refine own_daload K own_d4_540 H123 (i := 1) rfl (q := 3) (by decide) (rfl) ?_
    refine own_dcmp K own_d4_541 ?_
    refine own_ifne K own_d4_542 (fun q => absurd q (fun z => z (dcmpV_self ((hc3.fin (by decide)).noNaN) _))) (fun _ => ?_)
    refine own_iconst K own_d4_545 (v := (1 : Int32)) rfl ?_
    refine own_goto K own_d4_546 ?_
    refine own_istore K own_d4_550 (Ls' := #[.val (.long sl), .second, .val (.long vl), .second, .val (.int ic), .val (.int ct), .val (.int (0 : Int32)), .val (.int (3 : Int32)), .val (.double ss), .second, .val (.double vz), .second, .val (.double (4562146422526312448 : UInt64)), .second, .val (.ref a9), .val (.ref a12), .val (.ref a15), .val (.ref a18), .val (.ref a21), .val (.ref a24), .val (.int (1 : Int32)), .val (.int (1 : Int32)), .unset]) rfl ?_
    refine own_aload K own_d4_552 rfl rfl ?_
    refine own_iconst K own_d4_554 (v := (0 : Int32)) rfl ?_
    refine own_daload K own_d4_555 H123 (i := 4) rfl (q := 0) (by decide) (rfl) ?_
    refine own_aload K own_d4_556 rfl rfl ?_
    refine own_iconst K own_d4_558 (v := (0 : Int32)) rfl ?_
    refine own_daload K own_d4_559 H123 (i := 5) rfl (q := 0) (by decide) (rfl) ?_
    refine own_dcmp K own_d4_560 ?_
    refine own_ifne K own_d4_561 (fun q => absurd q (fun z => z (dcmpV_self ((hv0.fin (by decide)).noNaN) _))) (fun _ => ?_)
    refine own_aload K own_d4_564 rfl rfl ?_
    refine own_iconst K own_d4_566 (v := (1 : Int32)) rfl ?_
    refine own_daload K own_d4_567 H123 (i := 4) rfl (q := 1) (by decide) (rfl) ?_
    refine own_aload K own_d4_568 rfl rfl ?_
    refine own_iconst K own_d4_570 (v := (1 : Int32)) rfl ?_
    refine own_daload K own_d4_571 H123 (i := 5) rfl (q := 1) (by decide) (rfl) ?_
    refine own_dcmp K own_d4_572 ?_
    refine own_ifne K own_d4_573 (fun q => absurd q (fun z => z (dcmpV_self ((hv1.fin (by decide)).noNaN) _))) (fun _ => ?_)
    refine own_aload K own_d4_576 rfl rfl ?_
    refine own_iconst K own_d4_578 (v := (2 : Int32)) rfl ?_
    refine own_daload K own_d4_579 H123 (i := 4) rfl (q := 2) (by decide) (rfl) ?_
    refine own_aload K own_d4_580 rfl rfl ?_
    refine own_iconst K own_d4_582 (v := (2 : Int32)) rfl ?_
    refine own_daload K own_d4_583 H123 (i := 5) rfl (q := 2) (by decide) (rfl) ?_
    refine own_dcmp K own_d4_584 ?_
    refine own_ifne K own_d4_585 (fun q => absurd q (fun z => z (dcmpV_self ((hv2.fin (by decide)).noNaN) _))) (fun _ => ?_)
    refine own_aload K own_d4_588 rfl rfl ?_
    refine own_iconst K own_d4_590 (v := (3 : Int32)) rfl ?_
    refine own_daload K own_d4_591 H123 (i := 4) rfl (q := 3) (by decide) (rfl) ?_
    refine own_aload K own_d4_592 rfl rfl ?_
    refine own_iconst K own_d4_594 (v := (3 : Int32)) rfl ?_
    refine own_daload K own_d4_595 H123 (i := 5) rfl (q := 3) (by decide) (rfl) ?_
    refine own_dcmp K own_d4_596 ?_
    refine own_ifne K own_d4_597 (fun q => absurd q (fun z => z (dcmpV_self ((hv3.fin (by decide)).noNaN) _))) (fun _ => ?_)
    refine own_iconst K own_d4_600 (v := (1 : Int32)) rfl ?_
    refine own_goto K own_d4_601 ?_
    refine own_istore K own_d4_605 (Ls' := #[.val (.long sl), .second, .val (.long vl), .second, .val (.int ic), .val (.int ct), .val (.int (0 : Int32)), .val (.int (3 : Int32)), .val (.double ss), .second, .val (.double vz), .second, .val (.double (4562146422526312448 : UInt64)), .second, .val (.ref a9), .val (.ref a12), .val (.ref a15), .val (.ref a18), .val (.ref a21), .val (.ref a24), .val (.int (1 : Int32)), .val (.int (1 : Int32)), .val (.int (1 : Int32))]) rfl ?_
    refine own_iload K own_d4_607 rfl ?_
    refine own_ifeq K own_d4_609 (fun q => absurd q (by decide)) (fun _ => ?_)
    refine own_iload K own_d4_612 rfl ?_
    refine own_ifeq K own_d4_614 (fun q => absurd q (by decide)) (fun _ => ?_)
    refine own_iload K own_d4_617 rfl ?_
    refine own_ifeq K own_d4_619 (fun q => absurd q (by decide)) (fun _ => ?_)
    refine own_iconst K own_d4_622 (v := (1 : Int32)) rfl ?_
    refine own_goto K own_d4_623 ?_
    exact own_retZ K (by first | exact Or.inl rfl | exact Or.inr rfl | decide) own_d4_627 (by decide) (by decide) (rfl)
  · obtain ⟨rfl, rfl⟩ := q
    have k0 : ((0 : Int32).toInt ≤ 0 ∧ 0 < (4 : Int32).toInt) := by decide
    have k1 : ((0 : Int32).toInt ≤ 1 ∧ 1 < (4 : Int32).toInt) := by decide
    have k2 : ((0 : Int32).toInt ≤ 2 ∧ 2 < (4 : Int32).toInt) := by decide
    have k3 : ((0 : Int32).toInt ≤ 3 ∧ 3 < (4 : Int32).toInt) := by decide
    have H124 := H79
    simp only [if_pos k0, if_pos k1, if_pos k2, if_pos k3] at H124
    replace H124 : own_H Z h76 ([]) ((a9, .double, "[D", [(.double (FP.dadd s0 v0)), (.double (FP.dadd s1 v1)), (.double (FP.dadd s2 v2)), (.double (FP.dadd s3 v3))]) :: (a12, .double, "[D", [(.double (FP.dadd c0 (own_er s0 v0))), (.double (FP.dadd c1 (own_er s1 v1))), (.double (FP.dadd c2 (own_er s2 v2))), (.double (FP.dadd c3 (own_er s3 v3)))]) :: (a15, .double, "[D", [(.double v0), (.double v1), (.double v2), (.double v3)]) :: (a24, .double, "[D", [(.double v0), (.double v1), (.double v2), (.double v3)]) :: (a21, .double, "[D", [(.double c0), (.double c1), (.double c2), (.double c3)]) :: (a18, .double, "[D", [(.double s0), (.double s1), (.double s2), (.double s3)]) :: []) := H124
    refine own_iload K own_d4_347 rfl ?_
    refine own_ifgt K own_d4_349 (fun q => absurd q (by decide)) (fun _ => ?_)
    refine own_iconst K own_d4_352 (v := (0 : Int32)) rfl ?_
    refine own_iload K own_d4_353 rfl ?_
    refine own_icmpge K own_d4_355 (fun q => absurd q (by decide)) (fun _ => ?_)
    refine own_aload K own_d4_358 rfl rfl ?_
    refine own_aload K own_d4_360 rfl rfl ?_
    refine own_iconst K own_d4_362 (v := (0 : Int32)) rfl ?_
    refine own_aload K own_d4_363 rfl rfl ?_
    refine own_iconst K own_d4_365 (v := (0 : Int32)) rfl ?_
    refine own_daload K own_d4_366 H124 (i := 3) rfl (q := 0) (by decide) (rfl) ?_
    have H125 := H124.frontA 4 rfl
    replace H125 : own_H Z h76 ([]) ((a21, .double, "[D", [(.double c0), (.double c1), (.double c2), (.double c3)]) :: (a9, .double, "[D", [(.double (FP.dadd s0 v0)), (.double (FP.dadd s1 v1)), (.double (FP.dadd s2 v2)), (.double (FP.dadd s3 v3))]) :: (a12, .double, "[D", [(.double (FP.dadd c0 (own_er s0 v0))), (.double (FP.dadd c1 (own_er s1 v1))), (.double (FP.dadd c2 (own_er s2 v2))), (.double (FP.dadd c3 (own_er s3 v3)))]) :: (a15, .double, "[D", [(.double v0), (.double v1), (.double v2), (.double v3)]) :: (a24, .double, "[D", [(.double v0), (.double v1), (.double v2), (.double v3)]) :: (a18, .double, "[D", [(.double s0), (.double s1), (.double s2), (.double s3)]) :: []) := H125
    have H126 := H125.frontA 5 rfl
    replace H126 : own_H Z h76 ([]) ((a18, .double, "[D", [(.double s0), (.double s1), (.double s2), (.double s3)]) :: (a21, .double, "[D", [(.double c0), (.double c1), (.double c2), (.double c3)]) :: (a9, .double, "[D", [(.double (FP.dadd s0 v0)), (.double (FP.dadd s1 v1)), (.double (FP.dadd s2 v2)), (.double (FP.dadd s3 v3))]) :: (a12, .double, "[D", [(.double (FP.dadd c0 (own_er s0 v0))), (.double (FP.dadd c1 (own_er s1 v1))), (.double (FP.dadd c2 (own_er s2 v2))), (.double (FP.dadd c3 (own_er s3 v3)))]) :: (a15, .double, "[D", [(.double v0), (.double v1), (.double v2), (.double v3)]) :: (a24, .double, "[D", [(.double v0), (.double v1), (.double v2), (.double v3)]) :: []) := H126
    refine own_static K own_d4_367 (own_w12 hw) (own_w13 hw) (own_w8 hw) (own_w14 hw) (argsL := [(.ref a18), (.ref a21), (.int (0 : Int32)), (.double v0)]) (rest := []) (own_add0 hw H126 hs0 hv0 hc0) own_pd3 rfl rfl rfl (by decide) (W := 0) (Nat.le_of_eq rfl) (by decide) (by decide) (by decide) (by decide) ?_
    intro v129 h127 q128
    obtain ⟨rfl, H130⟩ := q128
    replace H130 : own_H Z h127 ([]) ((a18, .double, "[D", [(.double (FP.dadd s0 v0)), (.double s1), (.double s2), (.double s3)]) :: (a21, .double, "[D", [(.double (FP.dadd c0 (own_er s0 v0))), (.double c1), (.double c2), (.double c3)]) :: (a9, .double, "[D", [(.double (FP.dadd s0 v0)), (.double (FP.dadd s1 v1)), (.double (FP.dadd s2 v2)), (.double (FP.dadd s3 v3))]) :: (a12, .double, "[D", [(.double (FP.dadd c0 (own_er s0 v0))), (.double (FP.dadd c1 (own_er s1 v1))), (.double (FP.dadd c2 (own_er s2 v2))), (.double (FP.dadd c3 (own_er s3 v3)))]) :: (a15, .double, "[D", [(.double v0), (.double v1), (.double v2), (.double v3)]) :: (a24, .double, "[D", [(.double v0), (.double v1), (.double v2), (.double v3)]) :: []) := H130
    refine own_iload K own_d4_370 rfl ?_
    refine own_iconst K own_d4_372 (v := (1 : Int32)) rfl ?_
    refine own_icmpgt K own_d4_373 (fun q => absurd q (by decide)) (fun _ => ?_)
    refine own_iconst K own_d4_376 (v := (1 : Int32)) rfl ?_
    refine own_iload K own_d4_377 rfl ?_
    refine own_icmpge K own_d4_379 (fun q => absurd q (by decide)) (fun _ => ?_)
    refine own_aload K own_d4_382 rfl rfl ?_
    refine own_aload K own_d4_384 rfl rfl ?_
    refine own_iconst K own_d4_386 (v := (1 : Int32)) rfl ?_
    refine own_aload K own_d4_387 rfl rfl ?_
    refine own_iconst K own_d4_389 (v := (1 : Int32)) rfl ?_
    refine own_daload K own_d4_390 H130 (i := 5) rfl (q := 1) (by decide) (rfl) ?_
    have H131 := H130.frontA 1 rfl
    replace H131 : own_H Z h127 ([]) ((a21, .double, "[D", [(.double (FP.dadd c0 (own_er s0 v0))), (.double c1), (.double c2), (.double c3)]) :: (a18, .double, "[D", [(.double (FP.dadd s0 v0)), (.double s1), (.double s2), (.double s3)]) :: (a9, .double, "[D", [(.double (FP.dadd s0 v0)), (.double (FP.dadd s1 v1)), (.double (FP.dadd s2 v2)), (.double (FP.dadd s3 v3))]) :: (a12, .double, "[D", [(.double (FP.dadd c0 (own_er s0 v0))), (.double (FP.dadd c1 (own_er s1 v1))), (.double (FP.dadd c2 (own_er s2 v2))), (.double (FP.dadd c3 (own_er s3 v3)))]) :: (a15, .double, "[D", [(.double v0), (.double v1), (.double v2), (.double v3)]) :: (a24, .double, "[D", [(.double v0), (.double v1), (.double v2), (.double v3)]) :: []) := H131
    have H132 := H131.frontA 1 rfl
    replace H132 : own_H Z h127 ([]) ((a18, .double, "[D", [(.double (FP.dadd s0 v0)), (.double s1), (.double s2), (.double s3)]) :: (a21, .double, "[D", [(.double (FP.dadd c0 (own_er s0 v0))), (.double c1), (.double c2), (.double c3)]) :: (a9, .double, "[D", [(.double (FP.dadd s0 v0)), (.double (FP.dadd s1 v1)), (.double (FP.dadd s2 v2)), (.double (FP.dadd s3 v3))]) :: (a12, .double, "[D", [(.double (FP.dadd c0 (own_er s0 v0))), (.double (FP.dadd c1 (own_er s1 v1))), (.double (FP.dadd c2 (own_er s2 v2))), (.double (FP.dadd c3 (own_er s3 v3)))]) :: (a15, .double, "[D", [(.double v0), (.double v1), (.double v2), (.double v3)]) :: (a24, .double, "[D", [(.double v0), (.double v1), (.double v2), (.double v3)]) :: []) := H132
    refine own_static K own_d4_391 (own_w12 hw) (own_w13 hw) (own_w8 hw) (own_w14 hw) (argsL := [(.ref a18), (.ref a21), (.int (1 : Int32)), (.double v1)]) (rest := []) (own_add1 hw H132 hs1 hv1 hc1) own_pd3 rfl rfl rfl (by decide) (W := 0) (Nat.le_of_eq rfl) (by decide) (by decide) (by decide) (by decide) ?_
    intro v135 h133 q134
    obtain ⟨rfl, H136⟩ := q134
    replace H136 : own_H Z h133 ([]) ((a18, .double, "[D", [(.double (FP.dadd s0 v0)), (.double (FP.dadd s1 v1)), (.double s2), (.double s3)]) :: (a21, .double, "[D", [(.double (FP.dadd c0 (own_er s0 v0))), (.double (FP.dadd c1 (own_er s1 v1))), (.double c2), (.double c3)]) :: (a9, .double, "[D", [(.double (FP.dadd s0 v0)), (.double (FP.dadd s1 v1)), (.double (FP.dadd s2 v2)), (.double (FP.dadd s3 v3))]) :: (a12, .double, "[D", [(.double (FP.dadd c0 (own_er s0 v0))), (.double (FP.dadd c1 (own_er s1 v1))), (.double (FP.dadd c2 (own_er s2 v2))), (.double (FP.dadd c3 (own_er s3 v3)))]) :: (a15, .double, "[D", [(.double v0), (.double v1), (.double v2), (.double v3)]) :: (a24, .double, "[D", [(.double v0), (.double v1), (.double v2), (.double v3)]) :: []) := H136
    refine own_iload K own_d4_394 rfl ?_
    refine own_iconst K own_d4_396 (v := (2 : Int32)) rfl ?_
    refine own_icmpgt K own_d4_397 (fun q => absurd q (by decide)) (fun _ => ?_)
    refine own_iconst K own_d4_400 (v := (2 : Int32)) rfl ?_
    refine own_iload K own_d4_401 rfl ?_
    refine own_icmpge K own_d4_403 (fun q => absurd q (by decide)) (fun _ => ?_)
    refine own_aload K own_d4_406 rfl rfl ?_
    refine own_aload K own_d4_408 rfl rfl ?_
    refine own_iconst K own_d4_410 (v := (2 : Int32)) rfl ?_
    refine own_aload K own_d4_411 rfl rfl ?_
    refine own_iconst K own_d4_413 (v := (2 : Int32)) rfl ?_
    refine own_daload K own_d4_414 H136 (i := 5) rfl (q := 2) (by decide) (rfl) ?_
    have H137 := H136.frontA 1 rfl
    replace H137 : own_H Z h133 ([]) ((a21, .double, "[D", [(.double (FP.dadd c0 (own_er s0 v0))), (.double (FP.dadd c1 (own_er s1 v1))), (.double c2), (.double c3)]) :: (a18, .double, "[D", [(.double (FP.dadd s0 v0)), (.double (FP.dadd s1 v1)), (.double s2), (.double s3)]) :: (a9, .double, "[D", [(.double (FP.dadd s0 v0)), (.double (FP.dadd s1 v1)), (.double (FP.dadd s2 v2)), (.double (FP.dadd s3 v3))]) :: (a12, .double, "[D", [(.double (FP.dadd c0 (own_er s0 v0))), (.double (FP.dadd c1 (own_er s1 v1))), (.double (FP.dadd c2 (own_er s2 v2))), (.double (FP.dadd c3 (own_er s3 v3)))]) :: (a15, .double, "[D", [(.double v0), (.double v1), (.double v2), (.double v3)]) :: (a24, .double, "[D", [(.double v0), (.double v1), (.double v2), (.double v3)]) :: []) := H137
    have H138 := H137.frontA 1 rfl
    replace H138 : own_H Z h133 ([]) ((a18, .double, "[D", [(.double (FP.dadd s0 v0)), (.double (FP.dadd s1 v1)), (.double s2), (.double s3)]) :: (a21, .double, "[D", [(.double (FP.dadd c0 (own_er s0 v0))), (.double (FP.dadd c1 (own_er s1 v1))), (.double c2), (.double c3)]) :: (a9, .double, "[D", [(.double (FP.dadd s0 v0)), (.double (FP.dadd s1 v1)), (.double (FP.dadd s2 v2)), (.double (FP.dadd s3 v3))]) :: (a12, .double, "[D", [(.double (FP.dadd c0 (own_er s0 v0))), (.double (FP.dadd c1 (own_er s1 v1))), (.double (FP.dadd c2 (own_er s2 v2))), (.double (FP.dadd c3 (own_er s3 v3)))]) :: (a15, .double, "[D", [(.double v0), (.double v1), (.double v2), (.double v3)]) :: (a24, .double, "[D", [(.double v0), (.double v1), (.double v2), (.double v3)]) :: []) := H138
    refine own_static K own_d4_415 (own_w12 hw) (own_w13 hw) (own_w8 hw) (own_w14 hw) (argsL := [(.ref a18), (.ref a21), (.int (2 : Int32)), (.double v2)]) (rest := []) (own_add2 hw H138 hs2 hv2 hc2) own_pd3 rfl rfl rfl (by decide) (W := 0) (Nat.le_of_eq rfl) (by decide) (by decide) (by decide) (by decide) ?_
    intro v141 h139 q140
    obtain ⟨rfl, H142⟩ := q140
    replace H142 : own_H Z h139 ([]) ((a18, .double, "[D", [(.double (FP.dadd s0 v0)), (.double (FP.dadd s1 v1)), (.double (FP.dadd s2 v2)), (.double s3)]) :: (a21, .double, "[D", [(.double (FP.dadd c0 (own_er s0 v0))), (.double (FP.dadd c1 (own_er s1 v1))), (.double (FP.dadd c2 (own_er s2 v2))), (.double c3)]) :: (a9, .double, "[D", [(.double (FP.dadd s0 v0)), (.double (FP.dadd s1 v1)), (.double (FP.dadd s2 v2)), (.double (FP.dadd s3 v3))]) :: (a12, .double, "[D", [(.double (FP.dadd c0 (own_er s0 v0))), (.double (FP.dadd c1 (own_er s1 v1))), (.double (FP.dadd c2 (own_er s2 v2))), (.double (FP.dadd c3 (own_er s3 v3)))]) :: (a15, .double, "[D", [(.double v0), (.double v1), (.double v2), (.double v3)]) :: (a24, .double, "[D", [(.double v0), (.double v1), (.double v2), (.double v3)]) :: []) := H142
    refine own_iload K own_d4_418 rfl ?_
    refine own_iconst K own_d4_420 (v := (3 : Int32)) rfl ?_
    refine own_icmpgt K own_d4_421 (fun q => absurd q (by decide)) (fun _ => ?_)
    refine own_iconst K own_d4_424 (v := (3 : Int32)) rfl ?_
    refine own_iload K own_d4_425 rfl ?_
    refine own_icmpge K own_d4_427 (fun q => absurd q (by decide)) (fun _ => ?_)
    refine own_aload K own_d4_430 rfl rfl ?_
    refine own_aload K own_d4_432 rfl rfl ?_
    refine own_iconst K own_d4_434 (v := (3 : Int32)) rfl ?_
    refine own_aload K own_d4_435 rfl rfl ?_
    refine own_iconst K own_d4_437 (v := (3 : Int32)) rfl ?_
    refine own_daload K own_d4_438 H142 (i := 5) rfl (q := 3) (by decide) (rfl) ?_
    have H143 := H142.frontA 1 rfl
    replace H143 : own_H Z h139 ([]) ((a21, .double, "[D", [(.double (FP.dadd c0 (own_er s0 v0))), (.double (FP.dadd c1 (own_er s1 v1))), (.double (FP.dadd c2 (own_er s2 v2))), (.double c3)]) :: (a18, .double, "[D", [(.double (FP.dadd s0 v0)), (.double (FP.dadd s1 v1)), (.double (FP.dadd s2 v2)), (.double s3)]) :: (a9, .double, "[D", [(.double (FP.dadd s0 v0)), (.double (FP.dadd s1 v1)), (.double (FP.dadd s2 v2)), (.double (FP.dadd s3 v3))]) :: (a12, .double, "[D", [(.double (FP.dadd c0 (own_er s0 v0))), (.double (FP.dadd c1 (own_er s1 v1))), (.double (FP.dadd c2 (own_er s2 v2))), (.double (FP.dadd c3 (own_er s3 v3)))]) :: (a15, .double, "[D", [(.double v0), (.double v1), (.double v2), (.double v3)]) :: (a24, .double, "[D", [(.double v0), (.double v1), (.double v2), (.double v3)]) :: []) := H143
    have H144 := H143.frontA 1 rfl
    replace H144 : own_H Z h139 ([]) ((a18, .double, "[D", [(.double (FP.dadd s0 v0)), (.double (FP.dadd s1 v1)), (.double (FP.dadd s2 v2)), (.double s3)]) :: (a21, .double, "[D", [(.double (FP.dadd c0 (own_er s0 v0))), (.double (FP.dadd c1 (own_er s1 v1))), (.double (FP.dadd c2 (own_er s2 v2))), (.double c3)]) :: (a9, .double, "[D", [(.double (FP.dadd s0 v0)), (.double (FP.dadd s1 v1)), (.double (FP.dadd s2 v2)), (.double (FP.dadd s3 v3))]) :: (a12, .double, "[D", [(.double (FP.dadd c0 (own_er s0 v0))), (.double (FP.dadd c1 (own_er s1 v1))), (.double (FP.dadd c2 (own_er s2 v2))), (.double (FP.dadd c3 (own_er s3 v3)))]) :: (a15, .double, "[D", [(.double v0), (.double v1), (.double v2), (.double v3)]) :: (a24, .double, "[D", [(.double v0), (.double v1), (.double v2), (.double v3)]) :: []) := H144
    refine own_static K own_d4_439 (own_w12 hw) (own_w13 hw) (own_w8 hw) (own_w14 hw) (argsL := [(.ref a18), (.ref a21), (.int (3 : Int32)), (.double v3)]) (rest := []) (own_add3 hw H144 hs3 hv3 hc3) own_pd3 rfl rfl rfl (by decide) (W := 0) (Nat.le_of_eq rfl) (by decide) (by decide) (by decide) (by decide) ?_
    intro v147 h145 q146
    obtain ⟨rfl, H148⟩ := q146
    replace H148 : own_H Z h145 ([]) ((a18, .double, "[D", [(.double (FP.dadd s0 v0)), (.double (FP.dadd s1 v1)), (.double (FP.dadd s2 v2)), (.double (FP.dadd s3 v3))]) :: (a21, .double, "[D", [(.double (FP.dadd c0 (own_er s0 v0))), (.double (FP.dadd c1 (own_er s1 v1))), (.double (FP.dadd c2 (own_er s2 v2))), (.double (FP.dadd c3 (own_er s3 v3)))]) :: (a9, .double, "[D", [(.double (FP.dadd s0 v0)), (.double (FP.dadd s1 v1)), (.double (FP.dadd s2 v2)), (.double (FP.dadd s3 v3))]) :: (a12, .double, "[D", [(.double (FP.dadd c0 (own_er s0 v0))), (.double (FP.dadd c1 (own_er s1 v1))), (.double (FP.dadd c2 (own_er s2 v2))), (.double (FP.dadd c3 (own_er s3 v3)))]) :: (a15, .double, "[D", [(.double v0), (.double v1), (.double v2), (.double v3)]) :: (a24, .double, "[D", [(.double v0), (.double v1), (.double v2), (.double v3)]) :: []) := H148
    refine own_aload K own_d4_442 rfl rfl ?_
    refine own_iconst K own_d4_444 (v := (0 : Int32)) rfl ?_
    refine own_daload K own_d4_445 H148 (i := 2) rfl (q := 0) (by decide) (rfl) ?_
    refine own_aload K own_d4_446 rfl rfl ?_
    refine own_iconst K own_d4_448 (v := (0 : Int32)) rfl ?_
    refine own_daload K own_d4_449 H148 (i := 0) rfl (q := 0) (by decide) (rfl) ?_
    refine own_dcmp K own_d4_450 ?_
    refine own_ifne K own_d4_451 (fun q => absurd q (fun z => z (dcmpV_self (((Fl.dadd_mag hs0 hv0 (by decide)).fin (by decide)).noNaN) _))) (fun _ => ?_)
    refine own_aload K own_d4_454 rfl rfl ?_
    refine own_iconst K own_d4_456 (v := (1 : Int32)) rfl ?_
    refine own_daload K own_d4_457 H148 (i := 2) rfl (q := 1) (by decide) (rfl) ?_
    refine own_aload K own_d4_458 rfl rfl ?_
    refine own_iconst K own_d4_460 (v := (1 : Int32)) rfl ?_
    refine own_daload K own_d4_461 H148 (i := 0) rfl (q := 1) (by decide) (rfl) ?_
    refine own_dcmp K own_d4_462 ?_
    refine own_ifne K own_d4_463 (fun q => absurd q (fun z => z (dcmpV_self (((Fl.dadd_mag hs1 hv1 (by decide)).fin (by decide)).noNaN) _))) (fun _ => ?_)
    refine own_aload K own_d4_466 rfl rfl ?_
    refine own_iconst K own_d4_468 (v := (2 : Int32)) rfl ?_
    refine own_daload K own_d4_469 H148 (i := 2) rfl (q := 2) (by decide) (rfl) ?_
    refine own_aload K own_d4_470 rfl rfl ?_
    refine own_iconst K own_d4_472 (v := (2 : Int32)) rfl ?_
    refine own_daload K own_d4_473 H148 (i := 0) rfl (q := 2) (by decide) (rfl) ?_
    refine own_dcmp K own_d4_474 ?_
    refine own_ifne K own_d4_475 (fun q => absurd q (fun z => z (dcmpV_self (((Fl.dadd_mag hs2 hv2 (by decide)).fin (by decide)).noNaN) _))) (fun _ => ?_)
    refine own_aload K own_d4_478 rfl rfl ?_
    refine own_iconst K own_d4_480 (v := (3 : Int32)) rfl ?_
    refine own_daload K own_d4_481 H148 (i := 2) rfl (q := 3) (by decide) (rfl) ?_
    refine own_aload K own_d4_482 rfl rfl ?_
    refine own_iconst K own_d4_484 (v := (3 : Int32)) rfl ?_
    refine own_daload K own_d4_485 H148 (i := 0) rfl (q := 3) (by decide) (rfl) ?_
    refine own_dcmp K own_d4_486 ?_
    refine own_ifne K own_d4_487 (fun q => absurd q (fun z => z (dcmpV_self (((Fl.dadd_mag hs3 hv3 (by decide)).fin (by decide)).noNaN) _))) (fun _ => ?_)
    refine own_iconst K own_d4_490 (v := (1 : Int32)) rfl ?_
    refine own_goto K own_d4_491 ?_
    refine own_istore K own_d4_495 (Ls' := #[.val (.long sl), .second, .val (.long vl), .second, .val (.int ic), .val (.int ct), .val (.int (0 : Int32)), .val (.int (4 : Int32)), .val (.double ss), .second, .val (.double vz), .second, .val (.double (4562146422526312448 : UInt64)), .second, .val (.ref a9), .val (.ref a12), .val (.ref a15), .val (.ref a18), .val (.ref a21), .val (.ref a24), .val (.int (1 : Int32)), .unset, .unset]) rfl ?_
    refine own_aload K own_d4_497 rfl rfl ?_
    refine own_iconst K own_d4_499 (v := (0 : Int32)) rfl ?_
    refine own_daload K own_d4_500 H148 (i := 3) rfl (q := 0) (by decide) (rfl) ?_
    refine own_aload K own_d4_501 rfl rfl ?_
    refine own_iconst K own_d4_503 (v := (0 : Int32)) rfl ?_
    refine own_daload K own_d4_504 H148 (i := 1) rfl (q := 0) (by decide) (rfl) ?_
    refine own_dcmp K own_d4_505 ?_
    refine own_ifne K own_d4_506 (fun q => absurd q (fun z => z (dcmpV_self (((own_e5 hs0 hv0 hc0).fin (by decide)).noNaN) _))) (fun _ => ?_)
    refine own_aload K own_d4_509 rfl rfl ?_
    refine own_iconst K own_d4_511 (v := (1 : Int32)) rfl ?_
    refine own_daload K own_d4_512 H148 (i := 3) rfl (q := 1) (by decide) (rfl) ?_
    refine own_aload K own_d4_513 rfl rfl ?_
    refine own_iconst K own_d4_515 (v := (1 : Int32)) rfl ?_
    refine own_daload K own_d4_516 H148 (i := 1) rfl (q := 1) (by decide) (rfl) ?_
    refine own_dcmp K own_d4_517 ?_
    refine own_ifne K own_d4_518 (fun q => absurd q (fun z => z (dcmpV_self (((own_e5 hs1 hv1 hc1).fin (by decide)).noNaN) _))) (fun _ => ?_)
    refine own_aload K own_d4_521 rfl rfl ?_
    refine own_iconst K own_d4_523 (v := (2 : Int32)) rfl ?_
    refine own_daload K own_d4_524 H148 (i := 3) rfl (q := 2) (by decide) (rfl) ?_
    refine own_aload K own_d4_525 rfl rfl ?_
    refine own_iconst K own_d4_527 (v := (2 : Int32)) rfl ?_
    refine own_daload K own_d4_528 H148 (i := 1) rfl (q := 2) (by decide) (rfl) ?_
    refine own_dcmp K own_d4_529 ?_
    refine own_ifne K own_d4_530 (fun q => absurd q (fun z => z (dcmpV_self (((own_e5 hs2 hv2 hc2).fin (by decide)).noNaN) _))) (fun _ => ?_)
    refine own_aload K own_d4_533 rfl rfl ?_
    refine own_iconst K own_d4_535 (v := (3 : Int32)) rfl ?_
    refine own_daload K own_d4_536 H148 (i := 3) rfl (q := 3) (by decide) (rfl) ?_
    refine own_aload K own_d4_537 rfl rfl ?_
    refine own_iconst K own_d4_539 (v := (3 : Int32)) rfl ?_
    refine own_daload K own_d4_540 H148 (i := 1) rfl (q := 3) (by decide) (rfl) ?_
    refine own_dcmp K own_d4_541 ?_
    refine own_ifne K own_d4_542 (fun q => absurd q (fun z => z (dcmpV_self (((own_e5 hs3 hv3 hc3).fin (by decide)).noNaN) _))) (fun _ => ?_)
    refine own_iconst K own_d4_545 (v := (1 : Int32)) rfl ?_
    refine own_goto K own_d4_546 ?_
    refine own_istore K own_d4_550 (Ls' := #[.val (.long sl), .second, .val (.long vl), .second, .val (.int ic), .val (.int ct), .val (.int (0 : Int32)), .val (.int (4 : Int32)), .val (.double ss), .second, .val (.double vz), .second, .val (.double (4562146422526312448 : UInt64)), .second, .val (.ref a9), .val (.ref a12), .val (.ref a15), .val (.ref a18), .val (.ref a21), .val (.ref a24), .val (.int (1 : Int32)), .val (.int (1 : Int32)), .unset]) rfl ?_
    refine own_aload K own_d4_552 rfl rfl ?_
    refine own_iconst K own_d4_554 (v := (0 : Int32)) rfl ?_
    refine own_daload K own_d4_555 H148 (i := 4) rfl (q := 0) (by decide) (rfl) ?_
    refine own_aload K own_d4_556 rfl rfl ?_
    refine own_iconst K own_d4_558 (v := (0 : Int32)) rfl ?_
    refine own_daload K own_d4_559 H148 (i := 5) rfl (q := 0) (by decide) (rfl) ?_
    refine own_dcmp K own_d4_560 ?_
    refine own_ifne K own_d4_561 (fun q => absurd q (fun z => z (dcmpV_self ((hv0.fin (by decide)).noNaN) _))) (fun _ => ?_)
    refine own_aload K own_d4_564 rfl rfl ?_
    refine own_iconst K own_d4_566 (v := (1 : Int32)) rfl ?_
    refine own_daload K own_d4_567 H148 (i := 4) rfl (q := 1) (by decide) (rfl) ?_
    refine own_aload K own_d4_568 rfl rfl ?_
    refine own_iconst K own_d4_570 (v := (1 : Int32)) rfl ?_
    refine own_daload K own_d4_571 H148 (i := 5) rfl (q := 1) (by decide) (rfl) ?_
    refine own_dcmp K own_d4_572 ?_
    refine own_ifne K own_d4_573 (fun q => absurd q (fun z => z (dcmpV_self ((hv1.fin (by decide)).noNaN) _))) (fun _ => ?_)
    refine own_aload K own_d4_576 rfl rfl ?_
    refine own_iconst K own_d4_578 (v := (2 : Int32)) rfl ?_
    refine own_daload K own_d4_579 H148 (i := 4) rfl (q := 2) (by decide) (rfl) ?_
    refine own_aload K own_d4_580 rfl rfl ?_
    refine own_iconst K own_d4_582 (v := (2 : Int32)) rfl ?_
    refine own_daload K own_d4_583 H148 (i := 5) rfl (q := 2) (by decide) (rfl) ?_
    refine own_dcmp K own_d4_584 ?_
    refine own_ifne K own_d4_585 (fun q => absurd q (fun z => z (dcmpV_self ((hv2.fin (by decide)).noNaN) _))) (fun _ => ?_)
    refine own_aload K own_d4_588 rfl rfl ?_
    refine own_iconst K own_d4_590 (v := (3 : Int32)) rfl ?_
    refine own_daload K own_d4_591 H148 (i := 4) rfl (q := 3) (by decide) (rfl) ?_
    refine own_aload K own_d4_592 rfl rfl ?_
    refine own_iconst K own_d4_594 (v := (3 : Int32)) rfl ?_
    refine own_daload K own_d4_595 H148 (i := 5) rfl (q := 3) (by decide) (rfl) ?_
    refine own_dcmp K own_d4_596 ?_
    refine own_ifne K own_d4_597 (fun q => absurd q (fun z => z (dcmpV_self ((hv3.fin (by decide)).noNaN) _))) (fun _ => ?_)
    refine own_iconst K own_d4_600 (v := (1 : Int32)) rfl ?_
    refine own_goto K own_d4_601 ?_
    refine own_istore K own_d4_605 (Ls' := #[.val (.long sl), .second, .val (.long vl), .second, .val (.int ic), .val (.int ct), .val (.int (0 : Int32)), .val (.int (4 : Int32)), .val (.double ss), .second, .val (.double vz), .second, .val (.double (4562146422526312448 : UInt64)), .second, .val (.ref a9), .val (.ref a12), .val (.ref a15), .val (.ref a18), .val (.ref a21), .val (.ref a24), .val (.int (1 : Int32)), .val (.int (1 : Int32)), .val (.int (1 : Int32))]) rfl ?_
    refine own_iload K own_d4_607 rfl ?_
    refine own_ifeq K own_d4_609 (fun q => absurd q (by decide)) (fun _ => ?_)
    refine own_iload K own_d4_612 rfl ?_
    refine own_ifeq K own_d4_614 (fun q => absurd q (by decide)) (fun _ => ?_)
    refine own_iload K own_d4_617 rfl ?_
    refine own_ifeq K own_d4_619 (fun q => absurd q (by decide)) (fun _ => ?_)
    refine own_iconst K own_d4_622 (v := (1 : Int32)) rfl ?_
    refine own_goto K own_d4_623 ?_
    exact own_retZ K (by first | exact Or.inl rfl | exact Or.inr rfl | decide) own_d4_627 (by decide) (by decide) (rfl)
  · obtain ⟨rfl, rfl⟩ := q
    have k0 : ¬ ((1 : Int32).toInt ≤ 0 ∧ 0 < (2 : Int32).toInt) := by decide
    have k1 : ((1 : Int32).toInt ≤ 1 ∧ 1 < (2 : Int32).toInt) := by decide
    have k2 : ¬ ((1 : Int32).toInt ≤ 2 ∧ 2 < (2 : Int32).toInt) := by decide
    have k3 : ¬ ((1 : Int32).toInt ≤ 3 ∧ 3 < (2 : Int32).toInt) := by decide
    have H149 := H79
    simp only [if_neg k0, if_pos k1, if_neg k2, if_neg k3] at H149
    replace H149 : own_H Z h76 ([]) ((a9, .double, "[D", [(.double s0), (.double (FP.dadd s1 v1)), (.double s2), (.double s3)]) :: (a12, .double, "[D", [(.double c0), (.double (FP.dadd c1 (own_er s1 v1))), (.double c2), (.double c3)]) :: (a15, .double, "[D", [(.double v0), (.double v1), (.double v2), (.double v3)]) :: (a24, .double, "[D", [(.double v0), (.double v1), (.double v2), (.double v3)]) :: (a21, .double, "[D", [(.double c0), (.double c1), (.double c2), (.double c3)]) :: (a18, .double, "[D", [(.double s0), (.double s1), (.double s2), (.double s3)]) :: []) := H149
    refine own_iload K own_d4_347 rfl ?_
    refine own_ifgt K own_d4_349 (fun _ => ?_) (fun q => absurd (by decide) q)
    refine own_iload K own_d4_370 rfl ?_
    refine own_iconst K own_d4_372 (v := (1 : Int32)) rfl ?_
    refine own_icmpgt K own_d4_373 (fun q => absurd q (by decide)) (fun _ => ?_)
    refine own_iconst K own_d4_376 (v := (1 : Int32)) rfl ?_
    refine own_iload K own_d4_377 rfl ?_
    refine own_icmpge K own_d4_379 (fun q => absurd q (by decide)) (fun _ => ?_)
    refine own_aload K own_d4_382 rfl rfl ?_
    refine own_aload K own_d4_384 rfl rfl ?_
    refine own_iconst K own_d4_386 (v := (1 : Int32)) rfl ?_
    refine own_aload K own_d4_387 rfl rfl ?_
    refine own_iconst K own_d4_389 (v := (1 : Int32)) rfl ?_
    refine own_daload K own_d4_390 H149 (i := 3) rfl (q := 1) (by decide) (rfl) ?_
    have H150 := H149.frontA 4 rfl
    replace H150 : own_H Z h76 ([]) ((a21, .double, "[D", [(.double c0), (.double c1), (.double c2), (.double c3)]) :: (a9, .double, "[D", [(.double s0), (.double (FP.dadd s1 v1)), (.double s2), (.double s3)]) :: (a12, .double, "[D", [(.double c0), (.double (FP.dadd c1 (own_er s1 v1))), (.double c2), (.double c3)]) :: (a15, .double, "[D", [(.double v0), (.double v1), (.double v2), (.double v3)]) :: (a24, .double, "[D", [(.double v0), (.double v1), (.double v2), (.double v3)]) :: (a18, .double, "[D", [(.double s0), (.double s1), (.double s2), (.double s3)]) :: []) := H150
    have H151 := H150.frontA 5 rfl
    replace H151 : own_H Z h76 ([]) ((a18, .double, "[D", [(.double s0), (.double s1), (.double s2), (.double s3)]) :: (a21, .double, "[D", [(.double c0), (.double c1), (.double c2), (.double c3)]) :: (a9, .double, "[D", [(.double s0), (.double (FP.dadd s1 v1)), (.double s2), (.double s3)]) :: (a12, .double, "[D", [(.double c0), (.double (FP.dadd c1 (own_er s1 v1))), (.double c2), (.double c3)]) :: (a15, .double, "[D", [(.double v0), (.double v1), (.double v2), (.double v3)]) :: (a24, .double, "[D", [(.double v0), (.double v1), (.double v2), (.double v3)]) :: []) := H151
    refine own_static K own_d4_391 (own_w12 hw) (own_w13 hw) (own_w8 hw) (own_w14 hw) (argsL := [(.ref a18), (.ref a21), (.int (1 : Int32)), (.double v1)]) (rest := []) (own_add1 hw H151 hs1 hv1 hc1) own_pd3 rfl rfl rfl (by decide) (W := 0) (Nat.le_of_eq rfl) (by decide) (by decide) (by decide) (by decide) ?_
    intro v154 h152 q153
    obtain ⟨rfl, H155⟩ := q153
    replace H155 : own_H Z h152 ([]) ((a18, .double, "[D", [(.double s0), (.double (FP.dadd s1 v1)), (.double s2), (.double s3)]) :: (a21, .double, "[D", [(.double c0), (.double (FP.dadd c1 (own_er s1 v1))), (.double c2), (.double c3)]) :: (a9, .double, "[D", [(.double s0), (.double (FP.dadd s1 v1)), (.double s2), (.double s3)]) :: (a12, .double, "[D", [(.double c0), (.double (FP.dadd c1 (own_er s1 v1))), (.double c2), (.double c3)]) :: (a15, .double, "[D", [(.double v0), (.double v1), (.double v2), (.double v3)]) :: (a24, .double, "[D", [(.double v0), (.double v1), (.double v2), (.double v3)]) :: []) := H155
    refine own_iload K own_d4_394 rfl ?_
    refine own_iconst K own_d4_396 (v := (2 : Int32)) rfl ?_
    refine own_icmpgt K own_d4_397 (fun q => absurd q (by decide)) (fun _ => ?_)
    refine own_iconst K own_d4_400 (v := (2 : Int32)) rfl ?_
    refine own_iload K own_d4_401 rfl ?_
    refine own_icmpge K own_d4_403 (fun _ => ?_) (fun q => absurd (by decide) q)
    refine own_iload K own_d4_418 rfl ?_
    refine own_iconst K own_d4_420 (v := (3 : Int32)) rfl ?_
    refine own_icmpgt K own_d4_421 (fun q => absurd q (by decide)) (fun _ => ?_)
    refine own_iconst K own_d4_424 (v := (3 : Int32)) rfl ?_
    refine own_iload K own_d4_425 rfl ?_
    refine own_icmpge K own_d4_427 (fun _ => ?_) (fun q => absurd (by decide) q)
    refine own_aload K own_d4_442 rfl rfl ?_
    refine own_iconst K own_d4_444 (v := (0 : Int32)) rfl ?_
    refine own_daload K own_d4_445 H155 (i := 2) rfl (q := 0) (by decide) (rfl) ?_
    refine own_aload K own_d4_446 rfl rfl ?_
    refine own_iconst K own_d4_448 (v := (0 : Int32)) rfl ?_
    refine own_daload K own_d4_449 H155 (i := 0) rfl (q := 0) (by decide) (rfl) ?_
    refine own_dcmp K own_d4_450 ?_
    refine own_ifne K own_d4_451 (fun q => absurd q (fun z => z (dcmpV_self ((hs0.fin (by decide)).noNaN) _))) (fun _ => ?_)
    refine own_aload K own_d4_454 rfl rfl ?_
    refine own_iconst K own_d4_456 (v := (1 : Int32)) rfl ?_
    refine own_daload K own_d4_457 H155 (i := 2) rfl (q := 1) (by decide) (rfl) ?_
    refine own_aload K own_d4_458 rfl rfl ?_
    refine own_iconst K own_d4_460 (v := (1 : Int32)) rfl ?_
    refine own_daload K own_d4_461 H155 (i := 0) rfl (q := 1) (by decide) (rfl) ?_
    refine own_dcmp K own_d4_462 ?_
    refine own_ifne K own_d4_463 (fun q => absurd q (fun z => z (dcmpV_self (((Fl.dadd_mag hs1 hv1 (by decide)).fin (by decide)).noNaN) _))) (fun _ => ?_)
    refine own_aload K own_d4_466 rfl rfl ?_
    refine own_iconst K own_d4_468 (v := (2 : Int32)) rfl ?_
    refine own_daload K own_d4_469 H155 (i := 2) rfl (q := 2) (by decide) (rfl) ?_
    refine own_aload K own_d4_470 rfl rfl ?_
    refine own_iconst K own_d4_472 (v := (2 : Int32)) rfl ?_
    refine own_daload K own_d4_473 H155 (i := 0) rfl (q := 2) (by decide) (rfl) ?_
    refine own_dcmp K own_d4_474 ?_
    refine own_ifne K own_d4_475 (fun q => absurd q (fun z => z (dcmpV_self ((hs2.fin (by decide)).noNaN) _))) (fun _ => ?_)
    refine own_aload K own_d4_478 rfl rfl ?_
    refine own_iconst K own_d4_480 (v := (3 : Int32)) rfl ?_
    refine own_daload K own_d4_481 H155 (i := 2) rfl (q := 3) (by decide) (rfl) ?_
    refine own_aload K own_d4_482 rfl rfl ?_
    refine own_iconst K own_d4_484 (v := (3 : Int32)) rfl ?_
    refine own_daload K own_d4_485 H155 (i := 0) rfl (q := 3) (by decide) (rfl) ?_
    refine own_dcmp K own_d4_486 ?_
    refine own_ifne K own_d4_487 (fun q => absurd q (fun z => z (dcmpV_self ((hs3.fin (by decide)).noNaN) _))) (fun _ => ?_)
    refine own_iconst K own_d4_490 (v := (1 : Int32)) rfl ?_
    refine own_goto K own_d4_491 ?_
    refine own_istore K own_d4_495 (Ls' := #[.val (.long sl), .second, .val (.long vl), .second, .val (.int ic), .val (.int ct), .val (.int (1 : Int32)), .val (.int (2 : Int32)), .val (.double ss), .second, .val (.double vz), .second, .val (.double (4562146422526312448 : UInt64)), .second, .val (.ref a9), .val (.ref a12), .val (.ref a15), .val (.ref a18), .val (.ref a21), .val (.ref a24), .val (.int (1 : Int32)), .unset, .unset]) rfl ?_
    refine own_aload K own_d4_497 rfl rfl ?_
    refine own_iconst K own_d4_499 (v := (0 : Int32)) rfl ?_
    refine own_daload K own_d4_500 H155 (i := 3) rfl (q := 0) (by decide) (rfl) ?_
    refine own_aload K own_d4_501 rfl rfl ?_
    refine own_iconst K own_d4_503 (v := (0 : Int32)) rfl ?_
    refine own_daload K own_d4_504 H155 (i := 1) rfl (q := 0) (by decide) (rfl) ?_
    refine own_dcmp K own_d4_505 ?_
    refine own_ifne K own_d4_506 (fun q => absurd q (fun z => z (dcmpV_self ((hc0.fin (by decide)).noNaN) _))) (fun _ => ?_)
    refine own_aload K own_d4_509 rfl rfl ?_
    refine own_iconst K own_d4_511 (v := (1 : Int32)) rfl ?_
    refine own_daload K own_d4_512 H155 (i := 3) rfl (q := 1) (by decide) (rfl) ?_
    refine own_aload K own_d4_513 rfl rfl ?_
    refine own_iconst K own_d4_515 (v := (1 : Int32)) rfl ?_
    refine own_daload K own_d4_516 H155 (i := 1) rfl (q := 1) (by decide) (rfl) ?_
    refine own_dcmp K own_d4_517 ?_
    refine own_ifne K own_d4_518 (fun q => absurd q (fun z => z (dcmpV_self (((own_e5 hs1 hv1 hc1).fin (by decide)).noNaN) _))) (fun _ => ?_)
    refine own_aload K own_d4_521 rfl rfl ?_
    refine own_iconst K own_d4_523 (v := (2 : Int32)) rfl ?_
    refine own_daload K own_d4_524 H155 (i := 3) rfl (q := 2) (by decide) (rfl) ?_
    refine own_aload K own_d4_525 rfl rfl ?_
    refine own_iconst K own_d4_527 (v := (2 : Int32)) rfl ?_
    refine own_daload K own_d4_528 H155 (i := 1) rfl (q := 2) (by decide) (rfl) ?_
    refine own_dcmp K own_d4_529 ?_
    refine own_ifne K own_d4_530 (fun q => absurd q (fun z => z (dcmpV_self ((hc2.fin (by decide)).noNaN) _))) (fun _ => ?_)
    refine own_aload K own_d4_533 rfl rfl ?_
    refine own_iconst K own_d4_535 (v := (3 : Int32)) rfl ?_
    refine own_daload K own_d4_536 H155 (i := 3) rfl (q := 3) (by decide) (rfl) ?_
    refine own_aload K own_d4_537 rfl rfl ?_
    refine own_iconst K own_d4_539 (v := (3 : Int32)) rfl ?_
    refine own_daload K own_d4_540 H155 (i := 1) rfl (q := 3) (by decide) (rfl) ?_
    refine own_dcmp K own_d4_541 ?_
    refine own_ifne K own_d4_542 (fun q => absurd q (fun z => z (dcmpV_self ((hc3.fin (by decide)).noNaN) _))) (fun _ => ?_)
    refine own_iconst K own_d4_545 (v := (1 : Int32)) rfl ?_
    refine own_goto K own_d4_546 ?_
    refine own_istore K own_d4_550 (Ls' := #[.val (.long sl), .second, .val (.long vl), .second, .val (.int ic), .val (.int ct), .val (.int (1 : Int32)), .val (.int (2 : Int32)), .val (.double ss), .second, .val (.double vz), .second, .val (.double (4562146422526312448 : UInt64)), .second, .val (.ref a9), .val (.ref a12), .val (.ref a15), .val (.ref a18), .val (.ref a21), .val (.ref a24), .val (.int (1 : Int32)), .val (.int (1 : Int32)), .unset]) rfl ?_
    refine own_aload K own_d4_552 rfl rfl ?_
    refine own_iconst K own_d4_554 (v := (0 : Int32)) rfl ?_
    refine own_daload K own_d4_555 H155 (i := 4) rfl (q := 0) (by decide) (rfl) ?_
    refine own_aload K own_d4_556 rfl rfl ?_
    refine own_iconst K own_d4_558 (v := (0 : Int32)) rfl ?_
    refine own_daload K own_d4_559 H155 (i := 5) rfl (q := 0) (by decide) (rfl) ?_
    refine own_dcmp K own_d4_560 ?_
    refine own_ifne K own_d4_561 (fun q => absurd q (fun z => z (dcmpV_self ((hv0.fin (by decide)).noNaN) _))) (fun _ => ?_)
    refine own_aload K own_d4_564 rfl rfl ?_
    refine own_iconst K own_d4_566 (v := (1 : Int32)) rfl ?_
    refine own_daload K own_d4_567 H155 (i := 4) rfl (q := 1) (by decide) (rfl) ?_
    refine own_aload K own_d4_568 rfl rfl ?_
    refine own_iconst K own_d4_570 (v := (1 : Int32)) rfl ?_
    refine own_daload K own_d4_571 H155 (i := 5) rfl (q := 1) (by decide) (rfl) ?_
    refine own_dcmp K own_d4_572 ?_
    refine own_ifne K own_d4_573 (fun q => absurd q (fun z => z (dcmpV_self ((hv1.fin (by decide)).noNaN) _))) (fun _ => ?_)
    refine own_aload K own_d4_576 rfl rfl ?_
    refine own_iconst K own_d4_578 (v := (2 : Int32)) rfl ?_
    refine own_daload K own_d4_579 H155 (i := 4) rfl (q := 2) (by decide) (rfl) ?_
    refine own_aload K own_d4_580 rfl rfl ?_
    refine own_iconst K own_d4_582 (v := (2 : Int32)) rfl ?_
    refine own_daload K own_d4_583 H155 (i := 5) rfl (q := 2) (by decide) (rfl) ?_
    refine own_dcmp K own_d4_584 ?_
    refine own_ifne K own_d4_585 (fun q => absurd q (fun z => z (dcmpV_self ((hv2.fin (by decide)).noNaN) _))) (fun _ => ?_)
    refine own_aload K own_d4_588 rfl rfl ?_
    refine own_iconst K own_d4_590 (v := (3 : Int32)) rfl ?_
    refine own_daload K own_d4_591 H155 (i := 4) rfl (q := 3) (by decide) (rfl) ?_
    refine own_aload K own_d4_592 rfl rfl ?_
    refine own_iconst K own_d4_594 (v := (3 : Int32)) rfl ?_
    refine own_daload K own_d4_595 H155 (i := 5) rfl (q := 3) (by decide) (rfl) ?_
    refine own_dcmp K own_d4_596 ?_
    refine own_ifne K own_d4_597 (fun q => absurd q (fun z => z (dcmpV_self ((hv3.fin (by decide)).noNaN) _))) (fun _ => ?_)
    refine own_iconst K own_d4_600 (v := (1 : Int32)) rfl ?_
    refine own_goto K own_d4_601 ?_
    refine own_istore K own_d4_605 (Ls' := #[.val (.long sl), .second, .val (.long vl), .second, .val (.int ic), .val (.int ct), .val (.int (1 : Int32)), .val (.int (2 : Int32)), .val (.double ss), .second, .val (.double vz), .second, .val (.double (4562146422526312448 : UInt64)), .second, .val (.ref a9), .val (.ref a12), .val (.ref a15), .val (.ref a18), .val (.ref a21), .val (.ref a24), .val (.int (1 : Int32)), .val (.int (1 : Int32)), .val (.int (1 : Int32))]) rfl ?_
    refine own_iload K own_d4_607 rfl ?_
    refine own_ifeq K own_d4_609 (fun q => absurd q (by decide)) (fun _ => ?_)
    refine own_iload K own_d4_612 rfl ?_
    refine own_ifeq K own_d4_614 (fun q => absurd q (by decide)) (fun _ => ?_)
    refine own_iload K own_d4_617 rfl ?_
    refine own_ifeq K own_d4_619 (fun q => absurd q (by decide)) (fun _ => ?_)
    refine own_iconst K own_d4_622 (v := (1 : Int32)) rfl ?_
    refine own_goto K own_d4_623 ?_
    exact own_retZ K (by first | exact Or.inl rfl | exact Or.inr rfl | decide) own_d4_627 (by decide) (by decide) (rfl)
  · obtain ⟨rfl, rfl⟩ := q
    have k0 : ¬ ((1 : Int32).toInt ≤ 0 ∧ 0 < (3 : Int32).toInt) := by decide
    have k1 : ((1 : Int32).toInt ≤ 1 ∧ 1 < (3 : Int32).toInt) := by decide
    have k2 : ((1 : Int32).toInt ≤ 2 ∧ 2 < (3 : Int32).toInt) := by decide
    have k3 : ¬ ((1 : Int32).toInt ≤ 3 ∧ 3 < (3 : Int32).toInt) := by decide
    have H156 := H79
    simp only [if_neg k0, if_pos k1, if_pos k2, if_neg k3] at H156
    replace H156 : own_H Z h76 ([]) ((a9, .double, "[D", [(.double s0), (.double (FP.dadd s1 v1)), (.double (FP.dadd s2 v2)), (.double s3)]) :: (a12, .double, "[D", [(.double c0), (.double (FP.dadd c1 (own_er s1 v1))), (.double (FP.dadd c2 (own_er s2 v2))), (.double c3)]) :: (a15, .double, "[D", [(.double v0), (.double v1), (.double v2), (.double v3)]) :: (a24, .double, "[D", [(.double v0), (.double v1), (.double v2), (.double v3)]) :: (a21, .double, "[D", [(.double c0), (.double c1), (.double c2), (.double c3)]) :: (a18, .double, "[D", [(.double s0), (.double s1), (.double s2), (.double s3)]) :: []) := H156
    refine own_iload K own_d4_347 rfl ?_
    refine own_ifgt K own_d4_349 (fun _ => ?_) (fun q => absurd (by decide) q)
    refine own_iload K own_d4_370 rfl ?_
    refine own_iconst K own_d4_372 (v := (1 : Int32)) rfl ?_
    refine own_icmpgt K own_d4_373 (fun q => absurd q (by decide)) (fun _ => ?_)
    refine own_iconst K own_d4_376 (v := (1 : Int32)) rfl ?_
    refine own_iload K own_d4_377 rfl ?_
    refine own_icmpge K own_d4_379 (fun q => absurd q (by decide)) (fun _ => ?_)
    refine own_aload K own_d4_382 rfl rfl ?_
    refine own_aload K own_d4_384 rfl rfl ?_
    refine own_iconst K own_d4_386 (v := (1 : Int32)) rfl ?_
    refine own_aload K own_d4_387 rfl rfl ?_
    refine own_iconst K own_d4_389 (v := (1 : Int32)) rfl ?_
    refine own_daload K own_d4_390 H156 (i := 3) rfl (q := 1) (by decide) (rfl) ?_
    have H157 := H156.frontA 4 rfl
    replace H157 : own_H Z h76 ([]) ((a21, .double, "[D", [(.double c0), (.double c1), (.double c2), (.double c3)]) :: (a9, .double, "[D", [(.double s0), (.double (FP.dadd s1 v1)), (.double (FP.dadd s2 v2)), (.double s3)]) :: (a12, .double, "[D", [(.double c0), (.double (FP.dadd c1 (own_er s1 v1))), (.double (FP.dadd c2 (own_er s2 v2))), (.double c3)]) :: (a15, .double, "[D", [(.double v0), (.double v1), (.double v2), (.double v3)]) :: (a24, .double, "[D", [(.double v0), (.double v1), (.double v2), (.double v3)]) :: (a18, .double, "[D", [(.double s0), (.double s1), (.double s2), (.double s3)]) :: []) := H157
    have H158 := H157.frontA 5 rfl
    replace H158 : own_H Z h76 ([]) ((a18, .double, "[D", [(.double s0), (.double s1), (.double s2), (.double s3)]) :: (a21, .double, "[D", [(.double c0), (.double c1), (.double c2), (.double c3)]) :: (a9, .double, "[D", [(.double s0), (.double (FP.dadd s1 v1)), (.double (FP.dadd s2 v2)), (.double s3)]) :: (a12, .double, "[D", [(.double c0), (.double (FP.dadd c1 (own_er s1 v1))), (.double (FP.dadd c2 (own_er s2 v2))), (.double c3)]) :: (a15, .double, "[D", [(.double v0), (.double v1), (.double v2), (.double v3)]) :: (a24, .double, "[D", [(.double v0), (.double v1), (.double v2), (.double v3)]) :: []) := H158
    refine own_static K own_d4_391 (own_w12 hw) (own_w13 hw) (own_w8 hw) (own_w14 hw) (argsL := [(.ref a18), (.ref a21), (.int (1 : Int32)), (.double v1)]) (rest := []) (own_add1 hw H158 hs1 hv1 hc1) own_pd3 rfl rfl rfl (by decide) (W := 0) (Nat.le_of_eq rfl) (by decide) (by decide) (by decide) (by decide) ?_
    intro v161 h159 q160
    obtain ⟨rfl, H162⟩ := q160
    replace H162 : own_H Z h159 ([]) ((a18, .double, "[D", [(.double s0), (.double (FP.dadd s1 v1)), (.double s2), (.double s3)]) :: (a21, .double, "[D", [(.double c0), (.double (FP.dadd c1 (own_er s1 v1))), (.double c2), (.double c3)]) :: (a9, .double, "[D", [(.double s0), (.double (FP.dadd s1 v1)), (.double (FP.dadd s2 v2)), (.double s3)]) :: (a12, .double, "[D", [(.double c0), (.double (FP.dadd c1 (own_er s1 v1))), (.double (FP.dadd c2 (own_er s2 v2))), (.double c3)]) :: (a15, .double, "[D", [(.double v0), (.double v1), (.double v2), (.double v3)]) :: (a24, .double, "[D", [(.double v0), (.double v1), (.double v2), (.double v3)]) :: []) := H162
    refine own_iload K own_d4_394 rfl ?_
    refine own_iconst K own_d4_396 (v := (2 : Int32)) rfl ?_
    refine own_icmpgt K own_d4_397 (fun q => absurd q (by decide)) (fun _ => ?_)
    refine own_iconst K own_d4_400 (v := (2 : Int32)) rfl ?_
    refine own_iload K own_d4_401 rfl ?_
    refine own_icmpge K own_d4_403 (fun q => absurd q (by decide)) (fun _ => ?_)
    refine own_aload K own_d4_406 rfl rfl ?_
    refine own_aload K own_d4_408 rfl rfl ?_
    refine own_iconst K own_d4_410 (v := (2 : Int32)) rfl ?_
    refine own_aload K own_d4_411 rfl rfl ?_
    refine own_iconst K own_d4_413 (v := (2 : Int32)) rfl ?_
    refine own_daload K own_d4_414 H162 (i := 5) rfl (q := 2) (by decide) (rfl) ?_
    have H163 := H162.frontA 1 rfl
    replace H163 : own_H Z h159 ([]) ((a21, .double, "[D", [(.double c0), (.double (FP.dadd c1 (own_er s1 v1))), (.double c2), (.double c3)]) :: (a18, .double, "[D", [(.double s0), (.double (FP.dadd s1 v1)), (.double s2), (.double s3)]) :: (a9, .double, "[D", [(.double s0), (.double (FP.dadd s1 v1)), (.double (FP.dadd s2 v2)), (.double s3)]) :: (a12, .double, "[D", [(.double c0), (.double (FP.dadd c1 (own_er s1 v1))), (.double (FP.dadd c2 (own_er s2 v2))), (.double c3)]) :: (a15, .double, "[D", [(.double v0), (.double v1), (.double v2), (.double v3)]) :: (a24, .double, "[D", [(.double v0), (.double v1), (.double v2), (.double v3)]) :: []) := H163
    have H164 := H163.frontA 1 rfl
    replace H164 : own_H Z h159 ([]) ((a18, .double, "[D", [(.double s0), (.double (FP.dadd s1 v1)), (.double s2), (.double s3)]) :: (a21, .double, "[D", [(.double c0), (.double (FP.dadd c1 (own_er s1 v1))), (.double c2), (.double c3)]) :: (a9, .double, "[D", [(.double s0), (.double (FP.dadd s1 v1)), (.double (FP.dadd s2 v2)), (.double s3)]) :: (a12, .double, "[D", [(.double c0), (.double (FP.dadd c1 (own_er s1 v1))), (.double (FP.dadd c2 (own_er s2 v2))), (.double c3)]) :: (a15, .double, "[D", [(.double v0), (.double v1), (.double v2), (.double v3)]) :: (a24, .double, "[D", [(.double v0), (.double v1), (.double v2), (.double v3)]) :: []) := H164
    refine own_static K own_d4_415 (own_w12 hw) (own_w13 hw) (own_w8 hw) (own_w14 hw) (argsL := [(.ref a18), (.ref a21), (.int (2 : Int32)), (.double v2)]) (rest := []) (own_add2 hw H164 hs2 hv2 hc2) own_pd3 rfl rfl rfl (by decide) (W := 0) (Nat.le_of_eq rfl) (by decide) (by decide) (by decide) (by decide) ?_
    intro v167 h165 q166
    obtain ⟨rfl, H168⟩ := q166
    replace H168 : own_H Z h165 ([]) ((a18, .double, "[D", [(.double s0), (.double (FP.dadd s1 v1)), (.double (FP.dadd s2 v2)), (.double s3)]) :: (a21, .double, "[D", [(.double c0), (.double (FP.dadd c1 (own_er s1 v1))), (.double (FP.dadd c2 (own_er s2 v2))), (.double c3)]) :: (a9, .double, "[D", [(.double s0), (.double (FP.dadd s1 v1)), (.double (FP.dadd s2 v2)), (.double s3)]) :: (a12, .double, "[D", [(.double c0), (.double (FP.dadd c1 (own_er s1 v1))), (.double (FP.dadd c2 (own_er s2 v2))), (.double c3)]) :: (a15, .double, "[D", [(.double v0), (.double v1), (.double v2), (.double v3)]) :: (a24, .double, "[D", [(.double v0), (.double v1), (.double v2), (.double v3)]) :: []) := H168
    refine own_iload K own_d4_418 rfl ?_
    refine own_iconst K own_d4_420 (v := (3 : Int32)) rfl ?_
    refine own_icmpgt K own_d4_421 (fun q => absurd q (by decide)) (fun _ => ?_)
    refine own_iconst K own_d4_424 (v := (3 : Int32)) rfl ?_
    refine own_iload K own_d4_425 rfl ?_
    refine own_icmpge K own_d4_427 (fun _ => ?_) (fun q => absurd (by decide) q)
    refine own_aload K own_d4_442 rfl rfl ?_
    refine own_iconst K own_d4_444 (v := (0 : Int32)) rfl ?_
    refine own_daload K own_d4_445 H168 (i := 2) rfl (q := 0) (by decide) (rfl) ?_
    refine own_aload K own_d4_446 rfl rfl ?_
    refine own_iconst K own_d4_448 (v := (0 : Int32)) rfl ?_
    refine own_daload K own_d4_449 H168 (i := 0) rfl (q := 0) (by decide) (rfl) ?_
    refine own_dcmp K own_d4_450 ?_
    refine own_ifne K own_d4_451 (fun q => absurd q (fun z => z (dcmpV_self ((hs0.fin (by decide)).noNaN) _))) (fun _ => ?_)
    refine own_aload K own_d4_454 rfl rfl ?_
    refine own_iconst K own_d4_456 (v := (1 : Int32)) rfl ?_
    refine own_daload K own_d4_457 H168 (i := 2) rfl (q := 1) (by decide) (rfl) ?_
    refine own_aload K own_d4_458 rfl rfl ?_
    refine own_iconst K own_d4_460 (v := (1 : Int32)) rfl ?_
    refine own_daload K own_d4_461 H168 (i := 0) rfl (q := 1) (by decide) (rfl) ?_
    refine own_dcmp K own_d4_462 ?_
    refine own_ifne K own_d4_463 (fun q => absurd q (fun z => z (dcmpV_self (((Fl.dadd_mag hs1 hv1 (by decide)).fin (by decide)).noNaN) _))) (fun _ => ?_)
    refine own_aload K own_d4_466 rfl rfl ?_
    refine own_iconst K own_d4_468 (v := (2 : Int32)) rfl ?_
    refine own_daload K own_d4_469 H168 (i := 2) rfl (q := 2) (by decide) (rfl) ?_
    refine own_aload K own_d4_470 rfl rfl ?_
    refine own_iconst K own_d4_472 (v := (2 : Int32)) rfl ?_
    refine own_daload K own_d4_473 H168 (i := 0) rfl (q := 2) (by decide) (rfl) ?_
    refine own_dcmp K own_d4_474 ?_
    refine own_ifne K own_d4_475 (fun q => absurd q (fun z => z (dcmpV_self (((Fl.dadd_mag hs2 hv2 (by decide)).fin (by decide)).noNaN) _))) (fun _ => ?_)
    refine own_aload K own_d4_478 rfl rfl ?_
    refine own_iconst K own_d4_480 (v := (3 : Int32)) rfl ?_
    refine own_daload K own_d4_481 H168 (i := 2) rfl (q := 3) (by decide) (rfl) ?_
    refine own_aload K own_d4_482 rfl rfl ?_
    refine own_iconst K own_d4_484 (v := (3 : Int32)) rfl ?_
    refine own_daload K own_d4_485 H168 (i := 0) rfl (q := 3) (by decide) (rfl) ?_
    refine own_dcmp K own_d4_486 ?_
    refine own_ifne K own_d4_487 (fun q => absurd q (fun z => z (dcmpV_self ((hs3.fin (by decide)).noNaN) _))) (fun _ => ?_)
    refine own_iconst K own_d4_490 (v := (1 : Int32)) rfl ?_
    refine own_goto K own_d4_491 ?_
    refine own_istore K own_d4_495 (Ls' := #[.val (.long sl), .second, .val (.long vl), .second, .val (.int ic), .val (.int ct), .val (.int (1 : Int32)), .val (.int (3 : Int32)), .val (.double ss), .second, .val (.double vz), .second, .val (.double (4562146422526312448 : UInt64)), .second, .val (.ref a9), .val (.ref a12), .val (.ref a15), .val (.ref a18), .val (.ref a21), .val (.ref a24), .val (.int (1 : Int32)), .unset, .unset]) rfl ?_
    refine own_aload K own_d4_497 rfl rfl ?_
    refine own_iconst K own_d4_499 (v := (0 : Int32)) rfl ?_
    refine own_daload K own_d4_500 H168 (i := 3) rfl (q := 0) (by decide) (rfl) ?_
    refine own_aload K own_d4_501 rfl rfl ?_
    refine own_iconst K own_d4_503 (v := (0 : Int32)) rfl ?_
    refine own_daload K own_d4_504 H168 (i := 1) rfl (q := 0) (by decide) (rfl) ?_
    refine own_dcmp K own_d4_505 ?_
    refine own_ifne K own_d4_506 (fun q => absurd q (fun z => z (dcmpV_self ((hc0.fin (by decide)).noNaN) _))) (fun _ => ?_)
    refine own_aload K own_d4_509 rfl rfl ?_
    refine own_iconst K own_d4_511 (v := (1 : Int32)) rfl ?_
    refine own_daload K own_d4_512 H168 (i := 3) rfl (q := 1) (by decide) (rfl) ?_
    refine own_aload K own_d4_513 rfl rfl ?_
    refine own_iconst K own_d4_515 (v := (1 : Int32)) rfl ?_
    refine own_daload K own_d4_516 H168 (i := 1) rfl (q := 1) (by decide) (rfl) ?_
    refine own_dcmp K own_d4_517 ?_
    refine own_ifne K own_d4_518 (fun q => absurd q (fun z => z (dcmpV_self (((own_e5 hs1 hv1 hc1).fin (by decide)).noNaN) _))) (fun _ => ?_)
    refine own_aload K own_d4_521 rfl rfl ?_
    refine own_iconst K own_d4_523 (v := (2 : Int32)) rfl ?_
    refine own_daload K own_d4_524 H168 (i := 3) rfl (q := 2) (by decide) (rfl) ?_
    refine own_aload K own_d4_525 rfl rfl ?_
    refine own_iconst K own_d4_527 (v := (2 : Int32)) rfl ?_
    refine own_daload K own_d4_528 H168 (i := 1) rfl (q := 2) (by decide) (rfl) ?_
    refine own_dcmp K own_d4_529 ?_
    refine own_ifne K own_d4_530 (fun q => absurd q (fun z => z (dcmpV_self (((own_e5 hs2 hv2 hc2).fin (by decide)).noNaN) _))) (fun _ => ?_)
    refine own_aload K own_d4_533 rfl rfl ?_
    refine own_iconst K own_d4_535 (v := (3 : Int32)) rfl ?_
    refine own_daload K own_d4_536 H168 (i := 3) rfl (q := 3) (by decide) (rfl) ?_
    refine own_aload K own_d4_537 rfl rfl ?_
    refine own_iconst K own_d4_539 (v := (3 : Int32)) rfl ?_
    refine own_daload K own_d4_540 H168 (i := 1) rfl (q := 3) (by decide) (rfl) ?_
    refine own_dcmp K own_d4_541 ?_
    refine own_ifne K own_d4_542 (fun q => absurd q (fun z => z (dcmpV_self ((hc3.fin (by decide)).noNaN) _))) (fun _ => ?_)
    refine own_iconst K own_d4_545 (v := (1 : Int32)) rfl ?_
    refine own_goto K own_d4_546 ?_
    refine own_istore K own_d4_550 (Ls' := #[.val (.long sl), .second, .val (.long vl), .second, .val (.int ic), .val (.int ct), .val (.int (1 : Int32)), .val (.int (3 : Int32)), .val (.double ss), .second, .val (.double vz), .second, .val (.double (4562146422526312448 : UInt64)), .second, .val (.ref a9), .val (.ref a12), .val (.ref a15), .val (.ref a18), .val (.ref a21), .val (.ref a24), .val (.int (1 : Int32)), .val (.int (1 : Int32)), .unset]) rfl ?_
    refine own_aload K own_d4_552 rfl rfl ?_
    refine own_iconst K own_d4_554 (v := (0 : Int32)) rfl ?_
    refine own_daload K own_d4_555 H168 (i := 4) rfl (q := 0) (by decide) (rfl) ?_
    refine own_aload K own_d4_556 rfl rfl ?_
    refine own_iconst K own_d4_558 (v := (0 : Int32)) rfl ?_
    refine own_daload K own_d4_559 H168 (i := 5) rfl (q := 0) (by decide) (rfl) ?_
    refine own_dcmp K own_d4_560 ?_
    refine own_ifne K own_d4_561 (fun q => absurd q (fun z => z (dcmpV_self ((hv0.fin (by decide)).noNaN) _))) (fun _ => ?_)
    refine own_aload K own_d4_564 rfl rfl ?_
    refine own_iconst K own_d4_566 (v := (1 : Int32)) rfl ?_
    refine own_daload K own_d4_567 H168 (i := 4) rfl (q := 1) (by decide) (rfl) ?_
    refine own_aload K own_d4_568 rfl rfl ?_
    refine own_iconst K own_d4_570 (v := (1 : Int32)) rfl ?_
    refine own_daload K own_d4_571 H168 (i := 5) rfl (q := 1) (by decide) (rfl) ?_
    refine own_dcmp K own_d4_572 ?_
    refine own_ifne K own_d4_573 (fun q => absurd q (fun z => z (dcmpV_self ((hv1.fin (by decide)).noNaN) _))) (fun _ => ?_)
    refine own_aload K own_d4_576 rfl rfl ?_
    refine own_iconst K own_d4_578 (v := (2 : Int32)) rfl ?_
    refine own_daload K own_d4_579 H168 (i := 4) rfl (q := 2) (by decide) (rfl) ?_
    refine own_aload K own_d4_580 rfl rfl ?_
    refine own_iconst K own_d4_582 (v := (2 : Int32)) rfl ?_
    refine own_daload K own_d4_583 H168 (i := 5) rfl (q := 2) (by decide) (rfl) ?_
    refine own_dcmp K own_d4_584 ?_
    refine own_ifne K own_d4_585 (fun q => absurd q (fun z => z (dcmpV_self ((hv2.fin (by decide)).noNaN) _))) (fun _ => ?_)
    refine own_aload K own_d4_588 rfl rfl ?_
    refine own_iconst K own_d4_590 (v := (3 : Int32)) rfl ?_
    refine own_daload K own_d4_591 H168 (i := 4) rfl (q := 3) (by decide) (rfl) ?_
    refine own_aload K own_d4_592 rfl rfl ?_
    refine own_iconst K own_d4_594 (v := (3 : Int32)) rfl ?_
    refine own_daload K own_d4_595 H168 (i := 5) rfl (q := 3) (by decide) (rfl) ?_
    refine own_dcmp K own_d4_596 ?_
    refine own_ifne K own_d4_597 (fun q => absurd q (fun z => z (dcmpV_self ((hv3.fin (by decide)).noNaN) _))) (fun _ => ?_)
    refine own_iconst K own_d4_600 (v := (1 : Int32)) rfl ?_
    refine own_goto K own_d4_601 ?_
    refine own_istore K own_d4_605 (Ls' := #[.val (.long sl), .second, .val (.long vl), .second, .val (.int ic), .val (.int ct), .val (.int (1 : Int32)), .val (.int (3 : Int32)), .val (.double ss), .second, .val (.double vz), .second, .val (.double (4562146422526312448 : UInt64)), .second, .val (.ref a9), .val (.ref a12), .val (.ref a15), .val (.ref a18), .val (.ref a21), .val (.ref a24), .val (.int (1 : Int32)), .val (.int (1 : Int32)), .val (.int (1 : Int32))]) rfl ?_
    refine own_iload K own_d4_607 rfl ?_
    refine own_ifeq K own_d4_609 (fun q => absurd q (by decide)) (fun _ => ?_)
    refine own_iload K own_d4_612 rfl ?_
    refine own_ifeq K own_d4_614 (fun q => absurd q (by decide)) (fun _ => ?_)
    refine own_iload K own_d4_617 rfl ?_
    refine own_ifeq K own_d4_619 (fun q => absurd q (by decide)) (fun _ => ?_)
    refine own_iconst K own_d4_622 (v := (1 : Int32)) rfl ?_
    refine own_goto K own_d4_623 ?_
    exact own_retZ K (by first | exact Or.inl rfl | exact Or.inr rfl | decide) own_d4_627 (by decide) (by decide) (rfl)
  · obtain ⟨rfl, rfl⟩ := q
    have k0 : ¬ ((1 : Int32).toInt ≤ 0 ∧ 0 < (4 : Int32).toInt) := by decide
    have k1 : ((1 : Int32).toInt ≤ 1 ∧ 1 < (4 : Int32).toInt) := by decide
    have k2 : ((1 : Int32).toInt ≤ 2 ∧ 2 < (4 : Int32).toInt) := by decide
    have k3 : ((1 : Int32).toInt ≤ 3 ∧ 3 < (4 : Int32).toInt) := by decide
    have H169 := H79
    simp only [if_neg k0, if_pos k1, if_pos k2, if_pos k3] at H169
    replace H169 : own_H Z h76 ([]) ((a9, .double, "[D", [(.double s0), (.double (FP.dadd s1 v1)), (.double (FP.dadd s2 v2)), (.double (FP.dadd s3 v3))]) :: (a12, .double, "[D", [(.double c0), (.double (FP.dadd c1 (own_er s1 v1))), (.double (FP.dadd c2 (own_er s2 v2))), (.double (FP.dadd c3 (own_er s3 v3)))]) :: (a15, .double, "[D", [(.double v0), (.double v1), (.double v2), (.double v3)]) :: (a24, .double, "[D", [(.double v0), (.double v1), (.double v2), (.double v3)]) :: (a21, .double, "[D", [(.double c0), (.double c1), (.double c2), (.double c3)]) :: (a18, .double, "[D", [(.double s0), (.double s1), (.double s2), (.double s3)]) :: []) := H169
    refine own_iload K own_d4_347 rfl ?_
    refine own_ifgt K own_d4_349 (fun _ => ?_) (fun q => absurd (by decide) q)
    refine own_iload K own_d4_370 rfl ?_
    refine own_iconst K own_d4_372 (v := (1 : Int32)) rfl ?_
    refine own_icmpgt K own_d4_373 (fun q => absurd q (by decide)) (fun _ => ?_)
    refine own_iconst K own_d4_376 (v := (1 : Int32)) rfl ?_
    refine own_iload K own_d4_377 rfl ?_
    refine own_icmpge K own_d4_379 (fun q => absurd q (by decide)) (fun _ => ?_)
    refine own_aload K own_d4_382 rfl rfl ?_
    refine own_aload K own_d4_384 rfl rfl ?_
    refine own_iconst K own_d4_386 (v := (1 : Int32)) rfl ?_
    refine own_aload K own_d4_387 rfl rfl ?_
    refine own_iconst K own_d4_389 (v := (1 : Int32)) rfl ?_
    refine own_daload K own_d4_390 H169 (i := 3) rfl (q := 1) (by decide) (rfl) ?_
    have H170 := H169.frontA 4 rfl
    replace H170 : own_H Z h76 ([]) ((a21, .double, "[D", [(.double c0), (.double c1), (.double c2), (.double c3)]) :: (a9, .double, "[D", [(.double s0), (.double (FP.dadd s1 v1)), (.double (FP.dadd s2 v2)), (.double (FP.dadd s3 v3))]) :: (a12, .double, "[D", [(.double c0), (.double (FP.dadd c1 (own_er s1 v1))), (.double (FP.dadd c2 (own_er s2 v2))), (.double (FP.dadd c3 (own_er s3 v3)))]) :: (a15, .double, "[D", [(.double v0), (.double v1), (.double v2), (.double v3)]) :: (a24, .double, "[D", [(.double v0), (.double v1), (.double v2), (.double v3)]) :: (a18, .double, "[D", [(.double s0), (.double s1), (.double s2), (.double s3)]) :: []) := H170
    have H171 := H170.frontA 5 rfl
    replace H171 : own_H Z h76 ([]) ((a18, .double, "[D", [(.double s0), (.double s1), (.double s2), (.double s3)]) :: (a21, .double, "[D", [(.double c0), (.double c1), (.double c2), (.double c3)]) :: (a9, .double, "[D", [(.double s0), (.double (FP.dadd s1 v1)), (.double (FP.dadd s2 v2)), (.double (FP.dadd s3 v3))]) :: (a12, .double, "[D", [(.double c0), (.double (FP.dadd c1 (own_er s1 v1))), (.double (FP.dadd c2 (own_er s2 v2))), (.double (FP.dadd c3 (own_er s3 v3)))]) :: (a15, .double, "[D", [(.double v0), (.double v1), (.double v2), (.double v3)]) :: (a24, .double, "[D", [(.double v0), (.double v1), (.double v2), (.double v3)]) :: []) := H171
    refine own_static K own_d4_391 (own_w12 hw) (own_w13 hw) (own_w8 hw) (own_w14 hw) (argsL := [(.ref a18), (.ref a21), (.int (1 : Int32)), (.double v1)]) (rest := []) (own_add1 hw H171 hs1 hv1 hc1) own_pd3 rfl rfl rfl (by decide) (W := 0) (Nat.le_of_eq rfl) (by decide) (by decide) (by decide) (by decide) ?_
    intro v174 h172 q173
    obtain ⟨rfl, H175⟩ := q173
    replace H175 : own_H Z h172 ([]) ((a18, .double, "[D", [(.double s0), (.double (FP.dadd s1 v1)), (.double s2), (.double s3)]) :: (a21, .double, "[D", [(.double c0), (.double (FP.dadd c1 (own_er s1 v1))), (.double c2), (.double c3)]) :: (a9, .double, "[D", [(.double s0), (.double (FP.dadd s1 v1)), (.double (FP.dadd s2 v2)), (.double (FP.dadd s3 v3))]) :: (a12, .double, "[D", [(.double c0), (.double (FP.dadd c1 (own_er s1 v1))), (.double (FP.dadd c2 (own_er s2 v2))), (.double (FP.dadd c3 (own_er s3 v3)))]) :: (a15, .double, "[D", [(.double v0), (.double v1), (.double v2), (.double v3)]) :: (a24, .double, "[D", [(.double v0), (.double v1), (.double v2), (.double v3)]) :: []) := H175
    refine own_iload K own_d4_394 rfl ?_
    refine own_iconst K own_d4_396 (v := (2 : Int32)) rfl ?_
    refine own_icmpgt K own_d4_397 (fun q => absurd q (by decide)) (fun _ => ?_)
    refine own_iconst K own_d4_400 (v := (2 : Int32)) rfl ?_
    refine own_iload K own_d4_401 rfl ?_
    refine own_icmpge K own_d4_403 (fun q => absurd q (by decide)) (fun _ => ?_)
    refine own_aload K own_d4_406 rfl rfl ?_
    refine own_aload K own_d4_408 rfl rfl ?_
    refine own_iconst K own_d4_410 (v := (2 : Int32)) rfl ?_
    refine own_aload K own_d4_411 rfl rfl ?_
    refine own_iconst K own_d4_413 (v := (2 : Int32)) rfl ?_
    refine own_daload K own_d4_414 H175 (i := 5) rfl (q := 2) (by decide) (rfl) ?_
    have H176 := H175.frontA 1 rfl
    replace H176 : own_H Z h172 ([]) ((a21, .double, "[D", [(.double c0), (.double (FP.dadd c1 (own_er s1 v1))), (.double c2), (.double c3)]) :: (a18, .double, "[D", [(.double s0), (.double (FP.dadd s1 v1)), (.double s2), (.double s3)]) :: (a9, .double, "[D", [(.double s0), (.double (FP.dadd s1 v1)), (.double (FP.dadd s2 v2)), (.double (FP.dadd s3 v3))]) :: (a12, .double, "[D", [(.double c0), (.double (FP.dadd c1 (own_er s1 v1))), (.double (FP.dadd c2 (own_er s2 v2))), (.double (FP.dadd c3 (own_er s3 v3)))]) :: (a15, .double, "[D", [(.double v0), (.double v1), (.double v2), (.double v3)]) :: (a24, .double, "[D", [(.double v0), (.double v1), (.double v2), (.double v3)]) :: []) := H176
    have H177 := H176.frontA 1 rfl
    replace H177 : own_H Z h172 ([]) ((a18, .double, "[D", [(.double s0), (.double (FP.dadd s1 v1)), (.double s2), (.double s3)]) :: (a21, .double, "[D", [(.double c0), (.double (FP.dadd c1 (own_er s1 v1))), (.double c2), (.double c3)]) :: (a9, .double, "[D", [(.double s0), (.double (FP.dadd s1 v1)), (.double (FP.dadd s2 v2)), (.double (FP.dadd s3 v3))]) :: (a12, .double, "[D", [(.double c0), (.double (FP.dadd c1 (own_er s1 v1))), (.double (FP.dadd c2 (own_er s2 v2))), (.double (FP.dadd c3 (own_er s3 v3)))]) :: (a15, .double, "[D", [(.double v0), (.double v1), (.double v2), (.double v3)]) :: (a24, .double, "[D", [(.double v0), (.double v1), (.double v2), (.double v3)]) :: []) := H177
    refine own_static K own_d4_415 (own_w12 hw) (own_w13 hw) (own_w8 hw) (own_w14 hw) (argsL := [(.ref a18), (.ref a21), (.int (2 : Int32)), (.double v2)]) (rest := []) (own_add2 hw H177 hs2 hv2 hc2) own_pd3 rfl rfl rfl (by decide) (W := 0) (Nat.le_of_eq rfl) (by decide) (by decide) (by decide) (by decide) ?_
    intro v180 h178 q179
    obtain ⟨rfl, H181⟩ := q179
    replace H181 : own_H Z h178 ([]) ((a18, .double, "[D", [(.double s0), (.double (FP.dadd s1 v1)), (.double (FP.dadd s2 v2)), (.double s3)]) :: (a21, .double, "[D", [(.double c0), (.double (FP.dadd c1 (own_er s1 v1))), (.double (FP.dadd c2 (own_er s2 v2))), (.double c3)]) :: (a9, .double, "[D", [(.double s0), (.double (FP.dadd s1 v1)), (.double (FP.dadd s2 v2)), (.double (FP.dadd s3 v3))]) :: (a12, .double, "[D", [(.double c0), (.double (FP.dadd c1 (own_er s1 v1))), (.double (FP.dadd c2 (own_er s2 v2))), (.double (FP.dadd c3 (own_er s3 v3)))]) :: (a15, .double, "[D", [(.double v0), (.double v1), (.double v2), (.double v3)]) :: (a24, .double, "[D", [(.double v0), (.double v1), (.double v2), (.double v3)]) :: []) := H181
    refine own_iload K own_d4_418 rfl ?_
    refine own_iconst K own_d4_420 (v := (3 : Int32)) rfl ?_
    refine own_icmpgt K own_d4_421 (fun q => absurd q (by decide)) (fun _ => ?_)
    refine own_iconst K own_d4_424 (v := (3 : Int32)) rfl ?_
    refine own_iload K own_d4_425 rfl ?_
    refine own_icmpge K own_d4_427 (fun q => absurd q (by decide)) (fun _ => ?_)
    refine own_aload K own_d4_430 rfl rfl ?_
    refine own_aload K own_d4_432 rfl rfl ?_
    refine own_iconst K own_d4_434 (v := (3 : Int32)) rfl ?_
    refine own_aload K own_d4_435 rfl rfl ?_
    refine own_iconst K own_d4_437 (v := (3 : Int32)) rfl ?_
    refine own_daload K own_d4_438 H181 (i := 5) rfl (q := 3) (by decide) (rfl) ?_
    have H182 := H181.frontA 1 rfl
    replace H182 : own_H Z h178 ([]) ((a21, .double, "[D", [(.double c0), (.double (FP.dadd c1 (own_er s1 v1))), (.double (FP.dadd c2 (own_er s2 v2))), (.double c3)]) :: (a18, .double, "[D", [(.double s0), (.double (FP.dadd s1 v1)), (.double (FP.dadd s2 v2)), (.double s3)]) :: (a9, .double, "[D", [(.double s0), (.double (FP.dadd s1 v1)), (.double (FP.dadd s2 v2)), (.double (FP.dadd s3 v3))]) :: (a12, .double, "[D", [(.double c0), (.double (FP.dadd c1 (own_er s1 v1))), (.double (FP.dadd c2 (own_er s2 v2))), (.double (FP.dadd c3 (own_er s3 v3)))]) :: (a15, .double, "[D", [(.double v0), (.double v1), (.double v2), (.double v3)]) :: (a24, .double, "[D", [(.double v0), (.double v1), (.double v2), (.double v3)]) :: []) := H182
    have H183 := H182.frontA 1 rfl
    replace H183 : own_H Z h178 ([]) ((a18, .double, "[D", [(.double s0), (.double (FP.dadd s1 v1)), (.double (FP.dadd s2 v2)), (.double s3)]) :: (a21, .double, "[D", [(.double c0), (.double (FP.dadd c1 (own_er s1 v1))), (.double (FP.dadd c2 (own_er s2 v2))), (.double c3)]) :: (a9, .double, "[D", [(.double s0), (.double (FP.dadd s1 v1)), (.double (FP.dadd s2 v2)), (.double (FP.dadd s3 v3))]) :: (a12, .double, "[D", [(.double c0), (.double (FP.dadd c1 (own_er s1 v1))), (.double (FP.dadd c2 (own_er s2 v2))), (.double (FP.dadd c3 (own_er s3 v3)))]) :: (a15, .double, "[D", [(.double v0), (.double v1), (.double v2), (.double v3)]) :: (a24, .double, "[D", [(.double v0), (.double v1), (.double v2), (.double v3)]) :: []) := H183
    refine own_static K own_d4_439 (own_w12 hw) (own_w13 hw) (own_w8 hw) (own_w14 hw) (argsL := [(.ref a18), (.ref a21), (.int (3 : Int32)), (.double v3)]) (rest := []) (own_add3 hw H183 hs3 hv3 hc3) own_pd3 rfl rfl rfl (by decide) (W := 0) (Nat.le_of_eq rfl) (by decide) (by decide) (by decide) (by decide) ?_
    intro v186 h184 q185
    obtain ⟨rfl, H187⟩ := q185
    replace H187 : own_H Z h184 ([]) ((a18, .double, "[D", [(.double s0), (.double (FP.dadd s1 v1)), (.double (FP.dadd s2 v2)), (.double (FP.dadd s3 v3))]) :: (a21, .double, "[D", [(.double c0), (.double (FP.dadd c1 (own_er s1 v1))), (.double (FP.dadd c2 (own_er s2 v2))), (.double (FP.dadd c3 (own_er s3 v3)))]) :: (a9, .double, "[D", [(.double s0), (.double (FP.dadd s1 v1)), (.double (FP.dadd s2 v2)), (.double (FP.dadd s3 v3))]) :: (a12, .double, "[D", [(.double c0), (.double (FP.dadd c1 (own_er s1 v1))), (.double (FP.dadd c2 (own_er s2 v2))), (.double (FP.dadd c3 (own_er s3 v3)))]) :: (a15, .double, "[D", [(.double v0), (.double v1), (.double v2), (.double v3)]) :: (a24, .double, "[D", [(.double v0), (.double v1), (.double v2), (.double v3)]) :: []) := H187
    refine own_aload K own_d4_442 rfl rfl ?_
    refine own_iconst K own_d4_444 (v := (0 : Int32)) rfl ?_
    refine own_daload K own_d4_445 H187 (i := 2) rfl (q := 0) (by decide) (rfl) ?_
    refine own_aload K own_d4_446 rfl rfl ?_
    refine own_iconst K own_d4_448 (v := (0 : Int32)) rfl ?_
    refine own_daload K own_d4_449 H187 (i := 0) rfl (q := 0) (by decide) (rfl) ?_
    refine own_dcmp K own_d4_450 ?_
    refine own_ifne K own_d4_451 (fun q => absurd q (fun z => z (dcmpV_self ((hs0.fin (by decide)).noNaN) _))) (fun _ => ?_)
    refine own_aload K own_d4_454 rfl rfl ?_
    refine own_iconst K own_d4_456 (v := (1 : Int32)) rfl ?_
    refine own_daload K own_d4_457 H187 (i := 2) rfl (q := 1) (by decide) (rfl) ?_
    refine own_aload K own_d4_458 rfl rfl ?_
    refine own_iconst K own_d4_460 (v := (1 : Int32)) rfl ?_
    refine own_daload K own_d4_461 H187 (i := 0) rfl (q := 1) (by decide) (rfl) ?_
    refine own_dcmp K own_d4_462 ?_
    refine own_ifne K own_d4_463 (fun q => absurd q (fun z => z (dcmpV_self (((Fl.dadd_mag hs1 hv1 (by decide)).fin (by decide)).noNaN) _))) (fun _ => ?_)
    refine own_aload K own_d4_466 rfl rfl ?_
    refine own_iconst K own_d4_468 (v := (2 : Int32)) rfl ?_
    refine own_daload K own_d4_469 H187 (i := 2) rfl (q := 2) (by decide) (rfl) ?_
    refine own_aload K own_d4_470 rfl rfl ?_
    refine own_iconst K own_d4_472 (v := (2 : Int32)) rfl ?_
    refine own_daload K own_d4_473 H187 (i := 0) rfl (q := 2) (by decide) (rfl) ?_
    refine own_dcmp K own_d4_474 ?_
    refine own_ifne K own_d4_475 (fun q => absurd q (fun z => z (dcmpV_self (((Fl.dadd_mag hs2 hv2 (by decide)).fin (by decide)).noNaN) _))) (fun _ => ?_)
    refine own_aload K own_d4_478 rfl rfl ?_
    refine own_iconst K own_d4_480 (v := (3 : Int32)) rfl ?_
    refine own_daload K own_d4_481 H187 (i := 2) rfl (q := 3) (by decide) (rfl) ?_
    refine own_aload K own_d4_482 rfl rfl ?_
    refine own_iconst K own_d4_484 (v := (3 : Int32)) rfl ?_
    refine own_daload K own_d4_485 H187 (i := 0) rfl (q := 3) (by decide) (rfl) ?_
    refine own_dcmp K own_d4_486 ?_
    refine own_ifne K own_d4_487 (fun q => absurd q (fun z => z (dcmpV_self (((Fl.dadd_mag hs3 hv3 (by decide)).fin (by decide)).noNaN) _))) (fun _ => ?_)
    refine own_iconst K own_d4_490 (v := (1 : Int32)) rfl ?_
    refine own_goto K own_d4_491 ?_
    refine own_istore K own_d4_495 (Ls' := #[.val (.long sl), .second, .val (.long vl), .second, .val (.int ic), .val (.int ct), .val (.int (1 : Int32)), .val (.int (4 : Int32)), .val (.double ss), .second, .val (.double vz), .second, .val (.double (4562146422526312448 : UInt64)), .second, .val (.ref a9), .val (.ref a12), .val (.ref a15), .val (.ref a18), .val (.ref a21), .val (.ref a24), .val (.int (1 : Int32)), .unset, .unset]) rfl ?_
    refine own_aload K own_d4_497 rfl rfl ?_
    refine own_iconst K own_d4_499 (v := (0 : Int32)) rfl ?_
    refine own_daload K own_d4_500 H187 (i := 3) rfl (q := 0) (by decide) (rfl) ?_
    refine own_aload K own_d4_501 rfl rfl ?_
    refine own_iconst K own_d4_503 (v := (0 : Int32)) rfl ?_
    refine own_daload K own_d4_504 H187 (i := 1) rfl (q := 0) (by decide) (rfl) ?_
    refine own_dcmp K own_d4_505 ?_
    refine own_ifne K own_d4_506 (fun q => absurd q (fun z => z (dcmpV_self ((hc0.fin (by decide)).noNaN) _))) (fun _ => ?_)
    refine own_aload K own_d4_509 rfl rfl ?_
    refine own_iconst K own_d4_511 (v := (1 : Int32)) rfl ?_
    refine own_daload K own_d4_512 H187 (i := 3) rfl (q := 1) (by decide) (rfl) ?_
    refine own_aload K own_d4_513 rfl rfl ?_
    refine own_iconst K own_d4_515 (v := (1 : Int32)) rfl ?_
    refine own_daload K own_d4_516 H187 (i := 1) rfl (q := 1) (by decide) (rfl) ?_
    refine own_dcmp K own_d4_517 ?_
    refine own_ifne K own_d4_518 (fun q => absurd q (fun z => z (dcmpV_self (((own_e5 hs1 hv1 hc1).fin (by decide)).noNaN) _))) (fun _ => ?_)
    refine own_aload K own_d4_521 rfl rfl ?_
    refine own_iconst K own_d4_523 (v := (2 : Int32)) rfl ?_
    refine own_daload K own_d4_524 H187 (i := 3) rfl (q := 2) (by decide) (rfl) ?_
    refine own_aload K own_d4_525 rfl rfl ?_
    refine own_iconst K own_d4_527 (v := (2 : Int32)) rfl ?_
    refine own_daload K own_d4_528 H187 (i := 1) rfl (q := 2) (by decide) (rfl) ?_
    refine own_dcmp K own_d4_529 ?_
    refine own_ifne K own_d4_530 (fun q => absurd q (fun z => z (dcmpV_self (((own_e5 hs2 hv2 hc2).fin (by decide)).noNaN) _))) (fun _ => ?_)
    refine own_aload K own_d4_533 rfl rfl ?_
    refine own_iconst K own_d4_535 (v := (3 : Int32)) rfl ?_
    refine own_daload K own_d4_536 H187 (i := 3) rfl (q := 3) (by decide) (rfl) ?_
    refine own_aload K own_d4_537 rfl rfl ?_
    refine own_iconst K own_d4_539 (v := (3 : Int32)) rfl ?_
    refine own_daload K own_d4_540 H187 (i := 1) rfl (q := 3) (by decide) (rfl) ?_
    refine own_dcmp K own_d4_541 ?_
    refine own_ifne K own_d4_542 (fun q => absurd q (fun z => z (dcmpV_self (((own_e5 hs3 hv3 hc3).fin (by decide)).noNaN) _))) (fun _ => ?_)
    refine own_iconst K own_d4_545 (v := (1 : Int32)) rfl ?_
    refine own_goto K own_d4_546 ?_
    refine own_istore K own_d4_550 (Ls' := #[.val (.long sl), .second, .val (.long vl), .second, .val (.int ic), .val (.int ct), .val (.int (1 : Int32)), .val (.int (4 : Int32)), .val (.double ss), .second, .val (.double vz), .second, .val (.double (4562146422526312448 : UInt64)), .second, .val (.ref a9), .val (.ref a12), .val (.ref a15), .val (.ref a18), .val (.ref a21), .val (.ref a24), .val (.int (1 : Int32)), .val (.int (1 : Int32)), .unset]) rfl ?_
    refine own_aload K own_d4_552 rfl rfl ?_
    refine own_iconst K own_d4_554 (v := (0 : Int32)) rfl ?_
    refine own_daload K own_d4_555 H187 (i := 4) rfl (q := 0) (by decide) (rfl) ?_
    refine own_aload K own_d4_556 rfl rfl ?_
    refine own_iconst K own_d4_558 (v := (0 : Int32)) rfl ?_
    refine own_daload K own_d4_559 H187 (i := 5) rfl (q := 0) (by decide) (rfl) ?_
    refine own_dcmp K own_d4_560 ?_
    refine own_ifne K own_d4_561 (fun q => absurd q (fun z => z (dcmpV_self ((hv0.fin (by decide)).noNaN) _))) (fun _ => ?_)
    refine own_aload K own_d4_564 rfl rfl ?_
    refine own_iconst K own_d4_566 (v := (1 : Int32)) rfl ?_
    refine own_daload K own_d4_567 H187 (i := 4) rfl (q := 1) (by decide) (rfl) ?_
    refine own_aload K own_d4_568 rfl rfl ?_
    refine own_iconst K own_d4_570 (v := (1 : Int32)) rfl ?_
    refine own_daload K own_d4_571 H187 (i := 5) rfl (q := 1) (by decide) (rfl) ?_
    refine own_dcmp K own_d4_572 ?_
    refine own_ifne K own_d4_573 (fun q => absurd q (fun z => z (dcmpV_self ((hv1.fin (by decide)).noNaN) _))) (fun _ => ?_)
    refine own_aload K own_d4_576 rfl rfl ?_
    refine own_iconst K own_d4_578 (v := (2 : Int32)) rfl ?_
    refine own_daload K own_d4_579 H187 (i := 4) rfl (q := 2) (by decide) (rfl) ?_
    refine own_aload K own_d4_580 rfl rfl ?_
    refine own_iconst K own_d4_582 (v := (2 : Int32)) rfl ?_
    refine own_daload K own_d4_583 H187 (i := 5) rfl (q := 2) (by decide) (rfl) ?_
    refine own_dcmp K own_d4_584 ?_
    refine own_ifne K own_d4_585 (fun q => absurd q (fun z => z (dcmpV_self ((hv2.fin (by decide)).noNaN) _))) (fun _ => ?_)
    refine own_aload K own_d4_588 rfl rfl ?_
    refine own_iconst K own_d4_590 (v := (3 : Int32)) rfl ?_
    refine own_daload K own_d4_591 H187 (i := 4) rfl (q := 3) (by decide) (rfl) ?_
    refine own_aload K own_d4_592 rfl rfl ?_
    refine own_iconst K own_d4_594 (v := (3 : Int32)) rfl ?_
    refine own_daload K own_d4_595 H187 (i := 5) rfl (q := 3) (by decide) (rfl) ?_
    refine own_dcmp K own_d4_596 ?_
    refine own_ifne K own_d4_597 (fun q => absurd q (fun z => z (dcmpV_self ((hv3.fin (by decide)).noNaN) _))) (fun _ => ?_)
    refine own_iconst K own_d4_600 (v := (1 : Int32)) rfl ?_
    refine own_goto K own_d4_601 ?_
    refine own_istore K own_d4_605 (Ls' := #[.val (.long sl), .second, .val (.long vl), .second, .val (.int ic), .val (.int ct), .val (.int (1 : Int32)), .val (.int (4 : Int32)), .val (.double ss), .second, .val (.double vz), .second, .val (.double (4562146422526312448 : UInt64)), .second, .val (.ref a9), .val (.ref a12), .val (.ref a15), .val (.ref a18), .val (.ref a21), .val (.ref a24), .val (.int (1 : Int32)), .val (.int (1 : Int32)), .val (.int (1 : Int32))]) rfl ?_
    refine own_iload K own_d4_607 rfl ?_
    refine own_ifeq K own_d4_609 (fun q => absurd q (by decide)) (fun _ => ?_)
    refine own_iload K own_d4_612 rfl ?_
    refine own_ifeq K own_d4_614 (fun q => absurd q (by decide)) (fun _ => ?_)
    refine own_iload K own_d4_617 rfl ?_
    refine own_ifeq K own_d4_619 (fun q => absurd q (by decide)) (fun _ => ?_)
    refine own_iconst K own_d4_622 (v := (1 : Int32)) rfl ?_
    refine own_goto K own_d4_623 ?_
    exact own_retZ K (by first | exact Or.inl rfl | exact Or.inr rfl | decide) own_d4_627 (by decide) (by decide) (rfl)
  · obtain ⟨rfl, rfl⟩ := q
    have k0 : ¬ ((2 : Int32).toInt ≤ 0 ∧ 0 < (3 : Int32).toInt) := by decide
    have k1 : ¬ ((2 : Int32).toInt ≤ 1 ∧ 1 < (3 : Int32).toInt) := by decide
    have k2 : ((2 : Int32).toInt ≤ 2 ∧ 2 < (3 : Int32).toInt) := by decide
    have k3 : ¬ ((2 : Int32).toInt ≤ 3 ∧ 3 < (3 : Int32).toInt) := by decide
    have H188 := H79
    simp only [if_neg k0, if_neg k1, if_pos k2, if_neg k3] at H188
    replace H188 : own_H Z h76 ([]) ((a9, .double, "[D", [(.double s0), (.double s1), (.double (FP.dadd s2 v2)), (.double s3)]) :: (a12, .double, "[D", [(.double c0), (.double c1), (.double (FP.dadd c2 (own_er s2 v2))), (.double c3)]) :: (a15, .double, "[D", [(.double v0), (.double v1), (.double v2), (.double v3)]) :: (a24, .double, "[D", [(.double v0), (.double v1), (.double v2), (.double v3)]) :: (a21, .double, "[D", [(.double c0), (.double c1), (.double c2), (.double c3)]) :: (a18, .double, "[D", [(.double s0), (.double s1), (.double s2), (.double s3)]) :: []) := H188
    refine own_iload K own_d4_347 rfl ?_
    refine own_ifgt K own_d4_349 (fun _ => ?_) (fun q => absurd (by decide) q)
    refine own_iload K own_d4_370 rfl ?_
    refine own_iconst K own_d4_372 (v := (1 : Int32)) rfl ?_
    refine own_icmpgt K own_d4_373 (fun _ => ?_) (fun q => absurd (by decide) q)
    refine own_iload K own_d4_394 rfl ?_
    refine own_iconst K own_d4_396 (v := (2 : Int32)) rfl ?_
    refine own_icmpgt K own_d4_397 (fun q => absurd q (by decide)) (fun _ => ?_)
    refine own_iconst K own_d4_400 (v := (2 : Int32)) rfl ?_
    refine own_iload K own_d4_401 rfl ?_
    refine own_icmpge K own_d4_403 (fun q => absurd q (by decide)) (fun _ => ?_)
    refine own_aload K own_d4_406 rfl rfl ?_
    refine own_aload K own_d4_408 rfl rfl ?_
    refine own_iconst K own_d4_410 (v := (2 : Int32)) rfl ?_
    refine own_aload K own_d4_411 rfl rfl ?_
    refine own_iconst K own_d4_413 (v := (2 : Int32)) rfl ?_
    refine own_daload K own_d4_414 H188 (i := 3) rfl (q := 2) (by decide) (rfl) ?_
    have H189 := H188.frontA 4 rfl
    replace H189 : own_H Z h76 ([]) ((a21, .double, "[D", [(.double c0), (.double c1), (.double c2), (.double c3)]) :: (a9, .double, "[D", [(.double s0), (.double s1), (.double (FP.dadd s2 v2)), (.double s3)]) :: (a12, .double, "[D", [(.double c0), (.double c1), (.double (FP.dadd c2 (own_er s2 v2))), (.double c3)]) :: (a15, .double, "[D", [(.double v0), (.double v1), (.double v2), (.double v3)]) :: (a24, .double, "[D", [(.double v0), (.double v1), (.double v2), (.double v3)]) :: (a18, .double, "[D", [(.double s0), (.double s1), (.double s2), (.double s3)]) :: []) := H189
    have H190 := H189.frontA 5 rfl
    replace H190 : own_H Z h76 ([]) ((a18, .double, "[D", [(.double s0), (.double s1), (.double s2), (.double s3)]) :: (a21, .double, "[D", [(.double c0), (.double c1), (.double c2), (.double c3)]) :: (a9, .double, "[D", [(.double s0), (.double s1), (.double (FP.dadd s2 v2)), (.double s3)]) :: (a12, .double, "[D", [(.double c0), (.double c1), (.double (FP.dadd c2 (own_er s2 v2))), (.double c3)]) :: (a15, .double, "[D", [(.double v0), (.double v1), (.double v2), (.double v3)]) :: (a24, .double, "[D", [(.double v0), (.double v1), (.double v2), (.double v3)]) :: []) := H190
    refine own_static K own_d4_415 (own_w12 hw) (own_w13 hw) (own_w8 hw) (own_w14 hw) (argsL := [(.ref a18), (.ref a21), (.int (2 : Int32)), (.double v2)]) (rest := []) (own_add2 hw H190 hs2 hv2 hc2) own_pd3 rfl rfl rfl (by decide) (W := 0) (Nat.le_of_eq rfl) (by decide) (by decide) (by decide) (by decide) ?_
    intro v193 h191 q192
    obtain ⟨rfl, H194⟩ := q192
    replace H194 : own_H Z h191 ([]) ((a18, .double, "[D", [(.double s0), (.double s1), (.double (FP.dadd s2 v2)), (.double s3)]) :: (a21, .double, "[D", [(.double c0), (.double c1), (.double (FP.dadd c2 (own_er s2 v2))), (.double c3)]) :: (a9, .double, "[D", [(.double s0), (.double s1), (.double (FP.dadd s2 v2)), (.double s3)]) :: (a12, .double, "[D", [(.double c0), (.double c1), (.double (FP.dadd c2 (own_er s2 v2))), (.double c3)]) :: (a15, .double, "[D", [(.double v0), (.double v1), (.double v2), (.double v3)]) :: (a24, .double, "[D", [(.double v0), (.double v1), (.double v2), (.double v3)]) :: []) := H194
    refine own_iload K own_d4_418 rfl ?_
    refine own_iconst K own_d4_420 (v := (3 : Int32)) rfl ?_
    refine own_icmpgt K own_d4_421 (fun q => absurd q (by decide)) (fun _ => ?_)
    refine own_iconst K own_d4_424 (v := (3 : Int32)) rfl ?_
    refine own_iload K own_d4_425 rfl ?_
    refine own_icmpge K own_d4_427 (fun _ => ?_) (fun q => absurd (by decide) q)
    refine own_aload K own_d4_442 rfl rfl ?_
    refine own_iconst K own_d4_444 (v := (0 : Int32)) rfl ?_
    refine own_daload K own_d4_445 H194 (i := 2) rfl (q := 0) (by decide) (rfl) ?_
    refine own_aload K own_d4_446 rfl rfl ?_
    refine own_iconst K own_d4_448 (v := (0 : Int32)) rfl ?_
    refine own_daload K own_d4_449 H194 (i := 0) rfl (q := 0) (by decide) (rfl) ?_
    refine own_dcmp K own_d4_450 ?_
    refine own_ifne K own_d4_451 (fun q => absurd q (fun z => z (dcmpV_self ((hs0.fin (by decide)).noNaN) _))) (fun _ => ?_)
    refine own_aload K own_d4_454 rfl rfl ?_
    refine own_iconst K own_d4_456 (v := (1 : Int32)) rfl ?_
    refine own_daload K own_d4_457 H194 (i := 2) rfl (q := 1) (by decide) (rfl) ?_
    refine own_aload K own_d4_458 rfl rfl ?_
    refine own_iconst K own_d4_460 (v := (1 : Int32)) rfl ?_
    refine own_daload K own_d4_461 H194 (i := 0) rfl (q := 1) (by decide) (rfl) ?_
    refine own_dcmp K own_d4_462 ?_
    refine own_ifne K own_d4_463 (fun q => absurd q (fun z => z (dcmpV_self ((hs1.fin (by decide)).noNaN) _))) (fun _ => ?_)
    refine own_aload K own_d4_466 rfl rfl ?_
    refine own_iconst K own_d4_468 (v := (2 : Int32)) rfl ?_
    refine own_daload K own_d4_469 H194 (i := 2) rfl (q := 2) (by decide) (rfl) ?_
    refine own_aload K own_d4_470 rfl rfl ?_
    refine own_iconst K own_d4_472 (v := (2 : Int32)) rfl ?_
    refine own_daload K own_d4_473 H194 (i := 0) rfl (q := 2) (by decide) (rfl) ?_
    refine own_dcmp K own_d4_474 ?_
    refine own_ifne K own_d4_475 (fun q => absurd q (fun z => z (dcmpV_self (((Fl.dadd_mag hs2 hv2 (by decide)).fin (by decide)).noNaN) _))) (fun _ => ?_)
    refine own_aload K own_d4_478 rfl rfl ?_
    refine own_iconst K own_d4_480 (v := (3 : Int32)) rfl ?_
    refine own_daload K own_d4_481 H194 (i := 2) rfl (q := 3) (by decide) (rfl) ?_
    refine own_aload K own_d4_482 rfl rfl ?_
    refine own_iconst K own_d4_484 (v := (3 : Int32)) rfl ?_
    refine own_daload K own_d4_485 H194 (i := 0) rfl (q := 3) (by decide) (rfl) ?_
    refine own_dcmp K own_d4_486 ?_
    refine own_ifne K own_d4_487 (fun q => absurd q (fun z => z (dcmpV_self ((hs3.fin (by decide)).noNaN) _))) (fun _ => ?_)
    refine own_iconst K own_d4_490 (v := (1 : Int32)) rfl ?_
    refine own_goto K own_d4_491 ?_
    refine own_istore K own_d4_495 (Ls' := #[.val (.long sl), .second, .val (.long vl), .second, .val (.int ic), .val (.int ct), .val (.int (2 : Int32)), .val (.int (3 : Int32)), .val (.double ss), .second, .val (.double vz), .second, .val (.double (4562146422526312448 : UInt64)), .second, .val (.ref a9), .val (.ref a12), .val (.ref a15), .val (.ref a18), .val (.ref a21), .val (.ref a24), .val (.int (1 : Int32)), .unset, .unset]) rfl ?_
    refine own_aload K own_d4_497 rfl rfl ?_
    refine own_iconst K own_d4_499 (v := (0 : Int32)) rfl ?_
    refine own_daload K own_d4_500 H194 (i := 3) rfl (q := 0) (by decide) (rfl) ?_
    refine own_aload K own_d4_501 rfl rfl ?_
    refine own_iconst K own_d4_503 (v := (0 : Int32)) rfl ?_
    refine own_daload K own_d4_504 H194 (i := 1) rfl (q := 0) (by decide) (rfl) ?_
    refine own_dcmp K own_d4_505 ?_
    refine own_ifne K own_d4_506 (fun q => absurd q (fun z => z (dcmpV_self ((hc0.fin (by decide)).noNaN) _))) (fun _ => ?_)
    refine own_aload K own_d4_509 rfl rfl ?_
    refine own_iconst K own_d4_511 (v := (1 : Int32)) rfl ?_
    refine own_daload K own_d4_512 H194 (i := 3) rfl (q := 1) (by decide) (rfl) ?_
    refine own_aload K own_d4_513 rfl rfl ?_
    refine own_iconst K own_d4_515 (v := (1 : Int32)) rfl ?_
    refine own_daload K own_d4_516 H194 (i := 1) rfl (q := 1) (by decide) (rfl) ?_
    refine own_dcmp K own_d4_517 ?_
    refine own_ifne K own_d4_518 (fun q => absurd q (fun z => z (dcmpV_self ((hc1.fin (by decide)).noNaN) _))) (fun _ => ?_)
    refine own_aload K own_d4_521 rfl rfl ?_
    refine own_iconst K own_d4_523 (v := (2 : Int32)) rfl ?_
    refine own_daload K own_d4_524 H194 (i := 3) rfl (q := 2) (by decide) (rfl) ?_
    refine own_aload K own_d4_525 rfl rfl ?_
    refine own_iconst K own_d4_527 (v := (2 : Int32)) rfl ?_
    refine own_daload K own_d4_528 H194 (i := 1) rfl (q := 2) (by decide) (rfl) ?_
    refine own_dcmp K own_d4_529 ?_
    refine own_ifne K own_d4_530 (fun q => absurd q (fun z => z (dcmpV_self (((own_e5 hs2 hv2 hc2).fin (by decide)).noNaN) _))) (fun _ => ?_)
    refine own_aload K own_d4_533 rfl rfl ?_
    refine own_iconst K own_d4_535 (v := (3 : Int32)) rfl ?_
    refine own_daload K own_d4_536 H194 (i := 3) rfl (q := 3) (by decide) (rfl) ?_
    refine own_aload K own_d4_537 rfl rfl ?_
    refine own_iconst K own_d4_539 (v := (3 : Int32)) rfl ?_
    refine own_daload K own_d4_540 H194 (i := 1) rfl (q := 3) (by decide) (rfl) ?_
    refine own_dcmp K own_d4_541 ?_
    refine own_ifne K own_d4_542 (fun q => absurd q (fun z => z (dcmpV_self ((hc3.fin (by decide)).noNaN) _))) (fun _ => ?_)
    refine own_iconst K own_d4_545 (v := (1 : Int32)) rfl ?_
    refine own_goto K own_d4_546 ?_
    refine own_istore K own_d4_550 (Ls' := #[.val (.long sl), .second, .val (.long vl), .second, .val (.int ic), .val (.int ct), .val (.int (2 : Int32)), .val (.int (3 : Int32)), .val (.double ss), .second, .val (.double vz), .second, .val (.double (4562146422526312448 : UInt64)), .second, .val (.ref a9), .val (.ref a12), .val (.ref a15), .val (.ref a18), .val (.ref a21), .val (.ref a24), .val (.int (1 : Int32)), .val (.int (1 : Int32)), .unset]) rfl ?_
    refine own_aload K own_d4_552 rfl rfl ?_
    refine own_iconst K own_d4_554 (v := (0 : Int32)) rfl ?_
    refine own_daload K own_d4_555 H194 (i := 4) rfl (q := 0) (by decide) (rfl) ?_
    refine own_aload K own_d4_556 rfl rfl ?_
    refine own_iconst K own_d4_558 (v := (0 : Int32)) rfl ?_
    refine own_daload K own_d4_559 H194 (i := 5) rfl (q := 0) (by decide) (rfl) ?_
    refine own_dcmp K own_d4_560 ?_
    refine own_ifne K own_d4_561 (fun q => absurd q (fun z => z (dcmpV_self ((hv0.fin (by decide)).noNaN) _))) (fun _ => ?_)
    refine own_aload K own_d4_564 rfl rfl ?_
    refine own_iconst K own_d4_566 (v := (1 : Int32)) rfl ?_
    refine own_daload K own_d4_567 H194 (i := 4) rfl (q := 1) (by decide) (rfl) ?_
    refine own_aload K own_d4_568 rfl rfl ?_
    refine own_iconst K own_d4_570 (v := (1 : Int32)) rfl ?_
    refine own_daload K own_d4_571 H194 (i := 5) rfl (q := 1) (by decide) (rfl) ?_
    refine own_dcmp K own_d4_572 ?_
    refine own_ifne K own_d4_573 (fun q => absurd q (fun z => z (dcmpV_self ((hv1.fin (by decide)).noNaN) _))) (fun _ => ?_)
    refine own_aload K own_d4_576 rfl rfl ?_
    refine own_iconst K own_d4_578 (v := (2 : Int32)) rfl ?_
    refine own_daload K own_d4_579 H194 (i := 4) rfl (q := 2) (by decide) (rfl) ?_
    refine own_aload K own_d4_580 rfl rfl ?_
    refine own_iconst K own_d4_582 (v := (2 : Int32)) rfl ?_
    refine own_daload K own_d4_583 H194 (i := 5) rfl (q := 2) (by decide) (rfl) ?_
    refine own_dcmp K own_d4_584 ?_
    refine own_ifne K own_d4_585 (fun q => absurd q (fun z => z (dcmpV_self ((hv2.fin (by decide)).noNaN) _))) (fun _ => ?_)
    refine own_aload K own_d4_588 rfl rfl ?_
    refine own_iconst K own_d4_590 (v := (3 : Int32)) rfl ?_
    refine own_daload K own_d4_591 H194 (i := 4) rfl (q := 3) (by decide) (rfl) ?_
    refine own_aload K own_d4_592 rfl rfl ?_
    refine own_iconst K own_d4_594 (v := (3 : Int32)) rfl ?_
    refine own_daload K own_d4_595 H194 (i := 5) rfl (q := 3) (by decide) (rfl) ?_
    refine own_dcmp K own_d4_596 ?_
    refine own_ifne K own_d4_597 (fun q => absurd q (fun z => z (dcmpV_self ((hv3.fin (by decide)).noNaN) _))) (fun _ => ?_)
    refine own_iconst K own_d4_600 (v := (1 : Int32)) rfl ?_
    refine own_goto K own_d4_601 ?_
    refine own_istore K own_d4_605 (Ls' := #[.val (.long sl), .second, .val (.long vl), .second, .val (.int ic), .val (.int ct), .val (.int (2 : Int32)), .val (.int (3 : Int32)), .val (.double ss), .second, .val (.double vz), .second, .val (.double (4562146422526312448 : UInt64)), .second, .val (.ref a9), .val (.ref a12), .val (.ref a15), .val (.ref a18), .val (.ref a21), .val (.ref a24), .val (.int (1 : Int32)), .val (.int (1 : Int32)), .val (.int (1 : Int32))]) rfl ?_
    refine own_iload K own_d4_607 rfl ?_
    refine own_ifeq K own_d4_609 (fun q => absurd q (by decide)) (fun _ => ?_)
    refine own_iload K own_d4_612 rfl ?_
    refine own_ifeq K own_d4_614 (fun q => absurd q (by decide)) (fun _ => ?_)
    refine own_iload K own_d4_617 rfl ?_
    refine own_ifeq K own_d4_619 (fun q => absurd q (by decide)) (fun _ => ?_)
    refine own_iconst K own_d4_622 (v := (1 : Int32)) rfl ?_
    refine own_goto K own_d4_623 ?_
    exact own_retZ K (by first | exact Or.inl rfl | exact Or.inr rfl | decide) own_d4_627 (by decide) (by decide) (rfl)
  · obtain ⟨rfl, rfl⟩ := q
    have k0 : ¬ ((2 : Int32).toInt ≤ 0 ∧ 0 < (4 : Int32).toInt) := by decide
    have k1 : ¬ ((2 : Int32).toInt ≤ 1 ∧ 1 < (4 : Int32).toInt) := by decide
    have k2 : ((2 : Int32).toInt ≤ 2 ∧ 2 < (4 : Int32).toInt) := by decide
    have k3 : ((2 : Int32).toInt ≤ 3 ∧ 3 < (4 : Int32).toInt) := by decide
    have H195 := H79
    simp only [if_neg k0, if_neg k1, if_pos k2, if_pos k3] at H195
    replace H195 : own_H Z h76 ([]) ((a9, .double, "[D", [(.double s0), (.double s1), (.double (FP.dadd s2 v2)), (.double (FP.dadd s3 v3))]) :: (a12, .double, "[D", [(.double c0), (.double c1), (.double (FP.dadd c2 (own_er s2 v2))), (.double (FP.dadd c3 (own_er s3 v3)))]) :: (a15, .double, "[D", [(.double v0), (.double v1), (.double v2), (.double v3)]) :: (a24, .double, "[D", [(.double v0), (.double v1), (.double v2), (.double v3)]) :: (a21, .double, "[D", [(.double c0), (.double c1), (.double c2), (.double c3)]) :: (a18, .double, "[D", [(.double s0), (.double s1), (.double s2), (.double s3)]) :: []) := H195
    refine own_iload K own_d4_347 rfl ?_
    refine own_ifgt K own_d4_349 (fun _ => ?_) (fun q => absurd (by decide) q)
    refine own_iload K own_d4_370 rfl ?_
    refine own_iconst K own_d4_372 (v := (1 : Int32)) rfl ?_
    refine own_icmpgt K own_d4_373 (fun _ => ?_) (fun q => absurd (by decide) q)
    refine own_iload K own_d4_394 rfl ?_
    refine own_iconst K own_d4_396 (v := (2 : Int32)) rfl ?_
    refine own_icmpgt K own_d4_397 (fun q => absurd q (by decide)) (fun _ => ?_)
    refine own_iconst K own_d4_400 (v := (2 : Int32)) rfl ?_
    refine own_iload K own_d4_401 rfl ?_
    refine own_icmpge K own_d4_403 (fun q => absurd q (by decide)) (fun _ => ?_)
    refine own_aload K own_d4_406 rfl rfl ?_
    refine own_aload K own_d4_408 rfl rfl ?_
    refine own_iconst K own_d4_410 (v := (2 : Int32)) rfl ?_
    refine own_aload K own_d4_411 rfl rfl ?_
    refine own_iconst K own_d4_413 (v := (2 : Int32)) rfl ?_
    refine own_daload K own_d4_414 H195 (i := 3) rfl (q := 2) (by decide) (rfl) ?_
    have H196 := H195.frontA 4 rfl
    replace H196 : own_H Z h76 ([]) ((a21, .double, "[D", [(.double c0), (.double c1), (.double c2), (.double c3)]) :: (a9, .double, "[D", [(.double s0), (.double s1), (.double (FP.dadd s2 v2)), (.double (FP.dadd s3 v3))]) :: (a12, .double, "[D", [(.double c0), (.double c1), (.double (FP.dadd c2 (own_er s2 v2))), (.double (FP.dadd c3 (own_er s3 v3)))]) :: (a15, .double, "[D", [(.double v0), (.double v1), (.double v2), (.double v3)]) :: (a24, .double, "[D", [(.double v0), (.double v1), (.double v2), (.double v3)]) :: (a18, .double, "[D", [(.double s0), (.double s1), (.double s2), (.double s3)]) :: []) := H196
    have H197 := H196.frontA 5 rfl
    replace H197 : own_H Z h76 ([]) ((a18, .double, "[D", [(.double s0), (.double s1), (.double s2), (.double s3)]) :: (a21, .double, "[D", [(.double c0), (.double c1), (.double c2), (.double c3)]) :: (a9, .double, "[D", [(.double s0), (.double s1), (.double (FP.dadd s2 v2)), (.double (FP.dadd s3 v3))]) :: (a12, .double, "[D", [(.double c0), (.double c1), (.double (FP.dadd c2 (own_er s2 v2))), (.double (FP.dadd c3 (own_er s3 v3)))]) :: (a15, .double, "[D", [(.double v0), (.double v1), (.double v2), (.double v3)]) :: (a24, .double, "[D", [(.double v0), (.double v1), (.double v2), (.double v3)]) :: []) := H197
    refine own_static K own_d4_415 (own_w12 hw) (own_w13 hw) (own_w8 hw) (own_w14 hw) (argsL := [(.ref a18), (.ref a21), (.int (2 : Int32)), (.double v2)]) (rest := []) (own_add2 hw H197 hs2 hv2 hc2) own_pd3 rfl rfl rfl (by decide) (W := 0) (Nat.le_of_eq rfl) (by decide) (by decide) (by decide) (by decide) ?_
    intro v200 h198 q199
    obtain ⟨rfl, H201⟩ := q199
    replace H201 : own_H Z h198 ([]) ((a18, .double, "[D", [(.double s0), (.double s1), (.double (FP.dadd s2 v2)), (.double s3)]) :: (a21, .double, "[D", [(.double c0), (.double c1), (.double (FP.dadd c2 (own_er s2 v2))), (.double c3)]) :: (a9, .double, "[D", [(.double s0), (.double s1), (.double (FP.dadd s2 v2)), (.double (FP.dadd s3 v3))]) :: (a12, .double, "[D", [(.double c0), (.double c1), (.double (FP.dadd c2 (own_er s2 v2))), (.double (FP.dadd c3 (own_er s3 v3)))]) :: (a15, .double, "[D", [(.double v0), (.double v1), (.double v2), (.double v3)]) :: (a24, .double, "[D", [(.double v0), (.double v1), (.double v2), (.double v3)]) :: []) := H201
    refine own_iload K own_d4_418 rfl ?_
    refine own_iconst K own_d4_420 (v := (3 : Int32)) rfl ?_
    refine own_icmpgt K own_d4_421 (fun q => absurd q (by decide)) (fun _ => ?_)
    refine own_iconst K own_d4_424 (v := (3 : Int32)) rfl ?_
    refine own_iload K own_d4_425 rfl ?_
    refine own_icmpge K own_d4_427 (fun q => absurd q (by decide)) (fun _ => ?_)
    refine own_aload K own_d4_430 rfl rfl ?_
    refine own_aload K own_d4_432 rfl rfl ?_
    refine own_iconst K own_d4_434 (v := (3 : Int32)) rfl ?_
    refine own_aload K own_d4_435 rfl rfl ?_
    refine own_iconst K own_d4_437 (v := (3 : Int32)) rfl ?_
    refine own_daload K own_d4_438 H201 (i := 5) rfl (q := 3) (by decide) (rfl) ?_
    have H202 := H201.frontA 1 rfl
    replace H202 : own_H Z h198 ([]) ((a21, .double, "[D", [(.double c0), (.double c1), (.double (FP.dadd c2 (own_er s2 v2))), (.double c3)]) :: (a18, .double, "[D", [(.double s0), (.double s1), (.double (FP.dadd s2 v2)), (.double s3)]) :: (a9, .double, "[D", [(.double s0), (.double s1), (.double (FP.dadd s2 v2)), (.double (FP.dadd s3 v3))]) :: (a12, .double, "[D", [(.double c0), (.double c1), (.double (FP.dadd c2 (own_er s2 v2))), (.double (FP.dadd c3 (own_er s3 v3)))]) :: (a15, .double, "[D", [(.double v0), (.double v1), (.double v2), (.double v3)]) :: (a24, .double, "[D", [(.double v0), (.double v1), (.double v2), (.double v3)]) :: []) := H202
    have H203 := H202.frontA 1 rfl
    replace H203 : own_H Z h198 ([]) ((a18, .double, "[D", [(.double s0), (.double s1), (.double (FP.dadd s2 v2)), (.double s3)]) :: (a21, .double, "[D", [(.double c0), (.double c1), (.double (FP.dadd c2 (own_er s2 v2))), (.double c3)]) :: (a9, .double, "[D", [(.double s0), (.double s1), (.double (FP.dadd s2 v2)), (.double (FP.dadd s3 v3))]) :: (a12, .double, "[D", [(.double c0), (.double c1), (.double (FP.dadd c2 (own_er s2 v2))), (.double (FP.dadd c3 (own_er s3 v3)))]) :: (a15, .double, "[D", [(.double v0), (.double v1), (.double v2), (.double v3)]) :: (a24, .double, "[D", [(.double v0), (.double v1), (.double v2), (.double v3)]) :: []) := H203
    refine own_static K own_d4_439 (own_w12 hw) (own_w13 hw) (own_w8 hw) (own_w14 hw) (argsL := [(.ref a18), (.ref a21), (.int (3 : Int32)), (.double v3)]) (rest := []) (own_add3 hw H203 hs3 hv3 hc3) own_pd3 rfl rfl rfl (by decide) (W := 0) (Nat.le_of_eq rfl) (by decide) (by decide) (by decide) (by decide) ?_
    intro v206 h204 q205
    obtain ⟨rfl, H207⟩ := q205
    replace H207 : own_H Z h204 ([]) ((a18, .double, "[D", [(.double s0), (.double s1), (.double (FP.dadd s2 v2)), (.double (FP.dadd s3 v3))]) :: (a21, .double, "[D", [(.double c0), (.double c1), (.double (FP.dadd c2 (own_er s2 v2))), (.double (FP.dadd c3 (own_er s3 v3)))]) :: (a9, .double, "[D", [(.double s0), (.double s1), (.double (FP.dadd s2 v2)), (.double (FP.dadd s3 v3))]) :: (a12, .double, "[D", [(.double c0), (.double c1), (.double (FP.dadd c2 (own_er s2 v2))), (.double (FP.dadd c3 (own_er s3 v3)))]) :: (a15, .double, "[D", [(.double v0), (.double v1), (.double v2), (.double v3)]) :: (a24, .double, "[D", [(.double v0), (.double v1), (.double v2), (.double v3)]) :: []) := H207
    refine own_aload K own_d4_442 rfl rfl ?_
    refine own_iconst K own_d4_444 (v := (0 : Int32)) rfl ?_
    refine own_daload K own_d4_445 H207 (i := 2) rfl (q := 0) (by decide) (rfl) ?_
    refine own_aload K own_d4_446 rfl rfl ?_
    refine own_iconst K own_d4_448 (v := (0 : Int32)) rfl ?_
    refine own_daload K own_d4_449 H207 (i := 0) rfl (q := 0) (by decide) (rfl) ?_
    refine own_dcmp K own_d4_450 ?_
    refine own_ifne K own_d4_451 (fun q => absurd q (fun z => z (dcmpV_self ((hs0.fin (by decide)).noNaN) _))) (fun _ => ?_)
    refine own_aload K own_d4_454 rfl rfl ?_
    refine own_iconst K own_d4_456 (v := (1 : Int32)) rfl ?_
    refine own_daload K own_d4_457 H207 (i := 2) rfl (q := 1) (by decide) (rfl) ?_
    refine own_aload K own_d4_458 rfl rfl ?_
    refine own_iconst K own_d4_460 (v := (1 : Int32)) rfl ?_
    refine own_daload K own_d4_461 H207 (i := 0) rfl (q := 1) (by decide) (rfl) ?_
    refine own_dcmp K own_d4_462 ?_
    refine own_ifne K own_d4_463 (fun q => absurd q (fun z => z (dcmpV_self ((hs1.fin (by decide)).noNaN) _))) (fun _ => ?_)
    refine own_aload K own_d4_466 rfl rfl ?_
    refine own_iconst K own_d4_468 (v := (2 : Int32)) rfl ?_
    refine own_daload K own_d4_469 H207 (i := 2) rfl (q := 2) (by decide) (rfl) ?_
    refine own_aload K own_d4_470 rfl rfl ?_
    refine own_iconst K own_d4_472 (v := (2 : Int32)) rfl ?_
    refine own_daload K own_d4_473 H207 (i := 0) rfl (q := 2) (by decide) (rfl) ?_
    refine own_dcmp K own_d4_474 ?_
    refine own_ifne K own_d4_475 (fun q => absurd q (fun z => z (dcmpV_self (((Fl.dadd_mag hs2 hv2 (by decide)).fin (by decide)).noNaN) _))) (fun _ => ?_)
    refine own_aload K own_d4_478 rfl rfl ?_
    refine own_iconst K own_d4_480 (v := (3 : Int32)) rfl ?_
    refine own_daload K own_d4_481 H207 (i := 2) rfl (q := 3) (by decide) (rfl) ?_
    refine own_aload K own_d4_482 rfl rfl ?_
    refine own_iconst K own_d4_484 (v := (3 : Int32)) rfl ?_
    refine own_daload K own_d4_485 H207 (i := 0) rfl (q := 3) (by decide) (rfl) ?_
    refine own_dcmp K own_d4_486 ?_
    refine own_ifne K own_d4_487 (fun q => absurd q (fun z => z (dcmpV_self (((Fl.dadd_mag hs3 hv3 (by decide)).fin (by decide)).noNaN) _))) (fun _ => ?_)
    refine own_iconst K own_d4_490 (v := (1 : Int32)) rfl ?_
    refine own_goto K own_d4_491 ?_
    refine own_istore K own_d4_495 (Ls' := #[.val (.long sl), .second, .val (.long vl), .second, .val (.int ic), .val (.int ct), .val (.int (2 : Int32)), .val (.int (4 : Int32)), .val (.double ss), .second, .val (.double vz), .second, .val (.double (4562146422526312448 : UInt64)), .second, .val (.ref a9), .val (.ref a12), .val (.ref a15), .val (.ref a18), .val (.ref a21), .val (.ref a24), .val (.int (1 : Int32)), .unset, .unset]) rfl ?_
    refine own_aload K own_d4_497 rfl rfl ?_
    refine own_iconst K own_d4_499 (v := (0 : Int32)) rfl ?_
    refine own_daload K own_d4_500 H207 (i := 3) rfl (q := 0) (by decide) (rfl) ?_
    refine own_aload K own_d4_501 rfl rfl ?_
    refine own_iconst K own_d4_503 (v := (0 : Int32)) rfl ?_
    refine own_daload K own_d4_504 H207 (i := 1) rfl (q := 0) (by decide) (rfl) ?_
    refine own_dcmp K own_d4_505 ?_
    refine own_ifne K own_d4_506 (fun q => absurd q (fun z => z (dcmpV_self ((hc0.fin (by decide)).noNaN) _))) (fun _ => ?_)
    refine own_aload K own_d4_509 rfl rfl ?_
    refine own_iconst K own_d4_511 (v := (1 : Int32)) rfl ?_
    refine own_daload K own_d4_512 H207 (i := 3) rfl (q := 1) (by decide) (rfl) ?_
    refine own_aload K own_d4_513 rfl rfl ?_
    refine own_iconst K own_d4_515 (v := (1 : Int32)) rfl ?_
    refine own_daload K own_d4_516 H207 (i := 1) rfl (q := 1) (by decide) (rfl) ?_
    refine own_dcmp K own_d4_517 ?_
    refine own_ifne K own_d4_518 (fun q => absurd q (fun z => z (dcmpV_self ((hc1.fin (by decide)).noNaN) _))) (fun _ => ?_)
    refine own_aload K own_d4_521 rfl rfl ?_
    refine own_iconst K own_d4_523 (v := (2 : Int32)) rfl ?_
    refine own_daload K own_d4_524 H207 (i := 3) rfl (q := 2) (by decide) (rfl) ?_
    refine own_aload K own_d4_525 rfl rfl ?_
    refine own_iconst K own_d4_527 (v := (2 : Int32)) rfl ?_
    refine own_daload K own_d4_528 H207 (i := 1) rfl (q := 2) (by decide) (rfl) ?_
    refine own_dcmp K own_d4_529 ?_
    refine own_ifne K own_d4_530 (fun q => absurd q (fun z => z (dcmpV_self (((own_e5 hs2 hv2 hc2).fin (by decide)).noNaN) _))) (fun _ => ?_)
    refine own_aload K own_d4_533 rfl rfl ?_
    refine own_iconst K own_d4_535 (v := (3 : Int32)) rfl ?_
    refine own_daload K own_d4_536 H207 (i := 3) rfl (q := 3) (by decide) (rfl) ?_
    refine own_aload K own_d4_537 rfl rfl ?_
    refine own_iconst K own_d4_539 (v := (3 : Int32)) rfl ?_
    refine own_daload K own_d4_540 H207 (i := 1) rfl (q := 3) (by decide) (rfl) ?_
    refine own_dcmp K own_d4_541 ?_
    refine own_ifne K own_d4_542 (fun q => absurd q (fun z => z (dcmpV_self (((own_e5 hs3 hv3 hc3).fin (by decide)).noNaN) _))) (fun _ => ?_)
    refine own_iconst K own_d4_545 (v := (1 : Int32)) rfl ?_
    refine own_goto K own_d4_546 ?_
    refine own_istore K own_d4_550 (Ls' := #[.val (.long sl), .second, .val (.long vl), .second, .val (.int ic), .val (.int ct), .val (.int (2 : Int32)), .val (.int (4 : Int32)), .val (.double ss), .second, .val (.double vz), .second, .val (.double (4562146422526312448 : UInt64)), .second, .val (.ref a9), .val (.ref a12), .val (.ref a15), .val (.ref a18), .val (.ref a21), .val (.ref a24), .val (.int (1 : Int32)), .val (.int (1 : Int32)), .unset]) rfl ?_
    refine own_aload K own_d4_552 rfl rfl ?_
    refine own_iconst K own_d4_554 (v := (0 : Int32)) rfl ?_
    refine own_daload K own_d4_555 H207 (i := 4) rfl (q := 0) (by decide) (rfl) ?_
    refine own_aload K own_d4_556 rfl rfl ?_
    refine own_iconst K own_d4_558 (v := (0 : Int32)) rfl ?_
    refine own_daload K own_d4_559 H207 (i := 5) rfl (q := 0) (by decide) (rfl) ?_
    refine own_dcmp K own_d4_560 ?_
    refine own_ifne K own_d4_561 (fun q => absurd q (fun z => z (dcmpV_self ((hv0.fin (by decide)).noNaN) _))) (fun _ => ?_)
    refine own_aload K own_d4_564 rfl rfl ?_
    refine own_iconst K own_d4_566 (v := (1 : Int32)) rfl ?_
    refine own_daload K own_d4_567 H207 (i := 4) rfl (q := 1) (by decide) (rfl) ?_
    refine own_aload K own_d4_568 rfl rfl ?_
    refine own_iconst K own_d4_570 (v := (1 : Int32)) rfl ?_
    refine own_daload K own_d4_571 H207 (i := 5) rfl (q := 1) (by decide) (rfl) ?_
    refine own_dcmp K own_d4_572 ?_
    refine own_ifne K own_d4_573 (fun q => absurd q (fun z => z (dcmpV_self ((hv1.fin (by decide)).noNaN) _))) (fun _ => ?_)
    refine own_aload K own_d4_576 rfl rfl ?_
    refine own_iconst K own_d4_578 (v := (2 : Int32)) rfl ?_
    refine own_daload K own_d4_579 H207 (i := 4) rfl (q := 2) (by decide) (rfl) ?_
    refine own_aload K own_d4_580 rfl rfl ?_
    refine own_iconst K own_d4_582 (v := (2 : Int32)) rfl ?_
    refine own_daload K own_d4_583 H207 (i := 5) rfl (q := 2) (by decide) (rfl) ?_
    refine own_dcmp K own_d4_584 ?_
    refine own_ifne K own_d4_585 (fun q => absurd q (fun z => z (dcmpV_self ((hv2.fin (by decide)).noNaN) _))) (fun _ => ?_)
    refine own_aload K own_d4_588 rfl rfl ?_
    refine own_iconst K own_d4_590 (v := (3 : Int32)) rfl ?_
    refine own_daload K own_d4_591 H207 (i := 4) rfl (q := 3) (by decide) (rfl) ?_
    refine own_aload K own_d4_592 rfl rfl ?_
    refine own_iconst K own_d4_594 (v := (3 : Int32)) rfl ?_
    refine own_daload K own_d4_595 H207 (i := 5) rfl (q := 3) (by decide) (rfl) ?_
    refine own_dcmp K own_d4_596 ?_
    refine own_ifne K own_d4_597 (fun q => absurd q (fun z => z (dcmpV_self ((hv3.fin (by decide)).noNaN) _))) (fun _ => ?_)
    refine own_iconst K own_d4_600 (v := (1 : Int32)) rfl ?_
    refine own_goto K own_d4_601 ?_
    refine own_istore K own_d4_605 (Ls' := #[.val (.long sl), .second, .val (.long vl), .second, .val (.int ic), .val (.int ct), .val (.int (2 : Int32)), .val (.int (4 : Int32)), .val (.double ss), .second, .val (.double vz), .second, .val (.double (4562146422526312448 : UInt64)), .second, .val (.ref a9), .val (.ref a12), .val (.ref a15), .val (.ref a18), .val (.ref a21), .val (.ref a24), .val (.int (1 : Int32)), .val (.int (1 : Int32)), .val (.int (1 : Int32))]) rfl ?_
    refine own_iload K own_d4_607 rfl ?_
    refine own_ifeq K own_d4_609 (fun q => absurd q (by decide)) (fun _ => ?_)
    refine own_iload K own_d4_612 rfl ?_
    refine own_ifeq K own_d4_614 (fun q => absurd q (by decide)) (fun _ => ?_)
    refine own_iload K own_d4_617 rfl ?_
    refine own_ifeq K own_d4_619 (fun q => absurd q (by decide)) (fun _ => ?_)
    refine own_iconst K own_d4_622 (v := (1 : Int32)) rfl ?_
    refine own_goto K own_d4_623 ?_
    exact own_retZ K (by first | exact Or.inl rfl | exact Or.inr rfl | decide) own_d4_627 (by decide) (by decide) (rfl)
  · obtain ⟨rfl, rfl⟩ := q
    have k0 : ¬ ((3 : Int32).toInt ≤ 0 ∧ 0 < (4 : Int32).toInt) := by decide
    have k1 : ¬ ((3 : Int32).toInt ≤ 1 ∧ 1 < (4 : Int32).toInt) := by decide
    have k2 : ¬ ((3 : Int32).toInt ≤ 2 ∧ 2 < (4 : Int32).toInt) := by decide
    have k3 : ((3 : Int32).toInt ≤ 3 ∧ 3 < (4 : Int32).toInt) := by decide
    have H208 := H79
    simp only [if_neg k0, if_neg k1, if_neg k2, if_pos k3] at H208
    replace H208 : own_H Z h76 ([]) ((a9, .double, "[D", [(.double s0), (.double s1), (.double s2), (.double (FP.dadd s3 v3))]) :: (a12, .double, "[D", [(.double c0), (.double c1), (.double c2), (.double (FP.dadd c3 (own_er s3 v3)))]) :: (a15, .double, "[D", [(.double v0), (.double v1), (.double v2), (.double v3)]) :: (a24, .double, "[D", [(.double v0), (.double v1), (.double v2), (.double v3)]) :: (a21, .double, "[D", [(.double c0), (.double c1), (.double c2), (.double c3)]) :: (a18, .double, "[D", [(.double s0), (.double s1), (.double s2), (.double s3)]) :: []) := H208
    refine own_iload K own_d4_347 rfl ?_
    refine own_ifgt K own_d4_349 (fun _ => ?_) (fun q => absurd (by decide) q)
    refine own_iload K own_d4_370 rfl ?_
    refine own_iconst K own_d4_372 (v := (1 : Int32)) rfl ?_
    refine own_icmpgt K own_d4_373 (fun _ => ?_) (fun q => absurd (by decide) q)
    refine own_iload K own_d4_394 rfl ?_
    refine own_iconst K own_d4_396 (v := (2 : Int32)) rfl ?_
    refine own_icmpgt K own_d4_397 (fun _ => ?_) (fun q => absurd (by decide) q)
    refine own_iload K own_d4_418 rfl ?_
    refine own_iconst K own_d4_420 (v := (3 : Int32)) rfl ?_
    refine own_icmpgt K own_d4_421 (fun q => absurd q (by decide)) (fun _ => ?_)
    refine own_iconst K own_d4_424 (v := (3 : Int32)) rfl ?_
    refine own_iload K own_d4_425 rfl ?_
    refine own_icmpge K own_d4_427 (fun q => absurd q (by decide)) (fun _ => ?_)
    refine own_aload K own_d4_430 rfl rfl ?_
    refine own_aload K own_d4_432 rfl rfl ?_
    refine own_iconst K own_d4_434 (v := (3 : Int32)) rfl ?_
    refine own_aload K own_d4_435 rfl rfl ?_
    refine own_iconst K own_d4_437 (v := (3 : Int32)) rfl ?_
    refine own_daload K own_d4_438 H208 (i := 3) rfl (q := 3) (by decide) (rfl) ?_
    have H209 := H208.frontA 4 rfl
    replace H209 : own_H Z h76 ([]) ((a21, .double, "[D", [(.double c0), (.double c1), (.double c2), (.double c3)]) :: (a9, .double, "[D", [(.double s0), (.double s1), (.double s2), (.double (FP.dadd s3 v3))]) :: (a12, .double, "[D", [(.double c0), (.double c1), (.double c2), (.double (FP.dadd c3 (own_er s3 v3)))]) :: (a15, .double, "[D", [(.double v0), (.double v1), (.double v2), (.double v3)]) :: (a24, .double, "[D", [(.double v0), (.double v1), (.double v2), (.double v3)]) :: (a18, .double, "[D", [(.double s0), (.double s1), (.double s2), (.double s3)]) :: []) := H209
    have H210 := H209.frontA 5 rfl
    replace H210 : own_H Z h76 ([]) ((a18, .double, "[D", [(.double s0), (.double s1), (.double s2), (.double s3)]) :: (a21, .double, "[D", [(.double c0), (.double c1), (.double c2), (.double c3)]) :: (a9, .double, "[D", [(.double s0), (.double s1), (.double s2), (.double (FP.dadd s3 v3))]) :: (a12, .double, "[D", [(.double c0), (.double c1), (.double c2), (.double (FP.dadd c3 (own_er s3 v3)))]) :: (a15, .double, "[D", [(.double v0), (.double v1), (.double v2), (.double v3)]) :: (a24, .double, "[D", [(.double v0), (.double v1), (.double v2), (.double v3)]) :: []) := H210
    refine own_static K own_d4_439 (own_w12 hw) (own_w13 hw) (own_w8 hw) (own_w14 hw) (argsL := [(.ref a18), (.ref a21), (.int (3 : Int32)), (.double v3)]) (rest := []) (own_add3 hw H210 hs3 hv3 hc3) own_pd3 rfl rfl rfl (by decide) (W := 0) (Nat.le_of_eq rfl) (by decide) (by decide) (by decide) (by decide) ?_
    intro v213 h211 q212
    obtain ⟨rfl, H214⟩ := q212
    replace H214 : own_H Z h211 ([]) ((a18, .double, "[D", [(.double s0), (.double s1), (.double s2), (.double (FP.dadd s3 v3))]) :: (a21, .double, "[D", [(.double c0), (.double c1), (.double c2), (.double (FP.dadd c3 (own_er s3 v3)))]) :: (a9, .double, "[D", [(.double s0), (.double s1), (.double s2), (.double (FP.dadd s3 v3))]) :: (a12, .double, "[D", [(.double c0), (.double c1), (.double c2), (.double (FP.dadd c3 (own_er s3 v3)))]) :: (a15, .double, "[D", [(.double v0), (.double v1), (.double v2), (.double v3)]) :: (a24, .double, "[D", [(.double v0), (.double v1), (.double v2), (.double v3)]) :: []) := H214
    refine own_aload K own_d4_442 rfl rfl ?_
    refine own_iconst K own_d4_444 (v := (0 : Int32)) rfl ?_
    refine own_daload K own_d4_445 H214 (i := 2) rfl (q := 0) (by decide) (rfl) ?_
    refine own_aload K own_d4_446 rfl rfl ?_
    refine own_iconst K own_d4_448 (v := (0 : Int32)) rfl ?_
    refine own_daload K own_d4_449 H214 (i := 0) rfl (q := 0) (by decide) (rfl) ?_
    refine own_dcmp K own_d4_450 ?_
    refine own_ifne K own_d4_451 (fun q => absurd q (fun z => z (dcmpV_self ((hs0.fin (by decide)).noNaN) _))) (fun _ => ?_)
    refine own_aload K own_d4_454 rfl rfl ?_
    refine own_iconst K own_d4_456 (v := (1 : Int32)) rfl ?_
    refine own_daload K own_d4_457 H214 (i := 2) rfl (q := 1) (by decide) (rfl) ?_
    refine own_aload K own_d4_458 rfl rfl ?_
    refine own_iconst K own_d4_460 (v := (1 : Int32)) rfl ?_
    refine own_daload K own_d4_461 H214 (i := 0) rfl (q := 1) (by decide) (rfl) ?_
    refine own_dcmp K own_d4_462 ?_
    refine own_ifne K own_d4_463 (fun q => absurd q (fun z => z (dcmpV_self ((hs1.fin (by decide)).noNaN) _))) (fun _ => ?_)
    refine own_aload K own_d4_466 rfl rfl ?_
    refine own_iconst K own_d4_468 (v := (2 : Int32)) rfl ?_
    refine own_daload K own_d4_469 H214 (i := 2) rfl (q := 2) (by decide) (rfl) ?_
    refine own_aload K own_d4_470 rfl rfl ?_
    refine own_iconst K own_d4_472 (v := (2 : Int32)) rfl ?_
    refine own_daload K own_d4_473 H214 (i := 0) rfl (q := 2) (by decide) (rfl) ?_
    refine own_dcmp K own_d4_474 ?_
    refine own_ifne K own_d4_475 (fun q => absurd q (fun z => z (dcmpV_self ((hs2.fin (by decide)).noNaN) _))) (fun _ => ?_)
    refine own_aload K own_d4_478 rfl rfl ?_
    refine own_iconst K own_d4_480 (v := (3 : Int32)) rfl ?_
    refine own_daload K own_d4_481 H214 (i := 2) rfl (q := 3) (by decide) (rfl) ?_
    refine own_aload K own_d4_482 rfl rfl ?_
    refine own_iconst K own_d4_484 (v := (3 : Int32)) rfl ?_
    refine own_daload K own_d4_485 H214 (i := 0) rfl (q := 3) (by decide) (rfl) ?_
    refine own_dcmp K own_d4_486 ?_
    refine own_ifne K own_d4_487 (fun q => absurd q (fun z => z (dcmpV_self (((Fl.dadd_mag hs3 hv3 (by decide)).fin (by decide)).noNaN) _))) (fun _ => ?_)
    refine own_iconst K own_d4_490 (v := (1 : Int32)) rfl ?_
    refine own_goto K own_d4_491 ?_
    refine own_istore K own_d4_495 (Ls' := #[.val (.long sl), .second, .val (.long vl), .second, .val (.int ic), .val (.int ct), .val (.int (3 : Int32)), .val (.int (4 : Int32)), .val (.double ss), .second, .val (.double vz), .second, .val (.double (4562146422526312448 : UInt64)), .second, .val (.ref a9), .val (.ref a12), .val (.ref a15), .val (.ref a18), .val (.ref a21), .val (.ref a24), .val (.int (1 : Int32)), .unset, .unset]) rfl ?_
    refine own_aload K own_d4_497 rfl rfl ?_
    refine own_iconst K own_d4_499 (v := (0 : Int32)) rfl ?_
    refine own_daload K own_d4_500 H214 (i := 3) rfl (q := 0) (by decide) (rfl) ?_
    refine own_aload K own_d4_501 rfl rfl ?_
    refine own_iconst K own_d4_503 (v := (0 : Int32)) rfl ?_
    refine own_daload K own_d4_504 H214 (i := 1) rfl (q := 0) (by decide) (rfl) ?_
    refine own_dcmp K own_d4_505 ?_
    refine own_ifne K own_d4_506 (fun q => absurd q (fun z => z (dcmpV_self ((hc0.fin (by decide)).noNaN) _))) (fun _ => ?_)
    refine own_aload K own_d4_509 rfl rfl ?_
    refine own_iconst K own_d4_511 (v := (1 : Int32)) rfl ?_
    refine own_daload K own_d4_512 H214 (i := 3) rfl (q := 1) (by decide) (rfl) ?_
    refine own_aload K own_d4_513 rfl rfl ?_
    refine own_iconst K own_d4_515 (v := (1 : Int32)) rfl ?_
    refine own_daload K own_d4_516 H214 (i := 1) rfl (q := 1) (by decide) (rfl) ?_
    refine own_dcmp K own_d4_517 ?_
    refine own_ifne K own_d4_518 (fun q => absurd q (fun z => z (dcmpV_self ((hc1.fin (by decide)).noNaN) _))) (fun _ => ?_)
    refine own_aload K own_d4_521 rfl rfl ?_
    refine own_iconst K own_d4_523 (v := (2 : Int32)) rfl ?_
    refine own_daload K own_d4_524 H214 (i := 3) rfl (q := 2) (by decide) (rfl) ?_
    refine own_aload K own_d4_525 rfl rfl ?_
    refine own_iconst K own_d4_527 (v := (2 : Int32)) rfl ?_
    refine own_daload K own_d4_528 H214 (i := 1) rfl (q := 2) (by decide) (rfl) ?_
    refine own_dcmp K own_d4_529 ?_
    refine own_ifne K own_d4_530 (fun q => absurd q (fun z => z (dcmpV_self ((hc2.fin (by decide)).noNaN) _))) (fun _ => ?_)
    refine own_aload K own_d4_533 rfl rfl ?_
    refine own_iconst K own_d4_535 (v := (3 : Int32)) rfl ?_
    refine own_daload K own_d4_536 H214 (i := 3) rfl (q := 3) (by decide) (rfl) ?_
    refine own_aload K own_d4_537 rfl rfl ?_
    refine own_iconst K own_d4_539 (v := (3 : Int32)) rfl ?_
    refine own_daload K own_d4_540 H214 (i := 1) rfl (q := 3) (by decide) (rfl) ?_
    refine own_dcmp K own_d4_541 ?_
    refine own_ifne K own_d4_542 (fun q => absurd q (fun z => z (dcmpV_self (((own_e5 hs3 hv3 hc3).fin (by decide)).noNaN) _))) (fun _ => ?_)
    refine own_iconst K own_d4_545 (v := (1 : Int32)) rfl ?_
    refine own_goto K own_d4_546 ?_
    refine own_istore K own_d4_550 (Ls' := #[.val (.long sl), .second, .val (.long vl), .second, .val (.int ic), .val (.int ct), .val (.int (3 : Int32)), .val (.int (4 : Int32)), .val (.double ss), .second, .val (.double vz), .second, .val (.double (4562146422526312448 : UInt64)), .second, .val (.ref a9), .val (.ref a12), .val (.ref a15), .val (.ref a18), .val (.ref a21), .val (.ref a24), .val (.int (1 : Int32)), .val (.int (1 : Int32)), .unset]) rfl ?_
    refine own_aload K own_d4_552 rfl rfl ?_
    refine own_iconst K own_d4_554 (v := (0 : Int32)) rfl ?_
    refine own_daload K own_d4_555 H214 (i := 4) rfl (q := 0) (by decide) (rfl) ?_
    refine own_aload K own_d4_556 rfl rfl ?_
    refine own_iconst K own_d4_558 (v := (0 : Int32)) rfl ?_
    refine own_daload K own_d4_559 H214 (i := 5) rfl (q := 0) (by decide) (rfl) ?_
    refine own_dcmp K own_d4_560 ?_
    refine own_ifne K own_d4_561 (fun q => absurd q (fun z => z (dcmpV_self ((hv0.fin (by decide)).noNaN) _))) (fun _ => ?_)
    refine own_aload K own_d4_564 rfl rfl ?_
    refine own_iconst K own_d4_566 (v := (1 : Int32)) rfl ?_
    refine own_daload K own_d4_567 H214 (i := 4) rfl (q := 1) (by decide) (rfl) ?_
    refine own_aload K own_d4_568 rfl rfl ?_
    refine own_iconst K own_d4_570 (v := (1 : Int32)) rfl ?_
    refine own_daload K own_d4_571 H214 (i := 5) rfl (q := 1) (by decide) (rfl) ?_
    refine own_dcmp K own_d4_572 ?_
    refine own_ifne K own_d4_573 (fun q => absurd q (fun z => z (dcmpV_self ((hv1.fin (by decide)).noNaN) _))) (fun _ => ?_)
    refine own_aload K own_d4_576 rfl rfl ?_
    refine own_iconst K own_d4_578 (v := (2 : Int32)) rfl ?_
    refine own_daload K own_d4_579 H214 (i := 4) rfl (q := 2) (by decide) (rfl) ?_
    refine own_aload K own_d4_580 rfl rfl ?_
    refine own_iconst K own_d4_582 (v := (2 : Int32)) rfl ?_
    refine own_daload K own_d4_583 H214 (i := 5) rfl (q := 2) (by decide) (rfl) ?_
    refine own_dcmp K own_d4_584 ?_
    refine own_ifne K own_d4_585 (fun q => absurd q (fun z => z (dcmpV_self ((hv2.fin (by decide)).noNaN) _))) (fun _ => ?_)
    refine own_aload K own_d4_588 rfl rfl ?_
    refine own_iconst K own_d4_590 (v := (3 : Int32)) rfl ?_
    refine own_daload K own_d4_591 H214 (i := 4) rfl (q := 3) (by decide) (rfl) ?_
    refine own_aload K own_d4_592 rfl rfl ?_
    refine own_iconst K own_d4_594 (v := (3 : Int32)) rfl ?_
    refine own_daload K own_d4_595 H214 (i := 5) rfl (q := 3) (by decide) (rfl) ?_
    refine own_dcmp K own_d4_596 ?_
    refine own_ifne K own_d4_597 (fun q => absurd q (fun z => z (dcmpV_self ((hv3.fin (by decide)).noNaN) _))) (fun _ => ?_)
    refine own_iconst K own_d4_600 (v := (1 : Int32)) rfl ?_
    refine own_goto K own_d4_601 ?_
    refine own_istore K own_d4_605 (Ls' := #[.val (.long sl), .second, .val (.long vl), .second, .val (.int ic), .val (.int ct), .val (.int (3 : Int32)), .val (.int (4 : Int32)), .val (.double ss), .second, .val (.double vz), .second, .val (.double (4562146422526312448 : UInt64)), .second, .val (.ref a9), .val (.ref a12), .val (.ref a15), .val (.ref a18), .val (.ref a21), .val (.ref a24), .val (.int (1 : Int32)), .val (.int (1 : Int32)), .val (.int (1 : Int32))]) rfl ?_
    refine own_iload K own_d4_607 rfl ?_
    refine own_ifeq K own_d4_609 (fun q => absurd q (by decide)) (fun _ => ?_)
    refine own_iload K own_d4_612 rfl ?_
    refine own_ifeq K own_d4_614 (fun q => absurd q (by decide)) (fun _ => ?_)
    refine own_iload K own_d4_617 rfl ?_
    refine own_ifeq K own_d4_619 (fun q => absurd q (by decide)) (fun _ => ?_)
    refine own_iconst K own_d4_622 (v := (1 : Int32)) rfl ?_
    refine own_goto K own_d4_623 ?_
    exact own_retZ K (by first | exact Or.inl rfl | exact Or.inr rfl | decide) own_d4_627 (by decide) (by decide) (rfl)
set_option maxRecDepth 65536 in
set_option maxHeartbeats 40000000 in
theorem comes_1 {Post : Tables → Env → Array Value → State → Outcome → State → Prop} (hpost : ∀ tb e args s v u, (limb_1_1.after args s (.returned v) u = true ∧ limb_1_2.after args s (.returned v) u = true ∧ True) → FrameEnd s (.returned v) u (Jvm.fieldLocs frame_1_writes args s ++ Jvm.arrayLocs frame_1_arrays args s ++ Jvm.staticLocs frame_1_statics s) 24 128 → Post tb e args s (.returned v) u) :
    ArmFor flags0 classFile x code maxLocals ret World_1 tables_1 room_1 Calls_1 rest_1 Pre_1 Post := by
  intro l hfl _ _ p e ha hc hk s m args below hf hA hF happ hP
  obtain ⟨hcalls, hrest, hpre⟩ := hP
  obtain ⟨-, -, -, hnamed, -, -, -, hat⟩ := (Spec.applies_iff hf).mp happ
  obtain ⟨hg, hn⟩ := and_e (Cond.before_iff.mp (show (Jvm.Cond.and given_1 narrow_1).before args s = true from hpre))
  obtain ⟨h1, hq0⟩ := and_e hg
  obtain ⟨hi0, hq1⟩ := and_e hq0
  obtain ⟨hi1, hq2⟩ := and_e hq1
  obtain ⟨hi2, hq3⟩ := and_e hq2
  have hi3 := hq3
  obtain ⟨w0, w1, w2, w3, rfl⟩ : ∃ w0 w1 w2 w3 : Value, args = #[w0, w1, w2, w3] := by
    have hs : args.size = 4 := by simpa [Cond.value, given_1] using h1
    obtain ⟨L⟩ := args
    match L, hs with
    | [w0, w1, w2, w3], _ => exact ⟨w0, w1, w2, w3, rfl⟩
  have hw : own_Z s #[w0, w1, w2, w3] := fun d (hd : d ∈ tables_1) => atoms_spec (ws := Jvm.Cond.code x code maxLocals ret :: tables_1) hat d (List.mem_cons_of_mem _ hd)
  obtain ⟨i0, e0⟩ := isL_v hi0
  obtain rfl : w0 = (.long i0) := Option.some.inj e0
  obtain ⟨i1, e1⟩ := isL_v hi1
  obtain rfl : w1 = (.long i1) := Option.some.inj e1
  obtain ⟨i2, e2⟩ := is_v hi2
  obtain rfl : w2 = (.int i2) := Option.some.inj e2
  obtain ⟨i3, e3⟩ := is_v hi3
  obtain rfl : w3 = (.int i3) := Option.some.inj e3
  obtain ⟨n, o, h1, h2, h3, v, L, rfl, ⟨rfl, N, -⟩, hq⟩ := own_law hw p e ha hc hk s m _ below hf ((Spec.applies_iff_loose hf).mp happ).1 ⟨rfl, State.Warmed39.refl s, rfl⟩ trivial
  refine ⟨n, _, h1, h2, h3, hpost _ _ _ _ _ _ ⟨Cond.after_iff.mpr rfl, Cond.after_iff.mpr (eq_i res_at (Term.int_eval (1)) rfl), trivial⟩ ⟨hq.1, hq.2.1, (hq.2.2.sift fun y hy => Or.inr (N y hy)).mono (by decide) (by decide)⟩⟩
theorem main_1_1 : Claimed_1_1 := comes_1 fun _ _ _ _ _ _ h hF => ⟨h.1, hF⟩
theorem main_1_2 : Claimed_1_2 := comes_1 fun _ _ _ _ _ _ h hF => ⟨h.2.1, hF⟩
end Jvm.Pilot.@@N@@
namespace Jvm.Pilot.@@N@@
open Jvm Jvm.ClassFile Sem Op Lib Jvm.Free Jvm.Stand Jvm.Pilot.@@N@@.Jvm.D
/-! MADE BY PROGRAM (witnessworld.py) out of the Statement's table words and the real class files: 11 classes; the members and pool entries that the words name. The judged class is class 1, her method 2. -/
namespace start1
open Jvm.ClassFile
def u (s : String) : CpInfo := .utf8 (stringToUtf16 s)
/-- a pool by its gaps: so many unusable entries, then the entry; so many at the end -/
def gap : Nat → List CpInfo → List CpInfo
  | 0, r => r
  | n + 1, r => .unusable :: gap n r
def poolList (es : List (Nat × CpInfo)) (last : Nat) : List CpInfo := es.foldr (fun e r => gap e.1 (e.2 :: r)) (gap last [])
def pool (es : List (Nat × CpInfo)) (last : Nat) : Array CpInfo := ⟨poolList es last⟩
def fileOf (pool : Array CpInfo) (this : Nat) (attrs : Array Attribute := #[]) (ms : Array MethodInfo := #[]) (fl : Nat := 33) (sup : Nat := 0) (ifs : Array Nat := #[]) (fds : Array FieldInfo := #[]) : ClassFile where
  minorVersion := 0
  majorVersion := 65
  constantPool := pool
  accessFlags := fl
  thisClass := this
  superClass := sup
  interfaces := ifs
  fields := fds
  methods := ms
  attributes := attrs
def plain (name : String) (sup : Option ClassId) : Class where
  name := name
  kind := .ordinary
  loader := none
  accessFlags := 33
  super := sup
  interfaces := #[]
  cf := none
  fields := #[]
  methods := #[]
  instanceTypes := #[]
  staticTypes := #[]
  resolved := #[]
  callSites := []
  init := .initialized
  statics := none
  mirror := none

def pool0 : Array CpInfo := pool [(5, u "<init>"), (0, u "()V"), (1, .class_ 10), (1, u "java/lang/Object")] 113

def k0m0 : Method := { name := "<init>", desc := "()V", sig := { parameters := [], returnType := none }, accessFlags := 1, code := none }
/-- java/lang/Object -/
def k0 : Class := { plain "java/lang/Object" none with
  accessFlags := 33
  interfaces := #[]
  cf := some (fileOf pool0 8 #[] #[{ accessFlags := 1, nameIndex := 5, descriptorIndex := 6, attributes := #[] }] 33 0 #[] #[])
  fields := #[]
  methods := #[k0m0]
  instanceTypes := #[]
  staticTypes := #[]
  resolved := Array.replicate 124 none
  statics := none }

def pool1 : Array CpInfo := pool [(2, .class_ 4), (1, u "java/lang/Object"), (0, u "<init>"), (0, u "()V"), (0, .double 4697254411347427328), (1, .double 4787326403894837248), (1, .double 4877398396442247168), (1, .methodref 14 15), (0, .class_ 16), (0, .nameAndType 17 18), (0, u "com/example/fuseplan/fuseplan/runtime/CompensatedSumAddEachPinLaw"), (0, u "scale"), (0, u "(I)D"), (0, .double 4562146422526312448), (1, .methodref 22 23), (0, .class_ 24), (0, .nameAndType 25 26), (0, u "com/example/fuseplan/fuseplan/runtime/CompensatedSum"), (0, u "addEach"), (0, u "([D[D[DII)V"), (0, .methodref 22 28), (0, .nameAndType 29 30), (0, u "add"), (0, u "([D[DID)V"), (3, u "law"), (0, u "(JJII)Z")] 4

def k1m0 : Method := { name := "<init>", desc := "()V", sig := { parameters := [], returnType := none }, accessFlags := 1, code := none }
def k1c1 : Code := { maxStack := 2, maxLocals := 1, code := method_2_code, exceptionTable := #[], attributes := #[] }
def k1m1 : Method := { name := "scale", desc := "(I)D", sig := { parameters := [.int], returnType := some .double }, accessFlags := 10, code := some k1c1 }
def k1c2 : Code := { maxStack := 6, maxLocals := 23, code := code, exceptionTable := #[], attributes := #[] }
def k1m2 : Method := { name := "law", desc := "(JJII)Z", sig := { parameters := [.long, .long, .int, .int], returnType := some .boolean }, accessFlags := 9, code := some k1c2 }
/-- com/example/fuseplan/fuseplan/runtime/CompensatedSumAddEachPinLaw -/
def k1 : Class := { plain "com/example/fuseplan/fuseplan/runtime/CompensatedSumAddEachPinLaw" (some 0) with
  accessFlags := 49
  interfaces := #[]
  cf := some (fileOf pool1 14 #[] #[{ accessFlags := 1, nameIndex := 5, descriptorIndex := 6, attributes := #[] }, { accessFlags := 10, nameIndex := 17, descriptorIndex := 18, attributes := #[] }, { accessFlags := 9, nameIndex := 34, descriptorIndex := 35, attributes := #[] }] 49 2 #[] #[])
  fields := #[]
  methods := #[k1m0, k1m1, k1m2]
  instanceTypes := #[]
  staticTypes := #[]
  resolved := Array.replicate 40 none
  statics := none }

def pool2 : Array CpInfo := pool [(2, .class_ 4), (1, u "java/lang/Object"), (0, u "<init>"), (0, u "()V"), (1, .class_ 10), (1, u "com/example/fuseplan/fuseplan/runtime/CompensatedSum"), (0, u "sum"), (0, u "D"), (2, u "compensation"), (0, .methodref 8 17), (0, .nameAndType 18 19), (0, u "error"), (0, u "(DDD)D"), (12, u "add"), (5, u "([D[DID)V"), (0, u "addEach"), (0, u "([D[D[DII)V")] 2

def k2m0 : Method := { name := "<init>", desc := "()V", sig := { parameters := [], returnType := none }, accessFlags := 0, code := none }
def k2c1 : Code := { maxStack := 10, maxLocals := 7, code := prog_129_method_7_code, exceptionTable := #[], attributes := #[] }
def k2m1 : Method := { name := "add", desc := "([D[DID)V", sig := { parameters := [(.array .double), (.array .double), .int, .double], returnType := none }, accessFlags := 8, code := some k2c1 }
def k2c2 : Code := { maxStack := 10, maxLocals := 14, code := prog_129_method_8_code, exceptionTable := #[], attributes := #[] }
def k2m2 : Method := { name := "addEach", desc := "([D[D[DII)V", sig := { parameters := [(.array .double), (.array .double), (.array .double), .int, .int], returnType := none }, accessFlags := 8, code := some k2c2 }
def k2c3 : Code := { maxStack := 6, maxLocals := 8, code := prog_129_method_10_code, exceptionTable := #[], attributes := #[] }
def k2m3 : Method := { name := "error", desc := "(DDD)D", sig := { parameters := [.double, .double, .double], returnType := some .double }, accessFlags := 8, code := some k2c3 }
/-- com/example/fuseplan/fuseplan/runtime/CompensatedSum -/
def k2 : Class := { plain "com/example/fuseplan/fuseplan/runtime/CompensatedSum" (some 0) with
  accessFlags := 48
  interfaces := #[]
  cf := some (fileOf pool2 8 #[] #[{ accessFlags := 0, nameIndex := 5, descriptorIndex := 6, attributes := #[] }, { accessFlags := 8, nameIndex := 32, descriptorIndex := 38, attributes := #[] }, { accessFlags := 8, nameIndex := 39, descriptorIndex := 40, attributes := #[] }, { accessFlags := 8, nameIndex := 18, descriptorIndex := 19, attributes := #[] }] 48 2 #[] #[{ accessFlags := 2, nameIndex := 11, descriptorIndex := 12, attributes := #[] }, { accessFlags := 2, nameIndex := 15, descriptorIndex := 12, attributes := #[] }])
  fields := #[{ name := "sum", type := .double, accessFlags := 2, slot := 0, constantValue := 0 }, { name := "compensation", type := .double, accessFlags := 2, slot := 1, constantValue := 0 }]
  methods := #[k2m0, k2m1, k2m2, k2m3]
  instanceTypes := #[.double, .double]
  staticTypes := #[]
  resolved := Array.replicate 43 none
  statics := none }

def pool3 : Array CpInfo := pool [(1, u "java/lang/Cloneable"), (0, .class_ 1), (0, u "java/lang/Object"), (0, .class_ 3)] 3

/-- java/lang/Cloneable -/
def k3 : Class := { plain "java/lang/Cloneable" (some 0) with
  accessFlags := 1537
  interfaces := #[]
  cf := some (fileOf pool3 2 #[] #[] 1537 4 #[] #[])
  fields := #[]
  methods := #[]
  instanceTypes := #[]
  staticTypes := #[]
  resolved := Array.replicate 8 none
  statics := none }

def pool4 : Array CpInfo := pool [(1, u "java/io/Serializable"), (0, .class_ 1), (0, u "java/lang/Object"), (0, .class_ 3)] 3

/-- java/io/Serializable -/
def k4 : Class := { plain "java/io/Serializable" (some 0) with
  accessFlags := 1537
  interfaces := #[]
  cf := some (fileOf pool4 2 #[] #[] 1537 4 #[] #[])
  fields := #[]
  methods := #[]
  instanceTypes := #[]
  staticTypes := #[]
  resolved := Array.replicate 8 none
  statics := none }

/-- the primitive byte -/
def k5 : Class := { plain "byte" none with kind := .primitive 'B', accessFlags := 0x411 }
/-- [B -/
def k6 : Class := { plain "[B" (some 0) with kind := .array 5 .byte, interfaces := #[3, 4], accessFlags := 1041 }

/-- the primitive double -/
def k7 : Class := { plain "double" none with kind := .primitive 'D', accessFlags := 0x411 }
/-- [D -/
def k8 : Class := { plain "[D" (some 0) with kind := .array 7 .double, interfaces := #[3, 4], accessFlags := 1041 }

/-- the primitive int -/
def k9 : Class := { plain "int" none with kind := .primitive 'I', accessFlags := 0x411 }
/-- [I -/
def k10 : Class := { plain "[I" (some 0) with kind := .array 9 .int, interfaces := #[3, 4], accessFlags := 1041 }

def heap : Heap := #[]
def classes : Array Class := #[k0, k1, k2, k3, k4, k5, k6, k7, k8, k9, k10]
def interned : List (Array UInt16 × Addr) := []
def slotsUsed : Nat := 0
def theMethod : MethodId := ⟨1, 2⟩
def args0 : Array Value := #[.long 5, .long 7, .int 2, .int 5]
def aboutOver (below : List Frame) : State where
  vm := { classes := classes, interned := interned.toArray }
  heap := heap
  slotsUsed := slotsUsed
  threads := #[{ frames := .invoking theMethod args0 :: below }]
def below0 : List Frame := [.native { method := ⟨0, 0⟩, args := #[] }]
def about1 : State := aboutOver below0
def p0 : Program := .bare "" "" ""
def e0 : Env := launch0.env 0 0 0
theorem w_frames : about1.frames = Frame.invoking theMethod args0 :: below0 := rfl
set_option maxRecDepth 65536 in
theorem w_args : argsFit about1.vm theMethod args0 = true := by decide +kernel
set_option maxRecDepth 65536 in
theorem w_heap : heapFits about1 = true := by decide +kernel
set_option maxRecDepth 65536 in
theorem w_runnable : about1.curStatus? = some .runnable := by decide +kernel
set_option maxRecDepth 65536 in
theorem w_alone : about1.alone = true := by decide +kernel
set_option maxRecDepth 65536 in
theorem w_named : about1.methodNamed? x = some theMethod := by decide +kernel
set_option maxRecDepth 65536 in
theorem w_hears : about1.hears theMethod below0 = true := by decide +kernel
set_option maxRecDepth 65536 in
theorem w_ripe : about1.ripe theMethod args0 below0 = true := by decide +kernel
theorem w_running : about1.status = .running := rfl
set_option maxRecDepth 65536 in
theorem w_room : about1.hasRoom e0.platform room_1 = true :=
  launch0.hasRoom_least _ room_1 (by decide +kernel) (by decide +kernel) (by decide +kernel) (by decide +kernel) (by decide +kernel) (by decide +kernel)
theorem allAtoms_all (ts : List Jvm.Cond) (a : Array Jvm.Value) (st : Jvm.State) : (allAtoms ts).before a st = ts.all (fun c => c.before a st) := by
  induction ts with
  | nil => rfl
  | cons c t ih =>
    show (Jvm.Cond.and c (allAtoms t)).before a st = _
    rw [Jvm.Cond.before_and, ih, List.all_cons]
def words1 : List Jvm.Cond := Jvm.Cond.code x code maxLocals ret :: tables_1
/-- a 'code' word, met by the world's own term for the bytes: nothing is compared byte by byte -/
theorem code_word {y : MethodName} {bytes : ByteArray} {mx : Nat} {rt : Option FieldType} {a : Array Value} {s : State} {m : MethodId} {meth : Method} {c : Code} (h1 : s.methodNamed? y = some m) (h2 : s.vm.method? m = some meth) (h3 : meth.code = some c) (h4 : c.code = bytes)
    (h5 : (c.maxLocals == mx && c.exceptionTable.isEmpty && decide (c.maxStack ≤ mostOperands) && decide (meth.sig.returnType = rt) && !meth.locks && decide (parseMethodDescriptor y.desc = some meth.sig)) = true) : (Jvm.Cond.code y bytes mx rt).before a s = true := by
  simp only [Bool.and_eq_true, beq_iff_eq, Bool.not_eq_true', decide_eq_true_eq] at h5
  obtain ⟨⟨⟨⟨⟨g1, g2⟩, g3⟩, g4⟩, g5⟩, g6⟩ := h5
  simp [Cond.before, Cond.holds, Cond.value, h1, h2, h3, h4, g1, g2, g3, g4, g5, g6]
def isCode : Jvm.Cond → Bool
  | .code _ _ _ _ => true
  | _ => false
theorem all_split {L : List Jvm.Cond} {P : Jvm.Cond → Bool} (h1 : L.all (fun c => isCode c || P c) = true) (h2 : ∀ c ∈ L.filter isCode, P c = true) : L.all P = true := by
  refine List.all_eq_true.mpr fun c hc => ?_
  have h := List.all_eq_true.mp h1 c hc
  rcases Bool.eq_false_or_eq_true (isCode c) with hi | hi
  · exact h2 c (List.mem_filter.mpr ⟨hc, hi⟩)
  · simpa [hi] using h
set_option maxRecDepth 65536 in
theorem w_c0 : (Jvm.Cond.code x code maxLocals ret).before args0 about1 = true := code_word (m := ⟨1, 2⟩) (meth := k1m2) (c := k1c2) (by decide +kernel) rfl rfl rfl (by decide +kernel)
set_option maxRecDepth 65536 in
theorem w_c1 : (Jvm.Cond.code ({ cls := "com/example/fuseplan/fuseplan/runtime/CompensatedSumAddEachPinLaw", name := "scale", desc := "(I)D" } : Jvm.MethodName) method_2_code (1 : Nat) (Option.some Jvm.ClassFile.FieldType.double)).before args0 about1 = true := code_word (m := ⟨1, 1⟩) (meth := k1m1) (c := k1c1) (by decide +kernel) rfl rfl rfl (by decide +kernel)
set_option maxRecDepth 65536 in
theorem w_c2 : (Jvm.Cond.code ({ cls := "com/example/fuseplan/fuseplan/runtime/CompensatedSum", name := "addEach", desc := "([D[D[DII)V" } : Jvm.MethodName) prog_129_method_8_code (14 : Nat) (Option.none : Option Jvm.ClassFile.FieldType)).before args0 about1 = true := code_word (m := ⟨2, 2⟩) (meth := k2m2) (c := k2c2) (by decide +kernel) rfl rfl rfl (by decide +kernel)
set_option maxRecDepth 65536 in
theorem w_c3 : (Jvm.Cond.code ({ cls := "com/example/fuseplan/fuseplan/runtime/CompensatedSum", name := "add", desc := "([D[DID)V" } : Jvm.MethodName) prog_129_method_7_code (7 : Nat) (Option.none : Option Jvm.ClassFile.FieldType)).before args0 about1 = true := code_word (m := ⟨2, 1⟩) (meth := k2m1) (c := k2c1) (by decide +kernel) rfl rfl rfl (by decide +kernel)
set_option maxRecDepth 65536 in
theorem w_c4 : (Jvm.Cond.code ({ cls := "com/example/fuseplan/fuseplan/runtime/CompensatedSum", name := "error", desc := "(DDD)D" } : Jvm.MethodName) prog_129_method_10_code (8 : Nat) (Option.some Jvm.ClassFile.FieldType.double)).before args0 about1 = true := code_word (m := ⟨2, 3⟩) (meth := k2m3) (c := k2c3) (by decide +kernel) rfl rfl rfl (by decide +kernel)
def codes1 : List Jvm.Cond := [Jvm.Cond.code x code maxLocals ret, Jvm.Cond.code ({ cls := "com/example/fuseplan/fuseplan/runtime/CompensatedSumAddEachPinLaw", name := "scale", desc := "(I)D" } : Jvm.MethodName) method_2_code (1 : Nat) (Option.some Jvm.ClassFile.FieldType.double), Jvm.Cond.code ({ cls := "com/example/fuseplan/fuseplan/runtime/CompensatedSum", name := "addEach", desc := "([D[D[DII)V" } : Jvm.MethodName) prog_129_method_8_code (14 : Nat) (Option.none : Option Jvm.ClassFile.FieldType), Jvm.Cond.code ({ cls := "com/example/fuseplan/fuseplan/runtime/CompensatedSum", name := "add", desc := "([D[DID)V" } : Jvm.MethodName) prog_129_method_7_code (7 : Nat) (Option.none : Option Jvm.ClassFile.FieldType), Jvm.Cond.code ({ cls := "com/example/fuseplan/fuseplan/runtime/CompensatedSum", name := "error", desc := "(DDD)D" } : Jvm.MethodName) prog_129_method_10_code (8 : Nat) (Option.some Jvm.ClassFile.FieldType.double)]
set_option maxRecDepth 65536 in
theorem codes_eq : words1.filter isCode = codes1 := rfl
theorem w_codes : ∀ c ∈ words1.filter isCode, c.before args0 about1 = true := by
  rw [codes_eq]
  intro c hc
  simp only [codes1, List.mem_cons, List.not_mem_nil, or_false] at hc
  rcases hc with rfl | rfl | rfl | rfl | rfl
  · exact w_c0
  · exact w_c1
  · exact w_c2
  · exact w_c3
  · exact w_c4
set_option maxRecDepth 65536 in
theorem w_t1 : words1.all (fun c => isCode c || c.before args0 about1) = true := by decide +kernel
theorem w_tables : (allAtoms (Jvm.Cond.code x code maxLocals ret :: tables_1)).before args0 about1 = true := by
  rw [allAtoms_all]
  show words1.all (fun c => c.before args0 about1) = true
  refine all_split ?_ w_codes
  rw [w_t1]
set_option maxRecDepth 65536 in
theorem w_case : (Jvm.Cond.and given_1 narrow_1).before args0 about1 = true := by decide +kernel
theorem w_applies : (headSpec (Jvm.Cond.code x code maxLocals ret :: tables_1) room_1).applies x e0.platform about1 = true :=
  (Spec.applies_iff w_frames).mpr ⟨w_running, w_runnable, w_alone, w_named, w_hears, w_ripe, w_room, w_tables⟩
theorem atStart : AtStart classFile x code maxLocals ret World_1 tables_1 room_1 Calls_1 rest_1 Pre_1 launch0 p0 e0 about1 theMethod args0 below0 :=
  ⟨lists_1, trivial, launch0.admits_env _ _ _, launch0.least_env, fairChoices_fair.cas, fairChoices_fair.clock, w_frames, w_args, w_heap, w_applies, trivial, trivial, w_case⟩
end start1
theorem witness_1 : WitnessClaimed_1 := ⟨start1.p0, start1.e0, start1.about1, start1.theMethod, start1.args0, start1.below0, start1.atStart⟩
end Jvm.Pilot.@@N@@
