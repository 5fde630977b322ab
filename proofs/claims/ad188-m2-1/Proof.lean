import JvmDerived
import JvmDerived.Pilot.@@N@@Statement
import JvmDerived.Pilot.@@N@@Code
set_option linter.unusedVariables false
set_option linter.unusedSimpArgs false
namespace Jvm.RoadKit
open Sem ClassFile Op Lib Jvm.Stand Jvm.Free Jvm.LawKit
section OwnKit
/-- what stands at a point of the walk: the law's Stand, its written places all new, the heap named; w: may have interned -/
def own_X (w : Bool) (p : Program) (l : Launch) (e : Env) (R : Room) (s : State) (m : MethodId) (args : Array Value) (below : List Frame) (meth : Method) (c : Code) (Z : State) (T : State) (h : Heap) (k n : Nat) : Prop :=
  ∃ (L : List Loc) (vm : Vm), Stand p l e R (s.setVm vm) m args below meth c T L k n ∧ Fr Z.heap.size L ∧ T.heap = h ∧ (w = false → vm = s.vm) ∧ s.Since vm h.size
def own_Cx (p : Program) (s : State) (m : MethodId) (meth : Method) (c : Code) (Z : State) (own nm : String) (bytes : ByteArray) (maxL : Nat) (ret : Option FieldType) : Prop :=
  p.tables.exec = Jvm.exec ∧ c.code = bytes ∧ c.maxLocals = maxL ∧ meth.sig.returnType = ret ∧ meth.locks = false ∧ Z.Warmed39 s.vm ∧ s.vm.findClass own = some m.cls ∧ meth.name = nm
def own_Go (w : Bool) (p : Program) (l : Launch) (e : Env) (R : Room) (s : State) (m : MethodId) (args : Array Value) (below : List Frame) (meth : Method) (c : Code) (Z : State) (Q : Option Value → Heap → Prop) (T : State) (g : JFrame) : Prop :=
  ∃ (T' : State) (v : Option Value) (h' : Heap) (k' n' : Nat), own_X w p l e R s m args below meth c Z T' h' k' n' ∧ k' ≤ R.cells ∧ n' ≤ R.slots ∧ (meth.sig.returnType = none → v = none) ∧ Q v h' ∧
    ∀ fs, (∀ (f : JFrame) (acts : List Action), f.method = m → f.locked = none → f.entered = [] → (doReturn e (T'.setTop f) acts v).1 = T'.setFrames fs) → Steps p.tables e below (T.setTop g) (T'.setFrames fs)
/-- from the frame g, over the heap h, with k cells and n slots made, the walk comes to a return of which Q holds -/
def own_G (w : Bool) (p : Program) (l : Launch) (e : Env) (R : Room) (s : State) (m : MethodId) (args : Array Value) (below : List Frame) (meth : Method) (c : Code) (Z : State) (Q : Option Value → Heap → Prop) (h : Heap) (k n : Nat) (g : JFrame) : Prop :=
  ∀ T, own_X w p l e R s m args below meth c Z T h k n → own_Go w p l e R s m args below meth c Z Q T g
def own_D (bytes : ByteArray) (pc : Nat) (i : Instr) (len pc' : Nat) : Prop := decode bytes pc = .ok (i, len) ∧ pc' = pc + len
def own_B (bytes : ByteArray) (pc : Nat) (i : Instr) (off : Int) (pcF pcT : Nat) : Prop := decode bytes pc = .ok (i, 3) ∧ pcF = pc + 3 ∧ 0 ≤ (pc : Int) + off ∧ ((pc : Int) + off).toNat = pcT
def own_End (w : Bool) (U : State) (o : Outcome) (U' : State) (L : List Loc) (k n : Nat) : Prop := match w with | false => FrameEnd U o U' L k n | true => ReturnedEndW U o U' L k n
def own_Met (w : Bool) (l : Launch) (Z : State) (y : MethodName) (bytes : ByteArray) (maxL : Nat) (ret : Option FieldType) (ws : List Cond) (rm : Room) (as' : Array Value) (h : Heap) (Q : Option Value → Heap → Prop) : Prop :=
  MetFree l y (head1 (Cond.code y bytes maxL ret :: ws) rm) (fun a U => a = as' ∧ Z.Warmed39 U.vm ∧ U.heap = h) (fun _ _ _ _ _ => True)
    (fun _ U o U' => ∃ v L, o = .returned v ∧ (Q v U'.heap ∧ Fr Z.heap.size L ∧ h.size ≤ U'.heap.size) ∧ own_End w U o U' L rm.cells rm.slots)
/-! ## heap -/
abbrev own_O := Addr × String × List (String × String × String × Value)
abbrev own_A := Addr × FieldType × String × List Value
def own_OK (Z : State) (h : Heap) (o : own_O) : Prop := Exa Z h o.1 o.2.1 ∧ (∀ f ∈ o.2.2, Fld Z h o.1 f.1 f.2.1 f.2.2.1 f.2.2.2) ∧ o.2.2.Pairwise (fun f g => slotOf Z f.1 f.2.1 f.2.2.1 ≠ slotOf Z g.1 g.2.1 g.2.2.1)
def own_AK (Z : State) (h : Heap) (a : own_A) : Prop := ∃ cl : Cell, Arr Z h a.1 cl a.2.1 ∧ cl.slots.toList = a.2.2.2 ∧ (∀ v ∈ a.2.2.2, fits a.2.1 v = true) ∧ (a.2.2.1 ≠ "" → Exa Z h a.1 a.2.2.1) ∧ (∀ C, a.2.1 = .object C → a.2.2.1 ≠ "" → Ovr Z cl.cls C)
/-- the heap h: what stood at the law's start Z stands; the objects os and the arrays as, all new, all apart -/
def own_H (Z : State) (h : Heap) (os : List own_O) (as : List own_A) : Prop :=
  Ext Z.heap h ∧ (∀ o ∈ os, Z.heap.size ≤ o.1 ∧ own_OK Z h o) ∧ (∀ a ∈ as, Z.heap.size ≤ a.1 ∧ own_AK Z h a) ∧ (os.map (·.1) ++ as.map (·.1)).Nodup
variable {w : Bool} {p : Program} {l : Launch} {e : Env} {R : Room} {s : State} {m : MethodId} {args : Array Value} {below : List Frame} {meth : Method} {c : Code} {Z : State} {a0 : Array Value} {own nm : String} {bytes : ByteArray} {maxL : Nat} {ret : Option FieldType} {Q : Option Value → Heap → Prop} {h h' : Heap} {k n k' n' : Nat} {pc pc' pcT : Nat} {Ls Ls' : Array Slot} {st rest : List Value} {os os' : List own_O} {as as' : List own_A} {g g' : JFrame} {tyR : FieldType}
theorem own_H.start (Z : State) : own_H Z Z.heap [] [] := ⟨⟨Nat.le_refl _, fun _ _ q => q⟩, fun _ q => (nomatch q), fun _ q => (nomatch q), List.nodup_nil⟩
theorem own_OK.ext {o : own_O} (E : Ext h h') (F : own_OK Z h o) : own_OK Z h' o := ⟨F.1.ext E, fun f hf => (F.2.1 f hf).ext E, F.2.2⟩
theorem own_AK.ext {a : own_A} (E : Ext h h') (F : own_AK Z h a) : own_AK Z h' a := by
  obtain ⟨cl, h1, h2, h3, h4, h5⟩ := F; exact ⟨cl, h1.ext E, h2, h3, fun q => (h4 q).ext E, h5⟩
theorem own_H.ext (H : own_H Z h os as) (E : Ext h h') : own_H Z h' os as :=
  ⟨⟨Nat.le_trans H.1.1 E.1, fun a c q => E.2 a c (H.1.2 a c q)⟩, fun o ho => ⟨(H.2.1 o ho).1, (H.2.1 o ho).2.ext E⟩, fun a ha => ⟨(H.2.2.1 a ha).1, (H.2.2.1 a ha).2.ext E⟩, H.2.2.2⟩
theorem own_H.ltO (H : own_H Z h os as) {o : own_O} (ho : o ∈ os) : o.1 < h.size := (H.2.1 o ho).2.1.lt
theorem own_H.ltA (H : own_H Z h os as) {a : own_A} (ha : a ∈ as) : a.1 < h.size := by obtain ⟨-, cl, h1, -⟩ := H.2.2.1 a ha; exact h1.lt
theorem own_H.fresh (H : own_H Z h os as) : h.size ∉ os.map (·.1) ++ as.map (·.1) := fun q => by
  rcases List.mem_append.mp q with q | q
  · obtain ⟨o, ho, e⟩ := List.mem_map.mp q; exact absurd (H.ltO ho) (by rw [e]; exact Nat.lt_irrefl _)
  · obtain ⟨o, ho, e⟩ := List.mem_map.mp q; exact absurd (H.ltA ho) (by rw [e]; exact Nat.lt_irrefl _)
theorem own_H.addO (H : own_H Z h os as) (E : Ext h h') {C : String} {fs : List (String × String × String × Value)} (F : own_OK Z h' (h.size, C, fs)) : own_H Z h' ((h.size, C, fs) :: os) as := by
  have H' := H.ext E
  refine ⟨H'.1, fun o ho => ?_, H'.2.2.1, ?_⟩
  · rcases List.mem_cons.mp ho with rfl | ho
    · exact ⟨H.1.1, F⟩
    · exact H'.2.1 o ho
  · exact List.nodup_cons.mpr ⟨H.fresh, H.2.2.2⟩
theorem own_H.addA (H : own_H Z h os as) (E : Ext h h') {ty : FieldType} {ad : String} {vs : List Value} (F : own_AK Z h' (h.size, ty, ad, vs)) : own_H Z h' os ((h.size, ty, ad, vs) :: as) := by
  have H' := H.ext E
  refine ⟨H'.1, H'.2.1, fun o ho => ?_, ?_⟩
  · rcases List.mem_cons.mp ho with rfl | ho
    · exact ⟨H.1.1, F⟩
    · exact H'.2.2.1 o ho
  · have q := H.fresh
    rw [List.mem_append] at q
    have q2 := List.nodup_append.mp H.2.2.2
    refine List.nodup_append.mpr ⟨q2.1, List.nodup_cons.mpr ⟨fun z => q (Or.inr z), q2.2.1⟩, fun x hx y hy => ?_⟩
    rcases List.mem_cons.mp hy with rfl | hy
    · intro z; exact q (Or.inl ((show x = h.size from z) ▸ hx))
    · exact q2.2.2 x hx y hy
theorem own_mem {α : Type} {L : List α} {i : Nat} {x : α} (hx : L[i]? = some x) : x ∈ L := List.mem_of_getElem? hx
theorem own_H.atO (H : own_H Z h os as) {i : Nat} {a : Addr} {C : String} {fs : List (String × String × String × Value)} (ho : os[i]? = some (a, C, fs)) : Exa Z h a C := (H.2.1 _ (own_mem ho)).2.1
theorem own_H.newO (H : own_H Z h os as) {i : Nat} {a : Addr} {C : String} {fs : List (String × String × String × Value)} (ho : os[i]? = some (a, C, fs)) : Z.heap.size ≤ a := (H.2.1 _ (own_mem ho)).1
theorem own_H.fld (H : own_H Z h os as) {i q : Nat} {a : Addr} {C O f d : String} {v : Value} {fs : List (String × String × String × Value)} (ho : os[i]? = some (a, C, fs)) (hf : fs[q]? = some (O, f, d, v)) : Fld Z h a O f d v := (H.2.1 _ (own_mem ho)).2.2.1 _ (own_mem hf)
theorem own_H.neOO (H : own_H Z h os as) {i j : Nat} {x y : own_O} (hx : os[i]? = some x) (hy : os[j]? = some y) (ij : i ≠ j) : x.1 ≠ y.1 := fun e => by
  have q := (List.nodup_append.mp H.2.2.2).1
  have h1 : (os.map (·.1))[i]? = some x.1 := by rw [List.getElem?_map, hx]; rfl
  have h2 : (os.map (·.1))[j]? = some y.1 := by rw [List.getElem?_map, hy]; rfl
  rw [← e] at h2
  have hi := (List.getElem?_eq_some_iff.mp h1).1
  exact ij ((List.getElem?_inj hi q).mp (h1.trans h2.symm))
theorem own_H.neAA (H : own_H Z h os as) {i j : Nat} {x y : own_A} (hx : as[i]? = some x) (hy : as[j]? = some y) (ij : i ≠ j) : x.1 ≠ y.1 := fun e => by
  have q := (List.nodup_append.mp H.2.2.2).2.1
  have h1 : (as.map (·.1))[i]? = some x.1 := by rw [List.getElem?_map, hx]; rfl
  have h2 : (as.map (·.1))[j]? = some y.1 := by rw [List.getElem?_map, hy]; rfl
  rw [← e] at h2
  have hi := (List.getElem?_eq_some_iff.mp h1).1
  exact ij ((List.getElem?_inj hi q).mp (h1.trans h2.symm))
theorem own_H.neOA (H : own_H Z h os as) {x : own_O} {y : own_A} (hx : x ∈ os) (hy : y ∈ as) : x.1 ≠ y.1 :=
  (List.nodup_append.mp H.2.2.2).2.2 _ (List.mem_map.mpr ⟨x, hx, rfl⟩) _ (List.mem_map.mpr ⟨y, hy, rfl⟩)
theorem own_set_map {α β : Type} {L : List α} {f : α → β} {i : Nat} {x x' : α} (hx : L[i]? = some x) (e : f x' = f x) : (L.set i x').map f = L.map f := by
  apply List.ext_getElem?
  intro j
  rw [List.getElem?_map, List.getElem?_map, List.getElem?_set]
  by_cases ij : i = j
  · subst ij; rw [hx]; have := (List.getElem?_eq_some_iff.mp hx).1; simp [this, e]
  · simp [ij]
theorem own_H.wrO (H : own_H Z h os as) {i q : Nat} {a : Addr} {C O f d : String} {v v0 : Value} {fs : List (String × String × String × Value)} (ho : os[i]? = some (a, C, fs)) (hf : fs[q]? = some (O, f, d, v0)) (W : Wr h h' a (slotOf Z O f d) v) :
    own_H Z h' (os.set i (a, C, fs.set q (O, f, d, v))) as := by
  have na := H.newO ho
  have hlen := (List.getElem?_eq_some_iff.mp ho).1
  have hql := (List.getElem?_eq_some_iff.mp hf).1
  refine ⟨?_, fun x hx => ?_, fun y hy => ?_, ?_⟩
  · refine ⟨by rw [Wr.size W]; exact H.1.1, fun b cb hb => ?_⟩
    obtain ⟨cb', e1, -, -, -, e5, -⟩ := wr_at W (H.1.2 b cb hb)
    have : b ≠ a := Nat.ne_of_lt (Nat.lt_of_lt_of_le (Array.getElem?_eq_some_iff.mp hb).1 na)
    rw [← e5 this]; exact e1
  · obtain ⟨j, hj⟩ := List.mem_iff_getElem?.mp hx
    rw [List.getElem?_set] at hj
    by_cases ij : i = j
    · subst ij
      rw [if_pos rfl, if_pos hlen] at hj
      obtain rfl := Option.some.inj hj
      obtain ⟨n1, E, F, Pw⟩ := H.2.1 _ (own_mem ho)
      refine ⟨n1, E.wr W, fun z hz => ?_, ?_⟩
      · obtain ⟨r, hr⟩ := List.mem_iff_getElem?.mp hz
        rw [List.getElem?_set] at hr
        by_cases qr : q = r
        · subst qr
          rw [if_pos rfl, if_pos hql] at hr
          obtain rfl := Option.some.inj hr
          exact Fld.same (w := v0) W (F _ (own_mem (show (a, C, fs).2.2[q]? = some (O, f, d, v0) from hf)))
        · rw [if_neg qr] at hr
          refine Fld.other W (F _ (own_mem hr)) (Or.inr fun e => ?_)
          have P2 : ∀ i j : Nat, i < j → ∀ x y, fs[i]? = some x → fs[j]? = some y → slotOf Z x.1 x.2.1 x.2.2.1 ≠ slotOf Z y.1 y.2.1 y.2.2.1 := fun i j ij x y hx hy => by
            obtain ⟨h1, rfl⟩ := List.getElem?_eq_some_iff.mp hx
            obtain ⟨h2, rfl⟩ := List.getElem?_eq_some_iff.mp hy
            exact List.pairwise_iff_getElem.mp Pw i j h1 h2 ij
          rcases Nat.lt_or_gt_of_ne qr with lt | lt
          · exact P2 q r lt _ _ hf hr e.symm
          · exact P2 r q lt _ _ hr hf e
      · have hm : (fs.set q (O, f, d, v)).map (fun f => slotOf Z f.1 f.2.1 f.2.2.1) = fs.map (fun f => slotOf Z f.1 f.2.1 f.2.2.1) := own_set_map hf rfl
        have t := List.pairwise_map.mpr Pw
        rw [← hm] at t
        exact List.pairwise_map.mp t
    · rw [if_neg ij] at hj
      obtain ⟨n1, E, F, Pw⟩ := H.2.1 _ (own_mem hj)
      exact ⟨n1, E.wr W, fun z hz => Fld.other W (F z hz) (Or.inl (H.neOO hj ho (Ne.symm ij))), Pw⟩
  · obtain ⟨n1, cl, h1, h2, h3, h4, h5⟩ := H.2.2.1 y hy
    exact ⟨n1, cl, h1.other W (Ne.symm (H.neOA (own_mem ho) hy)), h2, h3, fun q => (h4 q).wr W, h5⟩
  · rw [own_set_map (f := fun z => z.1) (x' := (a, C, fs.set q (O, f, d, v))) ho rfl]; exact H.2.2.2
theorem own_H.wrA (H : own_H Z h os as) {i q : Nat} {a : Addr} {ty : FieldType} {ad : String} {v : Value} {vs : List Value} (ha : as[i]? = some (a, ty, ad, vs)) (hq : q < vs.length) (hv : fits ty v = true) (W : Wr h h' a q v) :
    own_H Z h' os (as.set i (a, ty, ad, vs.set q v)) := by
  have na := (H.2.2.1 _ (own_mem ha)).1
  have hlen := (List.getElem?_eq_some_iff.mp ha).1
  refine ⟨?_, fun x hx => ?_, fun y hy => ?_, ?_⟩
  · refine ⟨by rw [Wr.size W]; exact H.1.1, fun b cb hb => ?_⟩
    obtain ⟨cb', e1, -, -, -, e5, -⟩ := wr_at W (H.1.2 b cb hb)
    have : b ≠ a := Nat.ne_of_lt (Nat.lt_of_lt_of_le (Array.getElem?_eq_some_iff.mp hb).1 na)
    rw [← e5 this]; exact e1
  · obtain ⟨n1, E, F, Pw⟩ := H.2.1 _ hx
    exact ⟨n1, E.wr W, fun z hz => Fld.other W (F z hz) (Or.inl (H.neOA hx (own_mem ha))), Pw⟩
  · obtain ⟨j, hj⟩ := List.mem_iff_getElem?.mp hy
    rw [List.getElem?_set] at hj
    by_cases ij : i = j
    · subst ij
      rw [if_pos rfl, if_pos hlen] at hj
      obtain rfl := Option.some.inj hj
      obtain ⟨n1, cl, h1, h2, h3, h4, h5⟩ := H.2.2.1 _ (own_mem ha)
      refine ⟨n1, _, h1.same W, ?_, fun z hz => ?_, fun q => (h4 q).wr W, h5⟩
      · show (cl.setSlot q v).slots.toList = vs.set q v
        rw [show (cl.setSlot q v).slots = cl.slots.setIfInBounds q v from rfl, Array.toList_setIfInBounds, show cl.slots.toList = vs from h2]
      · rcases List.mem_or_eq_of_mem_set hz with hz | rfl
        · exact h3 z hz
        · exact hv
    · rw [if_neg ij] at hj
      obtain ⟨n1, cl, h1, h2, h3, h4, h5⟩ := H.2.2.1 _ (own_mem hj)
      exact ⟨n1, cl, h1.other W (H.neAA hj ha (Ne.symm ij)), h2, h3, fun q => (h4 q).wr W, h5⟩
  · rw [own_set_map (f := fun z => z.1) (x' := (a, ty, ad, vs.set q v)) ha rfl]; exact H.2.2.2
theorem own_le {a b : Nat} (h : Nat.ble a b = true) : a ≤ b := Nat.le_of_ble_eq_true h
theorem own_idx {j : Int32} {q : Nat} (hj : j.toInt = (q : Int)) : j.toNatClampNeg = q := by simp only [Int32.toNatClampNeg, hj]; rfl
theorem own_in {j : Int32} {q N : Nat} (hj : j.toInt = (q : Int)) (hq : q < N) : ¬ (j < 0 ∨ N ≤ j.toNatClampNeg) := by
  rw [own_idx hj, Int32.lt_iff_toInt_lt, hj, show (0 : Int32).toInt = 0 from rfl]; omega
theorem own_len {N : Int32} {q : Nat} (hN : N.toInt = (q : Int)) : q.toInt32 = N := by
  have := Int32.toInt_lt N
  exact Int32.toInt_inj.mp ((len_toInt (by omega)).trans hN.symm)
/-! ## steps -/
theorem own_zw {vm : Vm} (hZ : Z.Warmed39 s.vm) {q : Nat} (hS : s.Since vm q) : Z.Warmed39 (s.setVm vm).vm := State.Warmed39.trans (t := s) hZ hS.1
theorem own_pure (K : own_Cx p s m meth c Z own nm bytes maxL ret)
    (f : ∀ {T : State} {L : List Loc} {vm : Vm}, Stand p l e R (s.setVm vm) m args below meth c T L k n → Z.Warmed39 (s.setVm vm).vm → (s.setVm vm).vm.findClass own = some m.cls → T.heap = h → ∀ target, Steps p.tables e below (T.setTop g') target → Steps p.tables e below (T.setTop g) target)
    (hr : own_G w p l e R s m args below meth c Z Q h k n g') : own_G w p l e R s m args below meth c Z Q h k n g := by
  intro T hX
  obtain ⟨T', v, h', k', n', hX', r1, r2, r3, r4, r5⟩ := hr T hX
  obtain ⟨L, vm, X, -, eT, -, hS⟩ := hX
  exact ⟨T', v, h', k', n', hX', r1, r2, r3, r4, fun fs q => f X (own_zw K.2.2.2.2.2.1 hS) (by rw [show (s.setVm vm).vm = vm from rfl, hS.1.alike.findClass]; exact K.2.2.2.2.2.2.1) eT _ (r5 fs q)⟩
theorem own_since {vm : Vm} {q q' : Nat} (hS : s.Since vm q) (hq : q ≤ q') : s.Since vm q' := ⟨hS.1, hS.2.mono hq⟩
theorem own_step {P : Heap → Prop} (K : own_Cx p s m meth c Z own nm bytes maxL ret)
    (f : ∀ {T : State} {L : List Loc} {vm : Vm}, Stand p l e R (s.setVm vm) m args below meth c T L k n → Z.Warmed39 (s.setVm vm).vm → (s.setVm vm).vm.findClass own = some m.cls → T.heap = h → Fr Z.heap.size L →
      ∃ (T' : State) (h' : Heap) (L' : List Loc), Stand p l e R (s.setVm vm) m args below meth c T' L' k' n' ∧ Fr Z.heap.size L' ∧ T'.heap = h' ∧ h.size ≤ h'.size ∧ P h' ∧ ∀ target, Steps p.tables e below (T'.setTop g') target → Steps p.tables e below (T.setTop g) target)
    (hr : ∀ h', P h' → own_G w p l e R s m args below meth c Z Q h' k' n' g') : own_G w p l e R s m args below meth c Z Q h k n g := by
  intro T hX
  obtain ⟨L, vm, X, N, eT, hw, hS⟩ := hX
  obtain ⟨T1, h1, L1, X1, N1, e1, z1, P1, st⟩ := f X (own_zw K.2.2.2.2.2.1 hS) (by rw [show (s.setVm vm).vm = vm from rfl, hS.1.alike.findClass]; exact K.2.2.2.2.2.2.1) eT N
  obtain ⟨T', v, h', k', n', hX', r1, r2, r3, r4, r5⟩ := hr h1 P1 T1 ⟨L1, vm, X1, N1, e1, hw, own_since hS z1⟩
  exact ⟨T', v, h', k', n', hX', r1, r2, r3, r4, fun fs q => st _ (r5 fs q)⟩
theorem own_iload (K : own_Cx p s m meth c Z own nm bytes maxL ret) {kk : Nat} {v : Int32} (hd : own_D bytes pc (.iload kk) 2 pc') (hl : Ls[kk]? = some (.val (.int v))) (hr : own_G w p l e R s m args below meth c Z Q h k n (mkF m pc' Ls (.int v :: st))) : own_G w p l e R s m args below meth c Z Q h k n (mkF m pc Ls (st)) := by
  obtain ⟨hd, rfl⟩ := hd
  exact own_pure K (fun X _ _ _ _ q => XS.iload X.here K.1 rfl (hb K.2.1 hd) hl q) hr
theorem own_iloadN (K : own_Cx p s m meth c Z own nm bytes maxL ret) {kk : Fin 4} {v : Int32} (hd : own_D bytes pc (.iload_n kk) 1 pc') (hl : Ls[kk.val]? = some (.val (.int v))) (hr : own_G w p l e R s m args below meth c Z Q h k n (mkF m pc' Ls (.int v :: st))) : own_G w p l e R s m args below meth c Z Q h k n (mkF m pc Ls (st)) := by
  obtain ⟨hd, rfl⟩ := hd
  exact own_pure K (fun X _ _ _ _ q => XS.iloadN X.here K.1 rfl (hb K.2.1 hd) hl q) hr
theorem own_istore (K : own_Cx p s m meth c Z own nm bytes maxL ret) {kk : Nat} {v : Int32} (hd : own_D bytes pc (.istore kk) 2 pc') (hl : storeLocals Ls kk (.int v) = some Ls') (hr : own_G w p l e R s m args below meth c Z Q h k n (mkF m pc' Ls' (st))) : own_G w p l e R s m args below meth c Z Q h k n (mkF m pc Ls (.int v :: st)) := by
  obtain ⟨hd, rfl⟩ := hd
  exact own_pure K (fun X _ _ _ _ q => XS.istore X.here K.1 rfl (hb K.2.1 hd) rfl hl q) hr
theorem own_istoreN (K : own_Cx p s m meth c Z own nm bytes maxL ret) {kk : Fin 4} {v : Int32} (hd : own_D bytes pc (.istore_n kk) 1 pc') (hl : storeLocals Ls kk.val (.int v) = some Ls') (hr : own_G w p l e R s m args below meth c Z Q h k n (mkF m pc' Ls' (st))) : own_G w p l e R s m args below meth c Z Q h k n (mkF m pc Ls (.int v :: st)) := by
  obtain ⟨hd, rfl⟩ := hd
  exact own_pure K (fun X _ _ _ _ q => XS.istoreN X.here K.1 rfl (hb K.2.1 hd) rfl hl q) hr
theorem own_lload (K : own_Cx p s m meth c Z own nm bytes maxL ret) {kk : Nat} {v : Int64} (hd : own_D bytes pc (.lload kk) 2 pc') (hl : Ls[kk]? = some (.val (.long v))) (hr : own_G w p l e R s m args below meth c Z Q h k n (mkF m pc' Ls (.long v :: st))) : own_G w p l e R s m args below meth c Z Q h k n (mkF m pc Ls (st)) := by
  obtain ⟨hd, rfl⟩ := hd
  exact own_pure K (fun X _ _ _ _ q => XT.lload X.here K.1 rfl (hb K.2.1 hd) hl q) hr
theorem own_lloadN (K : own_Cx p s m meth c Z own nm bytes maxL ret) {kk : Fin 4} {v : Int64} (hd : own_D bytes pc (.lload_n kk) 1 pc') (hl : Ls[kk.val]? = some (.val (.long v))) (hr : own_G w p l e R s m args below meth c Z Q h k n (mkF m pc' Ls (.long v :: st))) : own_G w p l e R s m args below meth c Z Q h k n (mkF m pc Ls (st)) := by
  obtain ⟨hd, rfl⟩ := hd
  exact own_pure K (fun X _ _ _ _ q => XT.lloadN X.here K.1 rfl (hb K.2.1 hd) hl q) hr
theorem own_lstore (K : own_Cx p s m meth c Z own nm bytes maxL ret) {kk : Nat} {v : Int64} (hd : own_D bytes pc (.lstore kk) 2 pc') (hl : storeLocals Ls kk (.long v) = some Ls') (hr : own_G w p l e R s m args below meth c Z Q h k n (mkF m pc' Ls' (st))) : own_G w p l e R s m args below meth c Z Q h k n (mkF m pc Ls (.long v :: st)) := by
  obtain ⟨hd, rfl⟩ := hd
  exact own_pure K (fun X _ _ _ _ q => XT.lstore X.here K.1 rfl (hb K.2.1 hd) rfl hl q) hr
theorem own_lstoreN (K : own_Cx p s m meth c Z own nm bytes maxL ret) {kk : Fin 4} {v : Int64} (hd : own_D bytes pc (.lstore_n kk) 1 pc') (hl : storeLocals Ls kk.val (.long v) = some Ls') (hr : own_G w p l e R s m args below meth c Z Q h k n (mkF m pc' Ls' (st))) : own_G w p l e R s m args below meth c Z Q h k n (mkF m pc Ls (.long v :: st)) := by
  obtain ⟨hd, rfl⟩ := hd
  exact own_pure K (fun X _ _ _ _ q => XT.lstoreN X.here K.1 rfl (hb K.2.1 hd) rfl hl q) hr
theorem own_dload (K : own_Cx p s m meth c Z own nm bytes maxL ret) {kk : Nat} {v : UInt64} (hd : own_D bytes pc (.dload kk) 2 pc') (hl : Ls[kk]? = some (.val (.double v))) (hr : own_G w p l e R s m args below meth c Z Q h k n (mkF m pc' Ls (.double v :: st))) : own_G w p l e R s m args below meth c Z Q h k n (mkF m pc Ls (st)) := by
  obtain ⟨hd, rfl⟩ := hd
  exact own_pure K (fun X _ _ _ _ q => XS.dload X.here K.1 rfl (hb K.2.1 hd) hl q) hr
theorem own_dloadN (K : own_Cx p s m meth c Z own nm bytes maxL ret) {kk : Fin 4} {v : UInt64} (hd : own_D bytes pc (.dload_n kk) 1 pc') (hl : Ls[kk.val]? = some (.val (.double v))) (hr : own_G w p l e R s m args below meth c Z Q h k n (mkF m pc' Ls (.double v :: st))) : own_G w p l e R s m args below meth c Z Q h k n (mkF m pc Ls (st)) := by
  obtain ⟨hd, rfl⟩ := hd
  exact own_pure K (fun X _ _ _ _ q => XS.dloadN X.here K.1 rfl (hb K.2.1 hd) hl q) hr
theorem own_dstore (K : own_Cx p s m meth c Z own nm bytes maxL ret) {kk : Nat} {v : UInt64} (hd : own_D bytes pc (.dstore kk) 2 pc') (hl : storeLocals Ls kk (.double v) = some Ls') (hr : own_G w p l e R s m args below meth c Z Q h k n (mkF m pc' Ls' (st))) : own_G w p l e R s m args below meth c Z Q h k n (mkF m pc Ls (.double v :: st)) := by
  obtain ⟨hd, rfl⟩ := hd
  exact own_pure K (fun X _ _ _ _ q => XS.dstore X.here K.1 rfl (hb K.2.1 hd) rfl hl q) hr
theorem own_dstoreN (K : own_Cx p s m meth c Z own nm bytes maxL ret) {kk : Fin 4} {v : UInt64} (hd : own_D bytes pc (.dstore_n kk) 1 pc') (hl : storeLocals Ls kk.val (.double v) = some Ls') (hr : own_G w p l e R s m args below meth c Z Q h k n (mkF m pc' Ls' (st))) : own_G w p l e R s m args below meth c Z Q h k n (mkF m pc Ls (.double v :: st)) := by
  obtain ⟨hd, rfl⟩ := hd
  exact own_pure K (fun X _ _ _ _ q => XS.dstoreN X.here K.1 rfl (hb K.2.1 hd) rfl hl q) hr
theorem own_aload (K : own_Cx p s m meth c Z own nm bytes maxL ret) {kk : Nat} {v : Value} (hd : own_D bytes pc (.aload kk) 2 pc') (hl : Ls[kk]? = some (.val v)) (hv : v.isRef = true) (hr : own_G w p l e R s m args below meth c Z Q h k n (mkF m pc' Ls (v :: st))) : own_G w p l e R s m args below meth c Z Q h k n (mkF m pc Ls (st)) := by
  obtain ⟨hd, rfl⟩ := hd
  exact own_pure K (fun X _ _ _ _ q => XS.aload X.here K.1 rfl (hb K.2.1 hd) hl hv q) hr
theorem own_aloadN (K : own_Cx p s m meth c Z own nm bytes maxL ret) {kk : Fin 4} {v : Value} (hd : own_D bytes pc (.aload_n kk) 1 pc') (hl : Ls[kk.val]? = some (.val v)) (hv : v.isRef = true) (hr : own_G w p l e R s m args below meth c Z Q h k n (mkF m pc' Ls (v :: st))) : own_G w p l e R s m args below meth c Z Q h k n (mkF m pc Ls (st)) := by
  obtain ⟨hd, rfl⟩ := hd
  exact own_pure K (fun X _ _ _ _ q => XS.aloadN X.here K.1 rfl (hb K.2.1 hd) hl hv q) hr
theorem own_astore (K : own_Cx p s m meth c Z own nm bytes maxL ret) {kk : Nat} {v : Value} (hd : own_D bytes pc (.astore kk) 2 pc') (hv : v.isRef = true) (hl : storeLocals Ls kk v = some Ls') (hr : own_G w p l e R s m args below meth c Z Q h k n (mkF m pc' Ls' (st))) : own_G w p l e R s m args below meth c Z Q h k n (mkF m pc Ls (v :: st)) := by
  obtain ⟨hd, rfl⟩ := hd
  exact own_pure K (fun X _ _ _ _ q => XS.astore X.here K.1 rfl (hb K.2.1 hd) rfl hv hl q) hr
theorem own_astoreN (K : own_Cx p s m meth c Z own nm bytes maxL ret) {kk : Fin 4} {v : Value} (hd : own_D bytes pc (.astore_n kk) 1 pc') (hv : v.isRef = true) (hl : storeLocals Ls kk.val v = some Ls') (hr : own_G w p l e R s m args below meth c Z Q h k n (mkF m pc' Ls' (st))) : own_G w p l e R s m args below meth c Z Q h k n (mkF m pc Ls (v :: st)) := by
  obtain ⟨hd, rfl⟩ := hd
  exact own_pure K (fun X _ _ _ _ q => XS.astoreN X.here K.1 rfl (hb K.2.1 hd) rfl hv hl q) hr
theorem own_iconst (K : own_Cx p s m meth c Z own nm bytes maxL ret) {i : Int} {v : Int32} (hd : own_D bytes pc (.iconst i) 1 pc') (hv : Int32.ofInt i = v) (hr : own_G w p l e R s m args below meth c Z Q h k n (mkF m pc' Ls (.int v :: st))) : own_G w p l e R s m args below meth c Z Q h k n (mkF m pc Ls st) := by
  obtain ⟨hd, rfl⟩ := hd
  subst hv
  exact own_pure K (fun X _ _ _ _ q => XS.iconst X.here K.1 rfl (hb K.2.1 hd) q) hr
theorem own_bipush (K : own_Cx p s m meth c Z own nm bytes maxL ret) {i : Int} {v : Int32} (hd : own_D bytes pc (.bipush i) 2 pc') (hv : (Int8.ofInt i).toInt32 = v) (hr : own_G w p l e R s m args below meth c Z Q h k n (mkF m pc' Ls (.int v :: st))) : own_G w p l e R s m args below meth c Z Q h k n (mkF m pc Ls st) := by
  obtain ⟨hd, rfl⟩ := hd
  subst hv
  exact own_pure K (fun X _ _ _ _ q => XS.bipush X.here K.1 rfl (hb K.2.1 hd) q) hr
theorem own_sipush (K : own_Cx p s m meth c Z own nm bytes maxL ret) {i : Int} {v : Int32} (hd : own_D bytes pc (.sipush i) 3 pc') (hv : (Int16.ofInt i).toInt32 = v) (hr : own_G w p l e R s m args below meth c Z Q h k n (mkF m pc' Ls (.int v :: st))) : own_G w p l e R s m args below meth c Z Q h k n (mkF m pc Ls st) := by
  obtain ⟨hd, rfl⟩ := hd
  subst hv
  exact own_pure K (fun X _ _ _ _ q => XS.sipush X.here K.1 rfl (hb K.2.1 hd) q) hr
theorem own_lconst (K : own_Cx p s m meth c Z own nm bytes maxL ret) {i : Fin 2} {v : Int64} (hd : own_D bytes pc (.lconst i) 1 pc') (hv : Int64.ofNat i = v) (hr : own_G w p l e R s m args below meth c Z Q h k n (mkF m pc' Ls (.long v :: st))) : own_G w p l e R s m args below meth c Z Q h k n (mkF m pc Ls st) := by
  obtain ⟨hd, rfl⟩ := hd
  subst hv
  exact own_pure K (fun X _ _ _ _ q => XT.lconst X.here K.1 rfl (hb K.2.1 hd) q) hr
theorem own_dconst0 (K : own_Cx p s m meth c Z own nm bytes maxL ret) {v : UInt64} (hd : own_D bytes pc (.dconst 0) 1 pc') (hv : FP.dconst0 = v) (hr : own_G w p l e R s m args below meth c Z Q h k n (mkF m pc' Ls (.double v :: st))) : own_G w p l e R s m args below meth c Z Q h k n (mkF m pc Ls st) := by
  obtain ⟨hd, rfl⟩ := hd
  exact own_pure K (fun X _ _ _ _ q => XS.dconst0 X.here K.1 rfl (hb K.2.1 hd) hv q) hr
theorem own_dconst1 (K : own_Cx p s m meth c Z own nm bytes maxL ret) {v : UInt64} (hd : own_D bytes pc (.dconst 1) 1 pc') (hv : FP.dconst1 = v) (hr : own_G w p l e R s m args below meth c Z Q h k n (mkF m pc' Ls (.double v :: st))) : own_G w p l e R s m args below meth c Z Q h k n (mkF m pc Ls st) := by
  obtain ⟨hd, rfl⟩ := hd
  exact own_pure K (fun X _ _ _ _ q => XS.dconst1 X.here K.1 rfl (hb K.2.1 hd) hv q) hr
theorem own_aconstNull (K : own_Cx p s m meth c Z own nm bytes maxL ret)  (hd : own_D bytes pc (.aconst_null) 1 pc') (hr : own_G w p l e R s m args below meth c Z Q h k n (mkF m pc' Ls (.null :: st))) : own_G w p l e R s m args below meth c Z Q h k n (mkF m pc Ls (st)) := by
  obtain ⟨hd, rfl⟩ := hd
  exact own_pure K (fun X _ _ _ _ q => XS.aconstNull X.here K.1 rfl (hb K.2.1 hd)  q) hr
theorem own_iadd (K : own_Cx p s m meth c Z own nm bytes maxL ret) {x y : Int32} (hd : own_D bytes pc (.iadd) 1 pc') (hr : own_G w p l e R s m args below meth c Z Q h k n (mkF m pc' Ls (.int (x + y) :: st))) : own_G w p l e R s m args below meth c Z Q h k n (mkF m pc Ls (.int y :: .int x :: st)) := by
  obtain ⟨hd, rfl⟩ := hd
  exact own_pure K (fun X _ _ _ _ q => XS.iadd X.here K.1 rfl (hb K.2.1 hd) rfl q) hr
theorem own_isub (K : own_Cx p s m meth c Z own nm bytes maxL ret) {x y : Int32} (hd : own_D bytes pc (.isub) 1 pc') (hr : own_G w p l e R s m args below meth c Z Q h k n (mkF m pc' Ls (.int (x - y) :: st))) : own_G w p l e R s m args below meth c Z Q h k n (mkF m pc Ls (.int y :: .int x :: st)) := by
  obtain ⟨hd, rfl⟩ := hd
  exact own_pure K (fun X _ _ _ _ q => XS.isub X.here K.1 rfl (hb K.2.1 hd) rfl q) hr
theorem own_iand (K : own_Cx p s m meth c Z own nm bytes maxL ret) {x y : Int32} (hd : own_D bytes pc (.iand) 1 pc') (hr : own_G w p l e R s m args below meth c Z Q h k n (mkF m pc' Ls (.int (x &&& y) :: st))) : own_G w p l e R s m args below meth c Z Q h k n (mkF m pc Ls (.int y :: .int x :: st)) := by
  obtain ⟨hd, rfl⟩ := hd
  exact own_pure K (fun X _ _ _ _ q => XS.iand X.here K.1 rfl (hb K.2.1 hd) rfl q) hr
theorem own_imul (K : own_Cx p s m meth c Z own nm bytes maxL ret) {x y : Int32} (hd : own_D bytes pc (.imul) 1 pc') (hr : own_G w p l e R s m args below meth c Z Q h k n (mkF m pc' Ls (.int (x * y) :: st))) : own_G w p l e R s m args below meth c Z Q h k n (mkF m pc Ls (.int y :: .int x :: st)) := by
  obtain ⟨hd, rfl⟩ := hd
  exact own_pure K (fun X _ _ _ _ q => XS.imul X.here K.1 rfl (hb K.2.1 hd) rfl q) hr
theorem own_ixor (K : own_Cx p s m meth c Z own nm bytes maxL ret) {x y : Int32} (hd : own_D bytes pc (.ixor) 1 pc') (hr : own_G w p l e R s m args below meth c Z Q h k n (mkF m pc' Ls (.int (x ^^^ y) :: st))) : own_G w p l e R s m args below meth c Z Q h k n (mkF m pc Ls (.int y :: .int x :: st)) := by
  obtain ⟨hd, rfl⟩ := hd
  exact own_pure K (fun X _ _ _ _ q => XT.ixor X.here K.1 rfl (hb K.2.1 hd) rfl q) hr
theorem own_ior (K : own_Cx p s m meth c Z own nm bytes maxL ret) {x y : Int32} (hd : own_D bytes pc (.ior) 1 pc') (hr : own_G w p l e R s m args below meth c Z Q h k n (mkF m pc' Ls (.int (x ||| y) :: st))) : own_G w p l e R s m args below meth c Z Q h k n (mkF m pc Ls (.int y :: .int x :: st)) := by
  obtain ⟨hd, rfl⟩ := hd
  exact own_pure K (fun X _ _ _ _ q => XT.ior X.here K.1 rfl (hb K.2.1 hd) rfl q) hr
theorem own_ishl (K : own_Cx p s m meth c Z own nm bytes maxL ret) {x y : Int32} (hd : own_D bytes pc (.ishl) 1 pc') (hr : own_G w p l e R s m args below meth c Z Q h k n (mkF m pc' Ls (.int (x <<< (y &&& 31)) :: st))) : own_G w p l e R s m args below meth c Z Q h k n (mkF m pc Ls (.int y :: .int x :: st)) := by
  obtain ⟨hd, rfl⟩ := hd
  exact own_pure K (fun X _ _ _ _ q => XT.ishl X.here K.1 rfl (hb K.2.1 hd) rfl q) hr
theorem own_ishr (K : own_Cx p s m meth c Z own nm bytes maxL ret) {x y : Int32} (hd : own_D bytes pc (.ishr) 1 pc') (hr : own_G w p l e R s m args below meth c Z Q h k n (mkF m pc' Ls (.int (x >>> (y &&& 31)) :: st))) : own_G w p l e R s m args below meth c Z Q h k n (mkF m pc Ls (.int y :: .int x :: st)) := by
  obtain ⟨hd, rfl⟩ := hd
  exact own_pure K (fun X _ _ _ _ q => XT.ishr X.here K.1 rfl (hb K.2.1 hd) rfl q) hr
theorem own_iushr (K : own_Cx p s m meth c Z own nm bytes maxL ret) {x y : Int32} (hd : own_D bytes pc (.iushr) 1 pc') (hr : own_G w p l e R s m args below meth c Z Q h k n (mkF m pc' Ls (.int (XT.ushr x y) :: st))) : own_G w p l e R s m args below meth c Z Q h k n (mkF m pc Ls (.int y :: .int x :: st)) := by
  obtain ⟨hd, rfl⟩ := hd
  exact own_pure K (fun X _ _ _ _ q => XT.iushr X.here K.1 rfl (hb K.2.1 hd) rfl q) hr
theorem own_ladd (K : own_Cx p s m meth c Z own nm bytes maxL ret) {x y : Int64} (hd : own_D bytes pc (.ladd) 1 pc') (hr : own_G w p l e R s m args below meth c Z Q h k n (mkF m pc' Ls (.long (x + y) :: st))) : own_G w p l e R s m args below meth c Z Q h k n (mkF m pc Ls (.long y :: .long x :: st)) := by
  obtain ⟨hd, rfl⟩ := hd
  exact own_pure K (fun X _ _ _ _ q => XT.ladd X.here K.1 rfl (hb K.2.1 hd) rfl q) hr
theorem own_lsub (K : own_Cx p s m meth c Z own nm bytes maxL ret) {x y : Int64} (hd : own_D bytes pc (.lsub) 1 pc') (hr : own_G w p l e R s m args below meth c Z Q h k n (mkF m pc' Ls (.long (x - y) :: st))) : own_G w p l e R s m args below meth c Z Q h k n (mkF m pc Ls (.long y :: .long x :: st)) := by
  obtain ⟨hd, rfl⟩ := hd
  exact own_pure K (fun X _ _ _ _ q => XT.lsub X.here K.1 rfl (hb K.2.1 hd) rfl q) hr
theorem own_lmul (K : own_Cx p s m meth c Z own nm bytes maxL ret) {x y : Int64} (hd : own_D bytes pc (.lmul) 1 pc') (hr : own_G w p l e R s m args below meth c Z Q h k n (mkF m pc' Ls (.long (x * y) :: st))) : own_G w p l e R s m args below meth c Z Q h k n (mkF m pc Ls (.long y :: .long x :: st)) := by
  obtain ⟨hd, rfl⟩ := hd
  exact own_pure K (fun X _ _ _ _ q => XT.lmul X.here K.1 rfl (hb K.2.1 hd) rfl q) hr
theorem own_land (K : own_Cx p s m meth c Z own nm bytes maxL ret) {x y : Int64} (hd : own_D bytes pc (.land) 1 pc') (hr : own_G w p l e R s m args below meth c Z Q h k n (mkF m pc' Ls (.long (x &&& y) :: st))) : own_G w p l e R s m args below meth c Z Q h k n (mkF m pc Ls (.long y :: .long x :: st)) := by
  obtain ⟨hd, rfl⟩ := hd
  exact own_pure K (fun X _ _ _ _ q => XT.land X.here K.1 rfl (hb K.2.1 hd) rfl q) hr
theorem own_lor (K : own_Cx p s m meth c Z own nm bytes maxL ret) {x y : Int64} (hd : own_D bytes pc (.lor) 1 pc') (hr : own_G w p l e R s m args below meth c Z Q h k n (mkF m pc' Ls (.long (x ||| y) :: st))) : own_G w p l e R s m args below meth c Z Q h k n (mkF m pc Ls (.long y :: .long x :: st)) := by
  obtain ⟨hd, rfl⟩ := hd
  exact own_pure K (fun X _ _ _ _ q => XT.lor X.here K.1 rfl (hb K.2.1 hd) rfl q) hr
theorem own_lxor (K : own_Cx p s m meth c Z own nm bytes maxL ret) {x y : Int64} (hd : own_D bytes pc (.lxor) 1 pc') (hr : own_G w p l e R s m args below meth c Z Q h k n (mkF m pc' Ls (.long (x ^^^ y) :: st))) : own_G w p l e R s m args below meth c Z Q h k n (mkF m pc Ls (.long y :: .long x :: st)) := by
  obtain ⟨hd, rfl⟩ := hd
  exact own_pure K (fun X _ _ _ _ q => XT.lxor X.here K.1 rfl (hb K.2.1 hd) rfl q) hr
theorem own_lshl (K : own_Cx p s m meth c Z own nm bytes maxL ret) {x : Int64} {y : Int32} (hd : own_D bytes pc (.lshl) 1 pc') (hr : own_G w p l e R s m args below meth c Z Q h k n (mkF m pc' Ls (.long (x <<< (y.toInt64 &&& 63)) :: st))) : own_G w p l e R s m args below meth c Z Q h k n (mkF m pc Ls (.int y :: .long x :: st)) := by
  obtain ⟨hd, rfl⟩ := hd
  exact own_pure K (fun X _ _ _ _ q => XT.lshl X.here K.1 rfl (hb K.2.1 hd) rfl q) hr
theorem own_lshr (K : own_Cx p s m meth c Z own nm bytes maxL ret) {x : Int64} {y : Int32} (hd : own_D bytes pc (.lshr) 1 pc') (hr : own_G w p l e R s m args below meth c Z Q h k n (mkF m pc' Ls (.long (x >>> (y.toInt64 &&& 63)) :: st))) : own_G w p l e R s m args below meth c Z Q h k n (mkF m pc Ls (.int y :: .long x :: st)) := by
  obtain ⟨hd, rfl⟩ := hd
  exact own_pure K (fun X _ _ _ _ q => XT.lshr X.here K.1 rfl (hb K.2.1 hd) rfl q) hr
theorem own_lushr (K : own_Cx p s m meth c Z own nm bytes maxL ret) {x : Int64} {y : Int32} (hd : own_D bytes pc (.lushr) 1 pc') (hr : own_G w p l e R s m args below meth c Z Q h k n (mkF m pc' Ls (.long (XT.ushrL x y) :: st))) : own_G w p l e R s m args below meth c Z Q h k n (mkF m pc Ls (.int y :: .long x :: st)) := by
  obtain ⟨hd, rfl⟩ := hd
  exact own_pure K (fun X _ _ _ _ q => XT.lushr X.here K.1 rfl (hb K.2.1 hd) rfl q) hr
theorem own_lcmp (K : own_Cx p s m meth c Z own nm bytes maxL ret) {x y : Int64} (hd : own_D bytes pc (.lcmp) 1 pc') (hr : own_G w p l e R s m args below meth c Z Q h k n (mkF m pc' Ls (.int (XT.cmpL x y) :: st))) : own_G w p l e R s m args below meth c Z Q h k n (mkF m pc Ls (.long y :: .long x :: st)) := by
  obtain ⟨hd, rfl⟩ := hd
  exact own_pure K (fun X _ _ _ _ q => XT.lcmp X.here K.1 rfl (hb K.2.1 hd) rfl q) hr
theorem own_idiv (K : own_Cx p s m meth c Z own nm bytes maxL ret) {x y : Int32} (hd : own_D bytes pc (.idiv) 1 pc') (hy : y ≠ 0) (hr : own_G w p l e R s m args below meth c Z Q h k n (mkF m pc' Ls (.int (x / y) :: st))) : own_G w p l e R s m args below meth c Z Q h k n (mkF m pc Ls (.int y :: .int x :: st)) := by
  obtain ⟨hd, rfl⟩ := hd
  exact own_pure K (fun X _ _ _ _ q => XS.idiv X.here K.1 rfl (hb K.2.1 hd) rfl hy q) hr
theorem own_ldiv (K : own_Cx p s m meth c Z own nm bytes maxL ret) {x y : Int64} (hd : own_D bytes pc (.ldiv) 1 pc') (hy : y ≠ 0) (hr : own_G w p l e R s m args below meth c Z Q h k n (mkF m pc' Ls (.long (x / y) :: st))) : own_G w p l e R s m args below meth c Z Q h k n (mkF m pc Ls (.long y :: .long x :: st)) := by
  obtain ⟨hd, rfl⟩ := hd
  exact own_pure K (fun X _ _ _ _ q => XT.ldiv X.here K.1 rfl (hb K.2.1 hd) rfl hy q) hr
theorem own_irem (K : own_Cx p s m meth c Z own nm bytes maxL ret) {x y : Int32} (hd : own_D bytes pc .irem 1 pc') (hy : y ≠ 0) (hr : own_G w p l e R s m args below meth c Z Q h k n (mkF m pc' Ls (.int (x % y) :: st))) : own_G w p l e R s m args below meth c Z Q h k n (mkF m pc Ls (.int y :: .int x :: st)) := by
  obtain ⟨hd, rfl⟩ := hd
  exact own_pure K (fun X _ _ _ _ q => iremM X K.1 rfl (hb K.2.1 hd) rfl hy q) hr
theorem own_ineg (K : own_Cx p s m meth c Z own nm bytes maxL ret) {x : Int32} (hd : own_D bytes pc (.ineg) 1 pc') (hr : own_G w p l e R s m args below meth c Z Q h k n (mkF m pc' Ls (.int (-x) :: st))) : own_G w p l e R s m args below meth c Z Q h k n (mkF m pc Ls (.int x :: st)) := by
  obtain ⟨hd, rfl⟩ := hd
  exact own_pure K (fun X _ _ _ _ q => XS.ineg X.here K.1 rfl (hb K.2.1 hd) rfl q) hr
theorem own_lneg (K : own_Cx p s m meth c Z own nm bytes maxL ret) {x : Int64} (hd : own_D bytes pc (.lneg) 1 pc') (hr : own_G w p l e R s m args below meth c Z Q h k n (mkF m pc' Ls (.long (-x) :: st))) : own_G w p l e R s m args below meth c Z Q h k n (mkF m pc Ls (.long x :: st)) := by
  obtain ⟨hd, rfl⟩ := hd
  exact own_pure K (fun X _ _ _ _ q => XT.lneg X.here K.1 rfl (hb K.2.1 hd) rfl q) hr
theorem own_i2l (K : own_Cx p s m meth c Z own nm bytes maxL ret) {x : Int32} (hd : own_D bytes pc (.i2l) 1 pc') (hr : own_G w p l e R s m args below meth c Z Q h k n (mkF m pc' Ls (.long (x.toInt64) :: st))) : own_G w p l e R s m args below meth c Z Q h k n (mkF m pc Ls (.int x :: st)) := by
  obtain ⟨hd, rfl⟩ := hd
  exact own_pure K (fun X _ _ _ _ q => XT.i2l X.here K.1 rfl (hb K.2.1 hd) rfl q) hr
theorem own_l2i (K : own_Cx p s m meth c Z own nm bytes maxL ret) {x : Int64} (hd : own_D bytes pc (.l2i) 1 pc') (hr : own_G w p l e R s m args below meth c Z Q h k n (mkF m pc' Ls (.int (x.toInt32) :: st))) : own_G w p l e R s m args below meth c Z Q h k n (mkF m pc Ls (.long x :: st)) := by
  obtain ⟨hd, rfl⟩ := hd
  exact own_pure K (fun X _ _ _ _ q => XT.l2i X.here K.1 rfl (hb K.2.1 hd) rfl q) hr
theorem own_i2b (K : own_Cx p s m meth c Z own nm bytes maxL ret) {x : Int32} (hd : own_D bytes pc (.i2b) 1 pc') (hr : own_G w p l e R s m args below meth c Z Q h k n (mkF m pc' Ls (.int (x.toInt8.toInt32) :: st))) : own_G w p l e R s m args below meth c Z Q h k n (mkF m pc Ls (.int x :: st)) := by
  obtain ⟨hd, rfl⟩ := hd
  exact own_pure K (fun X _ _ _ _ q => XT.i2b X.here K.1 rfl (hb K.2.1 hd) rfl q) hr
theorem own_i2c (K : own_Cx p s m meth c Z own nm bytes maxL ret) {x : Int32} (hd : own_D bytes pc (.i2c) 1 pc') (hr : own_G w p l e R s m args below meth c Z Q h k n (mkF m pc' Ls (.int (x.toUInt32.toUInt16.toUInt32.toInt32) :: st))) : own_G w p l e R s m args below meth c Z Q h k n (mkF m pc Ls (.int x :: st)) := by
  obtain ⟨hd, rfl⟩ := hd
  exact own_pure K (fun X _ _ _ _ q => XT.i2c X.here K.1 rfl (hb K.2.1 hd) rfl q) hr
theorem own_i2s (K : own_Cx p s m meth c Z own nm bytes maxL ret) {x : Int32} (hd : own_D bytes pc (.i2s) 1 pc') (hr : own_G w p l e R s m args below meth c Z Q h k n (mkF m pc' Ls (.int (x.toInt16.toInt32) :: st))) : own_G w p l e R s m args below meth c Z Q h k n (mkF m pc Ls (.int x :: st)) := by
  obtain ⟨hd, rfl⟩ := hd
  exact own_pure K (fun X _ _ _ _ q => XT.i2s X.here K.1 rfl (hb K.2.1 hd) rfl q) hr
theorem own_i2d (K : own_Cx p s m meth c Z own nm bytes maxL ret) {x : Int32} (hd : own_D bytes pc (.i2d) 1 pc') (hr : own_G w p l e R s m args below meth c Z Q h k n (mkF m pc' Ls (.double (FP.i2d x) :: st))) : own_G w p l e R s m args below meth c Z Q h k n (mkF m pc Ls (.int x :: st)) := by
  obtain ⟨hd, rfl⟩ := hd
  exact own_pure K (fun X _ _ _ _ q => XS.i2dS X.here K.1 rfl (hb K.2.1 hd) rfl rfl q) hr
theorem own_l2d (K : own_Cx p s m meth c Z own nm bytes maxL ret) {x : Int64} (hd : own_D bytes pc (.l2d) 1 pc') (hr : own_G w p l e R s m args below meth c Z Q h k n (mkF m pc' Ls (.double (FP.l2d x) :: st))) : own_G w p l e R s m args below meth c Z Q h k n (mkF m pc Ls (.long x :: st)) := by
  obtain ⟨hd, rfl⟩ := hd
  exact own_pure K (fun X _ _ _ _ q => XS.l2dS X.here K.1 rfl (hb K.2.1 hd) rfl rfl q) hr
theorem own_dneg (K : own_Cx p s m meth c Z own nm bytes maxL ret) {x : UInt64} (hd : own_D bytes pc (.dneg) 1 pc') (hr : own_G w p l e R s m args below meth c Z Q h k n (mkF m pc' Ls (.double (FP.dneg x) :: st))) : own_G w p l e R s m args below meth c Z Q h k n (mkF m pc Ls (.double x :: st)) := by
  obtain ⟨hd, rfl⟩ := hd
  exact own_pure K (fun X _ _ _ _ q => XS.dnegS X.here K.1 rfl (hb K.2.1 hd) rfl rfl q) hr
theorem own_dcmp (K : own_Cx p s m meth c Z own nm bytes maxL ret) {oo : CmpOp} {x y : UInt64} (hd : own_D bytes pc (.dcmp oo) 1 pc') (hr : own_G w p l e R s m args below meth c Z Q h k n (mkF m pc' Ls (.int (cmpValue (FP.dcmp x y) oo) :: st))) : own_G w p l e R s m args below meth c Z Q h k n (mkF m pc Ls (.double y :: .double x :: st)) := by
  obtain ⟨hd, rfl⟩ := hd
  exact own_pure K (fun X _ _ _ _ q => XS.dcmpS X.here K.1 rfl (hb K.2.1 hd) rfl rfl q) hr
theorem own_dadd (K : own_Cx p s m meth c Z own nm bytes maxL ret) {x y : UInt64} (hd : own_D bytes pc (.dadd) 1 pc') (hn : Jvm.Free.Fl.NoNaN64 (FP.dadd x y)) (hr : own_G w p l e R s m args below meth c Z Q h k n (mkF m pc' Ls (.double (FP.dadd x y) :: st))) : own_G w p l e R s m args below meth c Z Q h k n (mkF m pc Ls (.double y :: .double x :: st)) := by
  obtain ⟨hd, rfl⟩ := hd
  exact own_pure K (fun X _ _ _ _ q => XS.daddS X.here K.1 rfl (hb K.2.1 hd) rfl hn rfl q) hr
theorem own_dsub (K : own_Cx p s m meth c Z own nm bytes maxL ret) {x y : UInt64} (hd : own_D bytes pc (.dsub) 1 pc') (hn : Jvm.Free.Fl.NoNaN64 (FP.dsub x y)) (hr : own_G w p l e R s m args below meth c Z Q h k n (mkF m pc' Ls (.double (FP.dsub x y) :: st))) : own_G w p l e R s m args below meth c Z Q h k n (mkF m pc Ls (.double y :: .double x :: st)) := by
  obtain ⟨hd, rfl⟩ := hd
  exact own_pure K (fun X _ _ _ _ q => XS.dsubS X.here K.1 rfl (hb K.2.1 hd) rfl hn rfl q) hr
theorem own_dmul (K : own_Cx p s m meth c Z own nm bytes maxL ret) {x y : UInt64} (hd : own_D bytes pc (.dmul) 1 pc') (hn : Jvm.Free.Fl.NoNaN64 (FP.dmul x y)) (hr : own_G w p l e R s m args below meth c Z Q h k n (mkF m pc' Ls (.double (FP.dmul x y) :: st))) : own_G w p l e R s m args below meth c Z Q h k n (mkF m pc Ls (.double y :: .double x :: st)) := by
  obtain ⟨hd, rfl⟩ := hd
  exact own_pure K (fun X _ _ _ _ q => XS.dmulS X.here K.1 rfl (hb K.2.1 hd) rfl hn rfl q) hr
theorem own_ddiv (K : own_Cx p s m meth c Z own nm bytes maxL ret) {x y : UInt64} (hd : own_D bytes pc (.ddiv) 1 pc') (hn : Jvm.Free.Fl.NoNaN64 (FP.ddiv x y)) (hr : own_G w p l e R s m args below meth c Z Q h k n (mkF m pc' Ls (.double (FP.ddiv x y) :: st))) : own_G w p l e R s m args below meth c Z Q h k n (mkF m pc Ls (.double y :: .double x :: st)) := by
  obtain ⟨hd, rfl⟩ := hd
  exact own_pure K (fun X _ _ _ _ q => XS.ddivS X.here K.1 rfl (hb K.2.1 hd) rfl hn rfl q) hr
theorem own_dup (K : own_Cx p s m meth c Z own nm bytes maxL ret) {x : Value} (hd : own_D bytes pc (.dup) 1 pc') (hc : x.category = 1) (hr : own_G w p l e R s m args below meth c Z Q h k n (mkF m pc' Ls (x :: x :: st))) : own_G w p l e R s m args below meth c Z Q h k n (mkF m pc Ls (x :: st)) := by
  obtain ⟨hd, rfl⟩ := hd
  exact own_pure K (fun X _ _ _ _ q => XS.dup X.here K.1 rfl (hb K.2.1 hd) rfl hc q) hr
theorem own_pop (K : own_Cx p s m meth c Z own nm bytes maxL ret) {x : Value} (hd : own_D bytes pc (.pop) 1 pc') (hc : x.category = 1) (hr : own_G w p l e R s m args below meth c Z Q h k n (mkF m pc' Ls (st))) : own_G w p l e R s m args below meth c Z Q h k n (mkF m pc Ls (x :: st)) := by
  obtain ⟨hd, rfl⟩ := hd
  exact own_pure K (fun X _ _ _ _ q => XT.pop X.here K.1 rfl (hb K.2.1 hd) rfl hc q) hr
theorem own_dupX1 (K : own_Cx p s m meth c Z own nm bytes maxL ret) {x y : Value} (hd : own_D bytes pc (.dup_x1) 1 pc') (hc : x.category = 1) (hc' : y.category = 1) (hr : own_G w p l e R s m args below meth c Z Q h k n (mkF m pc' Ls (x :: y :: x :: st))) : own_G w p l e R s m args below meth c Z Q h k n (mkF m pc Ls (x :: y :: st)) := by
  obtain ⟨hd, rfl⟩ := hd
  exact own_pure K (fun X _ _ _ _ q => XT.dupX1 X.here K.1 rfl (hb K.2.1 hd) rfl hc hc' q) hr
theorem own_dup2 (K : own_Cx p s m meth c Z own nm bytes maxL ret) {x y : Value} (hd : own_D bytes pc (.dup2) 1 pc') (hc : x.category = 1) (hc' : y.category = 1) (hr : own_G w p l e R s m args below meth c Z Q h k n (mkF m pc' Ls (x :: y :: x :: y :: st))) : own_G w p l e R s m args below meth c Z Q h k n (mkF m pc Ls (x :: y :: st)) := by
  obtain ⟨hd, rfl⟩ := hd
  exact own_pure K (fun X _ _ _ _ q => XT.dup2 X.here K.1 rfl (hb K.2.1 hd) rfl hc hc' q) hr
theorem own_iinc (K : own_Cx p s m meth c Z own nm bytes maxL ret) {kk : Nat} {cst : Int} {x y : Int32} (hd : own_D bytes pc (.iinc kk cst) 3 pc') (hl : Ls[kk]? = some (.val (.int x))) (hy : x + Int32.ofInt cst = y) (hl' : storeLocals Ls kk (.int y) = some Ls') (hr : own_G w p l e R s m args below meth c Z Q h k n (mkF m pc' Ls' st)) : own_G w p l e R s m args below meth c Z Q h k n (mkF m pc Ls st) := by
  obtain ⟨hd, rfl⟩ := hd
  subst hy
  exact own_pure K (fun X _ _ _ _ q => XS.iinc X.here K.1 rfl (hb K.2.1 hd) hl hl' q) hr
theorem own_goto (K : own_Cx p s m meth c Z own nm bytes maxL ret) {off : Int} {pcF : Nat} (hd : own_B bytes pc (.goto off) off pcF pcT) (hr : own_G w p l e R s m args below meth c Z Q h k n (mkF m pcT Ls st)) : own_G w p l e R s m args below meth c Z Q h k n (mkF m pc Ls st) := by
  obtain ⟨hd, -, h1, h2⟩ := hd
  exact own_pure K (fun X _ _ _ _ q => XS.goto X.here K.1 rfl rfl (hb K.2.1 hd) h1 h2 q) hr
theorem own_ldcI (K : own_Cx p s m meth c Z own nm bytes maxL ret) {i : Nat} {v : Int32} (hd : own_D bytes pc (.ldc i) 2 pc') (wc : (Cond.constant own i v).before a0 Z = true) (hr : own_G w p l e R s m args below meth c Z Q h k n (mkF m pc' Ls (.int v :: st))) : own_G w p l e R s m args below meth c Z Q h k n (mkF m pc Ls st) := by
  obtain ⟨hd, rfl⟩ := hd
  exact own_pure K (fun X hZ ho _ _ q => X.ldcI K.1 ho (mvT hZ wc) rfl (hb K.2.1 hd) q) hr
theorem own_ldc2J (K : own_Cx p s m meth c Z own nm bytes maxL ret) {i : Nat} {v : Int64} (hd : own_D bytes pc (.ldc2_w i) 3 pc') (wc : (Cond.constantLong own i v).before a0 Z = true) (hr : own_G w p l e R s m args below meth c Z Q h k n (mkF m pc' Ls (.long v :: st))) : own_G w p l e R s m args below meth c Z Q h k n (mkF m pc Ls st) := by
  obtain ⟨hd, rfl⟩ := hd
  exact own_pure K (fun X hZ ho _ _ q => X.ldc2J K.1 ho (mvT hZ wc) rfl (hb K.2.1 hd) q) hr
theorem own_ldc2D (K : own_Cx p s m meth c Z own nm bytes maxL ret) {i : Nat} {v : UInt64} (hd : own_D bytes pc (.ldc2_w i) 3 pc') (wc : (Cond.constantDouble own i v).before a0 Z = true) (hr : own_G w p l e R s m args below meth c Z Q h k n (mkF m pc' Ls (.double v :: st))) : own_G w p l e R s m args below meth c Z Q h k n (mkF m pc Ls st) := by
  obtain ⟨hd, rfl⟩ := hd
  exact own_pure K (fun X hZ ho _ _ q => X.ldc2DoubleC K.1 ho (mvT hZ wc) (g := mkF m pc Ls st) rfl (hb K.2.1 hd) _ q) hr
theorem own_i0_eq (x : Int32) : (ifCond.holds .eq x = true) = (x = 0) := by simp [ifCond.holds, Int32.lt_iff_toInt_lt, Int32.le_iff_toInt_le]
theorem own_ii_eq (x y : Int32) : (if_icmp.holds .eq x y = true) = (x = y) := by simp [if_icmp.holds, Int32.lt_iff_toInt_lt, Int32.le_iff_toInt_le]
theorem own_ifeq (K : own_Cx p s m meth c Z own nm bytes maxL ret) {off : Int} {pcF : Nat} {x : Int32} (hd : own_B bytes pc (.ifCond .eq off) off pcF pcT) (hT : (x = 0) → own_G w p l e R s m args below meth c Z Q h k n (mkF m pcT Ls st)) (hF : ¬ (x = 0) → own_G w p l e R s m args below meth c Z Q h k n (mkF m pcF Ls st)) : own_G w p l e R s m args below meth c Z Q h k n (mkF m pc Ls (.int x :: st)) := by
  obtain ⟨hd, rfl, h1, h2⟩ := hd
  by_cases q : ifCond.holds .eq x = true
  · exact own_pure K (fun X _ _ _ _ r => XS.ifYes X.here K.1 rfl rfl (hb K.2.1 hd) rfl q h1 h2 r) (hT ((own_i0_eq x).mp q))
  · exact own_pure K (fun X _ _ _ _ r => XS.ifNo X.here K.1 rfl (hb K.2.1 hd) rfl (Bool.eq_false_iff.mpr q) r) (hF fun z => q ((own_i0_eq x).mpr z))
theorem own_icmpeq (K : own_Cx p s m meth c Z own nm bytes maxL ret) {off : Int} {pcF : Nat} {x y : Int32} (hd : own_B bytes pc (.if_icmp .eq off) off pcF pcT) (hT : (x = y) → own_G w p l e R s m args below meth c Z Q h k n (mkF m pcT Ls st)) (hF : ¬ (x = y) → own_G w p l e R s m args below meth c Z Q h k n (mkF m pcF Ls st)) : own_G w p l e R s m args below meth c Z Q h k n (mkF m pc Ls (.int y :: .int x :: st)) := by
  obtain ⟨hd, rfl, h1, h2⟩ := hd
  by_cases q : if_icmp.holds .eq x y = true
  · exact own_pure K (fun X _ _ _ _ r => XS.icmpYes X.here K.1 rfl rfl (hb K.2.1 hd) rfl q h1 h2 r) (hT ((own_ii_eq x y).mp q))
  · exact own_pure K (fun X _ _ _ _ r => XS.icmpNo X.here K.1 rfl (hb K.2.1 hd) rfl (Bool.eq_false_iff.mpr q) r) (hF fun z => q ((own_ii_eq x y).mpr z))
theorem own_i0_ne (x : Int32) : (ifCond.holds .ne x = true) = (x ≠ 0) := by simp [ifCond.holds, Int32.lt_iff_toInt_lt, Int32.le_iff_toInt_le]
theorem own_ii_ne (x y : Int32) : (if_icmp.holds .ne x y = true) = (x ≠ y) := by simp [if_icmp.holds, Int32.lt_iff_toInt_lt, Int32.le_iff_toInt_le]
theorem own_ifne (K : own_Cx p s m meth c Z own nm bytes maxL ret) {off : Int} {pcF : Nat} {x : Int32} (hd : own_B bytes pc (.ifCond .ne off) off pcF pcT) (hT : (x ≠ 0) → own_G w p l e R s m args below meth c Z Q h k n (mkF m pcT Ls st)) (hF : ¬ (x ≠ 0) → own_G w p l e R s m args below meth c Z Q h k n (mkF m pcF Ls st)) : own_G w p l e R s m args below meth c Z Q h k n (mkF m pc Ls (.int x :: st)) := by
  obtain ⟨hd, rfl, h1, h2⟩ := hd
  by_cases q : ifCond.holds .ne x = true
  · exact own_pure K (fun X _ _ _ _ r => XS.ifYes X.here K.1 rfl rfl (hb K.2.1 hd) rfl q h1 h2 r) (hT ((own_i0_ne x).mp q))
  · exact own_pure K (fun X _ _ _ _ r => XS.ifNo X.here K.1 rfl (hb K.2.1 hd) rfl (Bool.eq_false_iff.mpr q) r) (hF fun z => q ((own_i0_ne x).mpr z))
theorem own_icmpne (K : own_Cx p s m meth c Z own nm bytes maxL ret) {off : Int} {pcF : Nat} {x y : Int32} (hd : own_B bytes pc (.if_icmp .ne off) off pcF pcT) (hT : (x ≠ y) → own_G w p l e R s m args below meth c Z Q h k n (mkF m pcT Ls st)) (hF : ¬ (x ≠ y) → own_G w p l e R s m args below meth c Z Q h k n (mkF m pcF Ls st)) : own_G w p l e R s m args below meth c Z Q h k n (mkF m pc Ls (.int y :: .int x :: st)) := by
  obtain ⟨hd, rfl, h1, h2⟩ := hd
  by_cases q : if_icmp.holds .ne x y = true
  · exact own_pure K (fun X _ _ _ _ r => XS.icmpYes X.here K.1 rfl rfl (hb K.2.1 hd) rfl q h1 h2 r) (hT ((own_ii_ne x y).mp q))
  · exact own_pure K (fun X _ _ _ _ r => XS.icmpNo X.here K.1 rfl (hb K.2.1 hd) rfl (Bool.eq_false_iff.mpr q) r) (hF fun z => q ((own_ii_ne x y).mpr z))
theorem own_i0_lt (x : Int32) : (ifCond.holds .lt x = true) = (x.toInt < 0) := by simp [ifCond.holds, Int32.lt_iff_toInt_lt, Int32.le_iff_toInt_le]
theorem own_ii_lt (x y : Int32) : (if_icmp.holds .lt x y = true) = (x.toInt < y.toInt) := by simp [if_icmp.holds, Int32.lt_iff_toInt_lt, Int32.le_iff_toInt_le]
theorem own_iflt (K : own_Cx p s m meth c Z own nm bytes maxL ret) {off : Int} {pcF : Nat} {x : Int32} (hd : own_B bytes pc (.ifCond .lt off) off pcF pcT) (hT : (x.toInt < 0) → own_G w p l e R s m args below meth c Z Q h k n (mkF m pcT Ls st)) (hF : ¬ (x.toInt < 0) → own_G w p l e R s m args below meth c Z Q h k n (mkF m pcF Ls st)) : own_G w p l e R s m args below meth c Z Q h k n (mkF m pc Ls (.int x :: st)) := by
  obtain ⟨hd, rfl, h1, h2⟩ := hd
  by_cases q : ifCond.holds .lt x = true
  · exact own_pure K (fun X _ _ _ _ r => XS.ifYes X.here K.1 rfl rfl (hb K.2.1 hd) rfl q h1 h2 r) (hT ((own_i0_lt x).mp q))
  · exact own_pure K (fun X _ _ _ _ r => XS.ifNo X.here K.1 rfl (hb K.2.1 hd) rfl (Bool.eq_false_iff.mpr q) r) (hF fun z => q ((own_i0_lt x).mpr z))
theorem own_icmplt (K : own_Cx p s m meth c Z own nm bytes maxL ret) {off : Int} {pcF : Nat} {x y : Int32} (hd : own_B bytes pc (.if_icmp .lt off) off pcF pcT) (hT : (x.toInt < y.toInt) → own_G w p l e R s m args below meth c Z Q h k n (mkF m pcT Ls st)) (hF : ¬ (x.toInt < y.toInt) → own_G w p l e R s m args below meth c Z Q h k n (mkF m pcF Ls st)) : own_G w p l e R s m args below meth c Z Q h k n (mkF m pc Ls (.int y :: .int x :: st)) := by
  obtain ⟨hd, rfl, h1, h2⟩ := hd
  by_cases q : if_icmp.holds .lt x y = true
  · exact own_pure K (fun X _ _ _ _ r => XS.icmpYes X.here K.1 rfl rfl (hb K.2.1 hd) rfl q h1 h2 r) (hT ((own_ii_lt x y).mp q))
  · exact own_pure K (fun X _ _ _ _ r => XS.icmpNo X.here K.1 rfl (hb K.2.1 hd) rfl (Bool.eq_false_iff.mpr q) r) (hF fun z => q ((own_ii_lt x y).mpr z))
theorem own_i0_ge (x : Int32) : (ifCond.holds .ge x = true) = (0 ≤ x.toInt) := by simp [ifCond.holds, Int32.lt_iff_toInt_lt, Int32.le_iff_toInt_le]
theorem own_ii_ge (x y : Int32) : (if_icmp.holds .ge x y = true) = (y.toInt ≤ x.toInt) := by simp [if_icmp.holds, Int32.lt_iff_toInt_lt, Int32.le_iff_toInt_le]
theorem own_ifge (K : own_Cx p s m meth c Z own nm bytes maxL ret) {off : Int} {pcF : Nat} {x : Int32} (hd : own_B bytes pc (.ifCond .ge off) off pcF pcT) (hT : (0 ≤ x.toInt) → own_G w p l e R s m args below meth c Z Q h k n (mkF m pcT Ls st)) (hF : ¬ (0 ≤ x.toInt) → own_G w p l e R s m args below meth c Z Q h k n (mkF m pcF Ls st)) : own_G w p l e R s m args below meth c Z Q h k n (mkF m pc Ls (.int x :: st)) := by
  obtain ⟨hd, rfl, h1, h2⟩ := hd
  by_cases q : ifCond.holds .ge x = true
  · exact own_pure K (fun X _ _ _ _ r => XS.ifYes X.here K.1 rfl rfl (hb K.2.1 hd) rfl q h1 h2 r) (hT ((own_i0_ge x).mp q))
  · exact own_pure K (fun X _ _ _ _ r => XS.ifNo X.here K.1 rfl (hb K.2.1 hd) rfl (Bool.eq_false_iff.mpr q) r) (hF fun z => q ((own_i0_ge x).mpr z))
theorem own_icmpge (K : own_Cx p s m meth c Z own nm bytes maxL ret) {off : Int} {pcF : Nat} {x y : Int32} (hd : own_B bytes pc (.if_icmp .ge off) off pcF pcT) (hT : (y.toInt ≤ x.toInt) → own_G w p l e R s m args below meth c Z Q h k n (mkF m pcT Ls st)) (hF : ¬ (y.toInt ≤ x.toInt) → own_G w p l e R s m args below meth c Z Q h k n (mkF m pcF Ls st)) : own_G w p l e R s m args below meth c Z Q h k n (mkF m pc Ls (.int y :: .int x :: st)) := by
  obtain ⟨hd, rfl, h1, h2⟩ := hd
  by_cases q : if_icmp.holds .ge x y = true
  · exact own_pure K (fun X _ _ _ _ r => XS.icmpYes X.here K.1 rfl rfl (hb K.2.1 hd) rfl q h1 h2 r) (hT ((own_ii_ge x y).mp q))
  · exact own_pure K (fun X _ _ _ _ r => XS.icmpNo X.here K.1 rfl (hb K.2.1 hd) rfl (Bool.eq_false_iff.mpr q) r) (hF fun z => q ((own_ii_ge x y).mpr z))
theorem own_i0_gt (x : Int32) : (ifCond.holds .gt x = true) = (0 < x.toInt) := by simp [ifCond.holds, Int32.lt_iff_toInt_lt, Int32.le_iff_toInt_le]
theorem own_ii_gt (x y : Int32) : (if_icmp.holds .gt x y = true) = (y.toInt < x.toInt) := by simp [if_icmp.holds, Int32.lt_iff_toInt_lt, Int32.le_iff_toInt_le]
theorem own_ifgt (K : own_Cx p s m meth c Z own nm bytes maxL ret) {off : Int} {pcF : Nat} {x : Int32} (hd : own_B bytes pc (.ifCond .gt off) off pcF pcT) (hT : (0 < x.toInt) → own_G w p l e R s m args below meth c Z Q h k n (mkF m pcT Ls st)) (hF : ¬ (0 < x.toInt) → own_G w p l e R s m args below meth c Z Q h k n (mkF m pcF Ls st)) : own_G w p l e R s m args below meth c Z Q h k n (mkF m pc Ls (.int x :: st)) := by
  obtain ⟨hd, rfl, h1, h2⟩ := hd
  by_cases q : ifCond.holds .gt x = true
  · exact own_pure K (fun X _ _ _ _ r => XS.ifYes X.here K.1 rfl rfl (hb K.2.1 hd) rfl q h1 h2 r) (hT ((own_i0_gt x).mp q))
  · exact own_pure K (fun X _ _ _ _ r => XS.ifNo X.here K.1 rfl (hb K.2.1 hd) rfl (Bool.eq_false_iff.mpr q) r) (hF fun z => q ((own_i0_gt x).mpr z))
theorem own_icmpgt (K : own_Cx p s m meth c Z own nm bytes maxL ret) {off : Int} {pcF : Nat} {x y : Int32} (hd : own_B bytes pc (.if_icmp .gt off) off pcF pcT) (hT : (y.toInt < x.toInt) → own_G w p l e R s m args below meth c Z Q h k n (mkF m pcT Ls st)) (hF : ¬ (y.toInt < x.toInt) → own_G w p l e R s m args below meth c Z Q h k n (mkF m pcF Ls st)) : own_G w p l e R s m args below meth c Z Q h k n (mkF m pc Ls (.int y :: .int x :: st)) := by
  obtain ⟨hd, rfl, h1, h2⟩ := hd
  by_cases q : if_icmp.holds .gt x y = true
  · exact own_pure K (fun X _ _ _ _ r => XS.icmpYes X.here K.1 rfl rfl (hb K.2.1 hd) rfl q h1 h2 r) (hT ((own_ii_gt x y).mp q))
  · exact own_pure K (fun X _ _ _ _ r => XS.icmpNo X.here K.1 rfl (hb K.2.1 hd) rfl (Bool.eq_false_iff.mpr q) r) (hF fun z => q ((own_ii_gt x y).mpr z))
theorem own_i0_le (x : Int32) : (ifCond.holds .le x = true) = (x.toInt ≤ 0) := by simp [ifCond.holds, Int32.lt_iff_toInt_lt, Int32.le_iff_toInt_le]
theorem own_ii_le (x y : Int32) : (if_icmp.holds .le x y = true) = (x.toInt ≤ y.toInt) := by simp [if_icmp.holds, Int32.lt_iff_toInt_lt, Int32.le_iff_toInt_le]
theorem own_ifle (K : own_Cx p s m meth c Z own nm bytes maxL ret) {off : Int} {pcF : Nat} {x : Int32} (hd : own_B bytes pc (.ifCond .le off) off pcF pcT) (hT : (x.toInt ≤ 0) → own_G w p l e R s m args below meth c Z Q h k n (mkF m pcT Ls st)) (hF : ¬ (x.toInt ≤ 0) → own_G w p l e R s m args below meth c Z Q h k n (mkF m pcF Ls st)) : own_G w p l e R s m args below meth c Z Q h k n (mkF m pc Ls (.int x :: st)) := by
  obtain ⟨hd, rfl, h1, h2⟩ := hd
  by_cases q : ifCond.holds .le x = true
  · exact own_pure K (fun X _ _ _ _ r => XS.ifYes X.here K.1 rfl rfl (hb K.2.1 hd) rfl q h1 h2 r) (hT ((own_i0_le x).mp q))
  · exact own_pure K (fun X _ _ _ _ r => XS.ifNo X.here K.1 rfl (hb K.2.1 hd) rfl (Bool.eq_false_iff.mpr q) r) (hF fun z => q ((own_i0_le x).mpr z))
theorem own_icmple (K : own_Cx p s m meth c Z own nm bytes maxL ret) {off : Int} {pcF : Nat} {x y : Int32} (hd : own_B bytes pc (.if_icmp .le off) off pcF pcT) (hT : (x.toInt ≤ y.toInt) → own_G w p l e R s m args below meth c Z Q h k n (mkF m pcT Ls st)) (hF : ¬ (x.toInt ≤ y.toInt) → own_G w p l e R s m args below meth c Z Q h k n (mkF m pcF Ls st)) : own_G w p l e R s m args below meth c Z Q h k n (mkF m pc Ls (.int y :: .int x :: st)) := by
  obtain ⟨hd, rfl, h1, h2⟩ := hd
  by_cases q : if_icmp.holds .le x y = true
  · exact own_pure K (fun X _ _ _ _ r => XS.icmpYes X.here K.1 rfl rfl (hb K.2.1 hd) rfl q h1 h2 r) (hT ((own_ii_le x y).mp q))
  · exact own_pure K (fun X _ _ _ _ r => XS.icmpNo X.here K.1 rfl (hb K.2.1 hd) rfl (Bool.eq_false_iff.mpr q) r) (hF fun z => q ((own_ii_le x y).mpr z))
theorem own_ifnullN (K : own_Cx p s m meth c Z own nm bytes maxL ret) {off : Int} {pcF : Nat} (hd : own_B bytes pc (.ifnull off) off pcF pcT) (hr : own_G w p l e R s m args below meth c Z Q h k n (mkF m pcT Ls st)) : own_G w p l e R s m args below meth c Z Q h k n (mkF m pc Ls (.null :: st)) := by
  obtain ⟨hd, rfl, h1, h2⟩ := hd
  exact own_pure K (fun X _ _ _ _ r => XS.ifnullYes X.here K.1 rfl rfl (hb K.2.1 hd) rfl h1 h2 r) hr
theorem own_ifnullR (K : own_Cx p s m meth c Z own nm bytes maxL ret) {off : Int} {pcF : Nat} {b : Addr} (hd : own_B bytes pc (.ifnull off) off pcF pcT) (hr : own_G w p l e R s m args below meth c Z Q h k n (mkF m pcF Ls st)) : own_G w p l e R s m args below meth c Z Q h k n (mkF m pc Ls (.ref b :: st)) := by
  obtain ⟨hd, rfl, h1, h2⟩ := hd
  exact own_pure K (fun X _ _ _ _ r => XS.ifnullNo X.here K.1 rfl (hb K.2.1 hd) rfl r) hr
theorem own_ifnonnullN (K : own_Cx p s m meth c Z own nm bytes maxL ret) {off : Int} {pcF : Nat} (hd : own_B bytes pc (.ifnonnull off) off pcF pcT) (hr : own_G w p l e R s m args below meth c Z Q h k n (mkF m pcF Ls st)) : own_G w p l e R s m args below meth c Z Q h k n (mkF m pc Ls (.null :: st)) := by
  obtain ⟨hd, rfl, h1, h2⟩ := hd
  exact own_pure K (fun X _ _ _ _ r => XT.ifnonnullNo X.here K.1 rfl (hb K.2.1 hd) rfl r) hr
theorem own_ifnonnullR (K : own_Cx p s m meth c Z own nm bytes maxL ret) {off : Int} {pcF : Nat} {b : Addr} (hd : own_B bytes pc (.ifnonnull off) off pcF pcT) (hr : own_G w p l e R s m args below meth c Z Q h k n (mkF m pcT Ls st)) : own_G w p l e R s m args below meth c Z Q h k n (mkF m pc Ls (.ref b :: st)) := by
  obtain ⟨hd, rfl, h1, h2⟩ := hd
  exact own_pure K (fun X _ _ _ _ r => XT.ifnonnullYes X.here K.1 rfl rfl (hb K.2.1 hd) rfl h1 h2 r) hr
theorem own_acmpeq (K : own_Cx p s m meth c Z own nm bytes maxL ret) {off : Int} {pcF : Nat} {x y : Value} (hd : own_B bytes pc (.if_acmp .eq off) off pcF pcT) (h1' : x.isRef = true) (h2' : y.isRef = true) (hT : (x = y) → own_G w p l e R s m args below meth c Z Q h k n (mkF m pcT Ls st)) (hF : ¬ (x = y) → own_G w p l e R s m args below meth c Z Q h k n (mkF m pcF Ls st)) : own_G w p l e R s m args below meth c Z Q h k n (mkF m pc Ls (y :: x :: st)) := by
  obtain ⟨hd, rfl, h1, h2⟩ := hd
  by_cases q : x = y
  · exact own_pure K (fun X _ _ _ _ r => XT.acmpYes X.here K.1 rfl rfl (hb K.2.1 hd) rfl h1' h2' (decide_eq_true q) h1 h2 r) (hT q)
  · exact own_pure K (fun X _ _ _ _ r => XT.acmpNo X.here K.1 rfl (hb K.2.1 hd) rfl h1' h2' (decide_eq_false q) r) (hF q)
theorem own_acmpne (K : own_Cx p s m meth c Z own nm bytes maxL ret) {off : Int} {pcF : Nat} {x y : Value} (hd : own_B bytes pc (.if_acmp .ne off) off pcF pcT) (h1' : x.isRef = true) (h2' : y.isRef = true) (hT : (x ≠ y) → own_G w p l e R s m args below meth c Z Q h k n (mkF m pcT Ls st)) (hF : ¬ (x ≠ y) → own_G w p l e R s m args below meth c Z Q h k n (mkF m pcF Ls st)) : own_G w p l e R s m args below meth c Z Q h k n (mkF m pc Ls (y :: x :: st)) := by
  obtain ⟨hd, rfl, h1, h2⟩ := hd
  by_cases q : x ≠ y
  · exact own_pure K (fun X _ _ _ _ r => XT.acmpYes X.here K.1 rfl rfl (hb K.2.1 hd) rfl h1' h2' (decide_eq_true q) h1 h2 r) (hT q)
  · exact own_pure K (fun X _ _ _ _ r => XT.acmpNo X.here K.1 rfl (hb K.2.1 hd) rfl h1' h2' (decide_eq_false q) r) (hF q)
theorem own_getfield (K : own_Cx p s m meth c Z own nm bytes maxL ret) {i j q : Nat} {R0 O f d host C : String} {v : Value} {a : Addr} {fs : List (String × String × String × Value)} (hd : own_D bytes pc (.getfield i) 3 pc') (wl : (Cond.fieldLink own i R0 f d).before a0 Z = true ∨ (Cond.fieldLinkNest own i R0 f d host).before a0 Z = true) (via : Via Z R0 O f d) (H : own_H Z h os as) (ho : os[j]? = some (a, C, fs)) (hf : fs[q]? = some (O, f, d, v)) (hr : own_G w p l e R s m args below meth c Z Q h k n (mkF m pc' Ls (v :: st))) : own_G w p l e R s m args below meth c Z Q h k n (mkF m pc Ls (.ref a :: st)) := by
  obtain ⟨hd, rfl⟩ := hd
  refine own_step K (P := fun h' => h' = h) (fun X hZ hw eT N => ?_) (fun h' e => by subst e; exact hr)
  obtain ⟨T', X', e', st⟩ := getF X K.1 hZ hw wl via eT (H.fld ho hf) (g := mkF m pc Ls (.ref a :: st)) rfl rfl (hb K.2.1 hd)
  exact ⟨T', _, _, X', N, e', Nat.le_refl _, rfl, st⟩
theorem own_putfield (K : own_Cx p s m meth c Z own nm bytes maxL ret) {i j q kk : Nat} {R0 O f d host C : String} {v v0 : Value} {a : Addr} {fs : List (String × String × String × Value)} {ty : FieldType} (hd : own_D bytes pc (.putfield i) 3 pc') (wl : (Cond.fieldLink own i R0 f d).before a0 Z = true ∨ (Cond.fieldLinkNest own i R0 f d host).before a0 Z = true) (via : Via Z R0 O f d) (H : own_H Z h os as) (ho : os[j]? = some (a, C, fs)) (hf : fs[q]? = some (O, f, d, v0))
    (L : (Cond.lays C O f d).before a0 Z = true ∨ ((Cond.laysFinal C O f d).before a0 Z = true ∧ own = O ∧ nm = "<init>")) (wi : (Cond.instantiable C kk).before a0 Z = true) (hty : parseFieldDescriptor d = some ty) (hn : narrow ty v = v) (hfit : fits ty v = true) (hr : ∀ h', own_H Z h' (os.set j (a, C, fs.set q (O, f, d, v))) as → own_G w p l e R s m args below meth c Z Q h' k n (mkF m pc' Ls st)) : own_G w p l e R s m args below meth c Z Q h k n (mkF m pc Ls (v :: .ref a :: st)) := by
  obtain ⟨hd, rfl⟩ := hd
  refine own_step K (P := fun h' => own_H Z h' (os.set j (a, C, fs.set q (O, f, d, v))) as) (fun X hZ hw eT N => ?_) hr
  obtain ⟨T', h', X', e', W, st⟩ := putF X K.1 hZ hw wl via eT (H.fld ho hf) (H.atO ho) (L.imp id (fun z => ⟨z.1, z.2.1, K.2.2.2.2.2.2.2.trans z.2.2⟩)) wi hty hn hfit (g := mkF m pc Ls (v :: .ref a :: st)) rfl rfl (hb K.2.1 hd)
  exact ⟨T', h', _, X', Fr.snoc X' N (H.newO ho), e', Nat.le_of_eq (Wr.size W).symm, H.wrO ho hf W, st⟩
theorem own_new (K : own_Cx p s m meth c Z own nm bytes maxL ret) {i kk : Nat} {C : String} {fs : List (String × String × String × Value)} (hd : own_D bytes pc (.new i) 3 pc') (w1 : (Cond.classLink own i C).before a0 Z = true) (w2 : (Cond.instantiable C kk).before a0 Z = true) (w3 : (Cond.initialized C).before a0 Z = true) (H : own_H Z h os as)
    (hF : ∀ f ∈ fs, Laid Z a0 C f.1 f.2.1 f.2.2.1 ∧ ∃ ty, parseFieldDescriptor f.2.2.1 = some ty ∧ f.2.2.2 = defaultValue ty) (hP : fs.Pairwise (fun f g => slotOf Z f.1 f.2.1 f.2.2.1 ≠ slotOf Z g.1 g.2.1 g.2.2.1)) (hc : k + 1 ≤ R.cells) (hl : n + kk ≤ R.slots)
    (hr : ∀ h' a, own_H Z h' ((a, C, fs) :: os) as → own_G w p l e R s m args below meth c Z Q h' (k + 1) (n + kk) (mkF m pc' Ls (.ref a :: st))) : own_G w p l e R s m args below meth c Z Q h k n (mkF m pc Ls st) := by
  obtain ⟨hd, rfl⟩ := hd
  refine own_step K (P := fun h' => own_H Z h' ((h.size, C, fs) :: os) as) (fun X hZ hw eT N => ?_) (fun h' H' => hr h' _ H')
  obtain ⟨T', h', X', e', E, A, D, -, st⟩ := newO X K.1 hZ hw w1 w2 w3 eT (g := mkF m pc Ls st) rfl (hb K.2.1 hd) hc hl
  exact ⟨T', h', _, X', N, e', E.1, H.addO E ⟨A, fun f hf => by obtain ⟨hL, ty, t1, t2⟩ := hF f hf; show Fld Z h' h.size f.1 f.2.1 f.2.2.1 f.2.2.2; rw [t2]; exact D hL t1, hP⟩, st⟩
theorem own_newarray (K : own_Cx p s m meth c Z own nm bytes maxL ret) {aty : ArrayType} {ty : FieldType} {N : Int32} {q : Nat} {ad : String} {vs : List Value} (hd : own_D bytes pc (.newarray aty) 2 pc') (hty : newarray.typeOf aty = ty) (w1 : (Cond.arrayClass ty).before a0 Z = true) (H : own_H Z h os as) (hN : N.toInt = (q : Int)) (had : "[" ++ ty.toString = ad) (hvs : vs = List.replicate q (defaultValue ty)) (hq : q * 8 ≤ 536870912) (hc : k + 1 ≤ R.cells) (hl : n + q ≤ R.slots)
    (hr : ∀ h' a, own_H Z h' os ((a, ty, ad, vs) :: as) → own_G w p l e R s m args below meth c Z Q h' (k + 1) (n + q) (mkF m pc' Ls (.ref a :: st))) : own_G w p l e R s m args below meth c Z Q h k n (mkF m pc Ls (.int N :: st)) := by
  obtain ⟨hd, rfl⟩ := hd
  subst hty
  refine own_step K (P := fun h' => own_H Z h' os ((h.size, newarray.typeOf aty, ad, vs) :: as)) (fun X hZ hw eT N => ?_) (fun h' H' => hr h' _ H')
  have hNq := own_idx hN
  obtain ⟨T', h', cA, X', e', E, A, Ex, st⟩ := newPE X K.1 hZ w1 eT (g := mkF m pc Ls (.int _ :: st)) rfl (hb K.2.1 hd) rfl (by rw [Int32.lt_iff_toInt_lt, hN, show (0 : Int32).toInt = 0 from rfl]; omega) (cap := q) (Nat.le_of_eq hNq) hq hc hl had
  refine ⟨T', h', _, X', N, e', E.1, H.addA E ⟨_, A, ?_, ?_, fun _ => Ex, fun C hC => ?_⟩, st⟩
  · show (newA cA (newarray.typeOf aty) _).slots.toList = vs
    simp [newA, hNq, hvs]
  · intro v hv
    rw [show v = defaultValue (newarray.typeOf aty) from List.eq_of_mem_replicate (hvs ▸ hv)]
    cases aty <;> rfl
  · cases aty <;> cases hC
theorem own_iaload (K : own_Cx p s m meth c Z own nm bytes maxL ret) {i q : Nat} {a : Addr} {ad : String} {vs : List Value} {v : Value} {j : Int32} (hd : own_D bytes pc .iaload 1 pc') (H : own_H Z h os as) (ha : as[i]? = some (a, .int, ad, vs)) (hj : j.toInt = (q : Int)) (hv : vs[q]? = some v) (hr : own_G w p l e R s m args below meth c Z Q h k n (mkF m pc' Ls (v :: st))) : own_G w p l e R s m args below meth c Z Q h k n (mkF m pc Ls (.int j :: .ref a :: st)) := by
  obtain ⟨hd, rfl⟩ := hd
  obtain ⟨-, cl, A, e1, -⟩ := H.2.2.1 _ (own_mem ha)
  have hq := (List.getElem?_eq_some_iff.mp hv).1
  have hsz : cl.slots.size = vs.length := by rw [← Array.length_toList]; exact congrArg List.length e1
  exact own_pure K (fun X hZ _ eT _ r => X.iaload K.1 (by rw [eT]; exact A.1) (State.isArrayOf_alike hZ.alike A.2.1) A.2.2 (by rw [hsz]; exact own_in hj hq) (by rw [own_idx hj, ← Array.getElem?_toList]; exact (show cl.slots.toList = vs from e1) ▸ hv) (g := mkF m pc Ls (.int j :: .ref a :: st)) rfl rfl (hb K.2.1 hd) _ r) hr
theorem own_laload (K : own_Cx p s m meth c Z own nm bytes maxL ret) {i q : Nat} {a : Addr} {ad : String} {vs : List Value} {v : Value} {j : Int32} (hd : own_D bytes pc .laload 1 pc') (H : own_H Z h os as) (ha : as[i]? = some (a, .long, ad, vs)) (hj : j.toInt = (q : Int)) (hv : vs[q]? = some v) (hr : own_G w p l e R s m args below meth c Z Q h k n (mkF m pc' Ls (v :: st))) : own_G w p l e R s m args below meth c Z Q h k n (mkF m pc Ls (.int j :: .ref a :: st)) := by
  obtain ⟨hd, rfl⟩ := hd
  obtain ⟨-, cl, A, e1, -⟩ := H.2.2.1 _ (own_mem ha)
  have hq := (List.getElem?_eq_some_iff.mp hv).1
  have hsz : cl.slots.size = vs.length := by rw [← Array.length_toList]; exact congrArg List.length e1
  exact own_pure K (fun X hZ _ eT _ r => X.laload K.1 (by rw [eT]; exact A.1) (State.isArrayOf_alike hZ.alike A.2.1) A.2.2 (by rw [hsz]; exact own_in hj hq) (by rw [own_idx hj, ← Array.getElem?_toList]; exact (show cl.slots.toList = vs from e1) ▸ hv) (g := mkF m pc Ls (.int j :: .ref a :: st)) rfl rfl (hb K.2.1 hd) _ r) hr
theorem own_daload (K : own_Cx p s m meth c Z own nm bytes maxL ret) {i q : Nat} {a : Addr} {ad : String} {vs : List Value} {v : Value} {j : Int32} (hd : own_D bytes pc .daload 1 pc') (H : own_H Z h os as) (ha : as[i]? = some (a, .double, ad, vs)) (hj : j.toInt = (q : Int)) (hv : vs[q]? = some v) (hr : own_G w p l e R s m args below meth c Z Q h k n (mkF m pc' Ls (v :: st))) : own_G w p l e R s m args below meth c Z Q h k n (mkF m pc Ls (.int j :: .ref a :: st)) := by
  obtain ⟨hd, rfl⟩ := hd
  obtain ⟨-, cl, A, e1, -⟩ := H.2.2.1 _ (own_mem ha)
  have hq := (List.getElem?_eq_some_iff.mp hv).1
  have hsz : cl.slots.size = vs.length := by rw [← Array.length_toList]; exact congrArg List.length e1
  exact own_pure K (fun X hZ _ eT _ r => X.daload K.1 (by rw [eT]; exact A.1) (State.isArrayOf_alike hZ.alike A.2.1) A.2.2 (by rw [hsz]; exact own_in hj hq) (by rw [own_idx hj, ← Array.getElem?_toList]; exact (show cl.slots.toList = vs from e1) ▸ hv) (g := mkF m pc Ls (.int j :: .ref a :: st)) rfl rfl (hb K.2.1 hd) _ r) hr
theorem own_caload (K : own_Cx p s m meth c Z own nm bytes maxL ret) {i q : Nat} {a : Addr} {ad : String} {vs : List Value} {v : Value} {j : Int32} (hd : own_D bytes pc .caload 1 pc') (H : own_H Z h os as) (ha : as[i]? = some (a, .char, ad, vs)) (hj : j.toInt = (q : Int)) (hv : vs[q]? = some v) (hr : own_G w p l e R s m args below meth c Z Q h k n (mkF m pc' Ls (v :: st))) : own_G w p l e R s m args below meth c Z Q h k n (mkF m pc Ls (.int j :: .ref a :: st)) := by
  obtain ⟨hd, rfl⟩ := hd
  obtain ⟨-, cl, A, e1, -⟩ := H.2.2.1 _ (own_mem ha)
  have hq := (List.getElem?_eq_some_iff.mp hv).1
  have hsz : cl.slots.size = vs.length := by rw [← Array.length_toList]; exact congrArg List.length e1
  exact own_pure K (fun X hZ _ eT _ r => X.caload K.1 (by rw [eT]; exact A.1) (State.isArrayOf_alike hZ.alike A.2.1) A.2.2 (by rw [hsz]; exact own_in hj hq) (by rw [own_idx hj, ← Array.getElem?_toList]; exact (show cl.slots.toList = vs from e1) ▸ hv) (g := mkF m pc Ls (.int j :: .ref a :: st)) rfl rfl (hb K.2.1 hd) _ r) hr
theorem own_baload (K : own_Cx p s m meth c Z own nm bytes maxL ret) {i q : Nat} {a : Addr} {ad : String} {vs : List Value} {v : Value} {j : Int32} (hd : own_D bytes pc .baload 1 pc') (H : own_H Z h os as) (ha : as[i]? = some (a, .byte, ad, vs)) (hj : j.toInt = (q : Int)) (hv : vs[q]? = some v) (hr : own_G w p l e R s m args below meth c Z Q h k n (mkF m pc' Ls (v :: st))) : own_G w p l e R s m args below meth c Z Q h k n (mkF m pc Ls (.int j :: .ref a :: st)) := by
  obtain ⟨hd, rfl⟩ := hd
  obtain ⟨-, cl, A, e1, -⟩ := H.2.2.1 _ (own_mem ha)
  have hq := (List.getElem?_eq_some_iff.mp hv).1
  have hsz : cl.slots.size = vs.length := by rw [← Array.length_toList]; exact congrArg List.length e1
  exact own_pure K (fun X hZ _ eT _ r => X.baloadBytes K.1 (by rw [eT]; exact A.1) (State.isArrayOf_alike hZ.alike A.2.1) A.2.2 (by rw [hsz]; exact own_in hj hq) (by rw [own_idx hj, ← Array.getElem?_toList]; exact (show cl.slots.toList = vs from e1) ▸ hv) (g := mkF m pc Ls (.int j :: .ref a :: st)) rfl rfl (hb K.2.1 hd) _ r) hr
theorem own_aaload (K : own_Cx p s m meth c Z own nm bytes maxL ret) {i q : Nat} {a : Addr} {ad : String} {ty : FieldType} {vs : List Value} {v : Value} {j : Int32} (hd : own_D bytes pc .aaload 1 pc') (H : own_H Z h os as) (ha : as[i]? = some (a, ty, ad, vs)) (hty : ty.isReference = true) (hj : j.toInt = (q : Int)) (hv : vs[q]? = some v) (hr : own_G w p l e R s m args below meth c Z Q h k n (mkF m pc' Ls (v :: st))) : own_G w p l e R s m args below meth c Z Q h k n (mkF m pc Ls (.int j :: .ref a :: st)) := by
  obtain ⟨hd, rfl⟩ := hd
  obtain ⟨-, cl, A, e1, -⟩ := H.2.2.1 _ (own_mem ha)
  have hq := (List.getElem?_eq_some_iff.mp hv).1
  have hsz : cl.slots.size = vs.length := by rw [← Array.length_toList]; exact congrArg List.length e1
  exact own_pure K (fun X hZ _ eT _ r => X.aaload K.1 (by rw [eT]; exact A.1) (State.isArrayOf_alike hZ.alike A.2.1) hty A.2.2 (by rw [hsz]; exact own_in hj hq) (by rw [own_idx hj, ← Array.getElem?_toList]; exact (show cl.slots.toList = vs from e1) ▸ hv) (g := mkF m pc Ls (.int j :: .ref a :: st)) rfl rfl (hb K.2.1 hd) _ r) hr
theorem own_iastore (K : own_Cx p s m meth c Z own nm bytes maxL ret) {i q : Nat} {a : Addr} {ad : String} {vs : List Value} {j : Int32} {x : Int32} (hd : own_D bytes pc .iastore 1 pc') (H : own_H Z h os as) (ha : as[i]? = some (a, .int, ad, vs)) (hj : j.toInt = (q : Int)) (hq : q < vs.length) (hr : ∀ h', own_H Z h' os (as.set i (a, .int, ad, vs.set q (.int x))) → own_G w p l e R s m args below meth c Z Q h' k n (mkF m pc' Ls st)) : own_G w p l e R s m args below meth c Z Q h k n (mkF m pc Ls (.int x :: .int j :: .ref a :: st)) := by
  obtain ⟨hd, rfl⟩ := hd
  obtain ⟨na, cl, A, e1, -⟩ := H.2.2.1 _ (own_mem ha)
  have hsz : cl.slots.size = vs.length := by rw [← Array.length_toList]; exact congrArg List.length e1
  refine own_step K (P := fun h' => own_H Z h' os (as.set i (a, .int, ad, vs.set q (.int x)))) (fun X hZ _ eT N => ?_) hr
  obtain ⟨T', h', X', e', W, st⟩ := stI X K.1 hZ eT A (by rw [hsz]; exact own_in hj hq) (g := mkF m pc Ls (.int x :: .int j :: .ref a :: st)) rfl rfl (hb K.2.1 hd)
  exact ⟨T', h', _, X', Fr.snoc X' N na, e', Nat.le_of_eq (Wr.size W).symm, H.wrA ha hq (rfl) (by rw [own_idx hj] at W; exact W), st⟩
theorem own_lastore (K : own_Cx p s m meth c Z own nm bytes maxL ret) {i q : Nat} {a : Addr} {ad : String} {vs : List Value} {j : Int32} {x : Int64} (hd : own_D bytes pc .lastore 1 pc') (H : own_H Z h os as) (ha : as[i]? = some (a, .long, ad, vs)) (hj : j.toInt = (q : Int)) (hq : q < vs.length) (hr : ∀ h', own_H Z h' os (as.set i (a, .long, ad, vs.set q (.long x))) → own_G w p l e R s m args below meth c Z Q h' k n (mkF m pc' Ls st)) : own_G w p l e R s m args below meth c Z Q h k n (mkF m pc Ls (.long x :: .int j :: .ref a :: st)) := by
  obtain ⟨hd, rfl⟩ := hd
  obtain ⟨na, cl, A, e1, -⟩ := H.2.2.1 _ (own_mem ha)
  have hsz : cl.slots.size = vs.length := by rw [← Array.length_toList]; exact congrArg List.length e1
  refine own_step K (P := fun h' => own_H Z h' os (as.set i (a, .long, ad, vs.set q (.long x)))) (fun X hZ _ eT N => ?_) hr
  obtain ⟨T', h', X', e', W, st⟩ := stJ X K.1 hZ eT A (by rw [hsz]; exact own_in hj hq) (g := mkF m pc Ls (.long x :: .int j :: .ref a :: st)) rfl rfl (hb K.2.1 hd)
  exact ⟨T', h', _, X', Fr.snoc X' N na, e', Nat.le_of_eq (Wr.size W).symm, H.wrA ha hq (rfl) (by rw [own_idx hj] at W; exact W), st⟩
theorem own_dastore (K : own_Cx p s m meth c Z own nm bytes maxL ret) {i q : Nat} {a : Addr} {ad : String} {vs : List Value} {j : Int32} {x : UInt64} (hd : own_D bytes pc .dastore 1 pc') (H : own_H Z h os as) (ha : as[i]? = some (a, .double, ad, vs)) (hj : j.toInt = (q : Int)) (hq : q < vs.length) (hr : ∀ h', own_H Z h' os (as.set i (a, .double, ad, vs.set q (.double x))) → own_G w p l e R s m args below meth c Z Q h' k n (mkF m pc' Ls st)) : own_G w p l e R s m args below meth c Z Q h k n (mkF m pc Ls (.double x :: .int j :: .ref a :: st)) := by
  obtain ⟨hd, rfl⟩ := hd
  obtain ⟨na, cl, A, e1, -⟩ := H.2.2.1 _ (own_mem ha)
  have hsz : cl.slots.size = vs.length := by rw [← Array.length_toList]; exact congrArg List.length e1
  refine own_step K (P := fun h' => own_H Z h' os (as.set i (a, .double, ad, vs.set q (.double x)))) (fun X hZ _ eT N => ?_) hr
  obtain ⟨T', h', X', e', W, st⟩ := stD X K.1 hZ eT A (by rw [hsz]; exact own_in hj hq) (g := mkF m pc Ls (.double x :: .int j :: .ref a :: st)) rfl rfl (hb K.2.1 hd)
  exact ⟨T', h', _, X', Fr.snoc X' N na, e', Nat.le_of_eq (Wr.size W).symm, H.wrA ha hq (rfl) (by rw [own_idx hj] at W; exact W), st⟩
theorem own_castore (K : own_Cx p s m meth c Z own nm bytes maxL ret) {i q : Nat} {a : Addr} {ad : String} {vs : List Value} {j : Int32} {x : Int32} (hd : own_D bytes pc .castore 1 pc') (H : own_H Z h os as) (ha : as[i]? = some (a, .char, ad, vs)) (hj : j.toInt = (q : Int)) (hq : q < vs.length) (hr : ∀ h', own_H Z h' os (as.set i (a, .char, ad, vs.set q (.int (nar .char x)))) → own_G w p l e R s m args below meth c Z Q h' k n (mkF m pc' Ls st)) : own_G w p l e R s m args below meth c Z Q h k n (mkF m pc Ls (.int x :: .int j :: .ref a :: st)) := by
  obtain ⟨hd, rfl⟩ := hd
  obtain ⟨na, cl, A, e1, -⟩ := H.2.2.1 _ (own_mem ha)
  have hsz : cl.slots.size = vs.length := by rw [← Array.length_toList]; exact congrArg List.length e1
  refine own_step K (P := fun h' => own_H Z h' os (as.set i (a, .char, ad, vs.set q (.int (nar .char x))))) (fun X hZ _ eT N => ?_) hr
  obtain ⟨T', h', X', e', W, st⟩ := stC X K.1 hZ eT A (by rw [hsz]; exact own_in hj hq) (g := mkF m pc Ls (.int x :: .int j :: .ref a :: st)) rfl rfl (hb K.2.1 hd)
  exact ⟨T', h', _, X', Fr.snoc X' N na, e', Nat.le_of_eq (Wr.size W).symm, H.wrA ha hq (by first | exact fits_nar_char _ | exact fits_nar_char | (simp [fits_nar_char]; done)) (by rw [own_idx hj] at W; exact W), st⟩
theorem own_bastore (K : own_Cx p s m meth c Z own nm bytes maxL ret) {i q : Nat} {a : Addr} {ad : String} {vs : List Value} {j : Int32} {x : Int32} (hd : own_D bytes pc .bastore 1 pc') (H : own_H Z h os as) (ha : as[i]? = some (a, .byte, ad, vs)) (hj : j.toInt = (q : Int)) (hq : q < vs.length) (hr : ∀ h', own_H Z h' os (as.set i (a, .byte, ad, vs.set q (.int (nar .byte x)))) → own_G w p l e R s m args below meth c Z Q h' k n (mkF m pc' Ls st)) : own_G w p l e R s m args below meth c Z Q h k n (mkF m pc Ls (.int x :: .int j :: .ref a :: st)) := by
  obtain ⟨hd, rfl⟩ := hd
  obtain ⟨na, cl, A, e1, -⟩ := H.2.2.1 _ (own_mem ha)
  have hsz : cl.slots.size = vs.length := by rw [← Array.length_toList]; exact congrArg List.length e1
  refine own_step K (P := fun h' => own_H Z h' os (as.set i (a, .byte, ad, vs.set q (.int (nar .byte x))))) (fun X hZ _ eT N => ?_) hr
  obtain ⟨T', h', X', e', W, st⟩ := stB X K.1 hZ eT A (by rw [hsz]; exact own_in hj hq) (g := mkF m pc Ls (.int x :: .int j :: .ref a :: st)) rfl rfl (hb K.2.1 hd)
  exact ⟨T', h', _, X', Fr.snoc X' N na, e', Nat.le_of_eq (Wr.size W).symm, H.wrA ha hq (by first | exact fits_nar_byte _ | exact fits_nar_byte | (simp [fits_nar_byte]; done)) (by rw [own_idx hj] at W; exact W), st⟩
theorem own_arraylength (K : own_Cx p s m meth c Z own nm bytes maxL ret) {i : Nat} {a : Addr} {ad : String} {ty : FieldType} {vs : List Value} {N : Int32} (hd : own_D bytes pc .arraylength 1 pc') (H : own_H Z h os as) (ha : as[i]? = some (a, ty, ad, vs)) (hN : N.toInt = (vs.length : Int)) (hr : own_G w p l e R s m args below meth c Z Q h k n (mkF m pc' Ls (.int N :: st))) : own_G w p l e R s m args below meth c Z Q h k n (mkF m pc Ls (.ref a :: st)) := by
  obtain ⟨hd, rfl⟩ := hd
  obtain ⟨-, cl, A, e1, -⟩ := H.2.2.1 _ (own_mem ha)
  have hsz : cl.slots.size = vs.length := by rw [← Array.length_toList]; exact congrArg List.length e1
  have e2 : cl.slots.size.toInt32 = N := by rw [hsz]; exact own_len hN
  exact own_pure K (fun X hZ _ eT _ r => X.arraylength K.1 (by rw [eT]; exact A.1) (State.isArrayOf_alike hZ.alike A.2.1) (g := mkF m pc Ls (.ref a :: st)) rfl rfl (hb K.2.1 hd) _ (by rw [e2]; exact r)) hr
theorem own_checkcast (K : own_Cx p s m meth c Z own nm bytes maxL ret) {i : Nat} {a : Addr} {Kn : String} (hd : own_D bytes pc (.checkcast i) 3 pc') (w1 : (Cond.classLink own i Kn).before a0 Z = true) (I : Ins Z h a Kn true) (hr : own_G w p l e R s m args below meth c Z Q h k n (mkF m pc' Ls (.ref a :: st))) : own_G w p l e R s m args below meth c Z Q h k n (mkF m pc Ls (.ref a :: st)) := by
  obtain ⟨hd, rfl⟩ := hd
  refine own_step K (P := fun h' => h' = h) (fun X hZ hw eT N => ?_) (fun h' e => by subst e; exact hr)
  obtain ⟨T', X', e', st⟩ := castY X K.1 hZ hw w1 eT I (g := mkF m pc Ls (.ref a :: st)) rfl rfl (hb K.2.1 hd)
  exact ⟨T', _, _, X', N, e', Nat.le_refl _, rfl, st⟩
theorem own_H.exaA (H : own_H Z h os as) {i : Nat} {a : Addr} {ty : FieldType} {ad : String} {vs : List Value} (ha : as[i]? = some (a, ty, ad, vs)) (hn : ad ≠ "") : Exa Z h a ad := by
  obtain ⟨-, cl, -, -, -, h4, -⟩ := H.2.2.1 _ (own_mem ha); exact h4 hn
theorem own_clone (K : own_Cx p s m meth c Z own nm bytes maxL ret) {i j : Nat} {a : Addr} {ty : FieldType} {ad : String} {vs : List Value} (hd : own_D bytes pc (.invokevirtual i) 3 pc') (w1 : (Cond.methodLink own i ⟨ad, "clone", "()Ljava/lang/Object;"⟩).before a0 Z = true) (w2 : (Cond.sameMethod ad "java/lang/Object" "clone" "()Ljava/lang/Object;").before a0 Z = true) (w3 : (Cond.native ⟨"java/lang/Object", "clone", "()Ljava/lang/Object;"⟩).before a0 Z = true)
    (w4 : (Cond.instanceMethod ⟨"java/lang/Object", "clone", "()Ljava/lang/Object;"⟩).before a0 Z = true) (w5 : (Cond.selects ad ⟨ad, "clone", "()Ljava/lang/Object;"⟩ ⟨"java/lang/Object", "clone", "()Ljava/lang/Object;"⟩).before a0 Z = true) (w6 : (Cond.castable ad "java/lang/Cloneable").before a0 Z = true)
    (H : own_H Z h os as) (ha : as[j]? = some (a, ty, ad, vs)) (hn : ad ≠ "") (hsz : Ls.size = maxL) (hf : 1 ≤ R.frames) {W : Nat} (hW : (st.map fun v => v.category).sum ≤ W) (hl : W + 14 ≤ R.locals) (hc : k + 1 ≤ R.cells) (hsl : n + vs.length ≤ R.slots)
    (hr : ∀ h' b, own_H Z h' os ((b, ty, ad, vs) :: as) → own_G w p l e R s m args below meth c Z Q h' (k + 1) (n + vs.length) (mkF m pc' Ls (.ref b :: st))) : own_G w p l e R s m args below meth c Z Q h k n (mkF m pc Ls (.ref a :: st)) := by
  obtain ⟨hd, rfl⟩ := hd
  obtain ⟨-, cl, A, e1, e3, e4, e5⟩ := H.2.2.1 _ (own_mem ha)
  have hsz' : cl.slots.size = vs.length := by rw [← Array.length_toList]; exact congrArg List.length e1
  have F : FitC Z cl := fun i v hv => by
    obtain ⟨hs, k, hk, comp, hkind⟩ := A.2.1
    have hm : v ∈ vs := by
      have : cl.slots.toList[i]? = some v := by rw [Array.getElem?_toList]; exact hv
      exact (show cl.slots.toList = vs from e1) ▸ own_mem this
    simp [State.fitsSlot, State.slotType?, hk, hkind, show fits ty v = true from e3 v hm]
  refine own_step K (P := fun h' => own_H Z h' os ((h.size, ty, ad, vs) :: as)) (fun X hZ hw eT N => ?_) (fun h' H' => hr h' _ H')
  obtain ⟨T', h', X', e', E, A', Ex, st⟩ := cloneA X K.1 hZ hw w1 w2 w3 w4 w5 w6 eT A (e4 hn) F (g := mkF m pc Ls (.ref a :: st)) rfl (hsz.trans K.2.2.1.symm) rfl (hb K.2.1 hd) hf (W := W) (by show 2 * 0 + _ ≤ W; simpa using hW) hl (cap := vs.length) (Nat.le_of_eq hsz') hc hsl
  exact ⟨T', h', _, X', N, e', E.1, H.addA E ⟨_, A', e1, e3, fun _ => Ex, e5⟩, st⟩
theorem own_initO (K : own_Cx p s m meth c Z own nm bytes maxL ret) {i : Nat} {a : Addr} (hd : own_D bytes pc (.invokespecial i) 3 pc') (w1 : (Cond.methodLink own i Lib.objectInit).before a0 Z = true) (w2 : (Cond.instanceMethod Lib.objectInit).before a0 Z = true) (w3 : (Cond.code Lib.objectInit ⟨#[0xb1]⟩ 1 none).before a0 Z = true) (hsz : Ls.size = maxL) (hf : 1 ≤ R.frames) {W : Nat} (hW : (st.map fun v => v.category).sum ≤ W) (hl : W + 12 ≤ R.locals) (hr : own_G w p l e R s m args below meth c Z Q h k n (mkF m pc' Ls st)) : own_G w p l e R s m args below meth c Z Q h k n (mkF m pc Ls (.ref a :: st)) := by
  obtain ⟨hd, rfl⟩ := hd
  refine own_step K (P := fun h' => h' = h) (fun X hZ hw eT N => ?_) (fun h' e => by subst e; exact hr)
  obtain ⟨T', X', e', st⟩ := initO X K.1 hZ hw w1 w2 w3 eT (g := mkF m pc Ls (.ref a :: st)) rfl (hsz.trans K.2.2.1.symm) rfl (hb K.2.1 hd) hf (W := W) (by show 2 * 0 + _ ≤ W; simpa using hW) hl
  exact ⟨T', _, _, X', N, e', Nat.le_refl _, rfl, st⟩
theorem own_static (K : own_Cx p s m meth c Z own nm bytes maxL ret) {i ml W : Nat} {y : MethodName} {b : ByteArray} {rt : Option FieldType} {rm : Room} {argsL : List Value} {Qc : Option Value → Heap → Prop} {ps : List FieldType} {r : Option FieldType} (hd : own_D bytes pc (.invokestatic i) 3 pc') (w1 : (Cond.methodLink own i y).before a0 Z = true) (w2 : (Cond.static y).before a0 Z = true) (w3 : (Cond.initialized y.cls).before a0 Z = true) (w4 : (Cond.code y b ml rt).before a0 Z = true)
    (hM : own_Met false l Z y b ml rt [] rm argsL.toArray h Qc) (hp : parseMethodDescriptor y.desc = some ⟨ps, r⟩) (hlen : argsL.length = ps.length) (hst : st = argsL.reverse ++ rest) (hsz : Ls.size = maxL) (hy : y.cls ≠ "java/lang/invoke/MethodHandle" ∧ y.cls ≠ "java/lang/invoke/VarHandle") (hW : (rest.map fun v => v.category).sum ≤ W) (hf : rm.frames + 1 ≤ R.frames) (hl : W + (ml + 11) + rm.locals ≤ R.locals) (hc : k + rm.cells ≤ R.cells) (hs : n + rm.slots ≤ R.slots)
    (hr : ∀ v h', Qc v h' → own_G w p l e R s m args below meth c Z Q h' (k + rm.cells) (n + rm.slots) (mkF m (pc') Ls (v.toList ++ rest))) : own_G w p l e R s m args below meth c Z Q h k n (mkF m pc Ls st) := by
  obtain ⟨hd, rfl⟩ := hd
  intro T hX
  obtain ⟨L, vm, X, N, eT, hw, hS⟩ := hX
  have hZ := own_zw K.2.2.2.2.2.1 hS
  have hown : (s.setVm vm).vm.findClass own = some m.cls := by rw [show (s.setVm vm).vm = vm from rfl, hS.1.alike.findClass]; exact K.2.2.2.2.2.2.1
  obtain ⟨v, vm1, ⟨T1, L1, k1, n1⟩, -, X1, ⟨Lc, ⟨hQ, N1, z1⟩, l1, y1, x1⟩, st1⟩ := Jvm.LawKit.callS X K.1 (y := y) hown (mvT hZ w1) (mvT hZ w2) (mvT hZ w3) (mvT hZ w4) hy (backOf (W := W) (Q := fun v h'' L => Qc v h'' ∧ Fr Z.heap.size L ∧ h.size ≤ h''.size) (show MetFree _ _ _ _ _ _ from hM) hZ w4 w3 hf hl) (g := mkF m pc Ls st) rfl (hsz.trans K.2.2.1.symm) (argsL := argsL) (rest := rest) (lenOf hp hlen) hst (by show 2 * 0 + _ ≤ W; simpa using hW) (hb K.2.1 hd) (fun _ _ => ⟨rfl, eT, hc, hs⟩)
  dsimp only [Pt.U, Pt.locs, Pt.cells, Pt.slots] at X1 l1 y1 x1 st1 hQ z1
  subst l1 y1 x1
  obtain ⟨T', v', h', k', n', hX', r1, r2, r3, r4, r5⟩ := hr v T1.heap hQ T1 ⟨_, vm, X1, N.app N1, rfl, hw, own_since hS z1⟩
  exact ⟨T', v', h', k', n', hX', r1, r2, r3, r4, fun fs q => st1 _ (r5 fs q)⟩
theorem own_special (K : own_Cx p s m meth c Z own nm bytes maxL ret) {i ml W : Nat} {y : MethodName} {b : ByteArray} {rm : Room} {a : Addr} {argsL : List Value} {Qc : Option Value → Heap → Prop} {ps : List FieldType} {r : Option FieldType} (hd : own_D bytes pc (.invokespecial i) 3 pc') (hy1 : y.name = "<init>") (w1 : (Cond.methodLink own i y).before a0 Z = true) (w2 : (Cond.instanceMethod y).before a0 Z = true) (w3 : (Cond.initialized y.cls).before a0 Z = true) (w4 : (Cond.code y b ml none).before a0 Z = true)
    (hM : own_Met false l Z y b ml none [] rm (.ref a :: argsL).toArray h Qc) (hp : parseMethodDescriptor y.desc = some ⟨ps, r⟩) (hlen : argsL.length = ps.length) (hst : st = argsL.reverse ++ .ref a :: rest) (hsz : Ls.size = maxL) (hy : y.cls ≠ "java/lang/invoke/MethodHandle" ∧ y.cls ≠ "java/lang/invoke/VarHandle") (hW : (rest.map fun v => v.category).sum ≤ W) (hf : rm.frames + 1 ≤ R.frames) (hl : W + (ml + 11) + rm.locals ≤ R.locals) (hc : k + rm.cells ≤ R.cells) (hs : n + rm.slots ≤ R.slots)
    (hr : ∀ v h', Qc v h' → own_G w p l e R s m args below meth c Z Q h' (k + rm.cells) (n + rm.slots) (mkF m (pc') Ls (v.toList ++ rest))) : own_G w p l e R s m args below meth c Z Q h k n (mkF m pc Ls st) := by
  obtain ⟨hd, rfl⟩ := hd
  intro T hX
  obtain ⟨L, vm, X, N, eT, hw, hS⟩ := hX
  have hZ := own_zw K.2.2.2.2.2.1 hS
  have hown : (s.setVm vm).vm.findClass own = some m.cls := by rw [show (s.setVm vm).vm = vm from rfl, hS.1.alike.findClass]; exact K.2.2.2.2.2.2.1
  obtain ⟨v, vm1, ⟨T1, L1, k1, n1⟩, -, X1, ⟨Lc, ⟨hQ, N1, z1⟩, l1, y1, x1⟩, st1⟩ := X.specialBack K.1 (y := y) hy1 hown (mvT hZ w1) (mvT hZ w2) (mvT hZ w4) hy (backOf (W := W) (Q := fun v h'' L => Qc v h'' ∧ Fr Z.heap.size L ∧ h.size ≤ h''.size) (show MetFree _ _ _ _ _ _ from hM) hZ w4 w3 hf hl) (g := mkF m pc Ls st) rfl (hsz.trans K.2.2.1.symm) (Steps.refl _) (a := a) (argsL := argsL) (rest := rest) (lenOf hp hlen) hst (by show 2 * 0 + _ ≤ W; simpa using hW) (hb K.2.1 hd) (fun _ _ => ⟨rfl, eT, hc, hs⟩)
  dsimp only [Pt.U, Pt.locs, Pt.cells, Pt.slots] at X1 l1 y1 x1 st1 hQ z1
  subst l1 y1 x1
  obtain ⟨T', v', h', k', n', hX', r1, r2, r3, r4, r5⟩ := hr v T1.heap hQ T1 ⟨_, vm, X1, N.app N1, rfl, hw, own_since hS z1⟩
  exact ⟨T', v', h', k', n', hX', r1, r2, r3, r4, fun fs q => st1.trans (r5 fs q)⟩
theorem own_virtual (K : own_Cx p s m meth c Z own nm bytes maxL ret) {i ml W : Nat} {y : MethodName} {C : String} {b : ByteArray} {rt : Option FieldType} {rm : Room} {a : Addr} {argsL : List Value} {Qc : Option Value → Heap → Prop} {ps : List FieldType} {r : Option FieldType} (hd : own_D bytes pc (.invokevirtual i) 3 pc') (w1 : (Cond.methodLink own i y).before a0 Z = true) (w2 : (Cond.declares y).before a0 Z = true) (w5 : (Cond.selects C y y).before a0 Z = true) (w6 : (Cond.instanceMethod y).before a0 Z = true) (w3 : (Cond.initialized y.cls).before a0 Z = true) (w4 : (Cond.code y b ml rt).before a0 Z = true)
    (E : Exa Z h a C) (hM : own_Met false l Z y b ml rt [] rm (.ref a :: argsL).toArray h Qc) (hp : parseMethodDescriptor y.desc = some ⟨ps, r⟩) (hlen : argsL.length = ps.length) (hst : st = argsL.reverse ++ .ref a :: rest) (hsz : Ls.size = maxL) (hy : y.cls ≠ "java/lang/invoke/MethodHandle" ∧ y.cls ≠ "java/lang/invoke/VarHandle") (hW : (rest.map fun v => v.category).sum ≤ W) (hf : rm.frames + 1 ≤ R.frames) (hl : W + (ml + 11) + rm.locals ≤ R.locals) (hc : k + rm.cells ≤ R.cells) (hs : n + rm.slots ≤ R.slots)
    (hr : ∀ v h', Qc v h' → own_G w p l e R s m args below meth c Z Q h' (k + rm.cells) (n + rm.slots) (mkF m (pc') Ls (v.toList ++ rest))) : own_G w p l e R s m args below meth c Z Q h k n (mkF m pc Ls st) := by
  obtain ⟨hd, rfl⟩ := hd
  intro T hX
  obtain ⟨L, vm, X, N, eT, hw, hS⟩ := hX
  have hZ := own_zw K.2.2.2.2.2.1 hS
  have hown : (s.setVm vm).vm.findClass own = some m.cls := by rw [show (s.setVm vm).vm = vm from rfl, hS.1.alike.findClass]; exact K.2.2.2.2.2.2.1
  obtain ⟨cq, kq, qa, qb, qc⟩ := isOf (s := s.setVm vm) hZ eT E
  obtain ⟨v, vm1, ⟨T1, L1, k1, n1⟩, -, X1, ⟨Lc, ⟨hQ, N1, z1⟩, l1, y1, x1⟩, st1⟩ := X.virtualBack K.1 (y := y) (z := y) hown (mvT hZ w1) (mvT hZ w2) (notFace_of_selects (C := C) (args := #[]) (mvT hZ w5)) (mvT hZ w5) (mvT hZ w6) hy (backOf (W := W) (Q := fun v h'' L => Qc v h'' ∧ Fr Z.heap.size L ∧ h.size ≤ h''.size) (show MetFree _ _ _ _ _ _ from hM) hZ w4 w3 hf hl) qa qc (g := mkF m pc Ls st) rfl (hsz.trans K.2.2.1.symm) (Steps.refl _) (argsL := argsL) (rest := rest) (lenOf hp hlen) hst (by show 2 * 0 + _ ≤ W; simpa using hW) (hb K.2.1 hd) (fun _ _ => ⟨rfl, eT, hc, hs⟩)
  dsimp only [Pt.U, Pt.locs, Pt.cells, Pt.slots] at X1 l1 y1 x1 st1 hQ z1
  subst l1 y1 x1
  obtain ⟨T', v', h', k', n', hX', r1, r2, r3, r4, r5⟩ := hr v T1.heap hQ T1 ⟨_, vm, X1, N.app N1, rfl, hw, own_since hS z1⟩
  exact ⟨T', v', h', k', n', hX', r1, r2, r3, r4, fun fs q => st1.trans (r5 fs q)⟩
theorem own_virtualZ (K : own_Cx p s m meth c Z own nm bytes maxL ret) {i ml W : Nat} {y z : MethodName} {C : String} {b : ByteArray} {rt : Option FieldType} {rm : Room} {a : Addr} {argsL : List Value} {Qc : Option Value → Heap → Prop} {ps : List FieldType} {r : Option FieldType} (hd : own_D bytes pc (.invokevirtual i) 3 pc') (w1 : (Cond.methodLink own i y).before a0 Z = true) (w2 : (Cond.declares y).before a0 Z = true) (w5 : (Cond.selects C y z).before a0 Z = true) (w6 : (Cond.instanceMethod z).before a0 Z = true) (w3 : (Cond.initialized z.cls).before a0 Z = true) (w4 : (Cond.code z b ml rt).before a0 Z = true)
    (E : Exa Z h a C) (hnf : ∀ vm, s.Warmed39 vm → NotFace (s.setVm vm) y) (hM : own_Met false l Z z b ml rt [] rm (.ref a :: argsL).toArray h Qc) (hp : parseMethodDescriptor y.desc = some ⟨ps, r⟩) (hlen : argsL.length = ps.length) (hst : st = argsL.reverse ++ .ref a :: rest) (hsz : Ls.size = maxL) (hy : y.cls ≠ "java/lang/invoke/MethodHandle" ∧ y.cls ≠ "java/lang/invoke/VarHandle") (hW : (rest.map fun v => v.category).sum ≤ W) (hf : rm.frames + 1 ≤ R.frames) (hl : W + (ml + 11) + rm.locals ≤ R.locals) (hc : k + rm.cells ≤ R.cells) (hs : n + rm.slots ≤ R.slots)
    (hr : ∀ v h', Qc v h' → own_G w p l e R s m args below meth c Z Q h' (k + rm.cells) (n + rm.slots) (mkF m (pc') Ls (v.toList ++ rest))) : own_G w p l e R s m args below meth c Z Q h k n (mkF m pc Ls st) := by
  obtain ⟨hd, rfl⟩ := hd
  intro T hX
  obtain ⟨L, vm, X, N, eT, hw, hS⟩ := hX
  have hZ := own_zw K.2.2.2.2.2.1 hS
  have hown : (s.setVm vm).vm.findClass own = some m.cls := by rw [show (s.setVm vm).vm = vm from rfl, hS.1.alike.findClass]; exact K.2.2.2.2.2.2.1
  obtain ⟨cq, kq, qa, qb, qc⟩ := isOf (s := s.setVm vm) hZ eT E
  obtain ⟨v, vm1, ⟨T1, L1, k1, n1⟩, -, X1, ⟨Lc, ⟨hQ, N1, z1⟩, l1, y1, x1⟩, st1⟩ := X.virtualBack K.1 (y := y) (z := z) hown (mvT hZ w1) (mvT hZ w2) (hnf vm hS.1) (mvT hZ w5) (mvT hZ w6) hy (backOf (W := W) (Q := fun v h'' L => Qc v h'' ∧ Fr Z.heap.size L ∧ h.size ≤ h''.size) (show MetFree _ _ _ _ _ _ from hM) hZ w4 w3 hf hl) qa qc (g := mkF m pc Ls st) rfl (hsz.trans K.2.2.1.symm) (Steps.refl _) (argsL := argsL) (rest := rest) (lenOf hp hlen) hst (by show 2 * 0 + _ ≤ W; simpa using hW) (hb K.2.1 hd) (fun _ _ => ⟨rfl, eT, hc, hs⟩)
  dsimp only [Pt.U, Pt.locs, Pt.cells, Pt.slots] at X1 l1 y1 x1 st1 hQ z1
  subst l1 y1 x1
  obtain ⟨T', v', h', k', n', hX', r1, r2, r3, r4, r5⟩ := hr v T1.heap hQ T1 ⟨_, vm, X1, N.app N1, rfl, hw, own_since hS z1⟩
  exact ⟨T', v', h', k', n', hX', r1, r2, r3, r4, fun fs q => st1.trans (r5 fs q)⟩
theorem own_retI (K : own_Cx p s m meth c Z own nm bytes maxL (some .int)) {z : Int32} (hd : own_D bytes pc .ireturn 1 pc') (hk : k ≤ R.cells) (hn : n ≤ R.slots) (hQ : Q (some (.int z)) h) : own_G w p l e R s m args below meth c Z Q h k n (mkF m pc Ls (.int z :: st)) := by
  obtain ⟨hd, -⟩ := hd
  intro T hX
  obtain ⟨L, vm, X, N, eT, hw, hS⟩ := hX
  exact ⟨T, some (.int z), h, k, n, ⟨L, vm, X, N, eT, hw, hS⟩, hk, hn, (fun q => by rw [K.2.2.2.1] at q; cases q), hQ, fun fs q => retOut X K.1 K.2.2.2.1 (rfl) (Or.inl ⟨rfl, Or.inl rfl, z, rfl⟩) (hb K.2.1 hd) q⟩
theorem own_retZ (K : own_Cx p s m meth c Z own nm bytes maxL (some .boolean)) {z : Int32} (hz : z = 0 ∨ z = 1) (hd : own_D bytes pc .ireturn 1 pc') (hk : k ≤ R.cells) (hn : n ≤ R.slots) (hQ : Q (some (.int z)) h) : own_G w p l e R s m args below meth c Z Q h k n (mkF m pc Ls (.int z :: st)) := by
  obtain ⟨hd, -⟩ := hd
  intro T hX
  obtain ⟨L, vm, X, N, eT, hw, hS⟩ := hX
  exact ⟨T, some (.int z), h, k, n, ⟨L, vm, X, N, eT, hw, hS⟩, hk, hn, (fun q => by rw [K.2.2.2.1] at q; cases q), hQ, fun fs q => retOut X K.1 K.2.2.2.1 (by rcases hz with rfl | rfl <;> decide) (Or.inl ⟨rfl, Or.inr (Or.inl rfl), z, rfl⟩) (hb K.2.1 hd) q⟩
theorem own_retC (K : own_Cx p s m meth c Z own nm bytes maxL (some .char)) {z : Int32} (hz : narrow .char (.int z) = .int z) (hd : own_D bytes pc .ireturn 1 pc') (hk : k ≤ R.cells) (hn : n ≤ R.slots) (hQ : Q (some (.int z)) h) : own_G w p l e R s m args below meth c Z Q h k n (mkF m pc Ls (.int z :: st)) := by
  obtain ⟨hd, -⟩ := hd
  intro T hX
  obtain ⟨L, vm, X, N, eT, hw, hS⟩ := hX
  exact ⟨T, some (.int z), h, k, n, ⟨L, vm, X, N, eT, hw, hS⟩, hk, hn, (fun q => by rw [K.2.2.2.1] at q; cases q), hQ, fun fs q => retOut X K.1 K.2.2.2.1 (hz) (Or.inl ⟨rfl, Or.inr (Or.inr (Or.inr (Or.inl rfl))), z, rfl⟩) (hb K.2.1 hd) q⟩
theorem own_retBy (K : own_Cx p s m meth c Z own nm bytes maxL (some .byte)) {z : Int32} (hz : narrow .byte (.int z) = .int z) (hd : own_D bytes pc .ireturn 1 pc') (hk : k ≤ R.cells) (hn : n ≤ R.slots) (hQ : Q (some (.int z)) h) : own_G w p l e R s m args below meth c Z Q h k n (mkF m pc Ls (.int z :: st)) := by
  obtain ⟨hd, -⟩ := hd
  intro T hX
  obtain ⟨L, vm, X, N, eT, hw, hS⟩ := hX
  exact ⟨T, some (.int z), h, k, n, ⟨L, vm, X, N, eT, hw, hS⟩, hk, hn, (fun q => by rw [K.2.2.2.1] at q; cases q), hQ, fun fs q => retOut X K.1 K.2.2.2.1 (hz) (Or.inl ⟨rfl, Or.inr (Or.inr (Or.inl rfl)), z, rfl⟩) (hb K.2.1 hd) q⟩
theorem own_retL (K : own_Cx p s m meth c Z own nm bytes maxL (some .long)) {z : Int64} (hd : own_D bytes pc .lreturn 1 pc') (hk : k ≤ R.cells) (hn : n ≤ R.slots) (hQ : Q (some (.long z)) h) : own_G w p l e R s m args below meth c Z Q h k n (mkF m pc Ls (.long z :: st)) := by
  obtain ⟨hd, -⟩ := hd
  intro T hX
  obtain ⟨L, vm, X, N, eT, hw, hS⟩ := hX
  exact ⟨T, some (.long z), h, k, n, ⟨L, vm, X, N, eT, hw, hS⟩, hk, hn, (fun q => by rw [K.2.2.2.1] at q; cases q), hQ, fun fs q => retOut X K.1 K.2.2.2.1 (rfl) (Or.inr (Or.inl ⟨rfl, rfl, z, rfl⟩)) (hb K.2.1 hd) q⟩
theorem own_retD (K : own_Cx p s m meth c Z own nm bytes maxL (some .double)) {z : UInt64} (hd : own_D bytes pc .dreturn 1 pc') (hk : k ≤ R.cells) (hn : n ≤ R.slots) (hQ : Q (some (.double z)) h) : own_G w p l e R s m args below meth c Z Q h k n (mkF m pc Ls (.double z :: st)) := by
  obtain ⟨hd, -⟩ := hd
  intro T hX
  obtain ⟨L, vm, X, N, eT, hw, hS⟩ := hX
  exact ⟨T, some (.double z), h, k, n, ⟨L, vm, X, N, eT, hw, hS⟩, hk, hn, (fun q => by rw [K.2.2.2.1] at q; cases q), hQ, fun fs q => retOut X K.1 K.2.2.2.1 (rfl) (Or.inr (Or.inr (Or.inl ⟨rfl, rfl, z, rfl⟩))) (hb K.2.1 hd) q⟩
theorem own_retA (K : own_Cx p s m meth c Z own nm bytes maxL (some tyR)) {v : Value} (hty : tyR.isReference = true) (hv : v.isRef = true) (hd : own_D bytes pc .areturn 1 pc') (hk : k ≤ R.cells) (hn : n ≤ R.slots) (hQ : Q (some (v)) h) : own_G w p l e R s m args below meth c Z Q h k n (mkF m pc Ls (v :: st)) := by
  obtain ⟨hd, -⟩ := hd
  intro T hX
  obtain ⟨L, vm, X, N, eT, hw, hS⟩ := hX
  exact ⟨T, some (v), h, k, n, ⟨L, vm, X, N, eT, hw, hS⟩, hk, hn, (fun q => by rw [K.2.2.2.1] at q; cases q), hQ, fun fs q => retOut X K.1 K.2.2.2.1 (by rcases ref_cases hv with rfl | ⟨a, rfl⟩ <;> cases tyR <;> first | rfl | cases hty) (Or.inr (Or.inr (Or.inr (Or.inr ⟨rfl, hty, hv⟩)))) (hb K.2.1 hd) q⟩
theorem own_retV (K : own_Cx p s m meth c Z own nm bytes maxL none) (hd : own_D bytes pc .return_ 1 pc') (hk : k ≤ R.cells) (hn : n ≤ R.slots) (hQ : Q none h) : own_G w p l e R s m args below meth c Z Q h k n (mkF m pc Ls []) := by
  obtain ⟨hd, -⟩ := hd
  intro T hX
  obtain ⟨L, vm, X, N, eT, hw, hS⟩ := hX
  exact ⟨T, none, h, k, n, ⟨L, vm, X, N, eT, hw, hS⟩, hk, hn, (fun _ => rfl), hQ, fun fs q => X.returnOut K.1 K.2.2.2.1 (hb K.2.1 hd) q⟩
theorem own_met {y : MethodName} {ws : List Cond} {rm : Room} {as' : Array Value} (hpn : plainFor y = true)
    (body : ∀ (p : Program) (e : Env) (s : State) (m : MethodId) (below : List Frame) (meth : Method) (c : Code), own_Cx p s m meth c Z y.cls y.name bytes maxL ret → own_G w p l e rm s m as' below meth c Z Q h 0 0 (entryFrame m as' maxL)) :
    own_Met w l Z y bytes maxL ret ws rm as' h Q := by
  refine MetFree.of_bodySF hpn hisR ?_
  intro p e s m args below meth c s₁ Bd hml0 hP hK
  obtain ⟨rfl, hZ, hh⟩ := hP
  have X0 : Stand p l e rm s m args below meth c s₁ [] 0 0 := Stand.of_body Bd
  have e0 : s₁.heap = h := by rw [← hh, Bd.state]; rfl
  have hlk : meth.locks = false := BodyLoose.notSynchronized Bd
  obtain ⟨T', v, h', k', n', ⟨L, vm, X, N, eT, hw, hS⟩, r1, r2, r3, r4, r5⟩ := body p e s m below meth c ⟨Bd.exec, Bd.bytes, hml0, Bd.returns, hlk, hZ, findClass_of_methodNamed Bd.named, (name_of_methodNamed Bd.named Bd.method).1⟩ s₁
    ⟨[], s.vm, X0, Fr.nil _, e0, fun _ => rfl, (State.WarmedH.refl s).since _⟩
  have hgr : h.size ≤ h'.size := by rw [← eT, ← hh]; exact X.same.2.1
  cases w with
  | false =>
    obtain rfl := hw rfl
    obtain ⟨fs, hr, hrun, hended, hW, hsame⟩ := Stand.leave (s := s) X r3
    exact ⟨_, _, r5 fs hr, hrun, hended, v, L, rfl, ⟨by show Q v T'.heap; rw [eT]; exact r4, N, by show h.size ≤ T'.heap.size; rw [eT]; exact hgr⟩, ⟨_, rfl⟩, hW, hsame.mono r1 r2⟩
  | true =>
    obtain ⟨fs, hr, hrun, hended, q1, q2, q3, q4⟩ := Stand.leaveW X hS (Nat.le_of_eq (congrArg Array.size eT.symm)) r3
    exact ⟨_, _, r5 fs hr, hrun, hended, v, L, rfl, ⟨by show Q v T'.heap; rw [eT]; exact r4, N, by show h.size ≤ T'.heap.size; rw [eT]; exact hgr⟩, q1, q2, q3, q4.mono r1 r2⟩
theorem own_list_getD {vs : List Value} {cl : Cell} (e : cl.slots.toList = vs) (d : Value) {i : Nat} (hi : i < cl.slots.size) : cl.slots[i]? = some (vs.getD i d) := by
  subst e
  rw [List.getD_eq_getElem?_getD, Array.getElem?_toList, Array.getElem?_eq_getElem hi]; rfl
theorem own_arv {a : Addr} {ty : FieldType} {ad : String} {vs : List Value} (F : own_AK Z h (a, ty, ad, vs)) (hl : vs.length < 2147483648) : ∃ (kc : ClassId) (z : Int32), z.toNatClampNeg = vs.length ∧ ¬ z < 0 ∧ Arv Z h a kc ty z vs .null := by
  obtain ⟨cl, A, e1, e3, -, -⟩ := F
  have e1' : cl.slots.toList = vs := e1
  have hsz : cl.slots.size = vs.length := by rw [← Array.length_toList, e1']
  have q := len_toInt (n := vs.length) (by omega)
  have z0 : ¬ vs.length.toInt32 < 0 := by rw [Int32.lt_iff_toInt_lt, q, show (0 : Int32).toInt = 0 from rfl]; omega
  have zc : vs.length.toInt32.toNatClampNeg = vs.length := by simp only [Int32.toNatClampNeg, q]; rfl
  refine ⟨cl.cls, vs.length.toInt32, zc, z0, cl, A, rfl, by rw [zc]; exact hsz, z0, fun i hi => own_list_getD e1' _ hi, fun i hi => ?_⟩
  have hi' : i < vs.length := by omega
  rw [List.getD_eq_getElem?_getD, List.getElem?_eq_getElem hi']
  exact e3 _ (List.getElem_mem hi')
theorem own_of_arv {a : Addr} {ty : FieldType} {vs : List Value} {kc : ClassId} {z : Int32} {d : Value} (F : Arv Z h a kc ty z vs d) (hz : z.toNatClampNeg = vs.length) : ∃ cl : Cell, Arr Z h a cl ty ∧ cl.cls = kc ∧ cl.slots.toList = vs ∧ ∀ v ∈ vs, fits ty v = true := by
  obtain ⟨cl, A, e1, e2, -, H, G⟩ := F
  have hsz : cl.slots.size = vs.length := e2.trans hz
  refine ⟨cl, A, e1, ?_, fun v hv => ?_⟩
  · apply List.ext_getElem?
    intro i
    rw [Array.getElem?_toList]
    by_cases hi : i < cl.slots.size
    · rw [H i hi, List.getD_eq_getElem?_getD, List.getElem?_eq_getElem (by omega)]; rfl
    · rw [Array.getElem?_eq_none (by omega), List.getElem?_eq_none (by omega)]
  · obtain ⟨i, hi, rfl⟩ := List.getElem_of_mem hv
    have := G i (by omega)
    rw [List.getD_eq_getElem?_getD, List.getElem?_eq_getElem hi] at this
    exact this
theorem own_H.keepA (H : own_H Z h os as) {b : Addr} {ty : FieldType} {ad : String} {vd vd' : List Value} {i : Nat} (hb : as[i]? = some (b, ty, ad, vd)) (Kp : Keep h h' [b]) (F : ∃ cl : Cell, Arr Z h' b cl ty ∧ cl.slots.toList = vd' ∧ ∀ v ∈ vd', fits ty v = true) (hty : ∀ C, ty ≠ .object C) : own_H Z h' os (as.set i (b, ty, ad, vd')) := by
  have nb := (H.2.2.1 _ (own_mem hb)).1
  have hlen := (List.getElem?_eq_some_iff.mp hb).1
  refine ⟨⟨Nat.le_trans H.1.1 Kp.1, fun x cx hx => Kp.2.1 x cx (H.1.2 x cx hx) fun q => ?_⟩, fun o ho => ?_, fun y hy => ?_, ?_⟩
  · cases List.mem_singleton.mp q; exact absurd (Array.getElem?_eq_some_iff.mp hx).1 (Nat.not_lt.mpr nb)
  · obtain ⟨n1, E, F', Pw⟩ := H.2.1 o ho
    exact ⟨n1, E.keep Kp, fun f hf => (F' f hf).keep Kp fun q => H.neOA ho (own_mem hb) (List.mem_singleton.mp q), Pw⟩
  · obtain ⟨j, hj⟩ := List.mem_iff_getElem?.mp hy
    rw [List.getElem?_set] at hj
    by_cases ij : i = j
    · subst ij
      rw [if_pos rfl, if_pos hlen] at hj
      obtain rfl := Option.some.inj hj
      obtain ⟨cl, A, e1, e2⟩ := F
      obtain ⟨-, cl0, -, -, -, e4, -⟩ := H.2.2.1 _ (own_mem hb)
      exact ⟨nb, cl, A, e1, e2, fun q => (e4 q).keep Kp, fun C hC => absurd hC (hty C)⟩
    · rw [if_neg ij] at hj
      obtain ⟨n1, cl, h1, h2, h3, h4, h5⟩ := H.2.2.1 _ (own_mem hj)
      exact ⟨n1, cl, ⟨Kp.2.1 _ _ h1.1 fun q => H.neAA hj hb (Ne.symm ij) (List.mem_singleton.mp q), h1.2⟩, h2, h3, fun q => (h4 q).keep Kp, h5⟩
  · rw [own_set_map (f := fun z => z.1) (x' := (b, ty, ad, vd')) hb rfl]; exact H.2.2.2
theorem own_range_take {vs : List Value} {sq nq : Nat} {d : Value} (hq : sq + nq ≤ vs.length) : (vs.drop sq).take nq = (List.range nq).map fun i => vs.getD (sq + i) d := by
  apply List.ext_getElem?
  intro i
  by_cases hi : i < nq
  · rw [List.getElem?_take_of_lt hi, List.getElem?_drop, List.getElem?_map, List.getElem?_range hi, Option.map_some, List.getD_eq_getElem?_getD, List.getElem?_eq_getElem (by omega)]; rfl
  · rw [List.getElem?_eq_none (by simp; omega), List.getElem?_eq_none (by simp; omega)]
theorem own_arraycopy (K : own_Cx p s m meth c Z own nm bytes maxL ret) {i ia ib : Nat} {a b : Addr} {ty : FieldType} {ada adb : String} {vs vd : List Value} {sp dp nn : Int32} {sq dq nq : Nat} (hd : own_D bytes pc (.invokestatic i) 3 pc') (w1 : (Cond.methodLink own i Jvm.Stand.acN).before a0 Z = true) (w2 : (Cond.native Jvm.Stand.acN).before a0 Z = true) (w3 : (Cond.static Jvm.Stand.acN).before a0 Z = true) (w4 : (Cond.initialized "java/lang/System").before a0 Z = true) (H : own_H Z h os as)
    (ha : as[ia]? = some (a, ty, ada, vs)) (hb' : as[ib]? = some (b, ty, adb, vd)) (hty : refKind ty = false) (hto : ∀ C, ty ≠ .object C) (hsp : sp.toInt = (sq : Int)) (hdp : dp.toInt = (dq : Int)) (hnn : nn.toInt = (nq : Int)) (h4 : sq + nq ≤ vs.length) (h5 : dq + nq ≤ vd.length) (hvl : vs.length < 2147483648) (hvd : vd.length < 2147483648) (hsz : Ls.size = maxL) (hf : 1 ≤ R.frames) {W : Nat} (hW : (st.map fun v => v.category).sum ≤ W) (hlo : W + (nativeFrameWords "java/lang/System" "arraycopy" 5 + 11) ≤ R.locals)
    (hr : ∀ h', own_H Z h' os (as.set ib (b, ty, adb, vd.take dq ++ (vs.drop sq).take nq ++ vd.drop (dq + nq))) → own_G w p l e R s m args below meth c Z Q h' k n (mkF m pc' Ls st)) : own_G w p l e R s m args below meth c Z Q h k n (mkF m pc Ls (.int nn :: .int dp :: .ref b :: .int sp :: .ref a :: st)) := by
  obtain ⟨hd, rfl⟩ := hd
  refine own_step K (P := fun h' => own_H Z h' os (as.set ib (b, ty, adb, vd.take dq ++ (vs.drop sq).take nq ++ vd.drop (dq + nq)))) (fun X hZ hw eT N => ?_) hr
  obtain ⟨ka, za, qa1, qa2, A⟩ := own_arv (H.2.2.1 _ (own_mem ha)).2 hvl
  obtain ⟨kb, zb, qb1, qb2, B⟩ := own_arv (H.2.2.1 _ (own_mem hb')).2 hvd
  have i1 := own_idx hsp
  have i2 := own_idx hdp
  have i3 := own_idx hnn
  have neg : ∀ {x : Int32} {q : Nat}, x.toInt = (q : Int) → ¬ x < 0 := fun {x q} e => by rw [Int32.lt_iff_toInt_lt, e, show (0 : Int32).toInt = 0 from rfl]; omega
  obtain ⟨T', h', L, X', e', N', Kp, A', st⟩ := cpA X K.1 hZ hw w1 w2 w3 w4 eT A B (Or.inl ⟨rfl, hty⟩) (neg hsp) (neg hdp) (neg hnn) (by rw [i1, i3, qa1]; exact h4) (by rw [i2, i3, qb1]; exact h5) (by rw [i1, i3]) (by rw [i2, i3]; exact h5) N (H.2.2.1 _ (own_mem hb')).1 (g := mkF m pc Ls (.int nn :: .int dp :: .ref b :: .int sp :: .ref a :: st)) rfl (hsz.trans K.2.2.1.symm) rfl (hb K.2.1 hd) hf (W := W) (by show 2 * 0 + _ ≤ W; simpa using hW) hlo
  rw [i2, i3, ← own_range_take h4] at A'
  obtain ⟨cl, c1, -, c3, c4⟩ := own_of_arv A' (by rw [qb1]; simp; omega)
  exact ⟨T', h', L, X', N', e', Kp.1, H.keepA hb' Kp ⟨cl, c1, c3, c4⟩ hto, st⟩
theorem own_cast {g g' : JFrame} (q : g = g') (hr : own_G w p l e R s m args below meth c Z Q h k n g') : own_G w p l e R s m args below meth c Z Q h k n g := q ▸ hr
theorem own_topI {x x' : Int32} (q : x = x') (hr : own_G w p l e R s m args below meth c Z Q h k n (mkF m pc Ls (.int x' :: st))) : own_G w p l e R s m args below meth c Z Q h k n (mkF m pc Ls (.int x :: st)) := q ▸ hr
theorem own_topL {x x' : Int64} (q : x = x') (hr : own_G w p l e R s m args below meth c Z Q h k n (mkF m pc Ls (.long x' :: st))) : own_G w p l e R s m args below meth c Z Q h k n (mkF m pc Ls (.long x :: st)) := q ▸ hr
theorem own_topD {x x' : UInt64} (q : x = x') (hr : own_G w p l e R s m args below meth c Z Q h k n (mkF m pc Ls (.double x' :: st))) : own_G w p l e R s m args below meth c Z Q h k n (mkF m pc Ls (.double x :: st)) := q ▸ hr
theorem own_H.perm (H : own_H Z h os as) (po : os.Perm os') (pa : as.Perm as') : own_H Z h os' as' :=
  ⟨H.1, fun o ho => H.2.1 o (po.mem_iff.mpr ho), fun a ha => H.2.2.1 a (pa.mem_iff.mpr ha), ((po.map _).append (pa.map _)).nodup_iff.mp H.2.2.2⟩
theorem own_front {α : Type} {L : List α} {x : α} : ∀ {i : Nat}, L[i]? = some x → L.Perm (x :: L.eraseIdx i) := by
  induction L with
  | nil => intro i hx; cases hx
  | cons y L ih =>
    intro i hx
    cases i with
    | zero => cases hx; exact List.Perm.refl _
    | succ i =>
      have q := ih (i := i) (by simpa using hx)
      exact ((q.cons y).trans (List.Perm.swap x y _))
theorem own_H.frontO (H : own_H Z h os as) (i : Nat) {x : own_O} (hx : os[i]? = some x) : own_H Z h (x :: os.eraseIdx i) as := H.perm (own_front hx) (List.Perm.refl _)
theorem own_H.frontA (H : own_H Z h os as) (i : Nat) {x : own_A} (hx : as[i]? = some x) : own_H Z h os (x :: as.eraseIdx i) := H.perm (List.Perm.refl _) (own_front hx)
end OwnKit
end Jvm.RoadKit
namespace Jvm.Pilot.@@N@@
open Jvm Jvm.ClassFile Sem Op Lib Jvm.Free Jvm.Stand Jvm.LawKit Jvm.RoadKit Bundle Jvm.Pilot.@@N@@.Jvm.D
def own_Z (Z : State) (a0 : Array Value) : Prop := ∀ d ∈ tables_1, d.before a0 Z = true
theorem own_w0 {Z : State} {a0 : Array Value} (hw : own_Z Z a0) : (Jvm.Cond.arrayClass Jvm.ClassFile.FieldType.double).before a0 Z = true := hw _ (List.mem_of_getElem? (i := 0) rfl)
theorem own_w1 {Z : State} {a0 : Array Value} (hw : own_Z Z a0) : (Jvm.Cond.methodLink "com/example/slotwise/slotwise/StatisticsMeanPinLaw" (7 : Nat) ({ cls := "com/example/slotwise/slotwise/Statistics", name := "mean", desc := "([D)D" } : Jvm.MethodName)).before a0 Z = true := hw _ (List.mem_of_getElem? (i := 1) rfl)
theorem own_w2 {Z : State} {a0 : Array Value} (hw : own_Z Z a0) : (Jvm.Cond.static ({ cls := "com/example/slotwise/slotwise/Statistics", name := "mean", desc := "([D)D" } : Jvm.MethodName)).before a0 Z = true := hw _ (List.mem_of_getElem? (i := 2) rfl)
theorem own_w3 {Z : State} {a0 : Array Value} (hw : own_Z Z a0) : (Jvm.Cond.initialized "com/example/slotwise/slotwise/Statistics").before a0 Z = true := hw _ (List.mem_of_getElem? (i := 3) rfl)
theorem own_w4 {Z : State} {a0 : Array Value} (hw : own_Z Z a0) : (Jvm.Cond.code ({ cls := "com/example/slotwise/slotwise/Statistics", name := "mean", desc := "([D)D" } : Jvm.MethodName) prog_39_method_2_code (8 : Nat) (Option.some Jvm.ClassFile.FieldType.double)).before a0 Z = true := hw _ (List.mem_of_getElem? (i := 4) rfl)
theorem own_d0_0 : own_D prog_39_method_2_code 0 (.dconst 0) 1 1 := ⟨by decide +kernel, rfl⟩
theorem own_d0_1 : own_D prog_39_method_2_code 1 (.dstore_n 1) 1 2 := ⟨by decide +kernel, rfl⟩
theorem own_d0_2 : own_D prog_39_method_2_code 2 (.aload_n 0) 1 3 := ⟨by decide +kernel, rfl⟩
theorem own_d0_3 : own_D prog_39_method_2_code 3 (.astore_n 3) 1 4 := ⟨by decide +kernel, rfl⟩
theorem own_d0_4 : own_D prog_39_method_2_code 4 (.aload_n 3) 1 5 := ⟨by decide +kernel, rfl⟩
theorem own_d0_5 : own_D prog_39_method_2_code 5 (.arraylength) 1 6 := ⟨by decide +kernel, rfl⟩
theorem own_d0_6 : own_D prog_39_method_2_code 6 (.istore 4) 2 8 := ⟨by decide +kernel, rfl⟩
theorem own_d0_8 : own_D prog_39_method_2_code 8 (.iconst 0) 1 9 := ⟨by decide +kernel, rfl⟩
theorem own_d0_9 : own_D prog_39_method_2_code 9 (.istore 5) 2 11 := ⟨by decide +kernel, rfl⟩
theorem own_d0_11 : own_D prog_39_method_2_code 11 (.iload 5) 2 13 := ⟨by decide +kernel, rfl⟩
theorem own_d0_13 : own_D prog_39_method_2_code 13 (.iload 4) 2 15 := ⟨by decide +kernel, rfl⟩
theorem own_d0_15 : own_B prog_39_method_2_code 15 (.if_icmp .ge 20) 20 18 35 := ⟨by decide +kernel, rfl, by decide, by decide⟩
theorem own_d0_18 : own_D prog_39_method_2_code 18 (.aload_n 3) 1 19 := ⟨by decide +kernel, rfl⟩
theorem own_d0_19 : own_D prog_39_method_2_code 19 (.iload 5) 2 21 := ⟨by decide +kernel, rfl⟩
theorem own_d0_21 : own_D prog_39_method_2_code 21 (.daload) 1 22 := ⟨by decide +kernel, rfl⟩
theorem own_d0_22 : own_D prog_39_method_2_code 22 (.dstore 6) 2 24 := ⟨by decide +kernel, rfl⟩
theorem own_d0_24 : own_D prog_39_method_2_code 24 (.dload_n 1) 1 25 := ⟨by decide +kernel, rfl⟩
theorem own_d0_25 : own_D prog_39_method_2_code 25 (.dload 6) 2 27 := ⟨by decide +kernel, rfl⟩
theorem own_d0_27 : own_D prog_39_method_2_code 27 (.dadd) 1 28 := ⟨by decide +kernel, rfl⟩
theorem own_d0_28 : own_D prog_39_method_2_code 28 (.dstore_n 1) 1 29 := ⟨by decide +kernel, rfl⟩
theorem own_d0_29 : own_D prog_39_method_2_code 29 (.iinc 5 1) 3 32 := ⟨by decide +kernel, rfl⟩
theorem own_d0_32 : own_B prog_39_method_2_code 32 (.goto (-21)) (-21) 35 11 := ⟨by decide +kernel, rfl, by decide, by decide⟩
theorem own_d0_35 : own_D prog_39_method_2_code 35 (.dload_n 1) 1 36 := ⟨by decide +kernel, rfl⟩
theorem own_d0_36 : own_D prog_39_method_2_code 36 (.aload_n 0) 1 37 := ⟨by decide +kernel, rfl⟩
theorem own_d0_37 : own_D prog_39_method_2_code 37 (.arraylength) 1 38 := ⟨by decide +kernel, rfl⟩
theorem own_d0_38 : own_D prog_39_method_2_code 38 (.i2d) 1 39 := ⟨by decide +kernel, rfl⟩
theorem own_d0_39 : own_D prog_39_method_2_code 39 (.ddiv) 1 40 := ⟨by decide +kernel, rfl⟩
theorem own_d0_40 : own_D prog_39_method_2_code 40 (.dreturn) 1 41 := ⟨by decide +kernel, rfl⟩
theorem own_d1_0 : own_D code 0 (.iload_n 0) 1 1 := ⟨by decide +kernel, rfl⟩
theorem own_d1_1 : own_D code 1 (.iconst 3) 1 2 := ⟨by decide +kernel, rfl⟩
theorem own_d1_2 : own_D code 2 (.iand) 1 3 := ⟨by decide +kernel, rfl⟩
theorem own_d1_3 : own_D code 3 (.iconst 1) 1 4 := ⟨by decide +kernel, rfl⟩
theorem own_d1_4 : own_D code 4 (.iadd) 1 5 := ⟨by decide +kernel, rfl⟩
theorem own_d1_5 : own_D code 5 (.istore 5) 2 7 := ⟨by decide +kernel, rfl⟩
theorem own_d1_7 : own_D code 7 (.iload 5) 2 9 := ⟨by decide +kernel, rfl⟩
theorem own_d1_9 : own_D code 9 (.newarray .double) 2 11 := ⟨by decide +kernel, rfl⟩
theorem own_d1_11 : own_D code 11 (.astore 6) 2 13 := ⟨by decide +kernel, rfl⟩
theorem own_d1_13 : own_D code 13 (.aload 6) 2 15 := ⟨by decide +kernel, rfl⟩
theorem own_d1_15 : own_D code 15 (.iconst 0) 1 16 := ⟨by decide +kernel, rfl⟩
theorem own_d1_16 : own_D code 16 (.iload_n 1) 1 17 := ⟨by decide +kernel, rfl⟩
theorem own_d1_17 : own_D code 17 (.i2d) 1 18 := ⟨by decide +kernel, rfl⟩
theorem own_d1_18 : own_D code 18 (.dastore) 1 19 := ⟨by decide +kernel, rfl⟩
theorem own_d1_19 : own_D code 19 (.iload_n 1) 1 20 := ⟨by decide +kernel, rfl⟩
theorem own_d1_20 : own_D code 20 (.i2l) 1 21 := ⟨by decide +kernel, rfl⟩
theorem own_d1_21 : own_D code 21 (.lstore 7) 2 23 := ⟨by decide +kernel, rfl⟩
theorem own_d1_23 : own_D code 23 (.iload 5) 2 25 := ⟨by decide +kernel, rfl⟩
theorem own_d1_25 : own_D code 25 (.iconst 1) 1 26 := ⟨by decide +kernel, rfl⟩
theorem own_d1_26 : own_B code 26 (.if_icmp .le 16) 16 29 42 := ⟨by decide +kernel, rfl, by decide, by decide⟩
theorem own_d1_42 : own_D code 42 (.iload 5) 2 44 := ⟨by decide +kernel, rfl⟩
theorem own_d1_44 : own_D code 44 (.iconst 2) 1 45 := ⟨by decide +kernel, rfl⟩
theorem own_d1_45 : own_B code 45 (.if_icmp .le 16) 16 48 61 := ⟨by decide +kernel, rfl, by decide, by decide⟩
theorem own_d1_61 : own_D code 61 (.iload 5) 2 63 := ⟨by decide +kernel, rfl⟩
theorem own_d1_63 : own_D code 63 (.iconst 3) 1 64 := ⟨by decide +kernel, rfl⟩
theorem own_d1_64 : own_B code 64 (.if_icmp .le 18) 18 67 82 := ⟨by decide +kernel, rfl, by decide, by decide⟩
theorem own_d1_82 : own_D code 82 (.lload 7) 2 84 := ⟨by decide +kernel, rfl⟩
theorem own_d1_84 : own_D code 84 (.l2d) 1 85 := ⟨by decide +kernel, rfl⟩
theorem own_d1_85 : own_D code 85 (.iload 5) 2 87 := ⟨by decide +kernel, rfl⟩
theorem own_d1_87 : own_D code 87 (.i2d) 1 88 := ⟨by decide +kernel, rfl⟩
theorem own_d1_88 : own_D code 88 (.ddiv) 1 89 := ⟨by decide +kernel, rfl⟩
theorem own_d1_89 : own_D code 89 (.dstore 9) 2 91 := ⟨by decide +kernel, rfl⟩
theorem own_d1_91 : own_D code 91 (.aload 6) 2 93 := ⟨by decide +kernel, rfl⟩
theorem own_d1_93 : own_D code 93 (.invokestatic 7) 3 96 := ⟨by decide +kernel, rfl⟩
theorem own_d1_96 : own_D code 96 (.dstore 11) 2 98 := ⟨by decide +kernel, rfl⟩
theorem own_d1_98 : own_D code 98 (.dload 11) 2 100 := ⟨by decide +kernel, rfl⟩
theorem own_d1_100 : own_D code 100 (.dload 9) 2 102 := ⟨by decide +kernel, rfl⟩
theorem own_d1_102 : own_D code 102 (.dcmp .l) 1 103 := ⟨by decide +kernel, rfl⟩
theorem own_d1_103 : own_B code 103 (.ifCond .ne 7) 7 106 110 := ⟨by decide +kernel, rfl, by decide, by decide⟩
theorem own_d1_106 : own_D code 106 (.iconst 1) 1 107 := ⟨by decide +kernel, rfl⟩
theorem own_d1_107 : own_B code 107 (.goto 4) 4 110 111 := ⟨by decide +kernel, rfl, by decide, by decide⟩
theorem own_d1_111 : own_D code 111 (.ireturn) 1 112 := ⟨by decide +kernel, rfl⟩
theorem own_d1_29 : own_D code 29 (.aload 6) 2 31 := ⟨by decide +kernel, rfl⟩
theorem own_d1_31 : own_D code 31 (.iconst 1) 1 32 := ⟨by decide +kernel, rfl⟩
theorem own_d1_32 : own_D code 32 (.iload_n 2) 1 33 := ⟨by decide +kernel, rfl⟩
theorem own_d1_33 : own_D code 33 (.i2d) 1 34 := ⟨by decide +kernel, rfl⟩
theorem own_d1_34 : own_D code 34 (.dastore) 1 35 := ⟨by decide +kernel, rfl⟩
theorem own_d1_35 : own_D code 35 (.lload 7) 2 37 := ⟨by decide +kernel, rfl⟩
theorem own_d1_37 : own_D code 37 (.iload_n 2) 1 38 := ⟨by decide +kernel, rfl⟩
theorem own_d1_38 : own_D code 38 (.i2l) 1 39 := ⟨by decide +kernel, rfl⟩
theorem own_d1_39 : own_D code 39 (.ladd) 1 40 := ⟨by decide +kernel, rfl⟩
theorem own_d1_40 : own_D code 40 (.lstore 7) 2 42 := ⟨by decide +kernel, rfl⟩
theorem own_d1_48 : own_D code 48 (.aload 6) 2 50 := ⟨by decide +kernel, rfl⟩
theorem own_d1_50 : own_D code 50 (.iconst 2) 1 51 := ⟨by decide +kernel, rfl⟩
theorem own_d1_51 : own_D code 51 (.iload_n 3) 1 52 := ⟨by decide +kernel, rfl⟩
theorem own_d1_52 : own_D code 52 (.i2d) 1 53 := ⟨by decide +kernel, rfl⟩
theorem own_d1_53 : own_D code 53 (.dastore) 1 54 := ⟨by decide +kernel, rfl⟩
theorem own_d1_54 : own_D code 54 (.lload 7) 2 56 := ⟨by decide +kernel, rfl⟩
theorem own_d1_56 : own_D code 56 (.iload_n 3) 1 57 := ⟨by decide +kernel, rfl⟩
theorem own_d1_57 : own_D code 57 (.i2l) 1 58 := ⟨by decide +kernel, rfl⟩
theorem own_d1_58 : own_D code 58 (.ladd) 1 59 := ⟨by decide +kernel, rfl⟩
theorem own_d1_59 : own_D code 59 (.lstore 7) 2 61 := ⟨by decide +kernel, rfl⟩
theorem own_d1_67 : own_D code 67 (.aload 6) 2 69 := ⟨by decide +kernel, rfl⟩
theorem own_d1_69 : own_D code 69 (.iconst 3) 1 70 := ⟨by decide +kernel, rfl⟩
theorem own_d1_70 : own_D code 70 (.iload 4) 2 72 := ⟨by decide +kernel, rfl⟩
theorem own_d1_72 : own_D code 72 (.i2d) 1 73 := ⟨by decide +kernel, rfl⟩
theorem own_d1_73 : own_D code 73 (.dastore) 1 74 := ⟨by decide +kernel, rfl⟩
theorem own_d1_74 : own_D code 74 (.lload 7) 2 76 := ⟨by decide +kernel, rfl⟩
theorem own_d1_76 : own_D code 76 (.iload 4) 2 78 := ⟨by decide +kernel, rfl⟩
theorem own_d1_78 : own_D code 78 (.i2l) 1 79 := ⟨by decide +kernel, rfl⟩
theorem own_d1_79 : own_D code 79 (.ladd) 1 80 := ⟨by decide +kernel, rfl⟩
theorem own_d1_80 : own_D code 80 (.lstore 7) 2 82 := ⟨by decide +kernel, rfl⟩
theorem own_pd0 : parseMethodDescriptor "([D)D" = some ⟨[(.array .double)], some .double⟩ := by decide +kernel
theorem own_and3 (k : Int32) : k &&& 3 = 0 ∨ k &&& 3 = 1 ∨ k &&& 3 = 2 ∨ k &&& 3 = 3 := by
  have h : ∀ b : BitVec 32, b &&& 3#32 = 0#32 ∨ b &&& 3#32 = 1#32 ∨ b &&& 3#32 = 2#32 ∨ b &&& 3#32 = 3#32 := by
    intro b
    have q : (b &&& 3#32).toNat ≤ 3 := by rw [BitVec.toNat_and]; exact Nat.and_le_right
    bv_omega
  rcases h k.toBitVec with q | q | q | q
  · exact Or.inl (Int32.toBitVec_inj.mp q)
  · exact Or.inr (Or.inl (Int32.toBitVec_inj.mp q))
  · exact Or.inr (Or.inr (Or.inl (Int32.toBitVec_inj.mp q)))
  · exact Or.inr (Or.inr (Or.inr (Int32.toBitVec_inj.mp q)))
theorem own_and_bound (a b : Int32) (hb : 0 ≤ b.toInt) : 0 ≤ (a &&& b).toInt ∧ (a &&& b).toInt ≤ b.toInt := by
  have q : (a &&& b).toBitVec.toNat ≤ b.toBitVec.toNat := by
    show (a.toBitVec &&& b.toBitVec).toNat ≤ _
    rw [BitVec.toNat_and]; exact Nat.and_le_right
  have hb' : b.toInt = (b.toBitVec.toNat : Int) := by
    have : b.toInt = b.toBitVec.toInt := rfl
    rw [this] at hb ⊢
    rw [BitVec.toInt_eq_toNat_cond] at hb ⊢
    have := b.toBitVec.isLt
    split at hb <;> split <;> omega
  have hlt : 2 * b.toBitVec.toNat < 2 ^ 32 := by have := Int32.toInt_lt b; omega
  have : (a &&& b).toInt = (a &&& b).toBitVec.toInt := rfl
  rw [this, BitVec.toInt_eq_toNat_cond]
  split <;> omega
theorem own_add32 {a b : Int32} (h1 : -2147483648 ≤ a.toInt + b.toInt) (h2 : a.toInt + b.toInt ≤ 2147483647) : (a + b).toInt = a.toInt + b.toInt := by
  rw [Int32.toInt_add]; exact Int.bmod_eq_of_le (by omega) (by omega)
theorem own_sub32 {a b : Int32} (h1 : -2147483648 ≤ a.toInt - b.toInt) (h2 : a.toInt - b.toInt ≤ 2147483647) : (a - b).toInt = a.toInt - b.toInt := by
  rw [Int32.toInt_sub]; exact Int.bmod_eq_of_le (by omega) (by omega)
theorem own_mul32 {a b : Int32} (h1 : -2147483648 ≤ a.toInt * b.toInt) (h2 : a.toInt * b.toInt ≤ 2147483647) : (a * b).toInt = a.toInt * b.toInt := by
  rw [Int32.toInt_mul]; exact Int.bmod_eq_of_le (by omega) (by omega)
theorem own_rem32 {a b : Int32} (ha : 0 ≤ a.toInt) (hb : 0 < b.toInt) : 0 ≤ (a % b).toInt ∧ (a % b).toInt < b.toInt := by
  rw [Int32.toInt_mod]
  have h1 := Int.tmod_nonneg b.toInt ha
  have h2 := Int.tmod_lt_of_pos a.toInt hb
  omega
theorem own_i64 (a : Int32) : a.toInt64.toInt = a.toInt := by simp

theorem own_nz (z : Int32) (hz : z ≠ 0) : Fl.Nz64 (FP.i2d z) := by
  have hb := l2d_big (v := z.toInt64) (fun q => hz (Int32.toInt_inj.mp (by rw [← own_i64, q]; rfl)))
  rw [i2d_w, Fl.nz64_iff]
  unfold Big64 at hb; omega
theorem own_nd (a : Int64) (z : Int32) (hz : z ≠ 0) : Fl.NoNaN64 (FP.ddiv (FP.l2d a) (FP.i2d z)) := Fl.ddiv_out (Fl.l2d_fin a).noNaN (Fl.i2d_fin z) (own_nz z hz)

def own_small (K : Int) (a : Int64) : Prop := -K ≤ a.toInt ∧ a.toInt ≤ K
theorem own_small.b53 {K : Int} {a : Int64} (h : own_small K a) (hK : K ≤ 9007199254740991) : B53 a := by unfold own_small at h; unfold B53; omega
theorem own_small.add {K M : Int} {a b : Int64} (ha : own_small K a) (hb : own_small M b) (h1 : K ≤ 4503599627370495) (h2 : M ≤ 4503599627370495) : own_small (K + M) (a + b) := by
  have q := RoadKit.add64 (ha.b53 (by omega)) (hb.b53 (by omega))
  unfold own_small at *; omega
theorem own_small.of (a : Int32) : own_small 2147483648 a.toInt64 := by
  have := Int32.toInt_lt a; have := Int32.le_toInt a; unfold own_small; rw [own_i64]; omega
theorem own_small.zero : own_small 0 0 := by unfold own_small; decide

theorem own_mean1_ef (m : MethodId) (x0 : Addr) : entryFrame m #[(.ref x0)] 8 = mkF m 0 #[.val (.ref x0), .unset, .unset, .unset, .unset, .unset, .unset, .unset] [] := by first | rfl | (simp [entryFrame, mkF, argsToLocals, Value.category, maxLocals]; done)
set_option maxRecDepth 65536 in
set_option maxHeartbeats 40000000 in
theorem own_mean1 {l : Launch} {Z : State} {a0 : Array Value} (hw : own_Z Z a0) {h : Heap} {os : List own_O} {as : List own_A} {ar : Addr} {x0 : Int64} (H : own_H Z h os ((ar, .double, "[D", [(.double (FP.l2d x0))]) :: as)) (s0 : own_small 2147483648 x0) : own_Met false l Z (⟨"com/example/slotwise/slotwise/Statistics", "mean", "([D)D"⟩ : MethodName) prog_39_method_2_code 8 (some .double) [] ({ frames := 0, cells := 0, slots := 0, locals := 0 } : Room) #[(.ref ar)] h (fun v h' => v = some (.double (FP.ddiv (FP.l2d ((0 : Int64) + x0)) (FP.i2d (1 : Int32)))) ∧ h' = h) := by
  refine own_met (by first | exact plainFor_of_name (by decide +kernel) | decide +kernel) ?_
  intro p e s m below meth c K
  refine own_cast (own_mean1_ef m _) ?_
  have S0 : own_small 0 (0 : Int64) := own_small.zero
  have S1 := S0.add s0 (by decide) (by decide)
  refine own_dconst0 K own_d0_0 (v := (0 : UInt64)) rfl ?_
  refine own_topD (x' := (FP.l2d (0 : Int64))) (l2d_zero.symm) ?_
  refine own_dstoreN K own_d0_1 (Ls' := #[.val (.ref ar), .val (.double (FP.l2d (0 : Int64))), .second, .unset, .unset, .unset, .unset, .unset]) rfl ?_
  refine own_aloadN K own_d0_2 rfl rfl ?_
  refine own_astoreN K own_d0_3 rfl (Ls' := #[.val (.ref ar), .val (.double (FP.l2d (0 : Int64))), .second, .val (.ref ar), .unset, .unset, .unset, .unset]) rfl ?_
  refine own_aloadN K own_d0_4 rfl rfl ?_
  refine own_arraylength K own_d0_5 H (i := 0) rfl (N := (1 : Int32)) (rfl) ?_
  refine own_istore K own_d0_6 (Ls' := #[.val (.ref ar), .val (.double (FP.l2d (0 : Int64))), .second, .val (.ref ar), .val (.int (1 : Int32)), .unset, .unset, .unset]) rfl ?_
  refine own_iconst K own_d0_8 (v := (0 : Int32)) rfl ?_
  refine own_istore K own_d0_9 (Ls' := #[.val (.ref ar), .val (.double (FP.l2d (0 : Int64))), .second, .val (.ref ar), .val (.int (1 : Int32)), .val (.int (0 : Int32)), .unset, .unset]) rfl ?_
  refine own_iload K own_d0_11 rfl ?_
  refine own_iload K own_d0_13 rfl ?_
  refine own_icmpge K own_d0_15 (fun q => absurd q (by decide)) (fun _ => ?_)
  refine own_aloadN K own_d0_18 rfl rfl ?_
  refine own_iload K own_d0_19 rfl ?_
  refine own_daload K own_d0_21 H (i := 0) rfl (q := 0) (by decide) (rfl) ?_
  refine own_dstore K own_d0_22 (Ls' := #[.val (.ref ar), .val (.double (FP.l2d (0 : Int64))), .second, .val (.ref ar), .val (.int (1 : Int32)), .val (.int (0 : Int32)), .val (.double (FP.l2d x0)), .second]) rfl ?_
  refine own_dloadN K own_d0_24 rfl ?_
  refine own_dload K own_d0_25 rfl ?_
  refine own_dadd K own_d0_27 (nn_w (dadd_w (S0.b53 (by decide)) (s0.b53 (by decide)))) ?_
  refine own_topD (x' := (FP.l2d ((0 : Int64) + x0))) (dadd_w (S0.b53 (by decide)) (s0.b53 (by decide))) ?_
  refine own_dstoreN K own_d0_28 (Ls' := #[.val (.ref ar), .val (.double (FP.l2d ((0 : Int64) + x0))), .second, .val (.ref ar), .val (.int (1 : Int32)), .val (.int (0 : Int32)), .val (.double (FP.l2d x0)), .second]) rfl ?_
  refine own_iinc K own_d0_29 rfl (y := (1 : Int32)) (by decide) (Ls' := #[.val (.ref ar), .val (.double (FP.l2d ((0 : Int64) + x0))), .second, .val (.ref ar), .val (.int (1 : Int32)), .val (.int (1 : Int32)), .val (.double (FP.l2d x0)), .second]) rfl ?_
  refine own_goto K own_d0_32 ?_
  refine own_iload K own_d0_11 rfl ?_
  refine own_iload K own_d0_13 rfl ?_
  refine own_icmpge K own_d0_15 (fun _ => ?_) (fun q => absurd (by decide) q)
  refine own_dloadN K own_d0_35 rfl ?_
  refine own_aloadN K own_d0_36 rfl rfl ?_
  refine own_arraylength K own_d0_37 H (i := 0) rfl (N := (1 : Int32)) (rfl) ?_
  refine own_i2d K own_d0_38 ?_
  refine own_ddiv K own_d0_39 (own_nd _ 1 (by decide)) ?_
  exact own_retD K own_d0_40 (by decide) (by decide) (⟨rfl, rfl⟩)
theorem own_mean2_ef (m : MethodId) (x0 : Addr) : entryFrame m #[(.ref x0)] 8 = mkF m 0 #[.val (.ref x0), .unset, .unset, .unset, .unset, .unset, .unset, .unset] [] := by first | rfl | (simp [entryFrame, mkF, argsToLocals, Value.category, maxLocals]; done)
set_option maxRecDepth 65536 in
set_option maxHeartbeats 40000000 in
theorem own_mean2 {l : Launch} {Z : State} {a0 : Array Value} (hw : own_Z Z a0) {h : Heap} {os : List own_O} {as : List own_A} {ar : Addr} {x0 x1 : Int64} (H : own_H Z h os ((ar, .double, "[D", [(.double (FP.l2d x0)), (.double (FP.l2d x1))]) :: as)) (s0 : own_small 2147483648 x0) (s1 : own_small 2147483648 x1) : own_Met false l Z (⟨"com/example/slotwise/slotwise/Statistics", "mean", "([D)D"⟩ : MethodName) prog_39_method_2_code 8 (some .double) [] ({ frames := 0, cells := 0, slots := 0, locals := 0 } : Room) #[(.ref ar)] h (fun v h' => v = some (.double (FP.ddiv (FP.l2d (((0 : Int64) + x0) + x1)) (FP.i2d (2 : Int32)))) ∧ h' = h) := by
  refine own_met (by first | exact plainFor_of_name (by decide +kernel) | decide +kernel) ?_
  intro p e s m below meth c K
  refine own_cast (own_mean2_ef m _) ?_
  have S0 : own_small 0 (0 : Int64) := own_small.zero
  have S1 := S0.add s0 (by decide) (by decide)
  have S2 := S1.add s1 (by decide) (by decide)
  refine own_dconst0 K own_d0_0 (v := (0 : UInt64)) rfl ?_
  refine own_topD (x' := (FP.l2d (0 : Int64))) (l2d_zero.symm) ?_
  refine own_dstoreN K own_d0_1 (Ls' := #[.val (.ref ar), .val (.double (FP.l2d (0 : Int64))), .second, .unset, .unset, .unset, .unset, .unset]) rfl ?_
  refine own_aloadN K own_d0_2 rfl rfl ?_
  refine own_astoreN K own_d0_3 rfl (Ls' := #[.val (.ref ar), .val (.double (FP.l2d (0 : Int64))), .second, .val (.ref ar), .unset, .unset, .unset, .unset]) rfl ?_
  refine own_aloadN K own_d0_4 rfl rfl ?_
  refine own_arraylength K own_d0_5 H (i := 0) rfl (N := (2 : Int32)) (rfl) ?_
  refine own_istore K own_d0_6 (Ls' := #[.val (.ref ar), .val (.double (FP.l2d (0 : Int64))), .second, .val (.ref ar), .val (.int (2 : Int32)), .unset, .unset, .unset]) rfl ?_
  refine own_iconst K own_d0_8 (v := (0 : Int32)) rfl ?_
  refine own_istore K own_d0_9 (Ls' := #[.val (.ref ar), .val (.double (FP.l2d (0 : Int64))), .second, .val (.ref ar), .val (.int (2 : Int32)), .val (.int (0 : Int32)), .unset, .unset]) rfl ?_
  refine own_iload K own_d0_11 rfl ?_
  refine own_iload K own_d0_13 rfl ?_
  refine own_icmpge K own_d0_15 (fun q => absurd q (by decide)) (fun _ => ?_)
  refine own_aloadN K own_d0_18 rfl rfl ?_
  refine own_iload K own_d0_19 rfl ?_
  refine own_daload K own_d0_21 H (i := 0) rfl (q := 0) (by decide) (rfl) ?_
  refine own_dstore K own_d0_22 (Ls' := #[.val (.ref ar), .val (.double (FP.l2d (0 : Int64))), .second, .val (.ref ar), .val (.int (2 : Int32)), .val (.int (0 : Int32)), .val (.double (FP.l2d x0)), .second]) rfl ?_
  refine own_dloadN K own_d0_24 rfl ?_
  refine own_dload K own_d0_25 rfl ?_
  refine own_dadd K own_d0_27 (nn_w (dadd_w (S0.b53 (by decide)) (s0.b53 (by decide)))) ?_
  refine own_topD (x' := (FP.l2d ((0 : Int64) + x0))) (dadd_w (S0.b53 (by decide)) (s0.b53 (by decide))) ?_
  refine own_dstoreN K own_d0_28 (Ls' := #[.val (.ref ar), .val (.double (FP.l2d ((0 : Int64) + x0))), .second, .val (.ref ar), .val (.int (2 : Int32)), .val (.int (0 : Int32)), .val (.double (FP.l2d x0)), .second]) rfl ?_
  refine own_iinc K own_d0_29 rfl (y := (1 : Int32)) (by decide) (Ls' := #[.val (.ref ar), .val (.double (FP.l2d ((0 : Int64) + x0))), .second, .val (.ref ar), .val (.int (2 : Int32)), .val (.int (1 : Int32)), .val (.double (FP.l2d x0)), .second]) rfl ?_
  refine own_goto K own_d0_32 ?_
  refine own_iload K own_d0_11 rfl ?_
  refine own_iload K own_d0_13 rfl ?_
  refine own_icmpge K own_d0_15 (fun q => absurd q (by decide)) (fun _ => ?_)
  refine own_aloadN K own_d0_18 rfl rfl ?_
  refine own_iload K own_d0_19 rfl ?_
  refine own_daload K own_d0_21 H (i := 0) rfl (q := 1) (by decide) (rfl) ?_
  refine own_dstore K own_d0_22 (Ls' := #[.val (.ref ar), .val (.double (FP.l2d ((0 : Int64) + x0))), .second, .val (.ref ar), .val (.int (2 : Int32)), .val (.int (1 : Int32)), .val (.double (FP.l2d x1)), .second]) rfl ?_
  refine own_dloadN K own_d0_24 rfl ?_
  refine own_dload K own_d0_25 rfl ?_
  refine own_dadd K own_d0_27 (nn_w (dadd_w (S1.b53 (by decide)) (s1.b53 (by decide)))) ?_
  refine own_topD (x' := (FP.l2d (((0 : Int64) + x0) + x1))) (dadd_w (S1.b53 (by decide)) (s1.b53 (by decide))) ?_
  refine own_dstoreN K own_d0_28 (Ls' := #[.val (.ref ar), .val (.double (FP.l2d (((0 : Int64) + x0) + x1))), .second, .val (.ref ar), .val (.int (2 : Int32)), .val (.int (1 : Int32)), .val (.double (FP.l2d x1)), .second]) rfl ?_
  refine own_iinc K own_d0_29 rfl (y := (2 : Int32)) (by decide) (Ls' := #[.val (.ref ar), .val (.double (FP.l2d (((0 : Int64) + x0) + x1))), .second, .val (.ref ar), .val (.int (2 : Int32)), .val (.int (2 : Int32)), .val (.double (FP.l2d x1)), .second]) rfl ?_
  refine own_goto K own_d0_32 ?_
  refine own_iload K own_d0_11 rfl ?_
  refine own_iload K own_d0_13 rfl ?_
  refine own_icmpge K own_d0_15 (fun _ => ?_) (fun q => absurd (by decide) q)
  refine own_dloadN K own_d0_35 rfl ?_
  refine own_aloadN K own_d0_36 rfl rfl ?_
  refine own_arraylength K own_d0_37 H (i := 0) rfl (N := (2 : Int32)) (rfl) ?_
  refine own_i2d K own_d0_38 ?_
  refine own_ddiv K own_d0_39 (own_nd _ 2 (by decide)) ?_
  exact own_retD K own_d0_40 (by decide) (by decide) (⟨rfl, rfl⟩)
theorem own_mean3_ef (m : MethodId) (x0 : Addr) : entryFrame m #[(.ref x0)] 8 = mkF m 0 #[.val (.ref x0), .unset, .unset, .unset, .unset, .unset, .unset, .unset] [] := by first | rfl | (simp [entryFrame, mkF, argsToLocals, Value.category, maxLocals]; done)
set_option maxRecDepth 65536 in
set_option maxHeartbeats 40000000 in
theorem own_mean3 {l : Launch} {Z : State} {a0 : Array Value} (hw : own_Z Z a0) {h : Heap} {os : List own_O} {as : List own_A} {ar : Addr} {x0 x1 x2 : Int64} (H : own_H Z h os ((ar, .double, "[D", [(.double (FP.l2d x0)), (.double (FP.l2d x1)), (.double (FP.l2d x2))]) :: as)) (s0 : own_small 2147483648 x0) (s1 : own_small 2147483648 x1) (s2 : own_small 2147483648 x2) : own_Met false l Z (⟨"com/example/slotwise/slotwise/Statistics", "mean", "([D)D"⟩ : MethodName) prog_39_method_2_code 8 (some .double) [] ({ frames := 0, cells := 0, slots := 0, locals := 0 } : Room) #[(.ref ar)] h (fun v h' => v = some (.double (FP.ddiv (FP.l2d ((((0 : Int64) + x0) + x1) + x2)) (FP.i2d (3 : Int32)))) ∧ h' = h) := by
  refine own_met (by first | exact plainFor_of_name (by decide +kernel) | decide +kernel) ?_
  intro p e s m below meth c K
  refine own_cast (own_mean3_ef m _) ?_
  have S0 : own_small 0 (0 : Int64) := own_small.zero
  have S1 := S0.add s0 (by decide) (by decide)
  have S2 := S1.add s1 (by decide) (by decide)
  have S3 := S2.add s2 (by decide) (by decide)
  refine own_dconst0 K own_d0_0 (v := (0 : UInt64)) rfl ?_
  refine own_topD (x' := (FP.l2d (0 : Int64))) (l2d_zero.symm) ?_
  refine own_dstoreN K own_d0_1 (Ls' := #[.val (.ref ar), .val (.double (FP.l2d (0 : Int64))), .second, .unset, .unset, .unset, .unset, .unset]) rfl ?_
  refine own_aloadN K own_d0_2 rfl rfl ?_
  refine own_astoreN K own_d0_3 rfl (Ls' := #[.val (.ref ar), .val (.double (FP.l2d (0 : Int64))), .second, .val (.ref ar), .unset, .unset, .unset, .unset]) rfl ?_
  refine own_aloadN K own_d0_4 rfl rfl ?_
  refine own_arraylength K own_d0_5 H (i := 0) rfl (N := (3 : Int32)) (rfl) ?_
  refine own_istore K own_d0_6 (Ls' := #[.val (.ref ar), .val (.double (FP.l2d (0 : Int64))), .second, .val (.ref ar), .val (.int (3 : Int32)), .unset, .unset, .unset]) rfl ?_
  refine own_iconst K own_d0_8 (v := (0 : Int32)) rfl ?_
  refine own_istore K own_d0_9 (Ls' := #[.val (.ref ar), .val (.double (FP.l2d (0 : Int64))), .second, .val (.ref ar), .val (.int (3 : Int32)), .val (.int (0 : Int32)), .unset, .unset]) rfl ?_
  refine own_iload K own_d0_11 rfl ?_
  refine own_iload K own_d0_13 rfl ?_
  refine own_icmpge K own_d0_15 (fun q => absurd q (by decide)) (fun _ => ?_)
  refine own_aloadN K own_d0_18 rfl rfl ?_
  refine own_iload K own_d0_19 rfl ?_
  refine own_daload K own_d0_21 H (i := 0) rfl (q := 0) (by decide) (rfl) ?_
  refine own_dstore K own_d0_22 (Ls' := #[.val (.ref ar), .val (.double (FP.l2d (0 : Int64))), .second, .val (.ref ar), .val (.int (3 : Int32)), .val (.int (0 : Int32)), .val (.double (FP.l2d x0)), .second]) rfl ?_
  refine own_dloadN K own_d0_24 rfl ?_
  refine own_dload K own_d0_25 rfl ?_
  refine own_dadd K own_d0_27 (nn_w (dadd_w (S0.b53 (by decide)) (s0.b53 (by decide)))) ?_
  refine own_topD (x' := (FP.l2d ((0 : Int64) + x0))) (dadd_w (S0.b53 (by decide)) (s0.b53 (by decide))) ?_
  refine own_dstoreN K own_d0_28 (Ls' := #[.val (.ref ar), .val (.double (FP.l2d ((0 : Int64) + x0))), .second, .val (.ref ar), .val (.int (3 : Int32)), .val (.int (0 : Int32)), .val (.double (FP.l2d x0)), .second]) rfl ?_
  refine own_iinc K own_d0_29 rfl (y := (1 : Int32)) (by decide) (Ls' := #[.val (.ref ar), .val (.double (FP.l2d ((0 : Int64) + x0))), .second, .val (.ref ar), .val (.int (3 : Int32)), .val (.int (1 : Int32)), .val (.double (FP.l2d x0)), .second]) rfl ?_
  refine own_goto K own_d0_32 ?_
  refine own_iload K own_d0_11 rfl ?_
  refine own_iload K own_d0_13 rfl ?_
  refine own_icmpge K own_d0_15 (fun q => absurd q (by decide)) (fun _ => ?_)
  refine own_aloadN K own_d0_18 rfl rfl ?_
  refine own_iload K own_d0_19 rfl ?_
  refine own_daload K own_d0_21 H (i := 0) rfl (q := 1) (by decide) (rfl) ?_
  refine own_dstore K own_d0_22 (Ls' := #[.val (.ref ar), .val (.double (FP.l2d ((0 : Int64) + x0))), .second, .val (.ref ar), .val (.int (3 : Int32)), .val (.int (1 : Int32)), .val (.double (FP.l2d x1)), .second]) rfl ?_
  refine own_dloadN K own_d0_24 rfl ?_
  refine own_dload K own_d0_25 rfl ?_
  refine own_dadd K own_d0_27 (nn_w (dadd_w (S1.b53 (by decide)) (s1.b53 (by decide)))) ?_
  refine own_topD (x' := (FP.l2d (((0 : Int64) + x0) + x1))) (dadd_w (S1.b53 (by decide)) (s1.b53 (by decide))) ?_
  refine own_dstoreN K own_d0_28 (Ls' := #[.val (.ref ar), .val (.double (FP.l2d (((0 : Int64) + x0) + x1))), .second, .val (.ref ar), .val (.int (3 : Int32)), .val (.int (1 : Int32)), .val (.double (FP.l2d x1)), .second]) rfl ?_
  refine own_iinc K own_d0_29 rfl (y := (2 : Int32)) (by decide) (Ls' := #[.val (.ref ar), .val (.double (FP.l2d (((0 : Int64) + x0) + x1))), .second, .val (.ref ar), .val (.int (3 : Int32)), .val (.int (2 : Int32)), .val (.double (FP.l2d x1)), .second]) rfl ?_
  refine own_goto K own_d0_32 ?_
  refine own_iload K own_d0_11 rfl ?_
  refine own_iload K own_d0_13 rfl ?_
  refine own_icmpge K own_d0_15 (fun q => absurd q (by decide)) (fun _ => ?_)
  refine own_aloadN K own_d0_18 rfl rfl ?_
  refine own_iload K own_d0_19 rfl ?_
  refine own_daload K own_d0_21 H (i := 0) rfl (q := 2) (by decide) (rfl) ?_
  refine own_dstore K own_d0_22 (Ls' := #[.val (.ref ar), .val (.double (FP.l2d (((0 : Int64) + x0) + x1))), .second, .val (.ref ar), .val (.int (3 : Int32)), .val (.int (2 : Int32)), .val (.double (FP.l2d x2)), .second]) rfl ?_
  refine own_dloadN K own_d0_24 rfl ?_
  refine own_dload K own_d0_25 rfl ?_
  refine own_dadd K own_d0_27 (nn_w (dadd_w (S2.b53 (by decide)) (s2.b53 (by decide)))) ?_
  refine own_topD (x' := (FP.l2d ((((0 : Int64) + x0) + x1) + x2))) (dadd_w (S2.b53 (by decide)) (s2.b53 (by decide))) ?_
  refine own_dstoreN K own_d0_28 (Ls' := #[.val (.ref ar), .val (.double (FP.l2d ((((0 : Int64) + x0) + x1) + x2))), .second, .val (.ref ar), .val (.int (3 : Int32)), .val (.int (2 : Int32)), .val (.double (FP.l2d x2)), .second]) rfl ?_
  refine own_iinc K own_d0_29 rfl (y := (3 : Int32)) (by decide) (Ls' := #[.val (.ref ar), .val (.double (FP.l2d ((((0 : Int64) + x0) + x1) + x2))), .second, .val (.ref ar), .val (.int (3 : Int32)), .val (.int (3 : Int32)), .val (.double (FP.l2d x2)), .second]) rfl ?_
  refine own_goto K own_d0_32 ?_
  refine own_iload K own_d0_11 rfl ?_
  refine own_iload K own_d0_13 rfl ?_
  refine own_icmpge K own_d0_15 (fun _ => ?_) (fun q => absurd (by decide) q)
  refine own_dloadN K own_d0_35 rfl ?_
  refine own_aloadN K own_d0_36 rfl rfl ?_
  refine own_arraylength K own_d0_37 H (i := 0) rfl (N := (3 : Int32)) (rfl) ?_
  refine own_i2d K own_d0_38 ?_
  refine own_ddiv K own_d0_39 (own_nd _ 3 (by decide)) ?_
  exact own_retD K own_d0_40 (by decide) (by decide) (⟨rfl, rfl⟩)
theorem own_mean4_ef (m : MethodId) (x0 : Addr) : entryFrame m #[(.ref x0)] 8 = mkF m 0 #[.val (.ref x0), .unset, .unset, .unset, .unset, .unset, .unset, .unset] [] := by first | rfl | (simp [entryFrame, mkF, argsToLocals, Value.category, maxLocals]; done)
set_option maxRecDepth 65536 in
set_option maxHeartbeats 40000000 in
theorem own_mean4 {l : Launch} {Z : State} {a0 : Array Value} (hw : own_Z Z a0) {h : Heap} {os : List own_O} {as : List own_A} {ar : Addr} {x0 x1 x2 x3 : Int64} (H : own_H Z h os ((ar, .double, "[D", [(.double (FP.l2d x0)), (.double (FP.l2d x1)), (.double (FP.l2d x2)), (.double (FP.l2d x3))]) :: as)) (s0 : own_small 2147483648 x0) (s1 : own_small 2147483648 x1) (s2 : own_small 2147483648 x2) (s3 : own_small 2147483648 x3) : own_Met false l Z (⟨"com/example/slotwise/slotwise/Statistics", "mean", "([D)D"⟩ : MethodName) prog_39_method_2_code 8 (some .double) [] ({ frames := 0, cells := 0, slots := 0, locals := 0 } : Room) #[(.ref ar)] h (fun v h' => v = some (.double (FP.ddiv (FP.l2d (((((0 : Int64) + x0) + x1) + x2) + x3)) (FP.i2d (4 : Int32)))) ∧ h' = h) := by
  refine own_met (by first | exact plainFor_of_name (by decide +kernel) | decide +kernel) ?_
  intro p e s m below meth c K
  refine own_cast (own_mean4_ef m _) ?_
  have S0 : own_small 0 (0 : Int64) := own_small.zero
  have S1 := S0.add s0 (by decide) (by decide)
  have S2 := S1.add s1 (by decide) (by decide)
  have S3 := S2.add s2 (by decide) (by decide)
  have S4 := S3.add s3 (by decide) (by decide)
  refine own_dconst0 K own_d0_0 (v := (0 : UInt64)) rfl ?_
  refine own_topD (x' := (FP.l2d (0 : Int64))) (l2d_zero.symm) ?_
  refine own_dstoreN K own_d0_1 (Ls' := #[.val (.ref ar), .val (.double (FP.l2d (0 : Int64))), .second, .unset, .unset, .unset, .unset, .unset]) rfl ?_
  refine own_aloadN K own_d0_2 rfl rfl ?_
  refine own_astoreN K own_d0_3 rfl (Ls' := #[.val (.ref ar), .val (.double (FP.l2d (0 : Int64))), .second, .val (.ref ar), .unset, .unset, .unset, .unset]) rfl ?_
  refine own_aloadN K own_d0_4 rfl rfl ?_
  refine own_arraylength K own_d0_5 H (i := 0) rfl (N := (4 : Int32)) (rfl) ?_
  refine own_istore K own_d0_6 (Ls' := #[.val (.ref ar), .val (.double (FP.l2d (0 : Int64))), .second, .val (.ref ar), .val (.int (4 : Int32)), .unset, .unset, .unset]) rfl ?_
  refine own_iconst K own_d0_8 (v := (0 : Int32)) rfl ?_
  refine own_istore K own_d0_9 (Ls' := #[.val (.ref ar), .val (.double (FP.l2d (0 : Int64))), .second, .val (.ref ar), .val (.int (4 : Int32)), .val (.int (0 : Int32)), .unset, .unset]) rfl ?_
  refine own_iload K own_d0_11 rfl ?_
  refine own_iload K own_d0_13 rfl ?_
  refine own_icmpge K own_d0_15 (fun q => absurd q (by decide)) (fun _ => ?_)
  refine own_aloadN K own_d0_18 rfl rfl ?_
  refine own_iload K own_d0_19 rfl ?_
  refine own_daload K own_d0_21 H (i := 0) rfl (q := 0) (by decide) (rfl) ?_
  refine own_dstore K own_d0_22 (Ls' := #[.val (.ref ar), .val (.double (FP.l2d (0 : Int64))), .second, .val (.ref ar), .val (.int (4 : Int32)), .val (.int (0 : Int32)), .val (.double (FP.l2d x0)), .second]) rfl ?_
  refine own_dloadN K own_d0_24 rfl ?_
  refine own_dload K own_d0_25 rfl ?_
  refine own_dadd K own_d0_27 (nn_w (dadd_w (S0.b53 (by decide)) (s0.b53 (by decide)))) ?_
  refine own_topD (x' := (FP.l2d ((0 : Int64) + x0))) (dadd_w (S0.b53 (by decide)) (s0.b53 (by decide))) ?_
  refine own_dstoreN K own_d0_28 (Ls' := #[.val (.ref ar), .val (.double (FP.l2d ((0 : Int64) + x0))), .second, .val (.ref ar), .val (.int (4 : Int32)), .val (.int (0 : Int32)), .val (.double (FP.l2d x0)), .second]) rfl ?_
  refine own_iinc K own_d0_29 rfl (y := (1 : Int32)) (by decide) (Ls' := #[.val (.ref ar), .val (.double (FP.l2d ((0 : Int64) + x0))), .second, .val (.ref ar), .val (.int (4 : Int32)), .val (.int (1 : Int32)), .val (.double (FP.l2d x0)), .second]) rfl ?_
  refine own_goto K own_d0_32 ?_
  refine own_iload K own_d0_11 rfl ?_
  refine own_iload K own_d0_13 rfl ?_
  refine own_icmpge K own_d0_15 (fun q => absurd q (by decide)) (fun _ => ?_)
  refine own_aloadN K own_d0_18 rfl rfl ?_
  refine own_iload K own_d0_19 rfl ?_
  refine own_daload K own_d0_21 H (i := 0) rfl (q := 1) (by decide) (rfl) ?_
  refine own_dstore K own_d0_22 (Ls' := #[.val (.ref ar), .val (.double (FP.l2d ((0 : Int64) + x0))), .second, .val (.ref ar), .val (.int (4 : Int32)), .val (.int (1 : Int32)), .val (.double (FP.l2d x1)), .second]) rfl ?_
  refine own_dloadN K own_d0_24 rfl ?_
  refine own_dload K own_d0_25 rfl ?_
  refine own_dadd K own_d0_27 (nn_w (dadd_w (S1.b53 (by decide)) (s1.b53 (by decide)))) ?_
  refine own_topD (x' := (FP.l2d (((0 : Int64) + x0) + x1))) (dadd_w (S1.b53 (by decide)) (s1.b53 (by decide))) ?_
  refine own_dstoreN K own_d0_28 (Ls' := #[.val (.ref ar), .val (.double (FP.l2d (((0 : Int64) + x0) + x1))), .second, .val (.ref ar), .val (.int (4 : Int32)), .val (.int (1 : Int32)), .val (.double (FP.l2d x1)), .second]) rfl ?_
  refine own_iinc K own_d0_29 rfl (y := (2 : Int32)) (by decide) (Ls' := #[.val (.ref ar), .val (.double (FP.l2d (((0 : Int64) + x0) + x1))), .second, .val (.ref ar), .val (.int (4 : Int32)), .val (.int (2 : Int32)), .val (.double (FP.l2d x1)), .second]) rfl ?_
  refine own_goto K own_d0_32 ?_
  refine own_iload K own_d0_11 rfl ?_
  refine own_iload K own_d0_13 rfl ?_
  refine own_icmpge K own_d0_15 (fun q => absurd q (by decide)) (fun _ => ?_)
  refine own_aloadN K own_d0_18 rfl rfl ?_
  refine own_iload K own_d0_19 rfl ?_
  refine own_daload K own_d0_21 H (i := 0) rfl (q := 2) (by decide) (rfl) ?_
  refine own_dstore K own_d0_22 (Ls' := #[.val (.ref ar), .val (.double (FP.l2d (((0 : Int64) + x0) + x1))), .second, .val (.ref ar), .val (.int (4 : Int32)), .val (.int (2 : Int32)), .val (.double (FP.l2d x2)), .second]) rfl ?_
  refine own_dloadN K own_d0_24 rfl ?_
  refine own_dload K own_d0_25 rfl ?_
  refine own_dadd K own_d0_27 (nn_w (dadd_w (S2.b53 (by decide)) (s2.b53 (by decide)))) ?_
  refine own_topD (x' := (FP.l2d ((((0 : Int64) + x0) + x1) + x2))) (dadd_w (S2.b53 (by decide)) (s2.b53 (by decide))) ?_
  refine own_dstoreN K own_d0_28 (Ls' := #[.val (.ref ar), .val (.double (FP.l2d ((((0 : Int64) + x0) + x1) + x2))), .second, .val (.ref ar), .val (.int (4 : Int32)), .val (.int (2 : Int32)), .val (.double (FP.l2d x2)), .second]) rfl ?_
  refine own_iinc K own_d0_29 rfl (y := (3 : Int32)) (by decide) (Ls' := #[.val (.ref ar), .val (.double (FP.l2d ((((0 : Int64) + x0) + x1) + x2))), .second, .val (.ref ar), .val (.int (4 : Int32)), .val (.int (3 : Int32)), .val (.double (FP.l2d x2)), .second]) rfl ?_
  refine own_goto K own_d0_32 ?_
  refine own_iload K own_d0_11 rfl ?_
  refine own_iload K own_d0_13 rfl ?_
  refine own_icmpge K own_d0_15 (fun q => absurd q (by decide)) (fun _ => ?_)
  refine own_aloadN K own_d0_18 rfl rfl ?_
  refine own_iload K own_d0_19 rfl ?_
  refine own_daload K own_d0_21 H (i := 0) rfl (q := 3) (by decide) (rfl) ?_
  refine own_dstore K own_d0_22 (Ls' := #[.val (.ref ar), .val (.double (FP.l2d ((((0 : Int64) + x0) + x1) + x2))), .second, .val (.ref ar), .val (.int (4 : Int32)), .val (.int (3 : Int32)), .val (.double (FP.l2d x3)), .second]) rfl ?_
  refine own_dloadN K own_d0_24 rfl ?_
  refine own_dload K own_d0_25 rfl ?_
  refine own_dadd K own_d0_27 (nn_w (dadd_w (S3.b53 (by decide)) (s3.b53 (by decide)))) ?_
  refine own_topD (x' := (FP.l2d (((((0 : Int64) + x0) + x1) + x2) + x3))) (dadd_w (S3.b53 (by decide)) (s3.b53 (by decide))) ?_
  refine own_dstoreN K own_d0_28 (Ls' := #[.val (.ref ar), .val (.double (FP.l2d (((((0 : Int64) + x0) + x1) + x2) + x3))), .second, .val (.ref ar), .val (.int (4 : Int32)), .val (.int (3 : Int32)), .val (.double (FP.l2d x3)), .second]) rfl ?_
  refine own_iinc K own_d0_29 rfl (y := (4 : Int32)) (by decide) (Ls' := #[.val (.ref ar), .val (.double (FP.l2d (((((0 : Int64) + x0) + x1) + x2) + x3))), .second, .val (.ref ar), .val (.int (4 : Int32)), .val (.int (4 : Int32)), .val (.double (FP.l2d x3)), .second]) rfl ?_
  refine own_goto K own_d0_32 ?_
  refine own_iload K own_d0_11 rfl ?_
  refine own_iload K own_d0_13 rfl ?_
  refine own_icmpge K own_d0_15 (fun _ => ?_) (fun q => absurd (by decide) q)
  refine own_dloadN K own_d0_35 rfl ?_
  refine own_aloadN K own_d0_36 rfl rfl ?_
  refine own_arraylength K own_d0_37 H (i := 0) rfl (N := (4 : Int32)) (rfl) ?_
  refine own_i2d K own_d0_38 ?_
  refine own_ddiv K own_d0_39 (own_nd _ 4 (by decide)) ?_
  exact own_retD K own_d0_40 (by decide) (by decide) (⟨rfl, rfl⟩)
theorem own_law_ef (m : MethodId) (x0 : Int32) (x1 : Int32) (x2 : Int32) (x3 : Int32) (x4 : Int32) : entryFrame m #[(.int x0), (.int x1), (.int x2), (.int x3), (.int x4)] 13 = mkF m 0 #[.val (.int x0), .val (.int x1), .val (.int x2), .val (.int x3), .val (.int x4), .unset, .unset, .unset, .unset, .unset, .unset, .unset, .unset] [] := by first | rfl | (simp [entryFrame, mkF, argsToLocals, Value.category, maxLocals]; done)
set_option maxRecDepth 65536 in
set_option maxHeartbeats 40000000 in
theorem own_law {l : Launch} {Z : State} {a0 : Array Value} (hw : own_Z Z a0) {kk ia ib ic id : Int32} : own_Met false l Z (⟨"com/example/slotwise/slotwise/StatisticsMeanPinLaw", "law", "(IIIII)Z"⟩ : MethodName) code 13 (some .boolean) tables_1 room_1 #[(.int kk), (.int ia), (.int ib), (.int ic), (.int id)] Z.heap (fun v h' => v = some (.int 1)) := by
  refine own_met (by first | exact plainFor_of_name (by decide +kernel) | decide +kernel) ?_
  intro p e s m below meth c K
  refine own_cast (own_law_ef m _ _ _ _ _) ?_
  have H := own_H.start Z
  rcases own_and3 kk with q | q | q | q
  · refine own_iloadN K own_d1_0 rfl ?_
    refine own_iconst K own_d1_1 (v := (3 : Int32)) rfl ?_
    refine own_iand K own_d1_2 ?_
    refine own_topI (x' := (0 : Int32)) (q) ?_
    refine own_iconst K own_d1_3 (v := (1 : Int32)) rfl ?_
    refine own_iadd K own_d1_4 ?_
    refine own_topI (x' := (1 : Int32)) (by decide) ?_
    refine own_istore K own_d1_5 (Ls' := #[.val (.int kk), .val (.int ia), .val (.int ib), .val (.int ic), .val (.int id), .val (.int (1 : Int32)), .unset, .unset, .unset, .unset, .unset, .unset, .unset]) rfl ?_
    refine own_iload K own_d1_7 rfl ?_
    refine own_newarray K own_d1_9 (ty := .double) rfl (own_w0 hw) H (q := 1) (by decide) (ad := "[D") (by decide +kernel) (vs := [(.double (0 : UInt64))]) rfl (by decide) (by decide) (by decide) ?_
    intro h1 a3 H2
    replace H2 : own_H Z h1 ([]) ((a3, .double, "[D", [(.double (0 : UInt64))]) :: []) := H2
    refine own_astore K own_d1_11 rfl (Ls' := #[.val (.int kk), .val (.int ia), .val (.int ib), .val (.int ic), .val (.int id), .val (.int (1 : Int32)), .val (.ref a3), .unset, .unset, .unset, .unset, .unset, .unset]) rfl ?_
    refine own_aload K own_d1_13 rfl rfl ?_
    refine own_iconst K own_d1_15 (v := (0 : Int32)) rfl ?_
    refine own_iloadN K own_d1_16 rfl ?_
    refine own_i2d K own_d1_17 ?_
    refine own_topD (x' := (FP.l2d ia.toInt64)) (i2d_w ia) ?_
    refine own_dastore K own_d1_18 H2 (i := 0) rfl (q := 0) (by decide) (own_le rfl) ?_
    intro h4 H5
    replace H5 : own_H Z h4 ([]) ((a3, .double, "[D", [(.double (FP.l2d ia.toInt64))]) :: []) := H5
    refine own_iloadN K own_d1_19 rfl ?_
    refine own_i2l K own_d1_20 ?_
    refine own_lstore K own_d1_21 (Ls' := #[.val (.int kk), .val (.int ia), .val (.int ib), .val (.int ic), .val (.int id), .val (.int (1 : Int32)), .val (.ref a3), .val (.long (ia.toInt64)), .second, .unset, .unset, .unset, .unset]) rfl ?_
    refine own_iload K own_d1_23 rfl ?_
    refine own_iconst K own_d1_25 (v := (1 : Int32)) rfl ?_
    refine own_icmple K own_d1_26 (fun _ => ?_) (fun q => absurd (by decide) q)
    refine own_iload K own_d1_42 rfl ?_
    refine own_iconst K own_d1_44 (v := (2 : Int32)) rfl ?_
    refine own_icmple K own_d1_45 (fun _ => ?_) (fun q => absurd (by decide) q)
    refine own_iload K own_d1_61 rfl ?_
    refine own_iconst K own_d1_63 (v := (3 : Int32)) rfl ?_
    refine own_icmple K own_d1_64 (fun _ => ?_) (fun q => absurd (by decide) q)
    refine own_lload K own_d1_82 rfl ?_
    refine own_l2d K own_d1_84 ?_
    refine own_iload K own_d1_85 rfl ?_
    refine own_i2d K own_d1_87 ?_
    refine own_ddiv K own_d1_88 (own_nd _ _ (by decide)) ?_
    refine own_dstore K own_d1_89 (Ls' := #[.val (.int kk), .val (.int ia), .val (.int ib), .val (.int ic), .val (.int id), .val (.int (1 : Int32)), .val (.ref a3), .val (.long (ia.toInt64)), .second, .val (.double (FP.ddiv (FP.l2d (ia.toInt64)) (FP.i2d (1 : Int32)))), .second, .unset, .unset]) rfl ?_
    refine own_aload K own_d1_91 rfl rfl ?_
    refine own_static K own_d1_93 (own_w1 hw) (own_w2 hw) (own_w3 hw) (own_w4 hw) (argsL := [(.ref a3)]) (rest := []) (own_mean1 hw H5 (own_small.of _)) own_pd0 rfl rfl rfl (by decide) (W := 0) (Nat.le_of_eq rfl) (by decide) (by decide) (by decide) (by decide) ?_
    intro v8 h6 q7
    obtain ⟨rfl, rfl⟩ := q7
    refine own_dstore K own_d1_96 (Ls' := #[.val (.int kk), .val (.int ia), .val (.int ib), .val (.int ic), .val (.int id), .val (.int (1 : Int32)), .val (.ref a3), .val (.long (ia.toInt64)), .second, .val (.double (FP.ddiv (FP.l2d (ia.toInt64)) (FP.i2d (1 : Int32)))), .second, .val (.double (FP.ddiv (FP.l2d ((0 : Int64) + ia.toInt64)) (FP.i2d (1 : Int32)))), .second]) rfl ?_
    refine own_dload K own_d1_98 rfl ?_
    refine own_dload K own_d1_100 rfl ?_
    refine own_dcmp K own_d1_102 ?_
    refine own_ifne K own_d1_103 (fun q => absurd q (fun q => q (dcmpV_eq (by rw [Int64.zero_add]) (own_nd _ _ (by decide)) _))) (fun _ => ?_)
    refine own_iconst K own_d1_106 (v := (1 : Int32)) rfl ?_
    refine own_goto K own_d1_107 ?_
    exact own_retZ K (by first | exact Or.inl rfl | exact Or.inr rfl | decide) own_d1_111 (by decide) (by decide) (rfl)
  · refine own_iloadN K own_d1_0 rfl ?_
    refine own_iconst K own_d1_1 (v := (3 : Int32)) rfl ?_
    refine own_iand K own_d1_2 ?_
    refine own_topI (x' := (1 : Int32)) (q) ?_
    refine own_iconst K own_d1_3 (v := (1 : Int32)) rfl ?_
    refine own_iadd K own_d1_4 ?_
    refine own_topI (x' := (2 : Int32)) (by decide) ?_
    refine own_istore K own_d1_5 (Ls' := #[.val (.int kk), .val (.int ia), .val (.int ib), .val (.int ic), .val (.int id), .val (.int (2 : Int32)), .unset, .unset, .unset, .unset, .unset, .unset, .unset]) rfl ?_
    refine own_iload K own_d1_7 rfl ?_
    refine own_newarray K own_d1_9 (ty := .double) rfl (own_w0 hw) H (q := 2) (by decide) (ad := "[D") (by decide +kernel) (vs := [(.double (0 : UInt64)), (.double (0 : UInt64))]) rfl (by decide) (by decide) (by decide) ?_
    intro h1 a3 H2
    replace H2 : own_H Z h1 ([]) ((a3, .double, "[D", [(.double (0 : UInt64)), (.double (0 : UInt64))]) :: []) := H2
    refine own_astore K own_d1_11 rfl (Ls' := #[.val (.int kk), .val (.int ia), .val (.int ib), .val (.int ic), .val (.int id), .val (.int (2 : Int32)), .val (.ref a3), .unset, .unset, .unset, .unset, .unset, .unset]) rfl ?_
    refine own_aload K own_d1_13 rfl rfl ?_
    refine own_iconst K own_d1_15 (v := (0 : Int32)) rfl ?_
    refine own_iloadN K own_d1_16 rfl ?_
    refine own_i2d K own_d1_17 ?_
    refine own_topD (x' := (FP.l2d ia.toInt64)) (i2d_w ia) ?_
    refine own_dastore K own_d1_18 H2 (i := 0) rfl (q := 0) (by decide) (own_le rfl) ?_
    intro h4 H5
    replace H5 : own_H Z h4 ([]) ((a3, .double, "[D", [(.double (FP.l2d ia.toInt64)), (.double (0 : UInt64))]) :: []) := H5
    refine own_iloadN K own_d1_19 rfl ?_
    refine own_i2l K own_d1_20 ?_
    refine own_lstore K own_d1_21 (Ls' := #[.val (.int kk), .val (.int ia), .val (.int ib), .val (.int ic), .val (.int id), .val (.int (2 : Int32)), .val (.ref a3), .val (.long (ia.toInt64)), .second, .unset, .unset, .unset, .unset]) rfl ?_
    refine own_iload K own_d1_23 rfl ?_
    refine own_iconst K own_d1_25 (v := (1 : Int32)) rfl ?_
    refine own_icmple K own_d1_26 (fun q => absurd q (by decide)) (fun _ => ?_)
    refine own_aload K own_d1_29 rfl rfl ?_
    refine own_iconst K own_d1_31 (v := (1 : Int32)) rfl ?_
    refine own_iloadN K own_d1_32 rfl ?_
    refine own_i2d K own_d1_33 ?_
    refine own_topD (x' := (FP.l2d ib.toInt64)) (i2d_w ib) ?_
    refine own_dastore K own_d1_34 H5 (i := 0) rfl (q := 1) (by decide) (own_le rfl) ?_
    intro h6 H7
    replace H7 : own_H Z h6 ([]) ((a3, .double, "[D", [(.double (FP.l2d ia.toInt64)), (.double (FP.l2d ib.toInt64))]) :: []) := H7
    refine own_lload K own_d1_35 rfl ?_
    refine own_iloadN K own_d1_37 rfl ?_
    refine own_i2l K own_d1_38 ?_
    refine own_ladd K own_d1_39 ?_
    refine own_lstore K own_d1_40 (Ls' := #[.val (.int kk), .val (.int ia), .val (.int ib), .val (.int ic), .val (.int id), .val (.int (2 : Int32)), .val (.ref a3), .val (.long ((ia.toInt64) + (ib.toInt64))), .second, .unset, .unset, .unset, .unset]) rfl ?_
    refine own_iload K own_d1_42 rfl ?_
    refine own_iconst K own_d1_44 (v := (2 : Int32)) rfl ?_
    refine own_icmple K own_d1_45 (fun _ => ?_) (fun q => absurd (by decide) q)
    refine own_iload K own_d1_61 rfl ?_
    refine own_iconst K own_d1_63 (v := (3 : Int32)) rfl ?_
    refine own_icmple K own_d1_64 (fun _ => ?_) (fun q => absurd (by decide) q)
    refine own_lload K own_d1_82 rfl ?_
    refine own_l2d K own_d1_84 ?_
    refine own_iload K own_d1_85 rfl ?_
    refine own_i2d K own_d1_87 ?_
    refine own_ddiv K own_d1_88 (own_nd _ _ (by decide)) ?_
    refine own_dstore K own_d1_89 (Ls' := #[.val (.int kk), .val (.int ia), .val (.int ib), .val (.int ic), .val (.int id), .val (.int (2 : Int32)), .val (.ref a3), .val (.long ((ia.toInt64) + (ib.toInt64))), .second, .val (.double (FP.ddiv (FP.l2d ((ia.toInt64) + (ib.toInt64))) (FP.i2d (2 : Int32)))), .second, .unset, .unset]) rfl ?_
    refine own_aload K own_d1_91 rfl rfl ?_
    refine own_static K own_d1_93 (own_w1 hw) (own_w2 hw) (own_w3 hw) (own_w4 hw) (argsL := [(.ref a3)]) (rest := []) (own_mean2 hw H7 (own_small.of _) (own_small.of _)) own_pd0 rfl rfl rfl (by decide) (W := 0) (Nat.le_of_eq rfl) (by decide) (by decide) (by decide) (by decide) ?_
    intro v10 h8 q9
    obtain ⟨rfl, rfl⟩ := q9
    refine own_dstore K own_d1_96 (Ls' := #[.val (.int kk), .val (.int ia), .val (.int ib), .val (.int ic), .val (.int id), .val (.int (2 : Int32)), .val (.ref a3), .val (.long ((ia.toInt64) + (ib.toInt64))), .second, .val (.double (FP.ddiv (FP.l2d ((ia.toInt64) + (ib.toInt64))) (FP.i2d (2 : Int32)))), .second, .val (.double (FP.ddiv (FP.l2d (((0 : Int64) + ia.toInt64) + ib.toInt64)) (FP.i2d (2 : Int32)))), .second]) rfl ?_
    refine own_dload K own_d1_98 rfl ?_
    refine own_dload K own_d1_100 rfl ?_
    refine own_dcmp K own_d1_102 ?_
    refine own_ifne K own_d1_103 (fun q => absurd q (fun q => q (dcmpV_eq (by rw [Int64.zero_add]) (own_nd _ _ (by decide)) _))) (fun _ => ?_)
    refine own_iconst K own_d1_106 (v := (1 : Int32)) rfl ?_
    refine own_goto K own_d1_107 ?_
    exact own_retZ K (by first | exact Or.inl rfl | exact Or.inr rfl | decide) own_d1_111 (by decide) (by decide) (rfl)
  · refine own_iloadN K own_d1_0 rfl ?_
    refine own_iconst K own_d1_1 (v := (3 : Int32)) rfl ?_
    refine own_iand K own_d1_2 ?_
    refine own_topI (x' := (2 : Int32)) (q) ?_
    refine own_iconst K own_d1_3 (v := (1 : Int32)) rfl ?_
    refine own_iadd K own_d1_4 ?_
    refine own_topI (x' := (3 : Int32)) (by decide) ?_
    refine own_istore K own_d1_5 (Ls' := #[.val (.int kk), .val (.int ia), .val (.int ib), .val (.int ic), .val (.int id), .val (.int (3 : Int32)), .unset, .unset, .unset, .unset, .unset, .unset, .unset]) rfl ?_
    refine own_iload K own_d1_7 rfl ?_
    refine own_newarray K own_d1_9 (ty := .double) rfl (own_w0 hw) H (q := 3) (by decide) (ad := "[D") (by decide +kernel) (vs := [(.double (0 : UInt64)), (.double (0 : UInt64)), (.double (0 : UInt64))]) rfl (by decide) (by decide) (by decide) ?_
    intro h1 a3 H2
    replace H2 : own_H Z h1 ([]) ((a3, .double, "[D", [(.double (0 : UInt64)), (.double (0 : UInt64)), (.double (0 : UInt64))]) :: []) := H2
    refine own_astore K own_d1_11 rfl (Ls' := #[.val (.int kk), .val (.int ia), .val (.int ib), .val (.int ic), .val (.int id), .val (.int (3 : Int32)), .val (.ref a3), .unset, .unset, .unset, .unset, .unset, .unset]) rfl ?_
    refine own_aload K own_d1_13 rfl rfl ?_
    refine own_iconst K own_d1_15 (v := (0 : Int32)) rfl ?_
    refine own_iloadN K own_d1_16 rfl ?_
    refine own_i2d K own_d1_17 ?_
    refine own_topD (x' := (FP.l2d ia.toInt64)) (i2d_w ia) ?_
    refine own_dastore K own_d1_18 H2 (i := 0) rfl (q := 0) (by decide) (own_le rfl) ?_
    intro h4 H5
    replace H5 : own_H Z h4 ([]) ((a3, .double, "[D", [(.double (FP.l2d ia.toInt64)), (.double (0 : UInt64)), (.double (0 : UInt64))]) :: []) := H5
    refine own_iloadN K own_d1_19 rfl ?_
    refine own_i2l K own_d1_20 ?_
    refine own_lstore K own_d1_21 (Ls' := #[.val (.int kk), .val (.int ia), .val (.int ib), .val (.int ic), .val (.int id), .val (.int (3 : Int32)), .val (.ref a3), .val (.long (ia.toInt64)), .second, .unset, .unset, .unset, .unset]) rfl ?_
    refine own_iload K own_d1_23 rfl ?_
    refine own_iconst K own_d1_25 (v := (1 : Int32)) rfl ?_
    refine own_icmple K own_d1_26 (fun q => absurd q (by decide)) (fun _ => ?_)
    refine own_aload K own_d1_29 rfl rfl ?_
    refine own_iconst K own_d1_31 (v := (1 : Int32)) rfl ?_
    refine own_iloadN K own_d1_32 rfl ?_
    refine own_i2d K own_d1_33 ?_
    refine own_topD (x' := (FP.l2d ib.toInt64)) (i2d_w ib) ?_
    refine own_dastore K own_d1_34 H5 (i := 0) rfl (q := 1) (by decide) (own_le rfl) ?_
    intro h6 H7
    replace H7 : own_H Z h6 ([]) ((a3, .double, "[D", [(.double (FP.l2d ia.toInt64)), (.double (FP.l2d ib.toInt64)), (.double (0 : UInt64))]) :: []) := H7
    refine own_lload K own_d1_35 rfl ?_
    refine own_iloadN K own_d1_37 rfl ?_
    refine own_i2l K own_d1_38 ?_
    refine own_ladd K own_d1_39 ?_
    refine own_lstore K own_d1_40 (Ls' := #[.val (.int kk), .val (.int ia), .val (.int ib), .val (.int ic), .val (.int id), .val (.int (3 : Int32)), .val (.ref a3), .val (.long ((ia.toInt64) + (ib.toInt64))), .second, .unset, .unset, .unset, .unset]) rfl ?_
    refine own_iload K own_d1_42 rfl ?_
    refine own_iconst K own_d1_44 (v := (2 : Int32)) rfl ?_
    refine own_icmple K own_d1_45 (fun q => absurd q (by decide)) (fun _ => ?_)
    refine own_aload K own_d1_48 rfl rfl ?_
    refine own_iconst K own_d1_50 (v := (2 : Int32)) rfl ?_
    refine own_iloadN K own_d1_51 rfl ?_
    refine own_i2d K own_d1_52 ?_
    refine own_topD (x' := (FP.l2d ic.toInt64)) (i2d_w ic) ?_
    refine own_dastore K own_d1_53 H7 (i := 0) rfl (q := 2) (by decide) (own_le rfl) ?_
    intro h8 H9
    replace H9 : own_H Z h8 ([]) ((a3, .double, "[D", [(.double (FP.l2d ia.toInt64)), (.double (FP.l2d ib.toInt64)), (.double (FP.l2d ic.toInt64))]) :: []) := H9
    refine own_lload K own_d1_54 rfl ?_
    refine own_iloadN K own_d1_56 rfl ?_
    refine own_i2l K own_d1_57 ?_
    refine own_ladd K own_d1_58 ?_
    refine own_lstore K own_d1_59 (Ls' := #[.val (.int kk), .val (.int ia), .val (.int ib), .val (.int ic), .val (.int id), .val (.int (3 : Int32)), .val (.ref a3), .val (.long (((ia.toInt64) + (ib.toInt64)) + (ic.toInt64))), .second, .unset, .unset, .unset, .unset]) rfl ?_
    refine own_iload K own_d1_61 rfl ?_
    refine own_iconst K own_d1_63 (v := (3 : Int32)) rfl ?_
    refine own_icmple K own_d1_64 (fun _ => ?_) (fun q => absurd (by decide) q)
    refine own_lload K own_d1_82 rfl ?_
    refine own_l2d K own_d1_84 ?_
    refine own_iload K own_d1_85 rfl ?_
    refine own_i2d K own_d1_87 ?_
    refine own_ddiv K own_d1_88 (own_nd _ _ (by decide)) ?_
    refine own_dstore K own_d1_89 (Ls' := #[.val (.int kk), .val (.int ia), .val (.int ib), .val (.int ic), .val (.int id), .val (.int (3 : Int32)), .val (.ref a3), .val (.long (((ia.toInt64) + (ib.toInt64)) + (ic.toInt64))), .second, .val (.double (FP.ddiv (FP.l2d (((ia.toInt64) + (ib.toInt64)) + (ic.toInt64))) (FP.i2d (3 : Int32)))), .second, .unset, .unset]) rfl ?_
    refine own_aload K own_d1_91 rfl rfl ?_
    refine own_static K own_d1_93 (own_w1 hw) (own_w2 hw) (own_w3 hw) (own_w4 hw) (argsL := [(.ref a3)]) (rest := []) (own_mean3 hw H9 (own_small.of _) (own_small.of _) (own_small.of _)) own_pd0 rfl rfl rfl (by decide) (W := 0) (Nat.le_of_eq rfl) (by decide) (by decide) (by decide) (by decide) ?_
    intro v12 h10 q11
    obtain ⟨rfl, rfl⟩ := q11
    refine own_dstore K own_d1_96 (Ls' := #[.val (.int kk), .val (.int ia), .val (.int ib), .val (.int ic), .val (.int id), .val (.int (3 : Int32)), .val (.ref a3), .val (.long (((ia.toInt64) + (ib.toInt64)) + (ic.toInt64))), .second, .val (.double (FP.ddiv (FP.l2d (((ia.toInt64) + (ib.toInt64)) + (ic.toInt64))) (FP.i2d (3 : Int32)))), .second, .val (.double (FP.ddiv (FP.l2d ((((0 : Int64) + ia.toInt64) + ib.toInt64) + ic.toInt64)) (FP.i2d (3 : Int32)))), .second]) rfl ?_
    refine own_dload K own_d1_98 rfl ?_
    refine own_dload K own_d1_100 rfl ?_
    refine own_dcmp K own_d1_102 ?_
    refine own_ifne K own_d1_103 (fun q => absurd q (fun q => q (dcmpV_eq (by rw [Int64.zero_add]) (own_nd _ _ (by decide)) _))) (fun _ => ?_)
    refine own_iconst K own_d1_106 (v := (1 : Int32)) rfl ?_
    refine own_goto K own_d1_107 ?_
    exact own_retZ K (by first | exact Or.inl rfl | exact Or.inr rfl | decide) own_d1_111 (by decide) (by decide) (rfl)
  · refine own_iloadN K own_d1_0 rfl ?_
    refine own_iconst K own_d1_1 (v := (3 : Int32)) rfl ?_
    refine own_iand K own_d1_2 ?_
    refine own_topI (x' := (3 : Int32)) (q) ?_
    refine own_iconst K own_d1_3 (v := (1 : Int32)) rfl ?_
    refine own_iadd K own_d1_4 ?_
    refine own_topI (x' := (4 : Int32)) (by decide) ?_
    refine own_istore K own_d1_5 (Ls' := #[.val (.int kk), .val (.int ia), .val (.int ib), .val (.int ic), .val (.int id), .val (.int (4 : Int32)), .unset, .unset, .unset, .unset, .unset, .unset, .unset]) rfl ?_
    refine own_iload K own_d1_7 rfl ?_
    refine own_newarray K own_d1_9 (ty := .double) rfl (own_w0 hw) H (q := 4) (by decide) (ad := "[D") (by decide +kernel) (vs := [(.double (0 : UInt64)), (.double (0 : UInt64)), (.double (0 : UInt64)), (.double (0 : UInt64))]) rfl (by decide) (by decide) (by decide) ?_
    intro h1 a3 H2
    replace H2 : own_H Z h1 ([]) ((a3, .double, "[D", [(.double (0 : UInt64)), (.double (0 : UInt64)), (.double (0 : UInt64)), (.double (0 : UInt64))]) :: []) := H2
    refine own_astore K own_d1_11 rfl (Ls' := #[.val (.int kk), .val (.int ia), .val (.int ib), .val (.int ic), .val (.int id), .val (.int (4 : Int32)), .val (.ref a3), .unset, .unset, .unset, .unset, .unset, .unset]) rfl ?_
    refine own_aload K own_d1_13 rfl rfl ?_
    refine own_iconst K own_d1_15 (v := (0 : Int32)) rfl ?_
    refine own_iloadN K own_d1_16 rfl ?_
    refine own_i2d K own_d1_17 ?_
    refine own_topD (x' := (FP.l2d ia.toInt64)) (i2d_w ia) ?_
    refine own_dastore K own_d1_18 H2 (i := 0) rfl (q := 0) (by decide) (own_le rfl) ?_
    intro h4 H5
    replace H5 : own_H Z h4 ([]) ((a3, .double, "[D", [(.double (FP.l2d ia.toInt64)), (.double (0 : UInt64)), (.double (0 : UInt64)), (.double (0 : UInt64))]) :: []) := H5
    refine own_iloadN K own_d1_19 rfl ?_
    refine own_i2l K own_d1_20 ?_
    refine own_lstore K own_d1_21 (Ls' := #[.val (.int kk), .val (.int ia), .val (.int ib), .val (.int ic), .val (.int id), .val (.int (4 : Int32)), .val (.ref a3), .val (.long (ia.toInt64)), .second, .unset, .unset, .unset, .unset]) rfl ?_
    refine own_iload K own_d1_23 rfl ?_
    refine own_iconst K own_d1_25 (v := (1 : Int32)) rfl ?_
    refine own_icmple K own_d1_26 (fun q => absurd q (by decide)) (fun _ => ?_)
    refine own_aload K own_d1_29 rfl rfl ?_
    refine own_iconst K own_d1_31 (v := (1 : Int32)) rfl ?_
    refine own_iloadN K own_d1_32 rfl ?_
    refine own_i2d K own_d1_33 ?_
    refine own_topD (x' := (FP.l2d ib.toInt64)) (i2d_w ib) ?_
    refine own_dastore K own_d1_34 H5 (i := 0) rfl (q := 1) (by decide) (own_le rfl) ?_
    intro h6 H7
    replace H7 : own_H Z h6 ([]) ((a3, .double, "[D", [(.double (FP.l2d ia.toInt64)), (.double (FP.l2d ib.toInt64)), (.double (0 : UInt64)), (.double (0 : UInt64))]) :: []) := H7
    refine own_lload K own_d1_35 rfl ?_
    refine own_iloadN K own_d1_37 rfl ?_
    refine own_i2l K own_d1_38 ?_
    refine own_ladd K own_d1_39 ?_
    refine own_lstore K own_d1_40 (Ls' := #[.val (.int kk), .val (.int ia), .val (.int ib), .val (.int ic), .val (.int id), .val (.int (4 : Int32)), .val (.ref a3), .val (.long ((ia.toInt64) + (ib.toInt64))), .second, .unset, .unset, .unset, .unset]) rfl ?_
    refine own_iload K own_d1_42 rfl ?_
    refine own_iconst K own_d1_44 (v := (2 : Int32)) rfl ?_
    refine own_icmple K own_d1_45 (fun q => absurd q (by decide)) (fun _ => ?_)
    refine own_aload K own_d1_48 rfl rfl ?_
    refine own_iconst K own_d1_50 (v := (2 : Int32)) rfl ?_
    refine own_iloadN K own_d1_51 rfl ?_
    refine own_i2d K own_d1_52 ?_
    refine own_topD (x' := (FP.l2d ic.toInt64)) (i2d_w ic) ?_
    refine own_dastore K own_d1_53 H7 (i := 0) rfl (q := 2) (by decide) (own_le rfl) ?_
    intro h8 H9
    replace H9 : own_H Z h8 ([]) ((a3, .double, "[D", [(.double (FP.l2d ia.toInt64)), (.double (FP.l2d ib.toInt64)), (.double (FP.l2d ic.toInt64)), (.double (0 : UInt64))]) :: []) := H9
    refine own_lload K own_d1_54 rfl ?_
    refine own_iloadN K own_d1_56 rfl ?_
    refine own_i2l K own_d1_57 ?_
    refine own_ladd K own_d1_58 ?_
    refine own_lstore K own_d1_59 (Ls' := #[.val (.int kk), .val (.int ia), .val (.int ib), .val (.int ic), .val (.int id), .val (.int (4 : Int32)), .val (.ref a3), .val (.long (((ia.toInt64) + (ib.toInt64)) + (ic.toInt64))), .second, .unset, .unset, .unset, .unset]) rfl ?_
    refine own_iload K own_d1_61 rfl ?_
    refine own_iconst K own_d1_63 (v := (3 : Int32)) rfl ?_
    refine own_icmple K own_d1_64 (fun q => absurd q (by decide)) (fun _ => ?_)
    refine own_aload K own_d1_67 rfl rfl ?_
    refine own_iconst K own_d1_69 (v := (3 : Int32)) rfl ?_
    refine own_iload K own_d1_70 rfl ?_
    refine own_i2d K own_d1_72 ?_
    refine own_topD (x' := (FP.l2d id.toInt64)) (i2d_w id) ?_
    refine own_dastore K own_d1_73 H9 (i := 0) rfl (q := 3) (by decide) (own_le rfl) ?_
    intro h10 H11
    replace H11 : own_H Z h10 ([]) ((a3, .double, "[D", [(.double (FP.l2d ia.toInt64)), (.double (FP.l2d ib.toInt64)), (.double (FP.l2d ic.toInt64)), (.double (FP.l2d id.toInt64))]) :: []) := H11
    refine own_lload K own_d1_74 rfl ?_
    refine own_iload K own_d1_76 rfl ?_
    refine own_i2l K own_d1_78 ?_
    refine own_ladd K own_d1_79 ?_
    refine own_lstore K own_d1_80 (Ls' := #[.val (.int kk), .val (.int ia), .val (.int ib), .val (.int ic), .val (.int id), .val (.int (4 : Int32)), .val (.ref a3), .val (.long ((((ia.toInt64) + (ib.toInt64)) + (ic.toInt64)) + (id.toInt64))), .second, .unset, .unset, .unset, .unset]) rfl ?_
    refine own_lload K own_d1_82 rfl ?_
    refine own_l2d K own_d1_84 ?_
    refine own_iload K own_d1_85 rfl ?_
    refine own_i2d K own_d1_87 ?_
    refine own_ddiv K own_d1_88 (own_nd _ _ (by decide)) ?_
    refine own_dstore K own_d1_89 (Ls' := #[.val (.int kk), .val (.int ia), .val (.int ib), .val (.int ic), .val (.int id), .val (.int (4 : Int32)), .val (.ref a3), .val (.long ((((ia.toInt64) + (ib.toInt64)) + (ic.toInt64)) + (id.toInt64))), .second, .val (.double (FP.ddiv (FP.l2d ((((ia.toInt64) + (ib.toInt64)) + (ic.toInt64)) + (id.toInt64))) (FP.i2d (4 : Int32)))), .second, .unset, .unset]) rfl ?_
    refine own_aload K own_d1_91 rfl rfl ?_
    refine own_static K own_d1_93 (own_w1 hw) (own_w2 hw) (own_w3 hw) (own_w4 hw) (argsL := [(.ref a3)]) (rest := []) (own_mean4 hw H11 (own_small.of _) (own_small.of _) (own_small.of _) (own_small.of _)) own_pd0 rfl rfl rfl (by decide) (W := 0) (Nat.le_of_eq rfl) (by decide) (by decide) (by decide) (by decide) ?_
    intro v14 h12 q13
    obtain ⟨rfl, rfl⟩ := q13
    refine own_dstore K own_d1_96 (Ls' := #[.val (.int kk), .val (.int ia), .val (.int ib), .val (.int ic), .val (.int id), .val (.int (4 : Int32)), .val (.ref a3), .val (.long ((((ia.toInt64) + (ib.toInt64)) + (ic.toInt64)) + (id.toInt64))), .second, .val (.double (FP.ddiv (FP.l2d ((((ia.toInt64) + (ib.toInt64)) + (ic.toInt64)) + (id.toInt64))) (FP.i2d (4 : Int32)))), .second, .val (.double (FP.ddiv (FP.l2d (((((0 : Int64) + ia.toInt64) + ib.toInt64) + ic.toInt64) + id.toInt64)) (FP.i2d (4 : Int32)))), .second]) rfl ?_
    refine own_dload K own_d1_98 rfl ?_
    refine own_dload K own_d1_100 rfl ?_
    refine own_dcmp K own_d1_102 ?_
    refine own_ifne K own_d1_103 (fun q => absurd q (fun q => q (dcmpV_eq (by rw [Int64.zero_add]) (own_nd _ _ (by decide)) _))) (fun _ => ?_)
    refine own_iconst K own_d1_106 (v := (1 : Int32)) rfl ?_
    refine own_goto K own_d1_107 ?_
    exact own_retZ K (by first | exact Or.inl rfl | exact Or.inr rfl | decide) own_d1_111 (by decide) (by decide) (rfl)
set_option maxRecDepth 65536 in
set_option maxHeartbeats 40000000 in
theorem comes_1 {Post : Tables → Env → Array Value → State → Outcome → State → Prop} (hpost : ∀ tb e args s v u, (limb_1_1.after args s (.returned v) u = true ∧ limb_1_2.after args s (.returned v) u = true ∧ True) → FrameEnd s (.returned v) u (Jvm.fieldLocs frame_1_writes args s ++ Jvm.arrayLocs frame_1_arrays args s ++ Jvm.staticLocs frame_1_statics s) 16 128 → Post tb e args s (.returned v) u) :
    ArmFor flags0 classFile x code maxLocals ret World_1 tables_1 room_1 Calls_1 rest_1 Pre_1 Post := by
  intro l hfl _ _ p e ha hc hk s m args below hf hA hF happ hP
  obtain ⟨hcalls, hrest, hpre⟩ := hP
  obtain ⟨-, -, -, hnamed, -, -, -, hat⟩ := (Spec.applies_iff hf).mp happ
  obtain ⟨hg, hn⟩ := and_e (Cond.before_iff.mp (show (Jvm.Cond.and given_1 narrow_1).before args s = true from hpre))
  obtain ⟨h1, hq0⟩ := and_e hg
  obtain ⟨hi0, hq1⟩ := and_e hq0
  obtain ⟨hi1, hq2⟩ := and_e hq1
  obtain ⟨hi2, hq3⟩ := and_e hq2
  obtain ⟨hi3, hq4⟩ := and_e hq3
  have hi4 := hq4
  obtain ⟨w0, w1, w2, w3, w4, rfl⟩ : ∃ w0 w1 w2 w3 w4 : Value, args = #[w0, w1, w2, w3, w4] := by
    have hs : args.size = 5 := by simpa [Cond.value, given_1] using h1
    obtain ⟨L⟩ := args
    match L, hs with
    | [w0, w1, w2, w3, w4], _ => exact ⟨w0, w1, w2, w3, w4, rfl⟩
  have hw : own_Z s #[w0, w1, w2, w3, w4] := fun d (hd : d ∈ tables_1) => atoms_spec (ws := Jvm.Cond.code x code maxLocals ret :: tables_1) hat d (List.mem_cons_of_mem _ hd)
  obtain ⟨i0, e0⟩ := is_v hi0
  obtain rfl : w0 = (.int i0) := Option.some.inj e0
  obtain ⟨i1, e1⟩ := is_v hi1
  obtain rfl : w1 = (.int i1) := Option.some.inj e1
  obtain ⟨i2, e2⟩ := is_v hi2
  obtain rfl : w2 = (.int i2) := Option.some.inj e2
  obtain ⟨i3, e3⟩ := is_v hi3
  obtain rfl : w3 = (.int i3) := Option.some.inj e3
  obtain ⟨i4, e4⟩ := is_v hi4
  obtain rfl : w4 = (.int i4) := Option.some.inj e4
  obtain ⟨n, o, h1, h2, h3, v, L, rfl, ⟨rfl, N, -⟩, hq⟩ := own_law hw p e ha hc hk s m _ below hf ((Spec.applies_iff_loose hf).mp happ).1 ⟨rfl, State.Warmed39.refl s, rfl⟩ trivial
  refine ⟨n, _, h1, h2, h3, hpost _ _ _ _ _ _ ⟨Cond.after_iff.mpr rfl, Cond.after_iff.mpr (eq_i res_at (Term.int_eval (1)) rfl), trivial⟩ ⟨hq.1, hq.2.1, (hq.2.2.sift fun y hy => Or.inr (N y hy)).mono (by decide) (by decide)⟩⟩
theorem main_1_1 : Claimed_1_1 := comes_1 fun _ _ _ _ _ _ h hF => ⟨h.1, hF⟩
theorem main_1_2 : Claimed_1_2 := comes_1 fun _ _ _ _ _ _ h hF => ⟨h.2.1, hF⟩
end Jvm.Pilot.@@N@@
namespace Jvm.Pilot.@@N@@
open Jvm Jvm.ClassFile Sem Op Lib Jvm.Free Jvm.Stand Jvm.Pilot.@@N@@.Jvm.D
/-! MADE BY PROGRAM (witnessworld.py) out of the Statement's table words and the real class files: 9 classes; the members and pool entries that the words name. The judged class is class 1, her method 1. -/
namespace start1
open Jvm.ClassFile
def u (s : String) : CpInfo := .utf8 (stringToUtf16 s)
/-- a pool by its gaps: so many unusable entries, then the entry; so many at the end -/
def gap : Nat → List CpInfo → List CpInfo
  | 0, r => r
  | n + 1, r => .unusable :: gap n r
def poolList (es : List (Nat × CpInfo)) (last : Nat) : List CpInfo := es.foldr (fun e r => gap e.1 (e.2 :: r)) (gap last [])
def pool (es : List (Nat × CpInfo)) (last : Nat) : Array CpInfo := ⟨poolList es last⟩
def fileOf (pool : Array CpInfo) (this : Nat) (attrs : Array Attribute := #[]) (ms : Array MethodInfo := #[]) (fl : Nat := 33) (sup : Nat := 0) (ifs : Array Nat := #[]) (fds : Array FieldInfo := #[]) : ClassFile where
  minorVersion := 0
  majorVersion := 65
  constantPool := pool
  accessFlags := fl
  thisClass := this
  superClass := sup
  interfaces := ifs
  fields := fds
  methods := ms
  attributes := attrs
def plain (name : String) (sup : Option ClassId) : Class where
  name := name
  kind := .ordinary
  loader := none
  accessFlags := 33
  super := sup
  interfaces := #[]
  cf := none
  fields := #[]
  methods := #[]
  instanceTypes := #[]
  staticTypes := #[]
  resolved := #[]
  callSites := []
  init := .initialized
  statics := none
  mirror := none

def pool0 : Array CpInfo := pool [(5, u "<init>"), (0, u "()V"), (1, .class_ 10), (1, u "java/lang/Object")] 113

def k0m0 : Method := { name := "<init>", desc := "()V", sig := { parameters := [], returnType := none }, accessFlags := 1, code := none }
/-- java/lang/Object -/
def k0 : Class := { plain "java/lang/Object" none with
  accessFlags := 33
  interfaces := #[]
  cf := some (fileOf pool0 8 #[] #[{ accessFlags := 1, nameIndex := 5, descriptorIndex := 6, attributes := #[] }] 33 0 #[] #[])
  fields := #[]
  methods := #[k0m0]
  instanceTypes := #[]
  staticTypes := #[]
  resolved := Array.replicate 124 none
  statics := none }

def pool1 : Array CpInfo := pool [(2, .class_ 4), (1, u "java/lang/Object"), (0, u "<init>"), (0, u "()V"), (0, .methodref 8 9), (0, .class_ 10), (0, .nameAndType 11 12), (0, u "com/example/slotwise/slotwise/Statistics"), (0, u "mean"), (0, u "([D)D"), (0, .class_ 14), (0, u "com/example/slotwise/slotwise/StatisticsMeanPinLaw"), (2, u "law"), (0, u "(IIIII)Z")] 5

def k1m0 : Method := { name := "<init>", desc := "()V", sig := { parameters := [], returnType := none }, accessFlags := 2, code := none }
def k1c1 : Code := { maxStack := 4, maxLocals := 13, code := code, exceptionTable := #[], attributes := #[] }
def k1m1 : Method := { name := "law", desc := "(IIIII)Z", sig := { parameters := [.int, .int, .int, .int, .int], returnType := some .boolean }, accessFlags := 9, code := some k1c1 }
/-- com/example/slotwise/slotwise/StatisticsMeanPinLaw -/
def k1 : Class := { plain "com/example/slotwise/slotwise/StatisticsMeanPinLaw" (some 0) with
  accessFlags := 49
  interfaces := #[]
  cf := some (fileOf pool1 13 #[] #[{ accessFlags := 2, nameIndex := 5, descriptorIndex := 6, attributes := #[] }, { accessFlags := 9, nameIndex := 17, descriptorIndex := 18, attributes := #[] }] 49 2 #[] #[])
  fields := #[]
  methods := #[k1m0, k1m1]
  instanceTypes := #[]
  staticTypes := #[]
  resolved := Array.replicate 24 none
  statics := none }

def pool2 : Array CpInfo := pool [(2, .class_ 4), (1, u "java/lang/Object"), (0, u "<init>"), (0, u "()V"), (5, .class_ 14), (1, u "com/example/slotwise/slotwise/Statistics"), (0, u "mean"), (0, u "([D)D")] 41

def k2m0 : Method := { name := "<init>", desc := "()V", sig := { parameters := [], returnType := none }, accessFlags := 2, code := none }
def k2c1 : Code := { maxStack := 4, maxLocals := 8, code := prog_39_method_2_code, exceptionTable := #[], attributes := #[] }
def k2m1 : Method := { name := "mean", desc := "([D)D", sig := { parameters := [(.array .double)], returnType := some .double }, accessFlags := 8, code := some k2c1 }
/-- com/example/slotwise/slotwise/Statistics -/
def k2 : Class := { plain "com/example/slotwise/slotwise/Statistics" (some 0) with
  accessFlags := 48
  interfaces := #[]
  cf := some (fileOf pool2 12 #[] #[{ accessFlags := 2, nameIndex := 5, descriptorIndex := 6, attributes := #[] }, { accessFlags := 8, nameIndex := 15, descriptorIndex := 16, attributes := #[] }] 48 2 #[] #[])
  fields := #[]
  methods := #[k2m0, k2m1]
  instanceTypes := #[]
  staticTypes := #[]
  resolved := Array.replicate 58 none
  statics := none }

def pool3 : Array CpInfo := pool [(1, u "java/lang/Cloneable"), (0, .class_ 1), (0, u "java/lang/Object"), (0, .class_ 3)] 3

/-- java/lang/Cloneable -/
def k3 : Class := { plain "java/lang/Cloneable" (some 0) with
  accessFlags := 1537
  interfaces := #[]
  cf := some (fileOf pool3 2 #[] #[] 1537 4 #[] #[])
  fields := #[]
  methods := #[]
  instanceTypes := #[]
  staticTypes := #[]
  resolved := Array.replicate 8 none
  statics := none }

def pool4 : Array CpInfo := pool [(1, u "java/io/Serializable"), (0, .class_ 1), (0, u "java/lang/Object"), (0, .class_ 3)] 3

/-- java/io/Serializable -/
def k4 : Class := { plain "java/io/Serializable" (some 0) with
  accessFlags := 1537
  interfaces := #[]
  cf := some (fileOf pool4 2 #[] #[] 1537 4 #[] #[])
  fields := #[]
  methods := #[]
  instanceTypes := #[]
  staticTypes := #[]
  resolved := Array.replicate 8 none
  statics := none }

/-- the primitive byte -/
def k5 : Class := { plain "byte" none with kind := .primitive 'B', accessFlags := 0x411 }
/-- [B -/
def k6 : Class := { plain "[B" (some 0) with kind := .array 5 .byte, interfaces := #[3, 4], accessFlags := 1041 }

/-- the primitive int -/
def k7 : Class := { plain "int" none with kind := .primitive 'I', accessFlags := 0x411 }
/-- [I -/
def k8 : Class := { plain "[I" (some 0) with kind := .array 7 .int, interfaces := #[3, 4], accessFlags := 1041 }

/-- the primitive double -/
def k9 : Class := { plain "double" none with kind := .primitive 'D', accessFlags := 0x411 }
/-- [D -/
def k10 : Class := { plain "[D" (some 0) with kind := .array 9 .double, interfaces := #[3, 4], accessFlags := 1041 }

def heap : Heap := #[]
def classes : Array Class := #[k0, k1, k2, k3, k4, k5, k6, k7, k8, k9, k10]
def interned : List (Array UInt16 × Addr) := []
def slotsUsed : Nat := 0
def theMethod : MethodId := ⟨1, 1⟩
def args0 : Array Value := #[.int 5, .int 1, .int 2, .int 3, .int 4]
def aboutOver (below : List Frame) : State where
  vm := { classes := classes, interned := interned.toArray }
  heap := heap
  slotsUsed := slotsUsed
  threads := #[{ frames := .invoking theMethod args0 :: below }]
def below0 : List Frame := [.native { method := ⟨0, 0⟩, args := #[] }]
def about1 : State := aboutOver below0
def p0 : Program := .bare "" "" ""
def e0 : Env := launch0.env 0 0 0
theorem w_frames : about1.frames = Frame.invoking theMethod args0 :: below0 := rfl
set_option maxRecDepth 65536 in
theorem w_args : argsFit about1.vm theMethod args0 = true := by decide +kernel
set_option maxRecDepth 65536 in
theorem w_heap : heapFits about1 = true := by decide +kernel
set_option maxRecDepth 65536 in
theorem w_runnable : about1.curStatus? = some .runnable := by decide +kernel
set_option maxRecDepth 65536 in
theorem w_alone : about1.alone = true := by decide +kernel
set_option maxRecDepth 65536 in
theorem w_named : about1.methodNamed? x = some theMethod := by decide +kernel
set_option maxRecDepth 65536 in
theorem w_hears : about1.hears theMethod below0 = true := by decide +kernel
set_option maxRecDepth 65536 in
theorem w_ripe : about1.ripe theMethod args0 below0 = true := by decide +kernel
theorem w_running : about1.status = .running := rfl
set_option maxRecDepth 65536 in
theorem w_room : about1.hasRoom e0.platform room_1 = true :=
  launch0.hasRoom_least _ room_1 (by decide +kernel) (by decide +kernel) (by decide +kernel) (by decide +kernel) (by decide +kernel) (by decide +kernel)
theorem allAtoms_all (ts : List Jvm.Cond) (a : Array Jvm.Value) (st : Jvm.State) : (allAtoms ts).before a st = ts.all (fun c => c.before a st) := by
  induction ts with
  | nil => rfl
  | cons c t ih =>
    show (Jvm.Cond.and c (allAtoms t)).before a st = _
    rw [Jvm.Cond.before_and, ih, List.all_cons]
def words1 : List Jvm.Cond := Jvm.Cond.code x code maxLocals ret :: tables_1
/-- a 'code' word, met by the world's own term for the bytes: nothing is compared byte by byte -/
theorem code_word {y : MethodName} {bytes : ByteArray} {mx : Nat} {rt : Option FieldType} {a : Array Value} {s : State} {m : MethodId} {meth : Method} {c : Code} (h1 : s.methodNamed? y = some m) (h2 : s.vm.method? m = some meth) (h3 : meth.code = some c) (h4 : c.code = bytes)
    (h5 : (c.maxLocals == mx && c.exceptionTable.isEmpty && decide (c.maxStack ≤ mostOperands) && decide (meth.sig.returnType = rt) && !meth.locks && decide (parseMethodDescriptor y.desc = some meth.sig)) = true) : (Jvm.Cond.code y bytes mx rt).before a s = true := by
  simp only [Bool.and_eq_true, beq_iff_eq, Bool.not_eq_true', decide_eq_true_eq] at h5
  obtain ⟨⟨⟨⟨⟨g1, g2⟩, g3⟩, g4⟩, g5⟩, g6⟩ := h5
  simp [Cond.before, Cond.holds, Cond.value, h1, h2, h3, h4, g1, g2, g3, g4, g5, g6]
def isCode : Jvm.Cond → Bool
  | .code _ _ _ _ => true
  | _ => false
theorem all_split {L : List Jvm.Cond} {P : Jvm.Cond → Bool} (h1 : L.all (fun c => isCode c || P c) = true) (h2 : ∀ c ∈ L.filter isCode, P c = true) : L.all P = true := by
  refine List.all_eq_true.mpr fun c hc => ?_
  have h := List.all_eq_true.mp h1 c hc
  rcases Bool.eq_false_or_eq_true (isCode c) with hi | hi
  · exact h2 c (List.mem_filter.mpr ⟨hc, hi⟩)
  · simpa [hi] using h
set_option maxRecDepth 65536 in
theorem w_c0 : (Jvm.Cond.code x code maxLocals ret).before args0 about1 = true := code_word (m := ⟨1, 1⟩) (meth := k1m1) (c := k1c1) (by decide +kernel) rfl rfl rfl (by decide +kernel)
set_option maxRecDepth 65536 in
theorem w_c1 : (Jvm.Cond.code ({ cls := "com/example/slotwise/slotwise/Statistics", name := "mean", desc := "([D)D" } : Jvm.MethodName) prog_39_method_2_code (8 : Nat) (Option.some Jvm.ClassFile.FieldType.double)).before args0 about1 = true := code_word (m := ⟨2, 1⟩) (meth := k2m1) (c := k2c1) (by decide +kernel) rfl rfl rfl (by decide +kernel)
def codes1 : List Jvm.Cond := [Jvm.Cond.code x code maxLocals ret, Jvm.Cond.code ({ cls := "com/example/slotwise/slotwise/Statistics", name := "mean", desc := "([D)D" } : Jvm.MethodName) prog_39_method_2_code (8 : Nat) (Option.some Jvm.ClassFile.FieldType.double)]
set_option maxRecDepth 65536 in
theorem codes_eq : words1.filter isCode = codes1 := rfl
theorem w_codes : ∀ c ∈ words1.filter isCode, c.before args0 about1 = true := by
  rw [codes_eq]
  intro c hc
  simp only [codes1, List.mem_cons, List.not_mem_nil, or_false] at hc
  rcases hc with rfl | rfl
  · exact w_c0
  · exact w_c1
set_option maxRecDepth 65536 in
theorem w_t1 : words1.all (fun c => isCode c || c.before args0 about1) = true := by decide +kernel
theorem w_tables : (allAtoms (Jvm.Cond.code x code maxLocals ret :: tables_1)).before args0 about1 = true := by
  rw [allAtoms_all]
  show words1.all (fun c => c.before args0 about1) = true
  refine all_split ?_ w_codes
  rw [w_t1]
set_option maxRecDepth 65536 in
theorem w_case : (Jvm.Cond.and given_1 narrow_1).before args0 about1 = true := by decide +kernel
theorem w_applies : (headSpec (Jvm.Cond.code x code maxLocals ret :: tables_1) room_1).applies x e0.platform about1 = true :=
  (Spec.applies_iff w_frames).mpr ⟨w_running, w_runnable, w_alone, w_named, w_hears, w_ripe, w_room, w_tables⟩
theorem atStart : AtStart classFile x code maxLocals ret World_1 tables_1 room_1 Calls_1 rest_1 Pre_1 launch0 p0 e0 about1 theMethod args0 below0 :=
  ⟨lists_1, trivial, launch0.admits_env _ _ _, launch0.least_env, fairChoices_fair.cas, fairChoices_fair.clock, w_frames, w_args, w_heap, w_applies, trivial, trivial, w_case⟩
end start1
theorem witness_1 : WitnessClaimed_1 := ⟨start1.p0, start1.e0, start1.about1, start1.theMethod, start1.args0, start1.below0, start1.atStart⟩
end Jvm.Pilot.@@N@@
