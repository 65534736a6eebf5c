import JvmDerived
import JvmDerived.Pilot.@@N@@Statement
import JvmDerived.Pilot.@@N@@Code
set_option linter.unusedVariables false
set_option linter.unusedSimpArgs false
@@BLOCK:NumsL.lean.txt@@
namespace Jvm.OwnKit
open Sem ClassFile Op Lib Jvm.Stand Jvm.Free Jvm.LawKit Jvm.RoadKit
/-! A small heap of our own: the cells made since the law began, in the order of their making: an array (its component type, its values) or an object (its class, its fields). -/
abbrev Cel := Sum (FieldType × List Value) (String × List (String × String × Value))
abbrev Cont := Nat → List Slot → List Value → List Cel → Nat → Nat → Prop
/-- the address of the i-th cell made -/
def ad (n i : Nat) : Nat := n + i
/-- every field of the list is laid in the class; one name, one descriptor -/
def LaidAll (Z : State) (C : String) (fs : List (String × String × Value)) : Prop := ∃ a0, ∀ f ∈ fs, Laid Z a0 C C f.1 f.2.1 ∧ (∃ ty, parseFieldDescriptor f.2.1 = some ty) ∧ ∀ f' ∈ fs, f'.1 = f.1 → f'.2.1 = f.2.1
def RepC (Z : State) (h : Heap) (a : Addr) : Cel → Prop
  | .inl (ty, vs) => ∃ cl : Cell, Arr Z h a cl ty ∧ cl.slots = vs.toArray
  | .inr (C, fs) => Exa Z h a C ∧ (∀ f ∈ fs, Fld Z h a C f.1 f.2.1 f.2.2) ∧ LaidAll Z C fs
def Rep (Z : State) (b h : Heap) (H : List Cel) : Prop := h.size = b.size + H.length ∧ ∀ i c, H[i]? = some c → RepC Z h (ad b.size i) c
theorem RepC.ext {Z : State} {h h' : Heap} {a : Addr} {c : Cel} (E : Ext h h') (r : RepC Z h a c) : RepC Z h' a c := by
  rcases c with ⟨ty, vs⟩ | ⟨C, fs⟩
  · obtain ⟨cl, A, e⟩ := r; exact ⟨cl, A.ext E, e⟩
  · exact ⟨r.1.ext E, fun f hf => (r.2.1 f hf).ext E, r.2.2⟩
theorem Rep.push {Z : State} {b h h' : Heap} {H : List Cel} {c : Cel} (r : Rep Z b h H) (E : Ext h h') (hs : h'.size = h.size + 1) (hc : RepC Z h' h.size c) : Rep Z b h' (H ++ [c]) := by
  refine ⟨by rw [hs, r.1]; simp [Nat.add_assoc], fun i c' hi => ?_⟩
  rcases Nat.lt_trichotomy i H.length with q | q | q
  · rw [List.getElem?_append_left q] at hi
    exact (r.2 i c' hi).ext E
  · subst q
    simp at hi; subst hi
    have e : ad b.size H.length = h.size := by rw [r.1]; rfl
    rw [e]; exact hc
  · rw [List.getElem?_eq_none (by simp; omega)] at hi; cases hi
theorem RepC.other {Z : State} {h h' : Heap} {a a' : Addr} {sl : Nat} {v : Value} {c : Cel} (W : Wr h h' a' sl v) (hne : a ≠ a') (r : RepC Z h a c) : RepC Z h' a c := by
  rcases c with ⟨ty, vs⟩ | ⟨C, fs⟩
  · obtain ⟨cl, A, e⟩ := r; exact ⟨cl, A.other W hne, e⟩
  · exact ⟨r.1.wr W, fun f hf => (r.2.1 f hf).other W (Or.inl hne), r.2.2⟩
theorem Rep.set {Z : State} {b h h' : Heap} {H : List Cel} {i : Nat} {c' : Cel} {sl : Nat} {v : Value} (r : Rep Z b h H) (W : Wr h h' (ad b.size i) sl v) (hc : RepC Z h' (ad b.size i) c') : Rep Z b h' (H.set i c') := by
  refine ⟨by rw [W.size, r.1]; simp, fun j c hj => ?_⟩
  by_cases e : j = i
  · subst e
    by_cases q : j < H.length
    · rw [List.getElem?_set_self q] at hj; cases hj; exact hc
    · rw [List.getElem?_eq_none (by simp; omega)] at hj; cases hj
  · rw [List.getElem?_set_ne (Ne.symm e)] at hj
    exact (r.2 j c hj).other W (by simp [ad]; omega)
theorem Rep.setArr {Z : State} {b h h' : Heap} {H : List Cel} {i : Nat} {ty : FieldType} {vs : List Value} {sl : Nat} {v : Value} (r : Rep Z b h H) (hi : H[i]? = some (.inl (ty, vs))) (W : Wr h h' (ad b.size i) sl v) : Rep Z b h' (H.set i (.inl (ty, vs.set sl v))) := by
  obtain ⟨cl, A, e⟩ := r.2 i _ hi
  exact r.set W ⟨_, A.same W, by simp [Cell.setSlot, e]⟩

/-! Where the walk stands, in plain words: from here the invocation ends, and what it returns and leaves fits K. -/
def G (code : ByteArray) (own nm : String) (maxL : Nat) (ret : Option FieldType) (R : Room) (W : List Jvm.Cond) (l : Launch) (Z : State) (b : Heap) (rc rs : Nat) (K : Option Value → List Cel → Prop)
    (pc : Nat) (ls : List Slot) (st : List Value) (H : List Cel) (cN sN : Nat) : Prop :=
  ∀ (p : Program) (e : Env) (s : State) (m : MethodId) (args : Array Value) (below : List Frame) (meth : Method) (c : Code) (T : State) (locs : List Loc) (a0 : Array Value),
    p.tables.exec = Jvm.exec → c.code = code → c.maxLocals = maxL → meth.sig.returnType = ret → meth.locks = false → meth.name = nm → Z.Warmed39 s.vm → s.vm.findClass own = some m.cls → (∀ d ∈ W, d.before a0 Z = true) →
    Stand p l e R s m args below meth c T locs cN sN → Fr b.size locs → Rep Z b T.heap H →
    ∃ s₂ o, Steps p.tables e below (T.setTop (mkF m pc ls.toArray st)) s₂ ∧ s₂.status = .running ∧ Ended s₂ below o ∧ ∃ v L, o = .returned v ∧ (Fr b.size L ∧ ∃ H', Rep Z b s₂.heap H' ∧ K v H') ∧ FrameEnd s o s₂ L rc rs
/-- what a method does, at these arguments and this heap -/
def Con (W : List Jvm.Cond) (l : Launch) (Z : State) (b : Heap) (y : MethodName) (bytes : ByteArray) (maxL : Nat) (ret : Option FieldType) (rm : Room) (as : List Value) (H : List Cel) (K : Option Value → List Cel → Prop) : Prop :=
  ∀ (a0 : Array Value) (h : Heap), (∀ d ∈ W, d.before a0 Z = true) → Rep Z b h H →
    MetFree l y (head1 [Jvm.Cond.code y bytes maxL ret] rm) (fun a U => a = as.toArray ∧ Z.Warmed39 U.vm ∧ U.heap = h) (fun _ _ _ _ _ => True)
      (fun _ U o U' => ∃ v L, o = .returned v ∧ (Fr b.size L ∧ ∃ H', Rep Z b U'.heap H' ∧ K v H') ∧ FrameEnd U o U' L rm.cells rm.slots)

section Steps
variable {code : ByteArray} {own nm : String} {maxL : Nat} {ret : Option FieldType} {R : Room} {W : List Jvm.Cond} {l : Launch} {Z : State} {b : Heap} {rc rs : Nat} {K : Option Value → List Cel → Prop}
variable {pc pc' : Nat} {ls ls' : List Slot} {st st' : List Value} {H H' : List Cel} {cN sN cN' sN' : Nat}
/-- a step that moves the frame alone -/
theorem G.pure (f : ∀ (p : Program) (e : Env) (s : State) (m : MethodId) (args : Array Value) (below : List Frame) (meth : Method) (c : Code) (T : State) (locs : List Loc) (a0 : Array Value),
      p.tables.exec = Jvm.exec → c.code = code → Z.Warmed39 s.vm → s.vm.findClass own = some m.cls → (∀ d ∈ W, d.before a0 Z = true) → Stand p l e R s m args below meth c T locs cN sN → Rep Z b T.heap H →
      ∀ target, Steps p.tables e below (T.setTop (mkF m pc' ls'.toArray st')) target → Steps p.tables e below (T.setTop (mkF m pc ls.toArray st)) target)
    (h : G code own nm maxL ret R W l Z b rc rs K pc' ls' st' H cN sN) : G code own nm maxL ret R W l Z b rc rs K pc ls st H cN sN := by
  intro p e s m args below meth c T locs a0 hx hc hm hr hk hn hZ ho hw X hF hR
  obtain ⟨s₂, o, h1, h2⟩ := h p e s m args below meth c T locs a0 hx hc hm hr hk hn hZ ho hw X hF hR
  exact ⟨s₂, o, f p e s m args below meth c T locs a0 hx hc hZ ho hw X hR _ h1, h2⟩
/-- a step that moves the heap too -/
theorem G.move (f : ∀ (p : Program) (e : Env) (s : State) (m : MethodId) (args : Array Value) (below : List Frame) (meth : Method) (c : Code) (T : State) (locs : List Loc) (a0 : Array Value),
      p.tables.exec = Jvm.exec → c.code = code → c.maxLocals = maxL → meth.name = nm → Z.Warmed39 s.vm → s.vm.findClass own = some m.cls → (∀ d ∈ W, d.before a0 Z = true) → Stand p l e R s m args below meth c T locs cN sN → Fr b.size locs → Rep Z b T.heap H →
      ∃ T' locs', Stand p l e R s m args below meth c T' locs' cN' sN' ∧ Fr b.size locs' ∧ Rep Z b T'.heap H' ∧
        ∀ target, Steps p.tables e below (T'.setTop (mkF m pc' ls'.toArray st')) target → Steps p.tables e below (T.setTop (mkF m pc ls.toArray st)) target)
    (h : G code own nm maxL ret R W l Z b rc rs K pc' ls' st' H' cN' sN') : G code own nm maxL ret R W l Z b rc rs K pc ls st H cN sN := by
  intro p e s m args below meth c T locs a0 hx hc hm hr hk hn hZ ho hw X hF hR
  obtain ⟨T', locs', X', hF', hR', st⟩ := f p e s m args below meth c T locs a0 hx hc hm hn hZ ho hw X hF hR
  obtain ⟨s₂, o, h1, h2⟩ := h p e s m args below meth c T' locs' a0 hx hc hm hr hk hn hZ ho hw X' hF' hR'
  exact ⟨s₂, o, st _ h1, h2⟩
/-- the return -/
theorem G.leave {v : Option Value} (hv : ret = none → v = none)
    (f : ∀ (p : Program) (e : Env) (s : State) (m : MethodId) (args : Array Value) (below : List Frame) (meth : Method) (c : Code) (T : State) (locs : List Loc),
      p.tables.exec = Jvm.exec → c.code = code → meth.sig.returnType = ret → Stand p l e R s m args below meth c T locs cN sN →
      ∀ fs, (∀ (f : JFrame) (acts : List Action), f.method = m → f.locked = none → f.entered = [] → (doReturn e (T.setTop f) acts v).1 = T.setFrames fs) →
      Steps p.tables e below (T.setTop (mkF m pc ls.toArray st)) (T.setFrames fs))
    (hc : cN ≤ rc) (hs : sN ≤ rs) (hK : K v H) : G code own nm maxL ret R W l Z b rc rs K pc ls st H cN sN := by
  intro p e s m args below meth c T locs a0 hx hcd hm hr hk hn hZ ho hw X hF hR
  obtain ⟨fs, hfs, hrun, hended, hW, hsame⟩ := X.leave (v := v) (fun q => hv (hr ▸ q)) hk
  exact ⟨_, _, f p e s m args below meth c T locs hx hcd hr X fs hfs, hrun, hended, v, locs, rfl, ⟨hF, H, hR, hK⟩, ⟨v, rfl⟩, hW, hsame.mono hc hs⟩
/-- a walk from the entry, as a free contract -/
theorem G.met {y : MethodName} {rm : Room} {as : List Value} {ws : List Jvm.Cond} (hy : plainFor y = true) (ef : ∀ m, entryFrame m as.toArray maxL = mkF m 0 ls.toArray [])
    (g : G code y.cls y.name maxL ret rm W l Z b rc rs K 0 ls [] H 0 0) (a0 : Array Value) (h : Heap) (hw : ∀ d ∈ W, d.before a0 Z = true) (hR : Rep Z b h H) :
    MetFree l y (head1 (Jvm.Cond.code y code maxL ret :: ws) rm) (fun a U => a = as.toArray ∧ Z.Warmed39 U.vm ∧ U.heap = h) (fun _ _ _ _ _ => True)
      (fun _ U o U' => ∃ v L, o = .returned v ∧ (Fr b.size L ∧ ∃ H', Rep Z b U'.heap H' ∧ K v H') ∧ FrameEnd U o U' L rc rs) := by
  refine MetFree.of_bodySF hy hisR ?_
  intro p e s m args below meth c s₁ Bd hml hP _
  obtain ⟨rfl, hZ, hh⟩ := hP
  have X0 : Stand p l e rm s m as.toArray below meth c s₁ [] 0 0 := Stand.of_body Bd
  have e0 : s₁.heap = h := by rw [← hh, Bd.state]; rfl
  obtain ⟨s₂, o, h1, h2, h3, v, L, h4, h5, h6⟩ := g p e s m _ below meth c s₁ [] a0 Bd.exec Bd.bytes hml Bd.returns Bd.notSynchronized (name_of_methodNamed Bd.named Bd.method).1 hZ (findClass_of_methodNamed Bd.named) hw X0 (Fr.nil _) (by rw [e0]; exact hR)
  exact ⟨s₂, o, castTop (ef m) h1, h2, h3, v, L, h4, h5, h6⟩
theorem G.con {y : MethodName} {rm : Room} {as : List Value} (hy : plainFor y = true) (ef : ∀ m, entryFrame m as.toArray maxL = mkF m 0 ls.toArray [])
    (g : G code y.cls y.name maxL ret rm W l Z b rm.cells rm.slots K 0 ls [] H 0 0) : Con W l Z b y code maxL ret rm as H K := fun a0 h hw hR => G.met hy ef g a0 h hw hR
/-- just this is returned, just this heap left -/
def is (v : Option Value) (H : List Cel) : Option Value → List Cel → Prop := fun v' H' => v' = v ∧ H' = H
/-- some byte is returned, the heap left as it was -/
def byt (H : List Cel) : Option Value → List Cel → Prop := fun v H' => ∃ y, v = some (.int y) ∧ nar .byte y = y ∧ H' = H
theorem is_self {v : Option Value} {H : List Cel} : is v H v H := ⟨rfl, rfl⟩
end Steps
end Jvm.OwnKit
namespace Jvm.OwnKit
open Sem ClassFile Op Lib Jvm.Stand Jvm.Free Jvm.LawKit Jvm.RoadKit
def popI (st : List Value) (f : Int32 → List Value → Prop) : Prop := match st with | .int x :: r => f x r | _ => False
def popJ (st : List Value) (f : Int64 → List Value → Prop) : Prop := match st with | .long x :: r => f x r | _ => False
def popR (st : List Value) (f : Nat → List Value → Prop) : Prop := match st with | .ref x :: r => f x r | _ => False
def pop1 (st : List Value) (f : Value → List Value → Prop) : Prop := match st with | .int x :: r => f (.int x) r | .ref x :: r => f (.ref x) r | .null :: r => f .null r | _ => False
def popA (st : List Value) (f : Value → List Value → Prop) : Prop := match st with | .ref x :: r => f (.ref x) r | .null :: r => f .null r | _ => False
theorem popI_c {x : Int32} {r : List Value} {f : Int32 → List Value → Prop} : popI (.int x :: r) f = f x r := propext Iff.rfl
theorem popJ_c {x : Int64} {r : List Value} {f : Int64 → List Value → Prop} : popJ (.long x :: r) f = f x r := propext Iff.rfl
theorem popR_c {x : Nat} {r : List Value} {f : Nat → List Value → Prop} : popR (.ref x :: r) f = f x r := propext Iff.rfl
theorem pop1_i {x : Int32} {r : List Value} {f : Value → List Value → Prop} : pop1 (.int x :: r) f = f (.int x) r := propext Iff.rfl
theorem pop1_r {x : Nat} {r : List Value} {f : Value → List Value → Prop} : pop1 (.ref x :: r) f = f (.ref x) r := propext Iff.rfl
theorem pop1_n {r : List Value} {f : Value → List Value → Prop} : pop1 (.null :: r) f = f .null r := propext Iff.rfl
theorem popA_r {x : Nat} {r : List Value} {f : Value → List Value → Prop} : popA (.ref x :: r) f = f (.ref x) r := propext Iff.rfl
theorem popA_n {r : List Value} {f : Value → List Value → Prop} : popA (.null :: r) f = f .null r := propext Iff.rfl
theorem popI_e {st : List Value} {f : Int32 → List Value → Prop} (h : popI st f) : ∃ x r, st = .int x :: r ∧ f x r := by unfold popI at h; split at h <;> first | exact ⟨_, _, rfl, h⟩ | exact h.elim
theorem popJ_e {st : List Value} {f : Int64 → List Value → Prop} (h : popJ st f) : ∃ x r, st = .long x :: r ∧ f x r := by unfold popJ at h; split at h <;> first | exact ⟨_, _, rfl, h⟩ | exact h.elim
theorem popR_e {st : List Value} {f : Nat → List Value → Prop} (h : popR st f) : ∃ x r, st = .ref x :: r ∧ f x r := by unfold popR at h; split at h <;> first | exact ⟨_, _, rfl, h⟩ | exact h.elim
theorem pop1_e {st : List Value} {f : Value → List Value → Prop} (h : pop1 st f) : ∃ x r, st = x :: r ∧ x.category = 1 ∧ f x r := by unfold pop1 at h; split at h <;> first | exact ⟨_, _, rfl, rfl, h⟩ | exact h.elim
theorem popA_e {st : List Value} {f : Value → List Value → Prop} (h : popA st f) : ∃ x r, st = x :: r ∧ x.isRef = true ∧ x.category = 1 ∧ f x r := by unfold popA at h; split at h <;> first | exact ⟨_, _, rfl, rfl, rfl, h⟩ | exact h.elim
/-! the local variables -/
def ldI (ls : List Slot) (k : Nat) (f : Int32 → Prop) : Prop := match ls[k]? with | some (.val (.int v)) => f v | _ => False
def ldJ (ls : List Slot) (k : Nat) (f : Int64 → Prop) : Prop := match ls[k]? with | some (.val (.long v)) => f v | _ => False
def ldA (ls : List Slot) (k : Nat) (f : Value → Prop) : Prop := match ls[k]? with | some (.val (.ref v)) => f (.ref v) | some (.val .null) => f .null | _ => False
theorem ldI_z {v : Int32} {r : List Slot} {f : Int32 → Prop} : ldI (.val (.int v) :: r) 0 f = f v := propext Iff.rfl
theorem ldJ_z {v : Int64} {r : List Slot} {f : Int64 → Prop} : ldJ (.val (.long v) :: r) 0 f = f v := propext Iff.rfl
theorem ldA_z {v : Nat} {r : List Slot} {f : Value → Prop} : ldA (.val (.ref v) :: r) 0 f = f (.ref v) := propext Iff.rfl
theorem ldA_n {r : List Slot} {f : Value → Prop} : ldA (.val .null :: r) 0 f = f .null := propext Iff.rfl
theorem ldI_s {x : Slot} {r : List Slot} {k : Nat} {f : Int32 → Prop} : ldI (x :: r) (k + 1) f = ldI r k f := propext Iff.rfl
theorem ldJ_s {x : Slot} {r : List Slot} {k : Nat} {f : Int64 → Prop} : ldJ (x :: r) (k + 1) f = ldJ r k f := propext Iff.rfl
theorem ldA_s {x : Slot} {r : List Slot} {k : Nat} {f : Value → Prop} : ldA (x :: r) (k + 1) f = ldA r k f := propext Iff.rfl
theorem ldI_e {ls : List Slot} {k : Nat} {f : Int32 → Prop} (h : ldI ls k f) : ∃ v, ls[k]? = some (.val (.int v)) ∧ f v := by unfold ldI at h; split at h <;> first | exact ⟨_, by assumption, h⟩ | exact h.elim
theorem ldJ_e {ls : List Slot} {k : Nat} {f : Int64 → Prop} (h : ldJ ls k f) : ∃ v, ls[k]? = some (.val (.long v)) ∧ f v := by unfold ldJ at h; split at h <;> first | exact ⟨_, by assumption, h⟩ | exact h.elim
theorem ldA_e {ls : List Slot} {k : Nat} {f : Value → Prop} (h : ldA ls k f) : ∃ v, ls[k]? = some (.val v) ∧ v.isRef = true ∧ f v := by unfold ldA at h; split at h <;> first | exact ⟨_, by assumption, rfl, h⟩ | exact h.elim
/-- a store of one word: where it falls into half of a long, the other half is unset -/
def sto1 (ls : List Slot) (k : Nat) (v : Value) (f : List Slot → Prop) : Prop := match ls[k]? with
  | some .unset => f (ls.set k (.val v))
  | some (.val (.int _)) => f (ls.set k (.val v))
  | some (.val (.ref _)) => f (ls.set k (.val v))
  | some (.val .null) => f (ls.set k (.val v))
  | _ => False
/-- a store of two words, over places that hold no half of another long; or over the very same long -/
def free1 (o : Option Slot) : Bool := match o with | some .unset => true | some (.val (.int _)) => true | some (.val (.ref _)) => true | some (.val .null) => true | _ => false
def sto2 (ls : List Slot) (k : Nat) (v : Value) (f : List Slot → Prop) : Prop := match ls[k]? with
  | some (.val (.long _)) => ls[k + 1]? = some .second ∧ f ((ls.set k (.val v)).set (k + 1) .second)
  | o => free1 o = true ∧ free1 ls[k + 1]? = true ∧ f ((ls.set k (.val v)).set (k + 1) .second)
theorem sto1_u {r : List Slot} {v : Value} {f : List Slot → Prop} : sto1 (.unset :: r) 0 v f = f (.val v :: r) := propext Iff.rfl
theorem sto1_i {x : Int32} {r : List Slot} {v : Value} {f : List Slot → Prop} : sto1 (.val (.int x) :: r) 0 v f = f (.val v :: r) := propext Iff.rfl
theorem sto1_r {x : Nat} {r : List Slot} {v : Value} {f : List Slot → Prop} : sto1 (.val (.ref x) :: r) 0 v f = f (.val v :: r) := propext Iff.rfl
theorem sto1_n {r : List Slot} {v : Value} {f : List Slot → Prop} : sto1 (.val .null :: r) 0 v f = f (.val v :: r) := propext Iff.rfl
theorem sto1_s {x : Slot} {r : List Slot} {k : Nat} {v : Value} {f : List Slot → Prop} : sto1 (x :: r) (k + 1) v f = sto1 r k v fun l => f (x :: l) := propext Iff.rfl
theorem sto2_u {r : List Slot} {v : Value} {f : List Slot → Prop} : sto2 (.unset :: .unset :: r) 0 v f = f (.val v :: .second :: r) := by simp [sto2, free1]
theorem sto2_l {x : Int64} {r : List Slot} {v : Value} {f : List Slot → Prop} : sto2 (.val (.long x) :: .second :: r) 0 v f = f (.val v :: .second :: r) := by simp [sto2]
theorem sto2_s {x : Slot} {r : List Slot} {k : Nat} {v : Value} {f : List Slot → Prop} : sto2 (x :: r) (k + 1) v f = sto2 r k v fun l => f (x :: l) := by simp [sto2]
theorem sto1_e {ls : List Slot} {k : Nat} {v : Value} {f : List Slot → Prop} (hv : v.category = 1) (h : sto1 ls k v f) : ∃ l', storeLocals ls.toArray k v = some l'.toArray ∧ f l' := by
  unfold sto1 at h
  split at h
  all_goals first
    | exact h.elim
    | (rename_i q
       refine ⟨_, ?_, h⟩
       rw [storeLocals_cat1 (by rw [List.getElem?_toArray]; exact q) hv (by first | exact trivial | rfl)]
       simp)
theorem free1_e {o : Option Slot} (h : free1 o = true) : ∃ x, o = some x ∧ (x = .unset ∨ ∃ w, x = .val w ∧ w.category = 1) := by
  unfold free1 at h
  split at h
  all_goals first
    | exact ⟨_, rfl, Or.inl rfl⟩
    | exact ⟨_, rfl, Or.inr ⟨_, rfl, rfl⟩⟩
    | cases h
theorem sto2_e {ls : List Slot} {k : Nat} {v : Value} {f : List Slot → Prop} (hv : v.category = 2) (h : sto2 ls k v f) : ∃ l', storeLocals ls.toArray k v = some l'.toArray ∧ f l' := by
  unfold sto2 at h
  split at h
  · rename_i w q
    obtain ⟨q1, h⟩ := h
    refine ⟨_, ?_, h⟩
    rw [Fl.storeLocals_cat2 (by rw [List.getElem?_toArray]; exact q) (by rw [List.getElem?_toArray]; exact q1) hv (Or.inr ⟨⟨_, rfl, rfl⟩, rfl⟩)]
    simp
  · rename_i o _
    obtain ⟨q, q1, h⟩ := h
    refine ⟨_, ?_, h⟩
    obtain ⟨x, q, hx⟩ := free1_e q
    obtain ⟨x1, q1, hx1⟩ := free1_e q1
    have px : Fl.Plain1 x := by rcases hx with rfl | ⟨w, rfl, hw⟩ <;> first | exact trivial | exact hw
    have px1 : Fl.Plain1 x1 := by rcases hx1 with rfl | ⟨w, rfl, hw⟩ <;> first | exact trivial | exact hw
    rw [Fl.storeLocals_cat2 (by rw [List.getElem?_toArray]; exact q) (by rw [List.getElem?_toArray]; exact q1) hv (Or.inl ⟨px, px1⟩)]
    simp
/-! the cells -/
def arrI (H : List Cel) (i : Nat) (f : FieldType → List Value → Prop) : Prop := match H[i]? with | some (.inl (ty, vs)) => f ty vs | _ => False
def arr (H : List Cel) (n a : Nat) (f : Nat → FieldType → List Value → Prop) : Prop := ∃ i, a = ad n i ∧ arrI H i (f i)
theorem arrI_z {ty : FieldType} {vs : List Value} {H : List Cel} {f : FieldType → List Value → Prop} : arrI (.inl (ty, vs) :: H) 0 f = f ty vs := propext Iff.rfl
theorem arrI_s {c : Cel} {H : List Cel} {i : Nat} {f : FieldType → List Value → Prop} : arrI (c :: H) (i + 1) f = arrI H i f := propext Iff.rfl
theorem arr_c {H : List Cel} {n i : Nat} {f : Nat → FieldType → List Value → Prop} : arr H n (ad n i) f = arrI H i (f i) :=
  propext ⟨fun ⟨j, e, h⟩ => by obtain rfl : i = j := by simp [ad] at e; exact e
                               exact h, fun h => ⟨i, rfl, h⟩⟩
theorem arr_e {H : List Cel} {n a : Nat} {f : Nat → FieldType → List Value → Prop} (h : arr H n a f) : ∃ i ty vs, a = ad n i ∧ H[i]? = some (.inl (ty, vs)) ∧ f i ty vs := by
  obtain ⟨i, e, h⟩ := h
  unfold arrI at h
  split at h
  · exact ⟨i, _, _, e, by assumption, h⟩
  · exact h.elim
def idxN (vs : List Value) (n : Nat) (f : Value → Prop) : Prop := match vs[n]? with | some v => f v | none => False
theorem idxN_z {v : Value} {vs : List Value} {f : Value → Prop} : idxN (v :: vs) 0 f = f v := propext Iff.rfl
theorem idxN_s {v : Value} {vs : List Value} {n : Nat} {f : Value → Prop} : idxN (v :: vs) (n + 1) f = idxN vs n f := propext Iff.rfl
theorem idxN_c {v : Value} {vs : List Value} {n : Nat} {f : Value → Prop} : idxN (v :: vs) n f = if n = 0 then f v else idxN vs (n - 1) f := by cases n <;> simp [idxN]
def idx (vs : List Value) (j : Int32) (f : Value → Prop) : Prop := if j < 0 then False else idxN vs j.toNatClampNeg f
theorem idx_c {vs : List Value} {j : Int32} {f : Value → Prop} : idx vs j f = if j < 0 then False else idxN vs j.toNatClampNeg f := propext Iff.rfl
theorem idx_e {vs : List Value} {j : Int32} {f : Value → Prop} (h : idx vs j f) : ¬ j < 0 ∧ ∃ v, vs[j.toNatClampNeg]? = some v ∧ f v := by
  unfold idx at h
  split at h
  · exact h.elim
  · rename_i h1
    unfold idxN at h
    split at h
    · exact ⟨h1, _, by assumption, h⟩
    · exact h.elim
/-- the list with its n-th place set -/
def setN (vs : List Value) (n : Nat) (v : Value) (f : List Value → Prop) : Prop := f (vs.set n v)
theorem setN_c {x v : Value} {vs : List Value} {n : Nat} {f : List Value → Prop} : setN (x :: vs) n v f = if n = 0 then f (v :: vs) else setN vs (n - 1) v fun l => f (x :: l) := by cases n <;> simp [setN]
def setL (vs : List Slot) (n : Nat) (v : Slot) (f : List Slot → Prop) : Prop := f (vs.set n v)
theorem setL_z {x v : Slot} {vs : List Slot} {f : List Slot → Prop} : setL (x :: vs) 0 v f = f (v :: vs) := propext Iff.rfl
theorem setL_s {x v : Slot} {vs : List Slot} {n : Nat} {f : List Slot → Prop} : setL (x :: vs) (n + 1) v f = setL vs n v fun l => f (x :: l) := propext Iff.rfl
def setH (H : List Cel) (n : Nat) (v : Cel) (f : List Cel → Prop) : Prop := f (H.set n v)
theorem setH_z {x v : Cel} {H : List Cel} {f : List Cel → Prop} : setH (x :: H) 0 v f = f (v :: H) := propext Iff.rfl
theorem setH_s {x v : Cel} {H : List Cel} {n : Nat} {f : List Cel → Prop} : setH (x :: H) (n + 1) v f = setH H n v fun l => f (x :: l) := propext Iff.rfl
def snoc (H : List Cel) (c : Cel) (f : List Cel → Prop) : Prop := f (H ++ [c])
theorem snoc_z {c : Cel} {f : List Cel → Prop} : snoc [] c f = f [c] := propext Iff.rfl
theorem snoc_s {x c : Cel} {H : List Cel} {f : List Cel → Prop} : snoc (x :: H) c f = snoc H c fun l => f (x :: l) := propext Iff.rfl
def onLen (H : List Cel) (f : Nat → Prop) : Prop := f H.length
theorem onLen_0 {f : Nat → Prop} : onLen [] f = f 0 := propext Iff.rfl
theorem onLen_1 {a : Cel} {f : Nat → Prop} : onLen [a] f = f 1 := propext Iff.rfl
theorem onLen_2 {a c : Cel} {f : Nat → Prop} : onLen [a, c] f = f 2 := propext Iff.rfl
theorem onLen_3 {a c d : Cel} {f : Nat → Prop} : onLen [a, c, d] f = f 3 := propext Iff.rfl
theorem onLen_4 {a c d e : Cel} {f : Nat → Prop} : onLen [a, c, d, e] f = f 4 := propext Iff.rfl
/-- a new array's values: n of them, all alike -/
def repN (n : Nat) (v : Value) (f : List Value → Prop) : Prop := f (List.replicate n v)
theorem repN_c {n : Nat} {v : Value} {f : List Value → Prop} : repN n v f = if n = 0 then f [] else repN (n - 1) v fun l => f (v :: l) := by cases n <;> simp [repN, List.replicate_succ]
def objI (H : List Cel) (i : Nat) (f : String → List (String × String × Value) → Prop) : Prop := match H[i]? with | some (.inr (C, fs)) => f C fs | _ => False
def obj (H : List Cel) (n a : Nat) (f : Nat → String → List (String × String × Value) → Prop) : Prop := ∃ i, a = ad n i ∧ objI H i (f i)
theorem objI_z {C : String} {fs : List (String × String × Value)} {H : List Cel} {f : String → List (String × String × Value) → Prop} : objI (.inr (C, fs) :: H) 0 f = f C fs := propext Iff.rfl
theorem objI_s {c : Cel} {H : List Cel} {i : Nat} {f : String → List (String × String × Value) → Prop} : objI (c :: H) (i + 1) f = objI H i f := propext Iff.rfl
theorem obj_c {H : List Cel} {n i : Nat} {f : Nat → String → List (String × String × Value) → Prop} : obj H n (ad n i) f = objI H i (f i) :=
  propext ⟨fun ⟨j, e, h⟩ => by obtain rfl : i = j := by simp [ad] at e; exact e
                               exact h, fun h => ⟨i, rfl, h⟩⟩
theorem obj_e {H : List Cel} {n a : Nat} {f : Nat → String → List (String × String × Value) → Prop} (h : obj H n a f) : ∃ i C fs, a = ad n i ∧ H[i]? = some (.inr (C, fs)) ∧ f i C fs := by
  obtain ⟨i, e, h⟩ := h
  unfold objI at h
  split at h
  · exact ⟨i, _, _, e, by assumption, h⟩
  · exact h.elim
theorem ifF_e {c : Prop} [Decidable c] {h : Prop} (q : if c then h else False) : c ∧ h := by split at q <;> first | exact ⟨by assumption, q⟩ | exact q.elim
/-- a branch's target -/
def tgt (pc : Nat) (o : Int) (f : Nat → Prop) : Prop := f ((pc : Int) + o).toNat
def look {α : Type} : List (Nat × α) → Nat → Option α
  | [], _ => none
  | (k, v) :: r, n => if n = k then some v else look r n
theorem look_z {α : Type} {k : Nat} {v : α} {r : List (Nat × α)} : look ((k, v) :: r) k = some v := by simp [look]
theorem look_s {α : Type} {k n : Nat} {v : α} {r : List (Nat × α)} (h : (n = k) = False) : look ((k, v) :: r) n = look r n := by simp [look, h]
theorem look_mem {α : Type} {L : List (Nat × α)} {n : Nat} {v : α} (h : look L n = some v) : (n, v) ∈ L := by
  induction L with
  | nil => cases h
  | cons x r ih =>
    obtain ⟨k, w⟩ := x
    unfold look at h
    split at h
    · rename_i e; cases h; subst e; exact List.mem_cons_self ..
    · exact List.mem_cons_of_mem _ (ih h)
def onSome {α : Type} (o : Option α) (f : α → Prop) : Prop := match o with | some v => f v | none => False
theorem onSome_c {α : Type} {v : α} {f : α → Prop} : onSome (some v) f = f v := propext Iff.rfl
theorem onSome_e {α : Type} {o : Option α} {f : α → Prop} (h : onSome o f) : ∃ v, o = some v ∧ f v := by unfold onSome at h; split at h <;> first | exact ⟨_, rfl, h⟩ | exact h.elim
/-- Java's int remainder, as the model spells it -/
def remI (x y : Int32) : Int32 := x - (x / y) * y
def remJ (x y : Int64) : Int64 := x - (x / y) * y
def retv (t : FieldType) (x : Int32) : Int32 := nar t x
def ilen : Instr → Nat
  | .aload _ | .astore _ | .iload _ | .istore _ | .lload _ | .lstore _ | .bipush _ | .ldc _ | .newarray _ => 2
  | .sipush _ | .ldc2_w _ | .ldc_w _ | .iinc _ _ | .goto _ | .ifCond _ _ | .if_icmp _ _ | .ifnull _ | .ifnonnull _ | .new _ | .getfield _ | .putfield _ | .invokestatic _ | .invokespecial _ | .invokevirtual _ | .checkcast _ | .anewarray _ => 3
  | _ => 1
def off : Instr → Int
  | .goto o | .ifCond _ o | .if_icmp _ o | .ifnull o | .ifnonnull o => o
  | _ => 0
def at1 (code : ByteArray) (pc : Nat) : Option Instr := match decode code pc with
  | .ok (i, n) => if n = ilen i ∧ 0 ≤ (pc : Int) + off i then some i else none
  | _ => none
theorem at1_of {code : ByteArray} {pc n : Nat} {i : Instr} (h : decode code pc = .ok (i, n)) (hn : n = ilen i) (ho : 0 ≤ (pc : Int) + off i) : at1 code pc = some i := by
  simp [at1, h, hn, ho]
theorem at1_o {code : ByteArray} {pc : Nat} {i : Instr} (h : at1 code pc = some i) : decode code pc = .ok (i, ilen i) ∧ 0 ≤ (pc : Int) + off i := by
  unfold at1 at h
  split at h
  · rename_i j n q
    split at h
    · rename_i e; cases h; rw [q, e.1]; exact ⟨rfl, e.2⟩
    · cases h
  · cases h
theorem at1_e {code : ByteArray} {pc : Nat} {i : Instr} (h : at1 code pc = some i) : decode code pc = .ok (i, ilen i) := (at1_o h).1

def fget (fs : List (String × String × Value)) (n d : String) : Option Value := match fs with
  | [] => none
  | (n', d', v) :: r => if n = n' ∧ d = d' then some v else fget r n d
theorem fget_mem {fs : List (String × String × Value)} {n d : String} {v : Value} (h : fget fs n d = some v) : (n, d, v) ∈ fs := by
  induction fs with
  | nil => cases h
  | cons x r ih =>
    obtain ⟨n', d', w⟩ := x
    unfold fget at h
    split at h
    · rename_i e; cases h; obtain ⟨rfl, rfl⟩ := e; exact List.mem_cons_self ..
    · exact List.mem_cons_of_mem _ (ih h)
def fgt (fs : List (String × String × Value)) (n d : String) (f : Value → Prop) : Prop := onSome (fget fs n d) f
theorem fgt_c {n n' d d' : String} {v : Value} {r : List (String × String × Value)} {f : Value → Prop} : fgt ((n', d', v) :: r) n d f = if n = n' ∧ d = d' then f v else fgt r n d f := by
  unfold fgt
  rw [fget]
  split <;> rfl
theorem nar_bb {x : Int32} : nar .byte (nar .byte x) = nar .byte x := by simp [nar]
theorem nar_cc {x : Int32} : nar .char (nar .char x) = nar .char x := by simp only [nar, UInt32.toUInt32_toInt32, UInt16.toUInt16_toUInt32]
theorem nar_b0 : nar .boolean 0 = 0 := by decide
theorem nar_b1 : nar .boolean 1 = 1 := by decide
theorem i32_nl {x y : Int32} (h : x < y) : (x = y) = False := eq_false fun e => by subst e; exact Int32.lt_irrefl h
theorem i32_ng {x y : Int32} (h : y < x) : (x = y) = False := eq_false fun e => by subst e; exact Int32.lt_irrefl h
theorem i64_nl {x y : Int64} (h : x < y) : (x = y) = False := eq_false fun e => by subst e; exact Int64.lt_irrefl h
theorem i64_ng {x y : Int64} (h : y < x) : (x = y) = False := eq_false fun e => by subst e; exact Int64.lt_irrefl h
theorem cmpL_lt {x y : Int64} : (XT.cmpL x y < 0) = (x < y) := by
  have h1 := @Int64.lt_iff_toInt_lt x y
  have h2 := @Int64.lt_iff_toInt_lt y x
  have h3 : x = y ↔ x.toInt = y.toInt := Int64.toInt_inj.symm
  unfold XT.cmpL
  split
  · rw [show ((1 : Int32) < 0) = False by decide]; simp only [h1, h2, h3] at *; exact propext ⟨False.elim, fun _ => by omega⟩
  · split
    · rw [show ((0 : Int32) < 0) = False by decide]; simp only [h1, h2, h3] at *; exact propext ⟨False.elim, fun _ => by omega⟩
    · rw [show ((-1 : Int32) < 0) = True by decide]; simp only [h1, h2, h3] at *; exact propext ⟨fun _ => by omega, fun _ => trivial⟩
theorem cmpL_gt {x y : Int64} : (0 < XT.cmpL x y) = (y < x) := by
  have h1 := @Int64.lt_iff_toInt_lt x y
  have h2 := @Int64.lt_iff_toInt_lt y x
  have h3 : x = y ↔ x.toInt = y.toInt := Int64.toInt_inj.symm
  unfold XT.cmpL
  split
  · rw [show ((0 : Int32) < 1) = True by decide]; simp only [h1, h2, h3] at *; exact propext ⟨fun _ => by omega, fun _ => trivial⟩
  · split
    · rw [show ((0 : Int32) < 0) = False by decide]; simp only [h1, h2, h3] at *; exact propext ⟨False.elim, fun _ => by omega⟩
    · rw [show ((0 : Int32) < -1) = False by decide]; simp only [h1, h2, h3] at *; exact propext ⟨False.elim, fun _ => by omega⟩
theorem cmpL_eq {x y : Int64} : (XT.cmpL x y = 0) = (x = y) := by
  have h1 := @Int64.lt_iff_toInt_lt x y
  have h2 := @Int64.lt_iff_toInt_lt y x
  have h3 : x = y ↔ x.toInt = y.toInt := Int64.toInt_inj.symm
  unfold XT.cmpL
  split
  · rw [show ((1 : Int32) = 0) = False by decide]; simp only [h1, h2, h3] at *; exact propext ⟨False.elim, fun _ => by omega⟩
  · split
    · rename_i q; rw [show ((0 : Int32) = 0) = True by decide]; exact propext ⟨fun _ => q, fun _ => trivial⟩
    · rename_i q; rw [show ((-1 : Int32) = 0) = False by decide]; exact propext ⟨False.elim, fun z => absurd z q⟩
def fset (fs : List (String × String × Value)) (n : String) (v : Value) : List (String × String × Value) := match fs with
  | [] => []
  | (n', d', w) :: r => if n' = n then (n', d', v) :: fset r n v else (n', d', w) :: fset r n v
theorem fset_mem {fs : List (String × String × Value)} {n : String} {v : Value} {f : String × String × Value} (h : f ∈ fset fs n v) : (f.1 = n ∧ f.2.2 = v ∧ ∃ w, (f.1, f.2.1, w) ∈ fs) ∨ (f.1 ≠ n ∧ f ∈ fs) := by
  induction fs with
  | nil => cases h
  | cons x r ih =>
    obtain ⟨n', d', w⟩ := x
    unfold fset at h
    split at h
    · rename_i e
      rcases List.mem_cons.mp h with rfl | h
      · exact Or.inl ⟨e, rfl, w, List.mem_cons_self ..⟩
      · rcases ih h with ⟨q1, q2, w', q3⟩ | ⟨q1, q2⟩
        · exact Or.inl ⟨q1, q2, w', List.mem_cons_of_mem _ q3⟩
        · exact Or.inr ⟨q1, List.mem_cons_of_mem _ q2⟩
    · rename_i e
      rcases List.mem_cons.mp h with rfl | h
      · exact Or.inr ⟨e, List.mem_cons_self ..⟩
      · rcases ih h with ⟨q1, q2, w', q3⟩ | ⟨q1, q2⟩
        · exact Or.inl ⟨q1, q2, w', List.mem_cons_of_mem _ q3⟩
        · exact Or.inr ⟨q1, List.mem_cons_of_mem _ q2⟩
def fst (fs : List (String × String × Value)) (n : String) (v : Value) (f : List (String × String × Value) → Prop) : Prop := f (fset fs n v)
theorem fst_n {n : String} {v : Value} {f : List (String × String × Value) → Prop} : fst [] n v f = f [] := propext Iff.rfl
theorem fst_c {n n' d : String} {v w : Value} {r : List (String × String × Value)} {f : List (String × String × Value) → Prop} : fst ((n', d, w) :: r) n v f = if n' = n then fst r n v fun l => f ((n', d, v) :: l) else fst r n v fun l => f ((n', d, w) :: l) := by
  unfold fst
  rw [fset]
  split <;> rfl
theorem LaidAll.set {Z : State} {C n : String} {v : Value} {fs : List (String × String × Value)} (h : LaidAll Z C fs) : LaidAll Z C (fset fs n v) := by
  obtain ⟨a0, h⟩ := h
  have key : ∀ f ∈ fset fs n v, ∃ w, (f.1, f.2.1, w) ∈ fs := fun f hf => by
    rcases fset_mem hf with ⟨-, -, w, q⟩ | ⟨-, q⟩
    · exact ⟨w, q⟩
    · exact ⟨f.2.2, q⟩
  refine ⟨a0, fun f hf => ?_⟩
  obtain ⟨w, q⟩ := key f hf
  obtain ⟨h1, h2, h3⟩ := h _ q
  refine ⟨h1, h2, fun g hg e => ?_⟩
  obtain ⟨w', q'⟩ := key g hg
  exact h3 (g.1, g.2.1, w') q' e
section Objs
variable {code : ByteArray} {own nm : String} {maxL : Nat} {ret : Option FieldType} {R : Room} {W : List Jvm.Cond} {l : Launch} {Z : State} {b : Heap} {rc rs : Nat} {K : Option Value → List Cel → Prop}
variable {pc : Nat} {ls : List Slot} {st : List Value} {H : List Cel} {cN sN : Nat}
/-- what the sheet's words say of a class that is made: its fields at their first values -/
def NewOk (W : List Jvm.Cond) (own : String) (idx : Nat) (C : String) (n : Nat) (fs : List (String × String × Value)) : Prop :=
  Jvm.Cond.classLink own idx C ∈ W ∧ Jvm.Cond.instantiable C n ∈ W ∧ Jvm.Cond.initialized C ∈ W ∧ ∀ f ∈ fs, (Jvm.Cond.lays C C f.1 f.2.1 ∈ W ∨ Jvm.Cond.laysFinal C C f.1 f.2.1 ∈ W) ∧ (∃ ty, parseFieldDescriptor f.2.1 = some ty ∧ f.2.2 = defaultValue ty) ∧ ∀ f' ∈ fs, f'.1 = f.1 → f'.2.1 = f.2.1
theorem G.new {idx n : Nat} {C : String} {fs : List (String × String × Value)} (hN : NewOk W own idx C n fs)
    (hd : decode code pc = .ok (.new idx, 3)) (hc1 : cN + 1 ≤ R.cells) (hs1 : sN + n ≤ R.slots)
    (k : G code own nm maxL ret R W l Z b rc rs K (pc + 3) ls (.ref (ad b.size H.length) :: st) (H ++ [.inr (C, fs)]) (cN + 1) (sN + n)) : G code own nm maxL ret R W l Z b rc rs K pc ls st H cN sN := by
  obtain ⟨w1, w2, w3, hfs⟩ := hN
  refine G.move (fun p e s m args below meth c T locs a0 hx hc hm hn hZ ho hw X hF hR => ?_) k
  obtain ⟨vm', cC, kC, h1, h2, h3, h4, X', sp⟩ := X.newCold hx ho (mv hZ (hw _ w1)) (mv hZ (hw _ w2)) (mv hZ (hw _ w3)) (g := mkF m pc ls.toArray st) rfl (hb hc hd) hc1 hs1
  have ea : ad b.size H.length = T.heap.size := by rw [hR.1]; rfl
  rw [hZ.alike.findClass] at h1
  obtain ⟨kZ, z1, -⟩ := Vm.findClass_spec h1
  obtain ⟨k', z2, z3⟩ := hZ.alike.2.2 _ _ z1
  cases h2.symm.trans z2
  have ei : kC.instanceTypes = kZ.instanceTypes := by rw [z3]
  have hN : (T.heap.push { cls := cC, slots := kC.instanceTypes.map defaultValue, vm := .none })[T.heap.size]? = some { cls := cC, slots := kC.instanceTypes.map defaultValue, vm := .none } := by simp
  refine ⟨_, _, X', hF, hR.push (h' := T.heap.push { cls := cC, slots := kC.instanceTypes.map defaultValue, vm := .none }) ⟨by simp, fun a c h => ?_⟩ (by simp) ⟨⟨_, kZ, hN, h1, z1, rfl, fun _ => by simp [ei]⟩, fun f hf => ?_, a0, fun f hf => ?_⟩, by rw [ea]; exact sp⟩
  · rw [Array.getElem?_push_lt (Array.getElem?_eq_some_iff.mp h).1]; exact (Array.getElem?_eq_getElem _).symm.trans h
  · obtain ⟨L, ⟨ty, ht, hv⟩, -⟩ := hfs f hf
    obtain ⟨c1, k1, cf, kf, i, fl, a1, a2, a3, a4, a5, a6, -⟩ := Laid.spec (a0 := a0) (L.imp (hw _) (hw _))
    cases h1.symm.trans a1
    cases z1.symm.trans a2
    rw [hv]
    exact ⟨_, cf, kf, i, fl, hN, a3, a4, by simp, rfl, a5, by simp [ei, a6, (State.fieldFound?_type a3 ht).2]⟩
  · obtain ⟨L, ⟨ty, ht, hv⟩, u⟩ := hfs f hf
    exact ⟨L.imp (hw _) (hw _), ⟨ty, ht⟩, u⟩
/-- what the sheet's words say of a field that is written here -/
def PutOk (W : List Jvm.Cond) (own nm : String) (idx : Nat) (C n d : String) (ty : FieldType) : Prop :=
  Jvm.Cond.fieldLink own idx C n d ∈ W ∧ (Jvm.Cond.lays C C n d ∈ W ∨ (Jvm.Cond.laysFinal C C n d ∈ W ∧ own = C ∧ nm = "<init>")) ∧ (∃ kk, Jvm.Cond.instantiable C kk ∈ W) ∧ parseFieldDescriptor d = some ty
theorem G.putf {idx i : Nat} {C n d : String} {ty : FieldType} {v v' old : Value} {fs : List (String × String × Value)} {rest : List Value} (hP : PutOk W own nm idx C n d ty) (hn : narrow ty v = v') (hft : fits ty v' = true)
    (hd : decode code pc = .ok (.putfield idx, 3)) (hi : H[i]? = some (.inr (C, fs))) (hg : fget fs n d = some old)
    (k : G code own nm maxL ret R W l Z b rc rs K (pc + 3) ls rest (H.set i (.inr (C, fset fs n v'))) cN sN) : G code own nm maxL ret R W l Z b rc rs K pc ls (v :: .ref (ad b.size i) :: rest) H cN sN := by
  obtain ⟨w1, wl, ⟨kk, wi⟩, hty⟩ := hP
  refine G.move (fun p e s m args below meth c T locs a0 hx hc hm hnm hZ ho hw X hF hR => ?_) k
  obtain ⟨E, F, LA⟩ := hR.2 _ _ hi
  obtain ⟨T', h', X', e2, Wt, sp⟩ := putFN X hx hZ ho (hw _ w1) Via.refl rfl (F _ (fget_mem hg)) E (wl.imp (hw _) fun q => ⟨hw _ q.1, q.2.1, hnm.trans q.2.2⟩) (hw _ wi) hty hn hft (g := mkF m pc ls.toArray (v :: .ref (ad b.size i) :: rest)) rfl rfl (hb hc hd)
  refine ⟨T', _, X', hF.app (fun y hy => by cases List.mem_singleton.mp hy; exact Nat.le_add_right _ _), ?_, sp⟩
  rw [e2]
  refine hR.set Wt ⟨E.wr Wt, fun f hf => ?_, LA.set⟩
  obtain ⟨a1, hall⟩ := LA
  obtain ⟨L2, -, un⟩ := hall _ (fget_mem hg)
  rcases fset_mem hf with ⟨q1, q2, w, q3⟩ | ⟨q1, q2⟩
  · have qd : f.2.1 = d := un (f.1, f.2.1, w) q3 q1
    have := F _ q3
    rw [q1, q2, qd]
    simp only [q1, qd] at this
    exact this.same Wt
  · obtain ⟨L1, ⟨ty1, t1⟩, -⟩ := hall _ q2
    exact (F _ q2).other Wt (Or.inr (slot_ne (a0 := a1) (C := C) L1 L2 q1 t1 hty))
end Objs
section New
variable {p : Program} {l : Launch} {e : Env} {R : Room} {s : State} {m : MethodId} {args : Array Value} {below : List Frame} {meth : Method} {c : Code} {T : State} {locs : List Loc} {cells slots : Nat}
theorem retI (X : Stand p l e R s m args below meth c T locs cells slots) (hx : p.tables.exec = Jvm.exec) {pc : Nat} {Ls : Array Slot} {z : Int32} {rest : List Value} (hret : meth.sig.returnType = some .int) (hd : decode c.code pc = .ok (.ireturn, 1)) {fs : List Frame}
    (hl : ∀ (f : JFrame) (acts : List Action), f.method = m → f.locked = none → f.entered = [] → (doReturn e (T.setTop f) acts (some (.int z))).1 = T.setFrames fs) : Steps p.tables e below (T.setTop (mkF m pc Ls (.int z :: rest))) (T.setFrames fs) :=
  retOut X hx hret rfl (Or.inl ⟨rfl, Or.inl rfl, _, rfl⟩) hd hl
theorem newA_step {Z : State} {b : Heap} {a0 : Array Value} {H : List Cel} {t : ArrayType} {pc : Nat} {ls : List Slot} {n : Int32} {r : List Value} (X : Stand p l e R s m args below meth c T locs cells slots) (hx : p.tables.exec = Jvm.exec) (hZ : Z.Warmed39 s.vm) (w : (Jvm.Cond.arrayClass (newarray.typeOf t)).before a0 Z = true) (hF : Fr b.size locs) (hR : Rep Z b T.heap H)
    (hd : decode c.code pc = .ok (.newarray t, 2)) (hn : ¬ n < 0) (hcap : n.toNatClampNeg ≤ 65536) (hc : cells + 1 ≤ R.cells) (hs : slots + n.toNatClampNeg ≤ R.slots) :
    ∃ T' locs', Stand p l e R s m args below meth c T' locs' (cells + 1) (slots + n.toNatClampNeg) ∧ Fr b.size locs' ∧ Rep Z b T'.heap (H ++ [.inl (newarray.typeOf t, List.replicate n.toNatClampNeg (defaultValue (newarray.typeOf t)))]) ∧
      ∀ target, Steps p.tables e below (T'.setTop (mkF m (pc + 2) ls.toArray (.ref (ad b.size H.length) :: r))) target → Steps p.tables e below (T.setTop (mkF m pc ls.toArray (.int n :: r))) target := by
  have hcb : componentBytes (newarray.typeOf t) ≤ 8 := by cases t <;> decide
  obtain ⟨cA, kA, comp, h1, h2, h3, X', sp⟩ := X.newarrayPrim hx (mvA hZ w) (g := mkF m pc ls.toArray (.int n :: r)) rfl hd rfl hn (Nat.le_trans (Nat.mul_le_mul hcap hcb) (by decide)) hc hs
  rw [hZ.alike.findClass] at h1
  obtain ⟨kZ, z1, -⟩ := Vm.findClass_spec h1
  obtain ⟨k', z2, z3⟩ := hZ.alike.2.2 _ _ z1
  cases h2.symm.trans z2
  have ea : ad b.size H.length = T.heap.size := by rw [hR.1]; rfl
  refine ⟨_, _, X', hF, hR.push (h' := T.heap.push _) ⟨by simp, fun a c h => ?_⟩ (by simp) ⟨_, ⟨by simp; rfl, ⟨by simp, kZ, z1, comp, by rw [← h3, z3]⟩, by simp⟩, by simp⟩, by rw [ea]; exact sp⟩
  rw [Array.getElem?_push_lt (Array.getElem?_eq_some_iff.mp h).1]; exact (Array.getElem?_eq_getElem _).symm.trans h
end New
set_option maxHeartbeats 4000000 in
def W1 (CI : List (Nat × Int32)) (CL : List (Nat × Int64)) (FL : List (Nat × String × String × String)) (AL : List FieldType) (PL : List (Nat × String × String × String × FieldType)) (NL : List (Nat × String × Nat × List (String × String × Value))) (ret : Option FieldType) (R : Room) (n0 rc rs : Nat) (K : Option Value → List Cel → Prop) (g : Cont) (i : Instr) (pc : Nat) (ls : List Slot) (st : List Value) (H : List Cel) (cN sN : Nat) (k : Cont) : Prop := match i with
  | .iload_n j => ldI ls j.val fun v => k (pc + 1) ls (.int v :: st) H cN sN
  | .iload j => ldI ls j fun v => k (pc + 2) ls (.int v :: st) H cN sN
  | .lload_n j => ldJ ls j.val fun v => k (pc + 1) ls (.long v :: st) H cN sN
  | .lload j => ldJ ls j fun v => k (pc + 2) ls (.long v :: st) H cN sN
  | .aload_n j => ldA ls j.val fun v => k (pc + 1) ls (v :: st) H cN sN
  | .aload j => ldA ls j fun v => k (pc + 2) ls (v :: st) H cN sN
  | .istore_n j => popI st fun v r => sto1 ls j.val (.int v) fun l' => k (pc + 1) l' r H cN sN
  | .istore j => popI st fun v r => sto1 ls j (.int v) fun l' => k (pc + 2) l' r H cN sN
  | .lstore_n j => popJ st fun v r => sto2 ls j.val (.long v) fun l' => k (pc + 1) l' r H cN sN
  | .lstore j => popJ st fun v r => sto2 ls j (.long v) fun l' => k (pc + 2) l' r H cN sN
  | .astore_n j => popA st fun v r => sto1 ls j.val v fun l' => k (pc + 1) l' r H cN sN
  | .astore j => popA st fun v r => sto1 ls j v fun l' => k (pc + 2) l' r H cN sN
  | .iconst i => k (pc + 1) ls (.int (Int32.ofInt i) :: st) H cN sN
  | .lconst i => k (pc + 1) ls (.long (Int64.ofNat i) :: st) H cN sN
  | .bipush i => k (pc + 2) ls (.int (Int8.ofInt i).toInt32 :: st) H cN sN
  | .sipush i => k (pc + 3) ls (.int (Int16.ofInt i).toInt32 :: st) H cN sN
  | .aconst_null => k (pc + 1) ls (.null :: st) H cN sN
  | .ldc i => onSome (look CI i) fun v => k (pc + 2) ls (.int v :: st) H cN sN
  | .ldc2_w i => onSome (look CL i) fun v => k (pc + 3) ls (.long v :: st) H cN sN
  | .iadd => popI st fun y r => popI r fun x r => k (pc + 1) ls (.int (x + y) :: r) H cN sN
  | .isub => popI st fun y r => popI r fun x r => k (pc + 1) ls (.int (x - y) :: r) H cN sN
  | .imul => popI st fun y r => popI r fun x r => k (pc + 1) ls (.int (x * y) :: r) H cN sN
  | .iand => popI st fun y r => popI r fun x r => k (pc + 1) ls (.int (x &&& y) :: r) H cN sN
  | .ior => popI st fun y r => popI r fun x r => k (pc + 1) ls (.int (x ||| y) :: r) H cN sN
  | .ixor => popI st fun y r => popI r fun x r => k (pc + 1) ls (.int (x ^^^ y) :: r) H cN sN
  | .ishl => popI st fun y r => popI r fun x r => k (pc + 1) ls (.int (x <<< (y &&& 31)) :: r) H cN sN
  | .ishr => popI st fun y r => popI r fun x r => k (pc + 1) ls (.int (x >>> (y &&& 31)) :: r) H cN sN
  | .iushr => popI st fun y r => popI r fun x r => k (pc + 1) ls (.int (XT.ushr x y) :: r) H cN sN
  | .idiv => popI st fun y r => popI r fun x r => y ≠ 0 ∧ k (pc + 1) ls (.int (x / y) :: r) H cN sN
  | .irem => popI st fun y r => popI r fun x r => y ≠ 0 ∧ k (pc + 1) ls (.int (remI x y) :: r) H cN sN
  | .ladd => popJ st fun y r => popJ r fun x r => k (pc + 1) ls (.long (x + y) :: r) H cN sN
  | .lsub => popJ st fun y r => popJ r fun x r => k (pc + 1) ls (.long (x - y) :: r) H cN sN
  | .lmul => popJ st fun y r => popJ r fun x r => k (pc + 1) ls (.long (x * y) :: r) H cN sN
  | .land => popJ st fun y r => popJ r fun x r => k (pc + 1) ls (.long (x &&& y) :: r) H cN sN
  | .lor => popJ st fun y r => popJ r fun x r => k (pc + 1) ls (.long (x ||| y) :: r) H cN sN
  | .lxor => popJ st fun y r => popJ r fun x r => k (pc + 1) ls (.long (x ^^^ y) :: r) H cN sN
  | .ldiv => popJ st fun y r => popJ r fun x r => y ≠ 0 ∧ k (pc + 1) ls (.long (x / y) :: r) H cN sN
  | .lrem => popJ st fun y r => popJ r fun x r => y ≠ 0 ∧ k (pc + 1) ls (.long (remJ x y) :: r) H cN sN
  | .lshl => popI st fun y r => popJ r fun x r => k (pc + 1) ls (.long (x <<< (y.toInt64 &&& 63)) :: r) H cN sN
  | .lshr => popI st fun y r => popJ r fun x r => k (pc + 1) ls (.long (x >>> (y.toInt64 &&& 63)) :: r) H cN sN
  | .lushr => popI st fun y r => popJ r fun x r => k (pc + 1) ls (.long (XT.ushrL x y) :: r) H cN sN
  | .lcmp => popJ st fun y r => popJ r fun x r => k (pc + 1) ls (.int (XT.cmpL x y) :: r) H cN sN
  | .i2l => popI st fun x r => k (pc + 1) ls (.long (x.toInt64) :: r) H cN sN
  | .l2i => popJ st fun x r => k (pc + 1) ls (.int (x.toInt32) :: r) H cN sN
  | .i2b => popI st fun x r => k (pc + 1) ls (.int (nar .byte x) :: r) H cN sN
  | .i2c => popI st fun x r => k (pc + 1) ls (.int (nar .char x) :: r) H cN sN
  | .i2s => popI st fun x r => k (pc + 1) ls (.int (nar .short x) :: r) H cN sN
  | .ineg => popI st fun x r => k (pc + 1) ls (.int (-x) :: r) H cN sN
  | .dup => pop1 st fun x r => k (pc + 1) ls (x :: x :: r) H cN sN
  | .pop => pop1 st fun x r => k (pc + 1) ls r H cN sN
  | .dup_x1 => pop1 st fun x r => pop1 r fun y r => k (pc + 1) ls (x :: y :: x :: r) H cN sN
  | .iinc j i => ldI ls j fun v => setL ls j (.val (.int (v + Int32.ofInt i))) fun l' => k (pc + 3) l' st H cN sN
  | .goto o => tgt pc o fun t => k (t) ls st H cN sN
  | .ifCond .eq o => popI st fun x r => if x = 0 then (tgt pc o fun t => k (t) ls r H cN sN) else (k (pc + 3) ls r H cN sN)
  | .ifCond .ne o => popI st fun x r => if x = 0 then (k (pc + 3) ls r H cN sN) else (tgt pc o fun t => k (t) ls r H cN sN)
  | .ifCond .lt o => popI st fun x r => if x < 0 then (tgt pc o fun t => k (t) ls r H cN sN) else (k (pc + 3) ls r H cN sN)
  | .ifCond .ge o => popI st fun x r => if x < 0 then (k (pc + 3) ls r H cN sN) else (tgt pc o fun t => k (t) ls r H cN sN)
  | .ifCond .gt o => popI st fun x r => if 0 < x then (tgt pc o fun t => k (t) ls r H cN sN) else (k (pc + 3) ls r H cN sN)
  | .ifCond .le o => popI st fun x r => if 0 < x then (k (pc + 3) ls r H cN sN) else (tgt pc o fun t => k (t) ls r H cN sN)
  | .if_icmp .eq o => popI st fun y r => popI r fun x r => if x = y then (tgt pc o fun t => k (t) ls r H cN sN) else (k (pc + 3) ls r H cN sN)
  | .if_icmp .ne o => popI st fun y r => popI r fun x r => if x = y then (k (pc + 3) ls r H cN sN) else (tgt pc o fun t => k (t) ls r H cN sN)
  | .if_icmp .lt o => popI st fun y r => popI r fun x r => if x < y then (tgt pc o fun t => k (t) ls r H cN sN) else (k (pc + 3) ls r H cN sN)
  | .if_icmp .ge o => popI st fun y r => popI r fun x r => if x < y then (k (pc + 3) ls r H cN sN) else (tgt pc o fun t => k (t) ls r H cN sN)
  | .if_icmp .gt o => popI st fun y r => popI r fun x r => if y < x then (tgt pc o fun t => k (t) ls r H cN sN) else (k (pc + 3) ls r H cN sN)
  | .if_icmp .le o => popI st fun y r => popI r fun x r => if y < x then (k (pc + 3) ls r H cN sN) else (tgt pc o fun t => k (t) ls r H cN sN)
  | .ifnull o => match st with | .null :: r => tgt pc o fun t => k (t) ls r H cN sN | .ref _ :: r => k (pc + 3) ls r H cN sN | _ => False
  | .ifnonnull o => match st with | .null :: r => k (pc + 3) ls r H cN sN | .ref _ :: r => tgt pc o fun t => k (t) ls r H cN sN | _ => False
  | .arraylength => popR st fun a r => arr H n0 a fun i ty vs => k (pc + 1) ls (.int (Int32.ofNat vs.length) :: r) H cN sN
  | .baload => popI st fun j r => popR r fun a r => arr H n0 a fun i ty vs => if ty = .byte then idx vs j fun v => k (pc + 1) ls (v :: r) H cN sN else False
  | .caload => popI st fun j r => popR r fun a r => arr H n0 a fun i ty vs => if ty = .char then idx vs j fun v => k (pc + 1) ls (v :: r) H cN sN else False
  | .iaload => popI st fun j r => popR r fun a r => arr H n0 a fun i ty vs => if ty = .int then idx vs j fun v => k (pc + 1) ls (v :: r) H cN sN else False
  | .laload => popI st fun j r => popR r fun a r => arr H n0 a fun i ty vs => if ty = .long then idx vs j fun v => k (pc + 1) ls (v :: r) H cN sN else False
  | .bastore => popI st fun x r => popI r fun j r => popR r fun a r => arr H n0 a fun i ty vs => if ty = .byte then idx vs j fun _ => setN vs j.toNatClampNeg (.int (nar .byte x)) fun vs' => setH H i (.inl (.byte, vs')) fun H' => k (pc + 1) ls r H' cN sN else False
  | .castore => popI st fun x r => popI r fun j r => popR r fun a r => arr H n0 a fun i ty vs => if ty = .char then idx vs j fun _ => setN vs j.toNatClampNeg (.int (nar .char x)) fun vs' => setH H i (.inl (.char, vs')) fun H' => k (pc + 1) ls r H' cN sN else False
  | .iastore => popI st fun x r => popI r fun j r => popR r fun a r => arr H n0 a fun i ty vs => if ty = .int then idx vs j fun _ => setN vs j.toNatClampNeg (.int x) fun vs' => setH H i (.inl (.int, vs')) fun H' => k (pc + 1) ls r H' cN sN else False
  | .lastore => popJ st fun x r => popI r fun j r => popR r fun a r => arr H n0 a fun i ty vs => if ty = .long then idx vs j fun _ => setN vs j.toNatClampNeg (.long x) fun vs' => setH H i (.inl (.long, vs')) fun H' => k (pc + 1) ls r H' cN sN else False
  | .newarray t => popI st fun n r => if ¬ n < 0 ∧ newarray.typeOf t ∈ AL ∧ n.toNatClampNeg ≤ 65536 ∧ cN + 1 ≤ R.cells ∧ sN + n.toNatClampNeg ≤ R.slots then onLen H fun i => repN n.toNatClampNeg (defaultValue (newarray.typeOf t)) fun vs => snoc H (.inl (newarray.typeOf t, vs)) fun H' => k (pc + 2) ls (.ref (ad n0 i) :: r) H' (cN + 1) (sN + n.toNatClampNeg) else False
  | .ireturn => popI st fun x r => if cN ≤ rc ∧ sN ≤ rs then (match ret with | some .int => K (some (.int x)) H | some .boolean => K (some (.int (nar .boolean x))) H | some .byte => K (some (.int (nar .byte x))) H | some .char => K (some (.int (nar .char x))) H | some .short => K (some (.int (nar .short x))) H | _ => False) else False
  | .lreturn => popJ st fun x r => if cN ≤ rc ∧ sN ≤ rs ∧ r = [] ∧ ret = some .long then K (some (.long x)) H else False
  | .areturn => popR st fun x r => if cN ≤ rc ∧ sN ≤ rs ∧ ret = some (.array .byte) then K (some (.ref x)) H else False
  | .return_ => if cN ≤ rc ∧ sN ≤ rs ∧ ret = none ∧ st = [] then K none H else False
  | .getfield j => popR st fun a r => onSome (look FL j) fun q => obj H n0 a fun i C fs => if C = q.1 then fgt fs q.2.1 q.2.2 fun v => k (pc + 3) ls (v :: r) H cN sN else False
  | .new j => onSome (look NL j) fun q => if cN + 1 ≤ R.cells ∧ sN + q.2.1 ≤ R.slots then onLen H fun i => snoc H (.inr (q.1, q.2.2)) fun H' => k (pc + 3) ls (.ref (ad n0 i) :: st) H' (cN + 1) (sN + q.2.1) else False
  | .putfield j => onSome (look PL j) fun q => match q.2.2.2 with | .long => popJ st fun x r => popR r fun a r => obj H n0 a fun i C fs => if C = q.1 then fgt fs q.2.1 q.2.2.1 fun _ => fst fs q.2.1 (.long x) fun fs' => setH H i (.inr (C, fs')) fun H' => k (pc + 3) ls r H' cN sN else False | .int => popI st fun x r => popR r fun a r => obj H n0 a fun i C fs => if C = q.1 then fgt fs q.2.1 q.2.2.1 fun _ => fst fs q.2.1 (.int x) fun fs' => setH H i (.inr (C, fs')) fun H' => k (pc + 3) ls r H' cN sN else False | .boolean => popI st fun x r => popR r fun a r => obj H n0 a fun i C fs => if C = q.1 then fgt fs q.2.1 q.2.2.1 fun _ => fst fs q.2.1 (.int (nar .boolean x)) fun fs' => setH H i (.inr (C, fs')) fun H' => k (pc + 3) ls r H' cN sN else False | .object _ => popA st fun x r => popR r fun a r => obj H n0 a fun i C fs => if C = q.1 then fgt fs q.2.1 q.2.2.1 fun _ => fst fs q.2.1 (x) fun fs' => setH H i (.inr (C, fs')) fun H' => k (pc + 3) ls r H' cN sN else False | .array _ => popA st fun x r => popR r fun a r => obj H n0 a fun i C fs => if C = q.1 then fgt fs q.2.1 q.2.2.1 fun _ => fst fs q.2.1 (x) fun fs' => setH H i (.inr (C, fs')) fun H' => k (pc + 3) ls r H' cN sN else False | _ => False
  | _ => g pc ls st H cN sN
/-- n steps from here -/
def Wn (S : List Nat) (code : ByteArray) (CI : List (Nat × Int32)) (CL : List (Nat × Int64)) (FL : List (Nat × String × String × String)) (AL : List FieldType) (PL : List (Nat × String × String × String × FieldType)) (NL : List (Nat × String × Nat × List (String × String × Value))) (ret : Option FieldType) (R : Room) (n0 rc rs : Nat) (K : Option Value → List Cel → Prop) (g : Cont) : Nat → Cont
  | 0 => g
  | n + 1 => fun pc ls st H cN sN => if pc ∈ S then g pc ls st H cN sN else onSome (at1 code pc) fun i => W1 CI CL FL AL PL NL ret R n0 rc rs K g i pc ls st H cN sN (Wn S code CI CL FL AL PL NL ret R n0 rc rs K g n)

section Sound
variable {code : ByteArray} {own nm : String} {maxL : Nat} {ret : Option FieldType} {R : Room} {W : List Jvm.Cond} {l : Launch} {Z : State} {b : Heap} {rc rs : Nat} {K : Option Value → List Cel → Prop}
variable {CI : List (Nat × Int32)} {CL : List (Nat × Int64)} {FL : List (Nat × String × String × String)} {AL : List FieldType} {PL : List (Nat × String × String × String × FieldType)} {NL : List (Nat × String × Nat × List (String × String × Value))}
set_option maxHeartbeats 40000000 in
theorem W1_sound (hCI : ∀ x ∈ CI, Jvm.Cond.constant own x.1 x.2 ∈ W) (hCL : ∀ x ∈ CL, Jvm.Cond.constantLong own x.1 x.2 ∈ W) (hFL : ∀ x ∈ FL, Jvm.Cond.fieldLink own x.1 x.2.1 x.2.2.1 x.2.2.2 ∈ W) (hAL : ∀ x ∈ AL, Jvm.Cond.arrayClass x ∈ W) (hPL : ∀ x ∈ PL, PutOk W own nm x.1 x.2.1 x.2.2.1 x.2.2.2.1 x.2.2.2.2) (hNL : ∀ x ∈ NL, NewOk W own x.1 x.2.1 x.2.2.1 x.2.2.2) {i : Instr} {pc : Nat} {ls : List Slot} {st : List Value} {H : List Cel} {cN sN : Nat} {k : Cont}
    (hd0 : decode code pc = .ok (i, ilen i)) (hoff : 0 ≤ (pc : Int) + off i) (hk : ∀ pc ls st H cN sN, k pc ls st H cN sN → G code own nm maxL ret R W l Z b rc rs K pc ls st H cN sN)
    (h : W1 CI CL FL AL PL NL ret R b.size rc rs K (G code own nm maxL ret R W l Z b rc rs K) i pc ls st H cN sN k) : G code own nm maxL ret R W l Z b rc rs K pc ls st H cN sN := by
  unfold W1 at h
  split at h
  · have hd := hd0; simp only [ilen] at hd; have hh := ldI_e h; clear h; obtain ⟨v, q, h⟩ := hh; exact G.pure (fun p e s m args below meth c T locs a0 hx hc hZ ho hw X hR tg hs => XS.iloadN X.here hx rfl (hb hc hd) (by simpa using q) hs) (hk _ _ _ _ _ _ h)
  · have hd := hd0; simp only [ilen] at hd; have hh := ldI_e h; clear h; obtain ⟨v, q, h⟩ := hh; exact G.pure (fun p e s m args below meth c T locs a0 hx hc hZ ho hw X hR tg hs => XS.iload X.here hx rfl (hb hc hd) (by simpa using q) hs) (hk _ _ _ _ _ _ h)
  · have hd := hd0; simp only [ilen] at hd; have hh := ldJ_e h; clear h; obtain ⟨v, q, h⟩ := hh; exact G.pure (fun p e s m args below meth c T locs a0 hx hc hZ ho hw X hR tg hs => XT.lloadN X.here hx rfl (hb hc hd) (by simpa using q) hs) (hk _ _ _ _ _ _ h)
  · have hd := hd0; simp only [ilen] at hd; have hh := ldJ_e h; clear h; obtain ⟨v, q, h⟩ := hh; exact G.pure (fun p e s m args below meth c T locs a0 hx hc hZ ho hw X hR tg hs => XT.lload X.here hx rfl (hb hc hd) (by simpa using q) hs) (hk _ _ _ _ _ _ h)
  · have hd := hd0; simp only [ilen] at hd; have hh := ldA_e h; clear h; obtain ⟨v, q, hv, h⟩ := hh; exact G.pure (fun p e s m args below meth c T locs a0 hx hc hZ ho hw X hR tg hs => XS.aloadN X.here hx rfl (hb hc hd) (by simpa using q) hv hs) (hk _ _ _ _ _ _ h)
  · have hd := hd0; simp only [ilen] at hd; have hh := ldA_e h; clear h; obtain ⟨v, q, hv, h⟩ := hh; exact G.pure (fun p e s m args below meth c T locs a0 hx hc hZ ho hw X hR tg hs => XS.aload X.here hx rfl (hb hc hd) (by simpa using q) hv hs) (hk _ _ _ _ _ _ h)
  · have hd := hd0; simp only [ilen] at hd; have hh := popI_e h; clear h; obtain ⟨v, r, rfl, h⟩ := hh; have hh := sto1_e rfl h; clear h; obtain ⟨l', q, h⟩ := hh; exact G.pure (fun p e s m args below meth c T locs a0 hx hc hZ ho hw X hR tg hs => XS.istoreN X.here hx rfl (hb hc hd) rfl q hs) (hk _ _ _ _ _ _ h)
  · have hd := hd0; simp only [ilen] at hd; have hh := popI_e h; clear h; obtain ⟨v, r, rfl, h⟩ := hh; have hh := sto1_e rfl h; clear h; obtain ⟨l', q, h⟩ := hh; exact G.pure (fun p e s m args below meth c T locs a0 hx hc hZ ho hw X hR tg hs => XS.istore X.here hx rfl (hb hc hd) rfl q hs) (hk _ _ _ _ _ _ h)
  · have hd := hd0; simp only [ilen] at hd; have hh := popJ_e h; clear h; obtain ⟨v, r, rfl, h⟩ := hh; have hh := sto2_e rfl h; clear h; obtain ⟨l', q, h⟩ := hh; exact G.pure (fun p e s m args below meth c T locs a0 hx hc hZ ho hw X hR tg hs => XT.lstoreN X.here hx rfl (hb hc hd) rfl q hs) (hk _ _ _ _ _ _ h)
  · have hd := hd0; simp only [ilen] at hd; have hh := popJ_e h; clear h; obtain ⟨v, r, rfl, h⟩ := hh; have hh := sto2_e rfl h; clear h; obtain ⟨l', q, h⟩ := hh; exact G.pure (fun p e s m args below meth c T locs a0 hx hc hZ ho hw X hR tg hs => XT.lstore X.here hx rfl (hb hc hd) rfl q hs) (hk _ _ _ _ _ _ h)
  · have hd := hd0; simp only [ilen] at hd; have hh := popA_e h; clear h; obtain ⟨v, r, rfl, hv, hv1, h⟩ := hh; have hh := sto1_e hv1 h; clear h; obtain ⟨l', q, h⟩ := hh; exact G.pure (fun p e s m args below meth c T locs a0 hx hc hZ ho hw X hR tg hs => XS.astoreN X.here hx rfl (hb hc hd) rfl hv q hs) (hk _ _ _ _ _ _ h)
  · have hd := hd0; simp only [ilen] at hd; have hh := popA_e h; clear h; obtain ⟨v, r, rfl, hv, hv1, h⟩ := hh; have hh := sto1_e hv1 h; clear h; obtain ⟨l', q, h⟩ := hh; exact G.pure (fun p e s m args below meth c T locs a0 hx hc hZ ho hw X hR tg hs => XS.astore X.here hx rfl (hb hc hd) rfl hv q hs) (hk _ _ _ _ _ _ h)
  · have hd := hd0; simp only [ilen] at hd; exact G.pure (fun p e s m args below meth c T locs a0 hx hc hZ ho hw X hR tg hs => XS.iconst X.here hx rfl (hb hc hd) hs) (hk _ _ _ _ _ _ h)
  · have hd := hd0; simp only [ilen] at hd; exact G.pure (fun p e s m args below meth c T locs a0 hx hc hZ ho hw X hR tg hs => XT.lconst X.here hx rfl (hb hc hd) hs) (hk _ _ _ _ _ _ h)
  · have hd := hd0; simp only [ilen] at hd; exact G.pure (fun p e s m args below meth c T locs a0 hx hc hZ ho hw X hR tg hs => XS.bipush X.here hx rfl (hb hc hd) hs) (hk _ _ _ _ _ _ h)
  · have hd := hd0; simp only [ilen] at hd; exact G.pure (fun p e s m args below meth c T locs a0 hx hc hZ ho hw X hR tg hs => XS.sipush X.here hx rfl (hb hc hd) hs) (hk _ _ _ _ _ _ h)
  · have hd := hd0; simp only [ilen] at hd; exact G.pure (fun p e s m args below meth c T locs a0 hx hc hZ ho hw X hR tg hs => XS.aconstNull X.here hx rfl (hb hc hd) hs) (hk _ _ _ _ _ _ h)
  · have hd := hd0; simp only [ilen] at hd; have hh := onSome_e h; clear h; obtain ⟨v, q, h⟩ := hh; exact G.pure (fun p e s m args below meth c T locs a0 hx hc hZ ho hw X hR tg hs => X.ldcInt hx ho (mvT hZ (hw _ (hCI _ (look_mem q)))) (g := mkF m pc ls.toArray st) rfl (hb hc hd) _ hs) (hk _ _ _ _ _ _ h)
  · have hd := hd0; simp only [ilen] at hd; have hh := onSome_e h; clear h; obtain ⟨v, q, h⟩ := hh; exact G.pure (fun p e s m args below meth c T locs a0 hx hc hZ ho hw X hR tg hs => X.ldc2Long hx ho (mvT hZ (hw _ (hCL _ (look_mem q)))) (g := mkF m pc ls.toArray st) rfl (hb hc hd) _ hs) (hk _ _ _ _ _ _ h)
  · have hd := hd0; simp only [ilen] at hd; have hh := popI_e h; clear h; obtain ⟨y, r, rfl, h⟩ := hh; have hh := popI_e h; clear h; obtain ⟨x, r, rfl, h⟩ := hh; exact G.pure (fun p e s m args below meth c T locs a0 hx hc hZ ho hw X hR tg hs => XS.iadd X.here hx rfl (hb hc hd) rfl hs) (hk _ _ _ _ _ _ h)
  · have hd := hd0; simp only [ilen] at hd; have hh := popI_e h; clear h; obtain ⟨y, r, rfl, h⟩ := hh; have hh := popI_e h; clear h; obtain ⟨x, r, rfl, h⟩ := hh; exact G.pure (fun p e s m args below meth c T locs a0 hx hc hZ ho hw X hR tg hs => XS.isub X.here hx rfl (hb hc hd) rfl hs) (hk _ _ _ _ _ _ h)
  · have hd := hd0; simp only [ilen] at hd; have hh := popI_e h; clear h; obtain ⟨y, r, rfl, h⟩ := hh; have hh := popI_e h; clear h; obtain ⟨x, r, rfl, h⟩ := hh; exact G.pure (fun p e s m args below meth c T locs a0 hx hc hZ ho hw X hR tg hs => XS.imul X.here hx rfl (hb hc hd) rfl hs) (hk _ _ _ _ _ _ h)
  · have hd := hd0; simp only [ilen] at hd; have hh := popI_e h; clear h; obtain ⟨y, r, rfl, h⟩ := hh; have hh := popI_e h; clear h; obtain ⟨x, r, rfl, h⟩ := hh; exact G.pure (fun p e s m args below meth c T locs a0 hx hc hZ ho hw X hR tg hs => XS.iand X.here hx rfl (hb hc hd) rfl hs) (hk _ _ _ _ _ _ h)
  · have hd := hd0; simp only [ilen] at hd; have hh := popI_e h; clear h; obtain ⟨y, r, rfl, h⟩ := hh; have hh := popI_e h; clear h; obtain ⟨x, r, rfl, h⟩ := hh; exact G.pure (fun p e s m args below meth c T locs a0 hx hc hZ ho hw X hR tg hs => XT.ior X.here hx rfl (hb hc hd) rfl hs) (hk _ _ _ _ _ _ h)
  · have hd := hd0; simp only [ilen] at hd; have hh := popI_e h; clear h; obtain ⟨y, r, rfl, h⟩ := hh; have hh := popI_e h; clear h; obtain ⟨x, r, rfl, h⟩ := hh; exact G.pure (fun p e s m args below meth c T locs a0 hx hc hZ ho hw X hR tg hs => XT.ixor X.here hx rfl (hb hc hd) rfl hs) (hk _ _ _ _ _ _ h)
  · have hd := hd0; simp only [ilen] at hd; have hh := popI_e h; clear h; obtain ⟨y, r, rfl, h⟩ := hh; have hh := popI_e h; clear h; obtain ⟨x, r, rfl, h⟩ := hh; exact G.pure (fun p e s m args below meth c T locs a0 hx hc hZ ho hw X hR tg hs => XT.ishl X.here hx rfl (hb hc hd) rfl hs) (hk _ _ _ _ _ _ h)
  · have hd := hd0; simp only [ilen] at hd; have hh := popI_e h; clear h; obtain ⟨y, r, rfl, h⟩ := hh; have hh := popI_e h; clear h; obtain ⟨x, r, rfl, h⟩ := hh; exact G.pure (fun p e s m args below meth c T locs a0 hx hc hZ ho hw X hR tg hs => XT.ishr X.here hx rfl (hb hc hd) rfl hs) (hk _ _ _ _ _ _ h)
  · have hd := hd0; simp only [ilen] at hd; have hh := popI_e h; clear h; obtain ⟨y, r, rfl, h⟩ := hh; have hh := popI_e h; clear h; obtain ⟨x, r, rfl, h⟩ := hh; exact G.pure (fun p e s m args below meth c T locs a0 hx hc hZ ho hw X hR tg hs => XT.iushr X.here hx rfl (hb hc hd) rfl hs) (hk _ _ _ _ _ _ h)
  · have hd := hd0; simp only [ilen] at hd; have hh := popI_e h; clear h; obtain ⟨y, r, rfl, h⟩ := hh; have hh := popI_e h; clear h; obtain ⟨x, r, rfl, h⟩ := hh; obtain ⟨hy, h⟩ := h; exact G.pure (fun p e s m args below meth c T locs a0 hx hc hZ ho hw X hR tg hs => XS.idiv X.here hx rfl (hb hc hd) rfl hy hs) (hk _ _ _ _ _ _ h)
  · have hd := hd0; simp only [ilen] at hd; have hh := popI_e h; clear h; obtain ⟨y, r, rfl, h⟩ := hh; have hh := popI_e h; clear h; obtain ⟨x, r, rfl, h⟩ := hh; obtain ⟨hy, h⟩ := h; exact G.pure (fun p e s m args below meth c T locs a0 hx hc hZ ho hw X hR tg hs => XS.irem X.here hx rfl (hb hc hd) rfl hy hs) (hk _ _ _ _ _ _ h)
  · have hd := hd0; simp only [ilen] at hd; have hh := popJ_e h; clear h; obtain ⟨y, r, rfl, h⟩ := hh; have hh := popJ_e h; clear h; obtain ⟨x, r, rfl, h⟩ := hh; exact G.pure (fun p e s m args below meth c T locs a0 hx hc hZ ho hw X hR tg hs => XT.ladd X.here hx rfl (hb hc hd) rfl hs) (hk _ _ _ _ _ _ h)
  · have hd := hd0; simp only [ilen] at hd; have hh := popJ_e h; clear h; obtain ⟨y, r, rfl, h⟩ := hh; have hh := popJ_e h; clear h; obtain ⟨x, r, rfl, h⟩ := hh; exact G.pure (fun p e s m args below meth c T locs a0 hx hc hZ ho hw X hR tg hs => XT.lsub X.here hx rfl (hb hc hd) rfl hs) (hk _ _ _ _ _ _ h)
  · have hd := hd0; simp only [ilen] at hd; have hh := popJ_e h; clear h; obtain ⟨y, r, rfl, h⟩ := hh; have hh := popJ_e h; clear h; obtain ⟨x, r, rfl, h⟩ := hh; exact G.pure (fun p e s m args below meth c T locs a0 hx hc hZ ho hw X hR tg hs => XT.lmul X.here hx rfl (hb hc hd) rfl hs) (hk _ _ _ _ _ _ h)
  · have hd := hd0; simp only [ilen] at hd; have hh := popJ_e h; clear h; obtain ⟨y, r, rfl, h⟩ := hh; have hh := popJ_e h; clear h; obtain ⟨x, r, rfl, h⟩ := hh; exact G.pure (fun p e s m args below meth c T locs a0 hx hc hZ ho hw X hR tg hs => XT.land X.here hx rfl (hb hc hd) rfl hs) (hk _ _ _ _ _ _ h)
  · have hd := hd0; simp only [ilen] at hd; have hh := popJ_e h; clear h; obtain ⟨y, r, rfl, h⟩ := hh; have hh := popJ_e h; clear h; obtain ⟨x, r, rfl, h⟩ := hh; exact G.pure (fun p e s m args below meth c T locs a0 hx hc hZ ho hw X hR tg hs => XT.lor X.here hx rfl (hb hc hd) rfl hs) (hk _ _ _ _ _ _ h)
  · have hd := hd0; simp only [ilen] at hd; have hh := popJ_e h; clear h; obtain ⟨y, r, rfl, h⟩ := hh; have hh := popJ_e h; clear h; obtain ⟨x, r, rfl, h⟩ := hh; exact G.pure (fun p e s m args below meth c T locs a0 hx hc hZ ho hw X hR tg hs => XT.lxor X.here hx rfl (hb hc hd) rfl hs) (hk _ _ _ _ _ _ h)
  · have hd := hd0; simp only [ilen] at hd; have hh := popJ_e h; clear h; obtain ⟨y, r, rfl, h⟩ := hh; have hh := popJ_e h; clear h; obtain ⟨x, r, rfl, h⟩ := hh; obtain ⟨hy, h⟩ := h; exact G.pure (fun p e s m args below meth c T locs a0 hx hc hZ ho hw X hR tg hs => XT.ldiv X.here hx rfl (hb hc hd) rfl hy hs) (hk _ _ _ _ _ _ h)
  · have hd := hd0; simp only [ilen] at hd; have hh := popJ_e h; clear h; obtain ⟨y, r, rfl, h⟩ := hh; have hh := popJ_e h; clear h; obtain ⟨x, r, rfl, h⟩ := hh; obtain ⟨hy, h⟩ := h; exact G.pure (fun p e s m args below meth c T locs a0 hx hc hZ ho hw X hR tg hs => XT.lrem X.here hx rfl (hb hc hd) rfl hy hs) (hk _ _ _ _ _ _ h)
  · have hd := hd0; simp only [ilen] at hd; have hh := popI_e h; clear h; obtain ⟨y, r, rfl, h⟩ := hh; have hh := popJ_e h; clear h; obtain ⟨x, r, rfl, h⟩ := hh; exact G.pure (fun p e s m args below meth c T locs a0 hx hc hZ ho hw X hR tg hs => XT.lshl X.here hx rfl (hb hc hd) rfl hs) (hk _ _ _ _ _ _ h)
  · have hd := hd0; simp only [ilen] at hd; have hh := popI_e h; clear h; obtain ⟨y, r, rfl, h⟩ := hh; have hh := popJ_e h; clear h; obtain ⟨x, r, rfl, h⟩ := hh; exact G.pure (fun p e s m args below meth c T locs a0 hx hc hZ ho hw X hR tg hs => XT.lshr X.here hx rfl (hb hc hd) rfl hs) (hk _ _ _ _ _ _ h)
  · have hd := hd0; simp only [ilen] at hd; have hh := popI_e h; clear h; obtain ⟨y, r, rfl, h⟩ := hh; have hh := popJ_e h; clear h; obtain ⟨x, r, rfl, h⟩ := hh; exact G.pure (fun p e s m args below meth c T locs a0 hx hc hZ ho hw X hR tg hs => XT.lushr X.here hx rfl (hb hc hd) rfl hs) (hk _ _ _ _ _ _ h)
  · have hd := hd0; simp only [ilen] at hd; have hh := popJ_e h; clear h; obtain ⟨y, r, rfl, h⟩ := hh; have hh := popJ_e h; clear h; obtain ⟨x, r, rfl, h⟩ := hh; exact G.pure (fun p e s m args below meth c T locs a0 hx hc hZ ho hw X hR tg hs => XT.lcmp X.here hx rfl (hb hc hd) rfl hs) (hk _ _ _ _ _ _ h)
  · have hd := hd0; simp only [ilen] at hd; have hh := popI_e h; clear h; obtain ⟨x, r, rfl, h⟩ := hh; exact G.pure (fun p e s m args below meth c T locs a0 hx hc hZ ho hw X hR tg hs => XT.i2l X.here hx rfl (hb hc hd) rfl hs) (hk _ _ _ _ _ _ h)
  · have hd := hd0; simp only [ilen] at hd; have hh := popJ_e h; clear h; obtain ⟨x, r, rfl, h⟩ := hh; exact G.pure (fun p e s m args below meth c T locs a0 hx hc hZ ho hw X hR tg hs => XT.l2i X.here hx rfl (hb hc hd) rfl hs) (hk _ _ _ _ _ _ h)
  · have hd := hd0; simp only [ilen] at hd; have hh := popI_e h; clear h; obtain ⟨x, r, rfl, h⟩ := hh; exact G.pure (fun p e s m args below meth c T locs a0 hx hc hZ ho hw X hR tg hs => XT.i2b X.here hx rfl (hb hc hd) rfl hs) (hk _ _ _ _ _ _ h)
  · have hd := hd0; simp only [ilen] at hd; have hh := popI_e h; clear h; obtain ⟨x, r, rfl, h⟩ := hh; exact G.pure (fun p e s m args below meth c T locs a0 hx hc hZ ho hw X hR tg hs => XT.i2c X.here hx rfl (hb hc hd) rfl hs) (hk _ _ _ _ _ _ h)
  · have hd := hd0; simp only [ilen] at hd; have hh := popI_e h; clear h; obtain ⟨x, r, rfl, h⟩ := hh; exact G.pure (fun p e s m args below meth c T locs a0 hx hc hZ ho hw X hR tg hs => XT.i2s X.here hx rfl (hb hc hd) rfl hs) (hk _ _ _ _ _ _ h)
  · have hd := hd0; simp only [ilen] at hd; have hh := popI_e h; clear h; obtain ⟨x, r, rfl, h⟩ := hh; exact G.pure (fun p e s m args below meth c T locs a0 hx hc hZ ho hw X hR tg hs => XS.ineg X.here hx rfl (hb hc hd) rfl hs) (hk _ _ _ _ _ _ h)
  · have hd := hd0; simp only [ilen] at hd; have hh := pop1_e h; clear h; obtain ⟨x, r, rfl, hx1, h⟩ := hh; exact G.pure (fun p e s m args below meth c T locs a0 hx hc hZ ho hw X hR tg hs => XS.dup X.here hx rfl (hb hc hd) rfl hx1 hs) (hk _ _ _ _ _ _ h)
  · have hd := hd0; simp only [ilen] at hd; have hh := pop1_e h; clear h; obtain ⟨x, r, rfl, hx1, h⟩ := hh; exact G.pure (fun p e s m args below meth c T locs a0 hx hc hZ ho hw X hR tg hs => XT.pop X.here hx rfl (hb hc hd) rfl hx1 hs) (hk _ _ _ _ _ _ h)
  · have hd := hd0; simp only [ilen] at hd; have hh := pop1_e h; clear h; obtain ⟨x, r, rfl, hx1, h⟩ := hh; have hh := pop1_e h; clear h; obtain ⟨y, r, rfl, hy1, h⟩ := hh; exact G.pure (fun p e s m args below meth c T locs a0 hx hc hZ ho hw X hR tg hs => XT.dupX1 X.here hx rfl (hb hc hd) rfl hx1 hy1 hs) (hk _ _ _ _ _ _ h)
  · have hd := hd0; simp only [ilen] at hd; have hh := ldI_e h; clear h; obtain ⟨v, q, h⟩ := hh; exact G.pure (fun p e s m args below meth c T locs a0 hx hc hZ ho hw X hR tg hs => XS.iinc X.here hx rfl (hb hc hd) (by simpa using q) (XS.store1 (by simpa using q) (Or.inr ⟨_, rfl, rfl⟩) rfl) (by simpa using hs)) (hk _ _ _ _ _ _ h)
  · have hd := hd0; simp only [ilen] at hd; have h1 := hoff; simp only [off] at h1; exact G.pure (fun p e s m args below meth c T locs a0 hx hc hZ ho hw X hR tg hs => XS.goto X.here hx rfl rfl (hb hc hd) h1 rfl hs) (hk _ _ _ _ _ _ h)
  · have hd := hd0; simp only [ilen] at hd; have hh := popI_e h; clear h; obtain ⟨x, r, rfl, h⟩ := hh; (try dsimp only at h); split at h <;> rename_i q <;> first | (have h1 := hoff; simp only [off] at h1; exact G.pure (fun p e s m args below meth c T locs a0 hx hc hZ ho hw X hR tg hs => XS.ifYes X.here hx rfl rfl (hb hc hd) rfl (XT.i0_eq_t q) h1 rfl hs) (hk _ _ _ _ _ _ h)) | (exact G.pure (fun p e s m args below meth c T locs a0 hx hc hZ ho hw X hR tg hs => XS.ifNo X.here hx rfl (hb hc hd) rfl (XT.i0_eq_f q) hs) (hk _ _ _ _ _ _ h))
  · have hd := hd0; simp only [ilen] at hd; have hh := popI_e h; clear h; obtain ⟨x, r, rfl, h⟩ := hh; (try dsimp only at h); split at h <;> rename_i q <;> first | (have h1 := hoff; simp only [off] at h1; exact G.pure (fun p e s m args below meth c T locs a0 hx hc hZ ho hw X hR tg hs => XS.ifYes X.here hx rfl rfl (hb hc hd) rfl (XT.i0_ne_t q) h1 rfl hs) (hk _ _ _ _ _ _ h)) | (exact G.pure (fun p e s m args below meth c T locs a0 hx hc hZ ho hw X hR tg hs => XS.ifNo X.here hx rfl (hb hc hd) rfl (XT.i0_ne_f q) hs) (hk _ _ _ _ _ _ h))
  · have hd := hd0; simp only [ilen] at hd; have hh := popI_e h; clear h; obtain ⟨x, r, rfl, h⟩ := hh; (try dsimp only at h); split at h <;> rename_i q <;> first | (have h1 := hoff; simp only [off] at h1; exact G.pure (fun p e s m args below meth c T locs a0 hx hc hZ ho hw X hR tg hs => XS.ifYes X.here hx rfl rfl (hb hc hd) rfl (XT.i0_lt_t q) h1 rfl hs) (hk _ _ _ _ _ _ h)) | (exact G.pure (fun p e s m args below meth c T locs a0 hx hc hZ ho hw X hR tg hs => XS.ifNo X.here hx rfl (hb hc hd) rfl (XT.i0_lt_f q) hs) (hk _ _ _ _ _ _ h))
  · have hd := hd0; simp only [ilen] at hd; have hh := popI_e h; clear h; obtain ⟨x, r, rfl, h⟩ := hh; (try dsimp only at h); split at h <;> rename_i q <;> first | (have h1 := hoff; simp only [off] at h1; exact G.pure (fun p e s m args below meth c T locs a0 hx hc hZ ho hw X hR tg hs => XS.ifYes X.here hx rfl rfl (hb hc hd) rfl (XT.i0_ge_t q) h1 rfl hs) (hk _ _ _ _ _ _ h)) | (exact G.pure (fun p e s m args below meth c T locs a0 hx hc hZ ho hw X hR tg hs => XS.ifNo X.here hx rfl (hb hc hd) rfl (XT.i0_ge_f q) hs) (hk _ _ _ _ _ _ h))
  · have hd := hd0; simp only [ilen] at hd; have hh := popI_e h; clear h; obtain ⟨x, r, rfl, h⟩ := hh; (try dsimp only at h); split at h <;> rename_i q <;> first | (have h1 := hoff; simp only [off] at h1; exact G.pure (fun p e s m args below meth c T locs a0 hx hc hZ ho hw X hR tg hs => XS.ifYes X.here hx rfl rfl (hb hc hd) rfl (XT.i0_gt_t q) h1 rfl hs) (hk _ _ _ _ _ _ h)) | (exact G.pure (fun p e s m args below meth c T locs a0 hx hc hZ ho hw X hR tg hs => XS.ifNo X.here hx rfl (hb hc hd) rfl (XT.i0_gt_f q) hs) (hk _ _ _ _ _ _ h))
  · have hd := hd0; simp only [ilen] at hd; have hh := popI_e h; clear h; obtain ⟨x, r, rfl, h⟩ := hh; (try dsimp only at h); split at h <;> rename_i q <;> first | (have h1 := hoff; simp only [off] at h1; exact G.pure (fun p e s m args below meth c T locs a0 hx hc hZ ho hw X hR tg hs => XS.ifYes X.here hx rfl rfl (hb hc hd) rfl (XT.i0_le_t q) h1 rfl hs) (hk _ _ _ _ _ _ h)) | (exact G.pure (fun p e s m args below meth c T locs a0 hx hc hZ ho hw X hR tg hs => XS.ifNo X.here hx rfl (hb hc hd) rfl (XT.i0_le_f q) hs) (hk _ _ _ _ _ _ h))
  · have hd := hd0; simp only [ilen] at hd; have hh := popI_e h; clear h; obtain ⟨y, r, rfl, h⟩ := hh; have hh := popI_e h; clear h; obtain ⟨x, r, rfl, h⟩ := hh; (try dsimp only at h); split at h <;> rename_i q <;> first | (have h1 := hoff; simp only [off] at h1; exact G.pure (fun p e s m args below meth c T locs a0 hx hc hZ ho hw X hR tg hs => XS.icmpYes X.here hx rfl rfl (hb hc hd) rfl (XT.ii_eq_t q) h1 rfl hs) (hk _ _ _ _ _ _ h)) | (exact G.pure (fun p e s m args below meth c T locs a0 hx hc hZ ho hw X hR tg hs => XS.icmpNo X.here hx rfl (hb hc hd) rfl (XT.ii_eq_f q) hs) (hk _ _ _ _ _ _ h))
  · have hd := hd0; simp only [ilen] at hd; have hh := popI_e h; clear h; obtain ⟨y, r, rfl, h⟩ := hh; have hh := popI_e h; clear h; obtain ⟨x, r, rfl, h⟩ := hh; (try dsimp only at h); split at h <;> rename_i q <;> first | (have h1 := hoff; simp only [off] at h1; exact G.pure (fun p e s m args below meth c T locs a0 hx hc hZ ho hw X hR tg hs => XS.icmpYes X.here hx rfl rfl (hb hc hd) rfl (XT.ii_ne_t q) h1 rfl hs) (hk _ _ _ _ _ _ h)) | (exact G.pure (fun p e s m args below meth c T locs a0 hx hc hZ ho hw X hR tg hs => XS.icmpNo X.here hx rfl (hb hc hd) rfl (XT.ii_ne_f q) hs) (hk _ _ _ _ _ _ h))
  · have hd := hd0; simp only [ilen] at hd; have hh := popI_e h; clear h; obtain ⟨y, r, rfl, h⟩ := hh; have hh := popI_e h; clear h; obtain ⟨x, r, rfl, h⟩ := hh; (try dsimp only at h); split at h <;> rename_i q <;> first | (have h1 := hoff; simp only [off] at h1; exact G.pure (fun p e s m args below meth c T locs a0 hx hc hZ ho hw X hR tg hs => XS.icmpYes X.here hx rfl rfl (hb hc hd) rfl (XT.ii_lt_t q) h1 rfl hs) (hk _ _ _ _ _ _ h)) | (exact G.pure (fun p e s m args below meth c T locs a0 hx hc hZ ho hw X hR tg hs => XS.icmpNo X.here hx rfl (hb hc hd) rfl (XT.ii_lt_f q) hs) (hk _ _ _ _ _ _ h))
  · have hd := hd0; simp only [ilen] at hd; have hh := popI_e h; clear h; obtain ⟨y, r, rfl, h⟩ := hh; have hh := popI_e h; clear h; obtain ⟨x, r, rfl, h⟩ := hh; (try dsimp only at h); split at h <;> rename_i q <;> first | (have h1 := hoff; simp only [off] at h1; exact G.pure (fun p e s m args below meth c T locs a0 hx hc hZ ho hw X hR tg hs => XS.icmpYes X.here hx rfl rfl (hb hc hd) rfl (XT.ii_ge_t q) h1 rfl hs) (hk _ _ _ _ _ _ h)) | (exact G.pure (fun p e s m args below meth c T locs a0 hx hc hZ ho hw X hR tg hs => XS.icmpNo X.here hx rfl (hb hc hd) rfl (XT.ii_ge_f q) hs) (hk _ _ _ _ _ _ h))
  · have hd := hd0; simp only [ilen] at hd; have hh := popI_e h; clear h; obtain ⟨y, r, rfl, h⟩ := hh; have hh := popI_e h; clear h; obtain ⟨x, r, rfl, h⟩ := hh; (try dsimp only at h); split at h <;> rename_i q <;> first | (have h1 := hoff; simp only [off] at h1; exact G.pure (fun p e s m args below meth c T locs a0 hx hc hZ ho hw X hR tg hs => XS.icmpYes X.here hx rfl rfl (hb hc hd) rfl (XT.ii_gt_t q) h1 rfl hs) (hk _ _ _ _ _ _ h)) | (exact G.pure (fun p e s m args below meth c T locs a0 hx hc hZ ho hw X hR tg hs => XS.icmpNo X.here hx rfl (hb hc hd) rfl (XT.ii_gt_f q) hs) (hk _ _ _ _ _ _ h))
  · have hd := hd0; simp only [ilen] at hd; have hh := popI_e h; clear h; obtain ⟨y, r, rfl, h⟩ := hh; have hh := popI_e h; clear h; obtain ⟨x, r, rfl, h⟩ := hh; (try dsimp only at h); split at h <;> rename_i q <;> first | (have h1 := hoff; simp only [off] at h1; exact G.pure (fun p e s m args below meth c T locs a0 hx hc hZ ho hw X hR tg hs => XS.icmpYes X.here hx rfl rfl (hb hc hd) rfl (XT.ii_le_t q) h1 rfl hs) (hk _ _ _ _ _ _ h)) | (exact G.pure (fun p e s m args below meth c T locs a0 hx hc hZ ho hw X hR tg hs => XS.icmpNo X.here hx rfl (hb hc hd) rfl (XT.ii_le_f q) hs) (hk _ _ _ _ _ _ h))
  · have hd := hd0; simp only [ilen] at hd; (try dsimp only at h); split at h
    · (have h1 := hoff; simp only [off] at h1; exact G.pure (fun p e s m args below meth c T locs a0 hx hc hZ ho hw X hR tg hs => XS.ifnullYes X.here hx rfl rfl (hb hc hd) rfl h1 rfl hs) (hk _ _ _ _ _ _ h))
    · exact G.pure (fun p e s m args below meth c T locs a0 hx hc hZ ho hw X hR tg hs => XS.ifnullNo X.here hx rfl (hb hc hd) rfl hs) (hk _ _ _ _ _ _ h)
    · exact h.elim
  · have hd := hd0; simp only [ilen] at hd; (try dsimp only at h); split at h
    · exact G.pure (fun p e s m args below meth c T locs a0 hx hc hZ ho hw X hR tg hs => XT.ifnonnullNo X.here hx rfl (hb hc hd) rfl hs) (hk _ _ _ _ _ _ h)
    · (have h1 := hoff; simp only [off] at h1; exact G.pure (fun p e s m args below meth c T locs a0 hx hc hZ ho hw X hR tg hs => XT.ifnonnullYes X.here hx rfl rfl (hb hc hd) rfl h1 rfl hs) (hk _ _ _ _ _ _ h))
    · exact h.elim
  · have hd := hd0; simp only [ilen] at hd; have hh := popR_e h; clear h; obtain ⟨a, r, rfl, h⟩ := hh; have hh := arr_e h; clear h; obtain ⟨i, ty, vs, rfl, q, h⟩ := hh; refine G.pure (fun p e s m args below meth c T locs a0 hx hc hZ ho hw X hR tg hs => ?_) (hk _ _ _ _ _ _ h); obtain ⟨cl, A, e1⟩ := hR.2 _ _ q; exact X.arraylength hx A.1 (State.isArrayOf_alike hZ.alike A.2.1) (g := mkF m pc ls.toArray (.ref (ad b.size i) :: r)) rfl rfl (hb hc hd) _ (by rw [e1]; exact hs)
  · have hd := hd0; simp only [ilen] at hd; have hh := popI_e h; clear h; obtain ⟨j, r, rfl, h⟩ := hh; have hh := popR_e h; clear h; obtain ⟨a, r, rfl, h⟩ := hh; have hh := arr_e h; clear h; obtain ⟨i, ty, vs, rfl, q, h⟩ := hh; have hh := ifF_e h; clear h; obtain ⟨rfl, h⟩ := hh; have hh := idx_e h; clear h; obtain ⟨hj, v, hv, h⟩ := hh; refine G.pure (fun p e s m args below meth c T locs a0 hx hc hZ ho hw X hR tg hs => ?_) (hk _ _ _ _ _ _ h); obtain ⟨cl, A, e1⟩ := hR.2 _ _ q; have hlt := (List.getElem?_eq_some_iff.mp hv).1; exact X.baloadBytes hx A.1 (State.isArrayOf_alike hZ.alike A.2.1) A.2.2 (fun z => z.elim hj (fun z => by rw [e1] at z; simp at z; omega)) (by rw [e1]; simpa using hv) (g := mkF m pc ls.toArray (.int j :: .ref (ad b.size i) :: r)) rfl rfl (hb hc hd) _ hs
  · have hd := hd0; simp only [ilen] at hd; have hh := popI_e h; clear h; obtain ⟨j, r, rfl, h⟩ := hh; have hh := popR_e h; clear h; obtain ⟨a, r, rfl, h⟩ := hh; have hh := arr_e h; clear h; obtain ⟨i, ty, vs, rfl, q, h⟩ := hh; have hh := ifF_e h; clear h; obtain ⟨rfl, h⟩ := hh; have hh := idx_e h; clear h; obtain ⟨hj, v, hv, h⟩ := hh; refine G.pure (fun p e s m args below meth c T locs a0 hx hc hZ ho hw X hR tg hs => ?_) (hk _ _ _ _ _ _ h); obtain ⟨cl, A, e1⟩ := hR.2 _ _ q; have hlt := (List.getElem?_eq_some_iff.mp hv).1; exact X.caload hx A.1 (State.isArrayOf_alike hZ.alike A.2.1) A.2.2 (fun z => z.elim hj (fun z => by rw [e1] at z; simp at z; omega)) (by rw [e1]; simpa using hv) (g := mkF m pc ls.toArray (.int j :: .ref (ad b.size i) :: r)) rfl rfl (hb hc hd) _ hs
  · have hd := hd0; simp only [ilen] at hd; have hh := popI_e h; clear h; obtain ⟨j, r, rfl, h⟩ := hh; have hh := popR_e h; clear h; obtain ⟨a, r, rfl, h⟩ := hh; have hh := arr_e h; clear h; obtain ⟨i, ty, vs, rfl, q, h⟩ := hh; have hh := ifF_e h; clear h; obtain ⟨rfl, h⟩ := hh; have hh := idx_e h; clear h; obtain ⟨hj, v, hv, h⟩ := hh; refine G.pure (fun p e s m args below meth c T locs a0 hx hc hZ ho hw X hR tg hs => ?_) (hk _ _ _ _ _ _ h); obtain ⟨cl, A, e1⟩ := hR.2 _ _ q; have hlt := (List.getElem?_eq_some_iff.mp hv).1; exact X.iaload hx A.1 (State.isArrayOf_alike hZ.alike A.2.1) A.2.2 (fun z => z.elim hj (fun z => by rw [e1] at z; simp at z; omega)) (by rw [e1]; simpa using hv) (g := mkF m pc ls.toArray (.int j :: .ref (ad b.size i) :: r)) rfl rfl (hb hc hd) _ hs
  · have hd := hd0; simp only [ilen] at hd; have hh := popI_e h; clear h; obtain ⟨j, r, rfl, h⟩ := hh; have hh := popR_e h; clear h; obtain ⟨a, r, rfl, h⟩ := hh; have hh := arr_e h; clear h; obtain ⟨i, ty, vs, rfl, q, h⟩ := hh; have hh := ifF_e h; clear h; obtain ⟨rfl, h⟩ := hh; have hh := idx_e h; clear h; obtain ⟨hj, v, hv, h⟩ := hh; refine G.pure (fun p e s m args below meth c T locs a0 hx hc hZ ho hw X hR tg hs => ?_) (hk _ _ _ _ _ _ h); obtain ⟨cl, A, e1⟩ := hR.2 _ _ q; have hlt := (List.getElem?_eq_some_iff.mp hv).1; exact X.laload hx A.1 (State.isArrayOf_alike hZ.alike A.2.1) A.2.2 (fun z => z.elim hj (fun z => by rw [e1] at z; simp at z; omega)) (by rw [e1]; simpa using hv) (g := mkF m pc ls.toArray (.int j :: .ref (ad b.size i) :: r)) rfl rfl (hb hc hd) _ hs
  · have hd := hd0; simp only [ilen] at hd; have hh := popI_e h; clear h; obtain ⟨x, r, rfl, h⟩ := hh; have hh := popI_e h; clear h; obtain ⟨j, r, rfl, h⟩ := hh; have hh := popR_e h; clear h; obtain ⟨a, r, rfl, h⟩ := hh; have hh := arr_e h; clear h; obtain ⟨i, ty, vs, rfl, q, h⟩ := hh; have hh := ifF_e h; clear h; obtain ⟨rfl, h⟩ := hh; have hh := idx_e h; clear h; obtain ⟨hj, v, hv, h⟩ := hh; refine G.move (fun p e s m args below meth c T locs a0 hx hc hm hn hZ ho hw X hF hR => ?_) (hk _ _ _ _ _ _ h); obtain ⟨cl, A, e1⟩ := hR.2 _ _ q; have hlt := (List.getElem?_eq_some_iff.mp hv).1; obtain ⟨T', h', X', e2, Wt, sp⟩ := stB X hx hZ rfl A (j := j) (x := x) (fun z => z.elim hj (fun z => by rw [e1] at z; simp at z; omega)) (g := mkF m pc ls.toArray (.int x :: .int j :: .ref (ad b.size i) :: r)) rfl rfl (hb hc hd); exact ⟨T', _, X', hF.app (fun y hy => by cases List.mem_singleton.mp hy; exact Nat.le_add_right _ _), by rw [e2]; exact hR.setArr q Wt, sp⟩
  · have hd := hd0; simp only [ilen] at hd; have hh := popI_e h; clear h; obtain ⟨x, r, rfl, h⟩ := hh; have hh := popI_e h; clear h; obtain ⟨j, r, rfl, h⟩ := hh; have hh := popR_e h; clear h; obtain ⟨a, r, rfl, h⟩ := hh; have hh := arr_e h; clear h; obtain ⟨i, ty, vs, rfl, q, h⟩ := hh; have hh := ifF_e h; clear h; obtain ⟨rfl, h⟩ := hh; have hh := idx_e h; clear h; obtain ⟨hj, v, hv, h⟩ := hh; refine G.move (fun p e s m args below meth c T locs a0 hx hc hm hn hZ ho hw X hF hR => ?_) (hk _ _ _ _ _ _ h); obtain ⟨cl, A, e1⟩ := hR.2 _ _ q; have hlt := (List.getElem?_eq_some_iff.mp hv).1; obtain ⟨T', h', X', e2, Wt, sp⟩ := stC X hx hZ rfl A (j := j) (x := x) (fun z => z.elim hj (fun z => by rw [e1] at z; simp at z; omega)) (g := mkF m pc ls.toArray (.int x :: .int j :: .ref (ad b.size i) :: r)) rfl rfl (hb hc hd); exact ⟨T', _, X', hF.app (fun y hy => by cases List.mem_singleton.mp hy; exact Nat.le_add_right _ _), by rw [e2]; exact hR.setArr q Wt, sp⟩
  · have hd := hd0; simp only [ilen] at hd; have hh := popI_e h; clear h; obtain ⟨x, r, rfl, h⟩ := hh; have hh := popI_e h; clear h; obtain ⟨j, r, rfl, h⟩ := hh; have hh := popR_e h; clear h; obtain ⟨a, r, rfl, h⟩ := hh; have hh := arr_e h; clear h; obtain ⟨i, ty, vs, rfl, q, h⟩ := hh; have hh := ifF_e h; clear h; obtain ⟨rfl, h⟩ := hh; have hh := idx_e h; clear h; obtain ⟨hj, v, hv, h⟩ := hh; refine G.move (fun p e s m args below meth c T locs a0 hx hc hm hn hZ ho hw X hF hR => ?_) (hk _ _ _ _ _ _ h); obtain ⟨cl, A, e1⟩ := hR.2 _ _ q; have hlt := (List.getElem?_eq_some_iff.mp hv).1; obtain ⟨T', h', X', e2, Wt, sp⟩ := stI X hx hZ rfl A (j := j) (x := x) (fun z => z.elim hj (fun z => by rw [e1] at z; simp at z; omega)) (g := mkF m pc ls.toArray (.int x :: .int j :: .ref (ad b.size i) :: r)) rfl rfl (hb hc hd); exact ⟨T', _, X', hF.app (fun y hy => by cases List.mem_singleton.mp hy; exact Nat.le_add_right _ _), by rw [e2]; exact hR.setArr q Wt, sp⟩
  · have hd := hd0; simp only [ilen] at hd; have hh := popJ_e h; clear h; obtain ⟨x, r, rfl, h⟩ := hh; have hh := popI_e h; clear h; obtain ⟨j, r, rfl, h⟩ := hh; have hh := popR_e h; clear h; obtain ⟨a, r, rfl, h⟩ := hh; have hh := arr_e h; clear h; obtain ⟨i, ty, vs, rfl, q, h⟩ := hh; have hh := ifF_e h; clear h; obtain ⟨rfl, h⟩ := hh; have hh := idx_e h; clear h; obtain ⟨hj, v, hv, h⟩ := hh; refine G.move (fun p e s m args below meth c T locs a0 hx hc hm hn hZ ho hw X hF hR => ?_) (hk _ _ _ _ _ _ h); obtain ⟨cl, A, e1⟩ := hR.2 _ _ q; have hlt := (List.getElem?_eq_some_iff.mp hv).1; obtain ⟨T', h', X', e2, Wt, sp⟩ := stJ X hx hZ rfl A (j := j) (x := x) (fun z => z.elim hj (fun z => by rw [e1] at z; simp at z; omega)) (g := mkF m pc ls.toArray (.long x :: .int j :: .ref (ad b.size i) :: r)) rfl rfl (hb hc hd); exact ⟨T', _, X', hF.app (fun y hy => by cases List.mem_singleton.mp hy; exact Nat.le_add_right _ _), by rw [e2]; exact hR.setArr q Wt, sp⟩
  · have hd := hd0; simp only [ilen] at hd; have hh := popI_e h; clear h; obtain ⟨n, r, rfl, h⟩ := hh; have hh := ifF_e h; clear h; obtain ⟨⟨hn0, hA, hcap, hc1, hs1⟩, h⟩ := hh; refine G.move (fun p e s m args below meth c T locs a0 hx hc hm hn hZ ho hw X hF hR => ?_) (hk _ _ _ _ _ _ h); exact newA_step X hx hZ (hw _ (hAL _ hA)) hF hR (hb hc hd) hn0 hcap hc1 hs1
  · have hd := hd0; simp only [ilen] at hd; have hh := popI_e h; clear h; obtain ⟨x, r, rfl, h⟩ := hh; have hh := ifF_e h; clear h; obtain ⟨⟨hc1, hs1⟩, hK⟩ := hh; (try dsimp only at hK); split at hK
    · exact G.leave (fun q => by cases q) (fun p e s m args below meth c T locs hx hc hr X fs hfs => retI X hx hr (hb hc hd) hfs) hc1 hs1 hK
    · exact G.leave (fun q => by cases q) (fun p e s m args below meth c T locs hx hc hr X fs hfs => retN X hx hr (by simp) (hb hc hd) hfs) hc1 hs1 hK
    · exact G.leave (fun q => by cases q) (fun p e s m args below meth c T locs hx hc hr X fs hfs => retN X hx hr (by simp) (hb hc hd) hfs) hc1 hs1 hK
    · exact G.leave (fun q => by cases q) (fun p e s m args below meth c T locs hx hc hr X fs hfs => retN X hx hr (by simp) (hb hc hd) hfs) hc1 hs1 hK
    · exact G.leave (fun q => by cases q) (fun p e s m args below meth c T locs hx hc hr X fs hfs => retN X hx hr (by simp) (hb hc hd) hfs) hc1 hs1 hK
    · exact hK.elim
  · have hd := hd0; simp only [ilen] at hd; have hh := popJ_e h; clear h; obtain ⟨x, r, rfl, h⟩ := hh; have hh := ifF_e h; clear h; obtain ⟨⟨hc1, hs1, rfl, rfl⟩, hK⟩ := hh; exact G.leave (fun q => by cases q) (fun p e s m args below meth c T locs hx hc hr X fs hfs => X.lreturnOut hx hr (hb hc hd) hfs) hc1 hs1 hK
  · have hd := hd0; simp only [ilen] at hd; have hh := popR_e h; clear h; obtain ⟨x, r, rfl, h⟩ := hh; have hh := ifF_e h; clear h; obtain ⟨⟨hc1, hs1, rfl⟩, hK⟩ := hh; exact G.leave (fun q => by cases q) (fun p e s m args below meth c T locs hx hc hr X fs hfs => retOut X hx hr rfl (Or.inr (Or.inr (Or.inr (Or.inr ⟨rfl, rfl, rfl⟩)))) (hb hc hd) hfs) hc1 hs1 hK
  · have hd := hd0; simp only [ilen] at hd; have hh := ifF_e h; clear h; obtain ⟨⟨hc1, hs1, rfl, rfl⟩, hK⟩ := hh; exact G.leave (fun _ => rfl) (fun p e s m args below meth c T locs hx hc hr X fs hfs => X.returnOut hx hr (hb hc hd) hfs) hc1 hs1 hK
  · have hd := hd0; simp only [ilen] at hd; have hh := popR_e h; clear h; obtain ⟨a, r, rfl, h⟩ := hh; have hh := onSome_e h; clear h; obtain ⟨⟨C0, n, d⟩, ql, h⟩ := hh; have hh := obj_e h; clear h; obtain ⟨i, C, fs, rfl, q, h⟩ := hh; have hh := ifF_e h; clear h; obtain ⟨rfl, h⟩ := hh; have hh := onSome_e h; clear h; obtain ⟨v, hv, h⟩ := hh; refine G.move (fun p e s m args below meth c T locs a0 hx hc hm hn hZ ho hw X hF hR => ?_) (hk _ _ _ _ _ _ h); obtain ⟨E, F, -⟩ := hR.2 _ _ q; obtain ⟨T', X', e1, sp⟩ := getF X hx hZ ho (host := "") (Or.inl (hw _ (hFL _ (look_mem ql)))) Via.refl rfl (F _ (fget_mem hv)) (g := mkF m pc ls.toArray (.ref (ad b.size i) :: r)) rfl rfl (hb hc hd); exact ⟨T', _, X', hF, by rw [e1]; exact hR, sp⟩
  · have hd := hd0; simp only [ilen] at hd; have hh := onSome_e h; clear h; obtain ⟨⟨C, n, fs⟩, ql, h⟩ := hh; have hh := ifF_e h; clear h; obtain ⟨⟨hc1, hs1⟩, h⟩ := hh; exact G.new (hNL _ (look_mem ql)) hd hc1 hs1 (hk _ _ _ _ _ _ h)
  · have hd := hd0; simp only [ilen] at hd; have hh := onSome_e h; clear h; obtain ⟨⟨C0, n, d, ty⟩, ql, h⟩ := hh; (try dsimp only at h); split at h
    · (have hh := popJ_e h; clear h; obtain ⟨x, r, rfl, h⟩ := hh; have hh := popR_e h; clear h; obtain ⟨a, r, rfl, h⟩ := hh; have hh := obj_e h; clear h; obtain ⟨i, C, fs, rfl, q, h⟩ := hh; have hh := ifF_e h; clear h; obtain ⟨rfl, h⟩ := hh; have hh := onSome_e h; clear h; obtain ⟨old, hv, h⟩ := hh; exact G.putf (hPL _ (look_mem ql)) rfl rfl hd q hv (hk _ _ _ _ _ _ h))
    · (have hh := popI_e h; clear h; obtain ⟨x, r, rfl, h⟩ := hh; have hh := popR_e h; clear h; obtain ⟨a, r, rfl, h⟩ := hh; have hh := obj_e h; clear h; obtain ⟨i, C, fs, rfl, q, h⟩ := hh; have hh := ifF_e h; clear h; obtain ⟨rfl, h⟩ := hh; have hh := onSome_e h; clear h; obtain ⟨old, hv, h⟩ := hh; exact G.putf (hPL _ (look_mem ql)) rfl rfl hd q hv (hk _ _ _ _ _ _ h))
    · (have hh := popI_e h; clear h; obtain ⟨x, r, rfl, h⟩ := hh; have hh := popR_e h; clear h; obtain ⟨a, r, rfl, h⟩ := hh; have hh := obj_e h; clear h; obtain ⟨i, C, fs, rfl, q, h⟩ := hh; have hh := ifF_e h; clear h; obtain ⟨rfl, h⟩ := hh; have hh := onSome_e h; clear h; obtain ⟨old, hv, h⟩ := hh; exact G.putf (hPL _ (look_mem ql)) rfl (fits_nar_bool x) hd q hv (hk _ _ _ _ _ _ h))
    · (have hh := popA_e h; clear h; obtain ⟨x, r, rfl, hv1, hv2, h⟩ := hh; have hh := popR_e h; clear h; obtain ⟨a, r, rfl, h⟩ := hh; have hh := obj_e h; clear h; obtain ⟨i, C, fs, rfl, q, h⟩ := hh; have hh := ifF_e h; clear h; obtain ⟨rfl, h⟩ := hh; have hh := onSome_e h; clear h; obtain ⟨old, hv, h⟩ := hh; exact G.putf (hPL _ (look_mem ql)) (by cases x <;> first | rfl | cases hv1) (by cases x <;> first | rfl | cases hv1) hd q hv (hk _ _ _ _ _ _ h))
    · (have hh := popA_e h; clear h; obtain ⟨x, r, rfl, hv1, hv2, h⟩ := hh; have hh := popR_e h; clear h; obtain ⟨a, r, rfl, h⟩ := hh; have hh := obj_e h; clear h; obtain ⟨i, C, fs, rfl, q, h⟩ := hh; have hh := ifF_e h; clear h; obtain ⟨rfl, h⟩ := hh; have hh := onSome_e h; clear h; obtain ⟨old, hv, h⟩ := hh; exact G.putf (hPL _ (look_mem ql)) (by cases x <;> first | rfl | cases hv1) (by cases x <;> first | rfl | cases hv1) hd q hv (hk _ _ _ _ _ _ h))
    · exact h.elim
  · exact h
theorem G.run {S : List Nat} (n : Nat) (hCI : ∀ x ∈ CI, Jvm.Cond.constant own x.1 x.2 ∈ W) (hCL : ∀ x ∈ CL, Jvm.Cond.constantLong own x.1 x.2 ∈ W) (hFL : ∀ x ∈ FL, Jvm.Cond.fieldLink own x.1 x.2.1 x.2.2.1 x.2.2.2 ∈ W) (hAL : ∀ x ∈ AL, Jvm.Cond.arrayClass x ∈ W) (hPL : ∀ x ∈ PL, PutOk W own nm x.1 x.2.1 x.2.2.1 x.2.2.2.1 x.2.2.2.2) (hNL : ∀ x ∈ NL, NewOk W own x.1 x.2.1 x.2.2.1 x.2.2.2) :
    ∀ {pc : Nat} {ls : List Slot} {st : List Value} {H : List Cel} {cN sN : Nat}, Wn S code CI CL FL AL PL NL ret R b.size rc rs K (G code own nm maxL ret R W l Z b rc rs K) n pc ls st H cN sN → G code own nm maxL ret R W l Z b rc rs K pc ls st H cN sN := by
  induction n with
  | zero => exact fun h => h
  | succ n ih =>
    intro pc ls st H cN sN h
    unfold Wn at h
    split at h
    · exact h
    · obtain ⟨i, hi, h⟩ := onSome_e h
      exact W1_sound hCI hCL hFL hAL hPL hNL (at1_o hi).1 (at1_o hi).2 (fun _ _ _ _ _ _ q => ih q) h
/-- one step from a place at which runs stop, then a run -/
theorem G.enter {S : List Nat} (n : Nat) (hCI : ∀ x ∈ CI, Jvm.Cond.constant own x.1 x.2 ∈ W) (hCL : ∀ x ∈ CL, Jvm.Cond.constantLong own x.1 x.2 ∈ W) (hFL : ∀ x ∈ FL, Jvm.Cond.fieldLink own x.1 x.2.1 x.2.2.1 x.2.2.2 ∈ W) (hAL : ∀ x ∈ AL, Jvm.Cond.arrayClass x ∈ W) (hPL : ∀ x ∈ PL, PutOk W own nm x.1 x.2.1 x.2.2.1 x.2.2.2.1 x.2.2.2.2) (hNL : ∀ x ∈ NL, NewOk W own x.1 x.2.1 x.2.2.1 x.2.2.2) {i : Instr} {pc : Nat} {ls : List Slot} {st : List Value} {H : List Cel} {cN sN : Nat} (hi : at1 code pc = some i)
    (h : W1 CI CL FL AL PL NL ret R b.size rc rs K (G code own nm maxL ret R W l Z b rc rs K) i pc ls st H cN sN (Wn S code CI CL FL AL PL NL ret R b.size rc rs K (G code own nm maxL ret R W l Z b rc rs K) n)) : G code own nm maxL ret R W l Z b rc rs K pc ls st H cN sN :=
  W1_sound hCI hCL hFL hAL hPL hNL (at1_o hi).1 (at1_o hi).2 (fun _ _ _ _ _ _ q => G.run n hCI hCL hFL hAL hPL hNL q) h
end Sound
section Eqs
variable {CI : List (Nat × Int32)} {CL : List (Nat × Int64)} {FL : List (Nat × String × String × String)} {AL : List FieldType} {PL : List (Nat × String × String × String × FieldType)} {NL : List (Nat × String × Nat × List (String × String × Value))} {ret : Option FieldType} {R : Room} {n0 rc rs : Nat} {K : Option Value → List Cel → Prop} {g k : Cont} {pc : Nat} {ls : List Slot} {st : List Value} {H : List Cel} {cN sN : Nat} {code : ByteArray}
theorem wn_s {S : List Nat} {n : Nat} (h : pc ∉ S) : Wn S code CI CL FL AL PL NL ret R n0 rc rs K g (n + 1) pc ls st H cN sN = onSome (at1 code pc) fun i => W1 CI CL FL AL PL NL ret R n0 rc rs K g i pc ls st H cN sN (Wn S code CI CL FL AL PL NL ret R n0 rc rs K g n) := if_neg h
theorem wn_p {S : List Nat} {n : Nat} (h : pc ∈ S) : Wn S code CI CL FL AL PL NL ret R n0 rc rs K g (n + 1) pc ls st H cN sN = g pc ls st H cN sN := if_pos h
end Eqs
end Jvm.OwnKit
namespace Jvm.OwnKit
open Sem ClassFile Op Lib Jvm.Stand Jvm.Free Jvm.LawKit Jvm.RoadKit
section Calls
variable {code : ByteArray} {own nm : String} {maxL : Nat} {ret : Option FieldType} {R : Room} {W : List Jvm.Cond} {l : Launch} {Z : State} {b : Heap} {rc rs : Nat} {K : Option Value → List Cel → Prop}
variable {pc : Nat} {ls : List Slot} {st : List Value} {H : List Cel} {cN sN : Nat}
def wt (rest : List Value) : Nat := (rest.map fun v => v.category).sum
theorem G.callS {idx : Nat} {y : MethodName} {bytes : ByteArray} {mL : Nat} {rt : Option FieldType} {rm : Room} {as rest : List Value} {K' : Option Value → List Cel → Prop} {ps : List FieldType} {r : Option FieldType}
    (w1 : Jvm.Cond.methodLink own idx y ∈ W) (w2 : Jvm.Cond.static y ∈ W) (w3 : Jvm.Cond.initialized y.cls ∈ W) (w4 : Jvm.Cond.code y bytes mL rt ∈ W) (hy : y.cls ≠ "java/lang/invoke/MethodHandle" ∧ y.cls ≠ "java/lang/invoke/VarHandle") (hds : parseMethodDescriptor y.desc = some ⟨ps, r⟩)
    (C : Con W l Z b y bytes mL rt rm as H K') (hd : at1 code pc = some (.invokestatic idx)) (hst : st = as.reverse ++ rest) (hlen : as.length = ps.length) (hls : ls.length = maxL)
    (hf : rm.frames + 1 ≤ R.frames) (hlo : wt rest + (mL + 11) + rm.locals ≤ R.locals) (hc : cN + rm.cells ≤ R.cells) (hs : sN + rm.slots ≤ R.slots)
    (k : ∀ v H', K' v H' → G code own nm maxL ret R W l Z b rc rs K (pc + 3) ls (v.toList ++ rest) H' (cN + rm.cells) (sN + rm.slots)) : G code own nm maxL ret R W l Z b rc rs K pc ls st H cN sN := by
  subst hst
  intro p e s m args below meth c T locs a0 hx hcd hm hr hk hn hZ ho hw X hF hR
  obtain ⟨v, vm₁, ⟨T', L', k', n'⟩, -, X', ⟨Lc, hQ, l1, y1, z1⟩, sp⟩ := Jvm.LawKit.callS X hx (y := y) ho (mvT hZ (hw _ w1)) (mvT hZ (hw _ w2)) (mvT hZ (hw _ w3)) (mvT hZ (hw _ w4)) hy
    (backOf (W := wt rest) (Q := fun v h L => Fr b.size L ∧ ∃ H', Rep Z b h H' ∧ K' v H') (C a0 T.heap hw hR) hZ (hw _ w4) (hw _ w3) hf hlo) (g := mkF m pc ls.toArray (as.reverse ++ rest)) rfl (by rw [hm]; simpa using hls) (argsL := as) (rest := rest) (lenOf hds hlen) rfl
    (by show 2 * 0 + _ ≤ _; exact Nat.le_of_eq (Nat.zero_add _)) (hb hcd (at1_e hd)) (fun _ _ => ⟨rfl, rfl, hc, hs⟩)
  dsimp only [Pt.U, Pt.locs, Pt.cells, Pt.slots] at X' l1 y1 z1 sp hQ
  subst l1 y1 z1
  obtain ⟨hF', H', hR', hK'⟩ := hQ
  obtain ⟨s₂, o, h1, h2⟩ := k v H' hK' p e s m args below meth c T' _ a0 hx hcd hm hr hk hn hZ ho hw X' (hF.app hF') hR'
  exact ⟨s₂, o, sp _ h1, h2⟩
/-- a constructor -/
theorem G.callI {idx : Nat} {y : MethodName} {bytes : ByteArray} {mL : Nat} {rm : Room} {a : Addr} {as rest : List Value} {K' : Option Value → List Cel → Prop} {ps : List FieldType} {r : Option FieldType}
    (hnm : y.name = "<init>") (w1 : Jvm.Cond.methodLink own idx y ∈ W) (w2 : Jvm.Cond.instanceMethod y ∈ W) (w3 : Jvm.Cond.initialized y.cls ∈ W) (w4 : Jvm.Cond.code y bytes mL none ∈ W) (hy : y.cls ≠ "java/lang/invoke/MethodHandle" ∧ y.cls ≠ "java/lang/invoke/VarHandle") (hds : parseMethodDescriptor y.desc = some ⟨ps, r⟩)
    (C : Con W l Z b y bytes mL none rm (.ref a :: as) H K') (hd : at1 code pc = some (.invokespecial idx)) (hst : st = as.reverse ++ .ref a :: rest) (hlen : as.length = ps.length) (hls : ls.length = maxL)
    (hf : rm.frames + 1 ≤ R.frames) (hlo : wt rest + (mL + 11) + rm.locals ≤ R.locals) (hc : cN + rm.cells ≤ R.cells) (hs : sN + rm.slots ≤ R.slots)
    (k : ∀ v H', K' v H' → G code own nm maxL ret R W l Z b rc rs K (pc + 3) ls (v.toList ++ rest) H' (cN + rm.cells) (sN + rm.slots)) : G code own nm maxL ret R W l Z b rc rs K pc ls st H cN sN := by
  subst hst
  intro p e s m args below meth c T locs a0 hx hcd hm hr hk hn hZ ho hw X hF hR
  obtain ⟨v, vm₁, ⟨T', L', k', n'⟩, -, X', ⟨Lc, hQ, l1, y1, z1⟩, sp⟩ := X.specialBack hx (y := y) hnm ho (mvT hZ (hw _ w1)) (mvT hZ (hw _ w2)) (mvT hZ (hw _ w4)) hy
    (backOf (W := wt rest) (Q := fun v h L => Fr b.size L ∧ ∃ H', Rep Z b h H' ∧ K' v H') (C a0 T.heap hw hR) hZ (hw _ w4) (hw _ w3) hf hlo) (g := mkF m pc ls.toArray (as.reverse ++ .ref a :: rest)) rfl (by rw [hm]; simpa using hls) (Steps.refl _) (a := a) (argsL := as) (rest := rest) (lenOf hds hlen) rfl
    (by show 2 * 0 + _ ≤ _; exact Nat.le_of_eq (Nat.zero_add _)) (hb hcd (at1_e hd)) (fun _ _ => ⟨rfl, rfl, hc, hs⟩)
  dsimp only [Pt.U, Pt.locs, Pt.cells, Pt.slots] at X' l1 y1 z1 sp hQ
  subst l1 y1 z1
  obtain ⟨hF', H', hR', hK'⟩ := hQ
  obtain ⟨s₂, o, h1, h2⟩ := k v H' hK' p e s m args below meth c T' _ a0 hx hcd hm hr hk hn hZ ho hw X' (hF.app hF') hR'
  exact ⟨s₂, o, sp.trans h1, h2⟩
/-- an instance method of an object of just that class -/
theorem G.callV {idx : Nat} {y : MethodName} {bytes : ByteArray} {mL : Nat} {rt : Option FieldType} {rm : Room} {i : Nat} {fs : List (String × String × Value)} {as rest : List Value} {K' : Option Value → List Cel → Prop} {ps : List FieldType} {r : Option FieldType}
    (w1 : Jvm.Cond.methodLink own idx y ∈ W) (w2 : Jvm.Cond.declares y ∈ W) (w3 : Jvm.Cond.selects y.cls y y ∈ W) (w4 : Jvm.Cond.instanceMethod y ∈ W) (w5 : Jvm.Cond.code y bytes mL rt ∈ W) (w6 : Jvm.Cond.initialized y.cls ∈ W) (hy : y.cls ≠ "java/lang/invoke/MethodHandle" ∧ y.cls ≠ "java/lang/invoke/VarHandle") (hds : parseMethodDescriptor y.desc = some ⟨ps, r⟩)
    (hi : H[i]? = some (.inr (y.cls, fs)))
    (C : Con W l Z b y bytes mL rt rm (.ref (ad b.size i) :: as) H K') (hd : at1 code pc = some (.invokevirtual idx)) (hst : st = as.reverse ++ .ref (ad b.size i) :: rest) (hlen : as.length = ps.length) (hls : ls.length = maxL)
    (hf : rm.frames + 1 ≤ R.frames) (hlo : wt rest + (mL + 11) + rm.locals ≤ R.locals) (hc : cN + rm.cells ≤ R.cells) (hs : sN + rm.slots ≤ R.slots)
    (k : ∀ v H', K' v H' → G code own nm maxL ret R W l Z b rc rs K (pc + 3) ls (v.toList ++ rest) H' (cN + rm.cells) (sN + rm.slots)) : G code own nm maxL ret R W l Z b rc rs K pc ls st H cN sN := by
  subst hst
  intro p e s m args below meth c T locs a0 hx hcd hm hr hk hn hZ ho hw X hF hR
  obtain ⟨cq, kq, qa, qb, qc⟩ := isOf (T := T) hZ rfl (hR.2 _ _ hi).1
  obtain ⟨v, vm₁, ⟨T', L', k', n'⟩, -, X', ⟨Lc, hQ, l1, y1, z1⟩, sp⟩ := X.virtualBack hx (y := y) (z := y) ho (mvT hZ (hw _ w1)) (mvT hZ (hw _ w2)) (notFace_of_selects (args := #[]) (mvT hZ (hw _ w3))) (mvT hZ (hw _ w3)) (mvT hZ (hw _ w4)) hy
    (backOf (W := wt rest) (Q := fun v h L => Fr b.size L ∧ ∃ H', Rep Z b h H' ∧ K' v H') (C a0 T.heap hw hR) hZ (hw _ w5) (hw _ w6) hf hlo) qa qc (g := mkF m pc ls.toArray (as.reverse ++ .ref (ad b.size i) :: rest)) rfl (by rw [hm]; simpa using hls) (Steps.refl _) (argsL := as) (rest := rest) (lenOf hds hlen) rfl
    (by show 2 * 0 + _ ≤ _; exact Nat.le_of_eq (Nat.zero_add _)) (hb hcd (at1_e hd)) (fun _ _ => ⟨rfl, rfl, hc, hs⟩)
  dsimp only [Pt.U, Pt.locs, Pt.cells, Pt.slots] at X' l1 y1 z1 sp hQ
  subst l1 y1 z1
  obtain ⟨hF', H', hR', hK'⟩ := hQ
  obtain ⟨s₂, o, h1, h2⟩ := k v H' hK' p e s m args below meth c T' _ a0 hx hcd hm hr hk hn hZ ho hw X' (hF.app hF') hR'
  exact ⟨s₂, o, sp.trans h1, h2⟩
/-- Object's constructor -/
theorem G.init0 {idx : Nat} {a : Addr} {rest : List Value} (w1 : Jvm.Cond.methodLink own idx Lib.objectInit ∈ W) (w2 : Jvm.Cond.instanceMethod Lib.objectInit ∈ W) (w3 : Jvm.Cond.code Lib.objectInit ⟨#[0xb1]⟩ 1 none ∈ W)
    (hd : at1 code pc = some (.invokespecial idx)) (hls : ls.length = maxL) (hf : 1 ≤ R.frames) (hlo : wt rest + 12 ≤ R.locals)
    (k : G code own nm maxL ret R W l Z b rc rs K (pc + 3) ls rest H cN sN) : G code own nm maxL ret R W l Z b rc rs K pc ls (.ref a :: rest) H cN sN := by
  refine G.move (fun p e s m args below meth c T locs a0 hx hc hm hn hZ ho hw X hF hR => ?_) k
  obtain ⟨T', X', e1, sp⟩ := initO X hx hZ ho (hw _ w1) (hw _ w2) (hw _ w3) rfl (g := mkF m pc ls.toArray (.ref a :: rest)) rfl (by rw [hm]; simpa using hls) rfl (hb hc (at1_e hd)) hf (W := wt rest) (by show 2 * 0 + _ ≤ _; exact Nat.le_of_eq (Nat.zero_add _)) hlo
  exact ⟨T', _, X', hF, by rw [e1]; exact hR, sp⟩
/-- 'wide iinc' -/
theorem iincW {tb : Tables} [Ours tb] {e : Env} {below : List Frame} {T target : State} {m : MethodId} {c : Code} {g : JFrame} (h : At T m c below) (hx : tb.exec = Jvm.exec) (hg : g.method = m) {k : Nat} {cst : Int} {x : Int32} {l' : Array Slot} (hd : decode c.code g.pc = .ok (.iinc k cst, 6)) (hl : g.locals[k]? = some (.val (.int x))) (hl' : storeLocals g.locals k (.int (x + Int32.ofInt cst)) = some l')
    (hr : Steps tb e below (T.setTop { g with pc := g.pc + 6, locals := l' }) target) : Steps tb e below (T.setTop g) target := by
  subst hg
  jvm_step h [h.top, hx, hd, hl, hl']
  exact hr
theorem G.wideInc {j : Nat} {i : Int} {k : Cont} (hd : decode code pc = .ok (.iinc j i, 6)) (hk : ∀ pc ls st H cN sN, k pc ls st H cN sN → G code own nm maxL ret R W l Z b rc rs K pc ls st H cN sN)
    (h : ldI ls j fun v => setL ls j (.val (.int (v + Int32.ofInt i))) fun l' => k (pc + 6) l' st H cN sN) : G code own nm maxL ret R W l Z b rc rs K pc ls st H cN sN := by
  obtain ⟨v, q, h⟩ := ldI_e h
  exact G.pure (fun p e s m args below meth c T locs a0 hx hc hZ ho hw X hR tg hs => iincW X.here hx rfl (hb hc hd) (by simpa using q) (XS.store1 (by simpa using q) (Or.inr ⟨_, rfl, rfl⟩) rfl) (by simpa using hs)) (hk _ _ _ _ _ _ h)
end Calls
end Jvm.OwnKit
namespace Jvm.OwnKit
open Sem ClassFile Op Lib Jvm.Stand Jvm.Free Jvm.LawKit Jvm.RoadKit
theorem rem_toInt (x y : Int32) : (remI x y).toInt = x.toInt.tmod y.toInt := by
  have hx1 := x.toInt_lt; have hx2 := x.le_toInt
  unfold remI
  rw [Int32.toInt_sub, Int32.toInt_mul, Int32.toInt_div, Int.bmod_mul_bmod, Int.sub_bmod_bmod]
  have e : x.toInt - x.toInt.tdiv y.toInt * y.toInt = x.toInt.tmod y.toInt := by
    have := Int.tmod_add_mul_tdiv x.toInt y.toInt
    rw [Int.mul_comm] at this; omega
  rw [e]
  have b1 := Int.natAbs_tmod x.toInt y.toInt
  have b2 := Nat.mod_le x.toInt.natAbs y.toInt.natAbs
  have b3 : x.toInt < 0 → x.toInt.tmod y.toInt ≤ 0 := fun h => by
    have q := Int.tmod_nonneg y.toInt (show 0 ≤ -x.toInt by omega)
    rw [Int.neg_tmod] at q; omega
  refine Int.bmod_eq_of_le ?_ ?_
  · omega
  · by_cases q : x.toInt < 0
    · have := b3 q; omega
    · omega
theorem rem_nn {x y : Int32} (h : 0 ≤ x.toInt) : (remI x y).toInt = x.toInt % y.toInt := by rw [rem_toInt, Int.tmod_eq_emod_of_nonneg h]
theorem remJ_nn {x y : Int64} (h : 0 ≤ x.toInt) : (remJ x y).toInt = x.toInt % y.toInt := Jvm.Kit.i64_rem_nonneg h
theorem cases2 {v : Int32} (h0 : 0 ≤ v.toInt) (h1 : v.toInt < 2) : v = 0 ∨ v = 1 := by
  have q : v.toInt = 0 ∨ v.toInt = 1 := by omega
  rcases q with h | h
  · exact (Or.inl (Int32.toInt_inj.mp (h.trans (by decide : (0 : Int) = (0 : Int32).toInt))))
  · exact (Or.inr (Int32.toInt_inj.mp (h.trans (by decide : (1 : Int) = (1 : Int32).toInt))))
theorem cases3 {v : Int32} (h0 : 0 ≤ v.toInt) (h1 : v.toInt < 3) : v = 0 ∨ v = 1 ∨ v = 2 := by
  have q : v.toInt = 0 ∨ v.toInt = 1 ∨ v.toInt = 2 := by omega
  rcases q with h | h | h
  · exact (Or.inl (Int32.toInt_inj.mp (h.trans (by decide : (0 : Int) = (0 : Int32).toInt))))
  · exact (Or.inr (Or.inl (Int32.toInt_inj.mp (h.trans (by decide : (1 : Int) = (1 : Int32).toInt)))))
  · exact (Or.inr (Or.inr (Int32.toInt_inj.mp (h.trans (by decide : (2 : Int) = (2 : Int32).toInt)))))
theorem cases4 {v : Int32} (h0 : 0 ≤ v.toInt) (h1 : v.toInt < 4) : v = 0 ∨ v = 1 ∨ v = 2 ∨ v = 3 := by
  have q : v.toInt = 0 ∨ v.toInt = 1 ∨ v.toInt = 2 ∨ v.toInt = 3 := by omega
  rcases q with h | h | h | h
  · exact (Or.inl (Int32.toInt_inj.mp (h.trans (by decide : (0 : Int) = (0 : Int32).toInt))))
  · exact (Or.inr (Or.inl (Int32.toInt_inj.mp (h.trans (by decide : (1 : Int) = (1 : Int32).toInt)))))
  · exact (Or.inr (Or.inr (Or.inl (Int32.toInt_inj.mp (h.trans (by decide : (2 : Int) = (2 : Int32).toInt))))))
  · exact (Or.inr (Or.inr (Or.inr (Int32.toInt_inj.mp (h.trans (by decide : (3 : Int) = (3 : Int32).toInt))))))
theorem cases5 {v : Int32} (h0 : 0 ≤ v.toInt) (h1 : v.toInt < 5) : v = 0 ∨ v = 1 ∨ v = 2 ∨ v = 3 ∨ v = 4 := by
  have q : v.toInt = 0 ∨ v.toInt = 1 ∨ v.toInt = 2 ∨ v.toInt = 3 ∨ v.toInt = 4 := by omega
  rcases q with h | h | h | h | h
  · exact (Or.inl (Int32.toInt_inj.mp (h.trans (by decide : (0 : Int) = (0 : Int32).toInt))))
  · exact (Or.inr (Or.inl (Int32.toInt_inj.mp (h.trans (by decide : (1 : Int) = (1 : Int32).toInt)))))
  · exact (Or.inr (Or.inr (Or.inl (Int32.toInt_inj.mp (h.trans (by decide : (2 : Int) = (2 : Int32).toInt))))))
  · exact (Or.inr (Or.inr (Or.inr (Or.inl (Int32.toInt_inj.mp (h.trans (by decide : (3 : Int) = (3 : Int32).toInt)))))))
  · exact (Or.inr (Or.inr (Or.inr (Or.inr (Int32.toInt_inj.mp (h.trans (by decide : (4 : Int) = (4 : Int32).toInt)))))))
theorem cases6 {v : Int32} (h0 : 0 ≤ v.toInt) (h1 : v.toInt < 6) : v = 0 ∨ v = 1 ∨ v = 2 ∨ v = 3 ∨ v = 4 ∨ v = 5 := by
  have q : v.toInt = 0 ∨ v.toInt = 1 ∨ v.toInt = 2 ∨ v.toInt = 3 ∨ v.toInt = 4 ∨ v.toInt = 5 := by omega
  rcases q with h | h | h | h | h | h
  · exact (Or.inl (Int32.toInt_inj.mp (h.trans (by decide : (0 : Int) = (0 : Int32).toInt))))
  · exact (Or.inr (Or.inl (Int32.toInt_inj.mp (h.trans (by decide : (1 : Int) = (1 : Int32).toInt)))))
  · exact (Or.inr (Or.inr (Or.inl (Int32.toInt_inj.mp (h.trans (by decide : (2 : Int) = (2 : Int32).toInt))))))
  · exact (Or.inr (Or.inr (Or.inr (Or.inl (Int32.toInt_inj.mp (h.trans (by decide : (3 : Int) = (3 : Int32).toInt)))))))
  · exact (Or.inr (Or.inr (Or.inr (Or.inr (Or.inl (Int32.toInt_inj.mp (h.trans (by decide : (4 : Int) = (4 : Int32).toInt))))))))
  · exact (Or.inr (Or.inr (Or.inr (Or.inr (Or.inr (Int32.toInt_inj.mp (h.trans (by decide : (5 : Int) = (5 : Int32).toInt))))))))
theorem cases7 {v : Int32} (h0 : 0 ≤ v.toInt) (h1 : v.toInt < 7) : v = 0 ∨ v = 1 ∨ v = 2 ∨ v = 3 ∨ v = 4 ∨ v = 5 ∨ v = 6 := by
  have q : v.toInt = 0 ∨ v.toInt = 1 ∨ v.toInt = 2 ∨ v.toInt = 3 ∨ v.toInt = 4 ∨ v.toInt = 5 ∨ v.toInt = 6 := by omega
  rcases q with h | h | h | h | h | h | h
  · exact (Or.inl (Int32.toInt_inj.mp (h.trans (by decide : (0 : Int) = (0 : Int32).toInt))))
  · exact (Or.inr (Or.inl (Int32.toInt_inj.mp (h.trans (by decide : (1 : Int) = (1 : Int32).toInt)))))
  · exact (Or.inr (Or.inr (Or.inl (Int32.toInt_inj.mp (h.trans (by decide : (2 : Int) = (2 : Int32).toInt))))))
  · exact (Or.inr (Or.inr (Or.inr (Or.inl (Int32.toInt_inj.mp (h.trans (by decide : (3 : Int) = (3 : Int32).toInt)))))))
  · exact (Or.inr (Or.inr (Or.inr (Or.inr (Or.inl (Int32.toInt_inj.mp (h.trans (by decide : (4 : Int) = (4 : Int32).toInt))))))))
  · exact (Or.inr (Or.inr (Or.inr (Or.inr (Or.inr (Or.inl (Int32.toInt_inj.mp (h.trans (by decide : (5 : Int) = (5 : Int32).toInt)))))))))
  · exact (Or.inr (Or.inr (Or.inr (Or.inr (Or.inr (Or.inr (Int32.toInt_inj.mp (h.trans (by decide : (6 : Int) = (6 : Int32).toInt)))))))))
theorem cases8 {v : Int32} (h0 : 0 ≤ v.toInt) (h1 : v.toInt < 8) : v = 0 ∨ v = 1 ∨ v = 2 ∨ v = 3 ∨ v = 4 ∨ v = 5 ∨ v = 6 ∨ v = 7 := by
  have q : v.toInt = 0 ∨ v.toInt = 1 ∨ v.toInt = 2 ∨ v.toInt = 3 ∨ v.toInt = 4 ∨ v.toInt = 5 ∨ v.toInt = 6 ∨ v.toInt = 7 := by omega
  rcases q with h | h | h | h | h | h | h | h
  · exact (Or.inl (Int32.toInt_inj.mp (h.trans (by decide : (0 : Int) = (0 : Int32).toInt))))
  · exact (Or.inr (Or.inl (Int32.toInt_inj.mp (h.trans (by decide : (1 : Int) = (1 : Int32).toInt)))))
  · exact (Or.inr (Or.inr (Or.inl (Int32.toInt_inj.mp (h.trans (by decide : (2 : Int) = (2 : Int32).toInt))))))
  · exact (Or.inr (Or.inr (Or.inr (Or.inl (Int32.toInt_inj.mp (h.trans (by decide : (3 : Int) = (3 : Int32).toInt)))))))
  · exact (Or.inr (Or.inr (Or.inr (Or.inr (Or.inl (Int32.toInt_inj.mp (h.trans (by decide : (4 : Int) = (4 : Int32).toInt))))))))
  · exact (Or.inr (Or.inr (Or.inr (Or.inr (Or.inr (Or.inl (Int32.toInt_inj.mp (h.trans (by decide : (5 : Int) = (5 : Int32).toInt)))))))))
  · exact (Or.inr (Or.inr (Or.inr (Or.inr (Or.inr (Or.inr (Or.inl (Int32.toInt_inj.mp (h.trans (by decide : (6 : Int) = (6 : Int32).toInt))))))))))
  · exact (Or.inr (Or.inr (Or.inr (Or.inr (Or.inr (Or.inr (Or.inr (Int32.toInt_inj.mp (h.trans (by decide : (7 : Int) = (7 : Int32).toInt))))))))))
theorem cases10 {v : Int32} (h0 : 0 ≤ v.toInt) (h1 : v.toInt < 10) : v = 0 ∨ v = 1 ∨ v = 2 ∨ v = 3 ∨ v = 4 ∨ v = 5 ∨ v = 6 ∨ v = 7 ∨ v = 8 ∨ v = 9 := by
  have q : v.toInt = 0 ∨ v.toInt = 1 ∨ v.toInt = 2 ∨ v.toInt = 3 ∨ v.toInt = 4 ∨ v.toInt = 5 ∨ v.toInt = 6 ∨ v.toInt = 7 ∨ v.toInt = 8 ∨ v.toInt = 9 := by omega
  rcases q with h | h | h | h | h | h | h | h | h | h
  · exact (Or.inl (Int32.toInt_inj.mp (h.trans (by decide : (0 : Int) = (0 : Int32).toInt))))
  · exact (Or.inr (Or.inl (Int32.toInt_inj.mp (h.trans (by decide : (1 : Int) = (1 : Int32).toInt)))))
  · exact (Or.inr (Or.inr (Or.inl (Int32.toInt_inj.mp (h.trans (by decide : (2 : Int) = (2 : Int32).toInt))))))
  · exact (Or.inr (Or.inr (Or.inr (Or.inl (Int32.toInt_inj.mp (h.trans (by decide : (3 : Int) = (3 : Int32).toInt)))))))
  · exact (Or.inr (Or.inr (Or.inr (Or.inr (Or.inl (Int32.toInt_inj.mp (h.trans (by decide : (4 : Int) = (4 : Int32).toInt))))))))
  · exact (Or.inr (Or.inr (Or.inr (Or.inr (Or.inr (Or.inl (Int32.toInt_inj.mp (h.trans (by decide : (5 : Int) = (5 : Int32).toInt)))))))))
  · exact (Or.inr (Or.inr (Or.inr (Or.inr (Or.inr (Or.inr (Or.inl (Int32.toInt_inj.mp (h.trans (by decide : (6 : Int) = (6 : Int32).toInt))))))))))
  · exact (Or.inr (Or.inr (Or.inr (Or.inr (Or.inr (Or.inr (Or.inr (Or.inl (Int32.toInt_inj.mp (h.trans (by decide : (7 : Int) = (7 : Int32).toInt)))))))))))
  · exact (Or.inr (Or.inr (Or.inr (Or.inr (Or.inr (Or.inr (Or.inr (Or.inr (Or.inl (Int32.toInt_inj.mp (h.trans (by decide : (8 : Int) = (8 : Int32).toInt))))))))))))
  · exact (Or.inr (Or.inr (Or.inr (Or.inr (Or.inr (Or.inr (Or.inr (Or.inr (Or.inr (Int32.toInt_inj.mp (h.trans (by decide : (9 : Int) = (9 : Int32).toInt))))))))))))
theorem cases16 {v : Int32} (h0 : 0 ≤ v.toInt) (h1 : v.toInt < 16) : v = 0 ∨ v = 1 ∨ v = 2 ∨ v = 3 ∨ v = 4 ∨ v = 5 ∨ v = 6 ∨ v = 7 ∨ v = 8 ∨ v = 9 ∨ v = 10 ∨ v = 11 ∨ v = 12 ∨ v = 13 ∨ v = 14 ∨ v = 15 := by
  have q : v.toInt = 0 ∨ v.toInt = 1 ∨ v.toInt = 2 ∨ v.toInt = 3 ∨ v.toInt = 4 ∨ v.toInt = 5 ∨ v.toInt = 6 ∨ v.toInt = 7 ∨ v.toInt = 8 ∨ v.toInt = 9 ∨ v.toInt = 10 ∨ v.toInt = 11 ∨ v.toInt = 12 ∨ v.toInt = 13 ∨ v.toInt = 14 ∨ v.toInt = 15 := by omega
  rcases q with h | h | h | h | h | h | h | h | h | h | h | h | h | h | h | h
  · exact (Or.inl (Int32.toInt_inj.mp (h.trans (by decide : (0 : Int) = (0 : Int32).toInt))))
  · exact (Or.inr (Or.inl (Int32.toInt_inj.mp (h.trans (by decide : (1 : Int) = (1 : Int32).toInt)))))
  · exact (Or.inr (Or.inr (Or.inl (Int32.toInt_inj.mp (h.trans (by decide : (2 : Int) = (2 : Int32).toInt))))))
  · exact (Or.inr (Or.inr (Or.inr (Or.inl (Int32.toInt_inj.mp (h.trans (by decide : (3 : Int) = (3 : Int32).toInt)))))))
  · exact (Or.inr (Or.inr (Or.inr (Or.inr (Or.inl (Int32.toInt_inj.mp (h.trans (by decide : (4 : Int) = (4 : Int32).toInt))))))))
  · exact (Or.inr (Or.inr (Or.inr (Or.inr (Or.inr (Or.inl (Int32.toInt_inj.mp (h.trans (by decide : (5 : Int) = (5 : Int32).toInt)))))))))
  · exact (Or.inr (Or.inr (Or.inr (Or.inr (Or.inr (Or.inr (Or.inl (Int32.toInt_inj.mp (h.trans (by decide : (6 : Int) = (6 : Int32).toInt))))))))))
  · exact (Or.inr (Or.inr (Or.inr (Or.inr (Or.inr (Or.inr (Or.inr (Or.inl (Int32.toInt_inj.mp (h.trans (by decide : (7 : Int) = (7 : Int32).toInt)))))))))))
  · exact (Or.inr (Or.inr (Or.inr (Or.inr (Or.inr (Or.inr (Or.inr (Or.inr (Or.inl (Int32.toInt_inj.mp (h.trans (by decide : (8 : Int) = (8 : Int32).toInt))))))))))))
  · exact (Or.inr (Or.inr (Or.inr (Or.inr (Or.inr (Or.inr (Or.inr (Or.inr (Or.inr (Or.inl (Int32.toInt_inj.mp (h.trans (by decide : (9 : Int) = (9 : Int32).toInt)))))))))))))
  · exact (Or.inr (Or.inr (Or.inr (Or.inr (Or.inr (Or.inr (Or.inr (Or.inr (Or.inr (Or.inr (Or.inl (Int32.toInt_inj.mp (h.trans (by decide : (10 : Int) = (10 : Int32).toInt))))))))))))))
  · exact (Or.inr (Or.inr (Or.inr (Or.inr (Or.inr (Or.inr (Or.inr (Or.inr (Or.inr (Or.inr (Or.inr (Or.inl (Int32.toInt_inj.mp (h.trans (by decide : (11 : Int) = (11 : Int32).toInt)))))))))))))))
  · exact (Or.inr (Or.inr (Or.inr (Or.inr (Or.inr (Or.inr (Or.inr (Or.inr (Or.inr (Or.inr (Or.inr (Or.inr (Or.inl (Int32.toInt_inj.mp (h.trans (by decide : (12 : Int) = (12 : Int32).toInt))))))))))))))))
  · exact (Or.inr (Or.inr (Or.inr (Or.inr (Or.inr (Or.inr (Or.inr (Or.inr (Or.inr (Or.inr (Or.inr (Or.inr (Or.inr (Or.inl (Int32.toInt_inj.mp (h.trans (by decide : (13 : Int) = (13 : Int32).toInt)))))))))))))))))
  · exact (Or.inr (Or.inr (Or.inr (Or.inr (Or.inr (Or.inr (Or.inr (Or.inr (Or.inr (Or.inr (Or.inr (Or.inr (Or.inr (Or.inr (Or.inl (Int32.toInt_inj.mp (h.trans (by decide : (14 : Int) = (14 : Int32).toInt))))))))))))))))))
  · exact (Or.inr (Or.inr (Or.inr (Or.inr (Or.inr (Or.inr (Or.inr (Or.inr (Or.inr (Or.inr (Or.inr (Or.inr (Or.inr (Or.inr (Or.inr (Int32.toInt_inj.mp (h.trans (by decide : (15 : Int) = (15 : Int32).toInt))))))))))))))))))
theorem onat {n : Nat} (h : n < 2147483648) : (Int32.ofNat n).toInt = n := Int32.toInt_ofNat_of_lt h
theorem onat_lt {n m : Nat} (hn : n < 2147483648) (hm : m < 2147483648) : (Int32.ofNat n < Int32.ofNat m) = (n < m) := by
  rw [Int32.lt_iff_toInt_lt, onat hn, onat hm]; exact propext ⟨fun h => by omega, fun h => by omega⟩
theorem onat_nn {n : Nat} (h : n < 2147483648) : (Int32.ofNat n < 0) = False := by
  have z : (0 : Int32).toInt = 0 := rfl
  rw [Int32.lt_iff_toInt_lt, onat h, z]; exact propext ⟨fun h => by omega, False.elim⟩
theorem onat_nat {n : Nat} (h : n < 2147483648) : (Int32.ofNat n).toNatClampNeg = n := by
  rw [Int32.toNatClampNeg, onat h]; rfl
theorem onat_succ (n : Nat) : Int32.ofNat n + 1 = Int32.ofNat (n + 1) := (Int32.ofNat_add n 1).symm
/-- an array of ints (or narrower): its n-th value -/
def ivs (xs : List Int32) : List Value := xs.map Value.int
theorem ivs_c {x : Int32} {xs : List Int32} : ivs (x :: xs) = .int x :: ivs xs := rfl
theorem ivs_n : ivs [] = [] := rfl
theorem ivs_len (xs : List Int32) : (ivs xs).length = xs.length := by simp [ivs]
theorem idx_at {pre suf : List Int32} {x : Int32} {f : Value → Prop} (h : pre.length < 2147483648) : idx (ivs (pre ++ x :: suf)) (Int32.ofNat pre.length) f = f (.int x) := by
  rw [idx_c, if_neg (by rw [onat_nn h]; exact id), onat_nat h]
  simp [idxN, ivs]
end Jvm.OwnKit
namespace Jvm.OwnKit
theorem a32 {x q : Int32} {c : Int} (hq : q.toInt = c) (h1 : -2 ^ 31 ≤ x.toInt + c) (h2 : x.toInt + c < 2 ^ 31) : (x + q).toInt = x.toInt + c := by subst hq; exact Jvm.Kit.i32_add h1 h2
theorem s32 {x q : Int32} {c : Int} (hq : q.toInt = c) (h1 : -2 ^ 31 ≤ x.toInt - c) (h2 : x.toInt - c < 2 ^ 31) : (x - q).toInt = x.toInt - c := by subst hq; exact Jvm.Kit.i32_sub h1 h2
theorem m32 {x q : Int32} {c : Int} (hq : q.toInt = c) (h1 : -2 ^ 31 ≤ x.toInt * c) (h2 : x.toInt * c < 2 ^ 31) : (x * q).toInt = x.toInt * c := by subst hq; exact Jvm.Kit.i32_mul h1 h2
theorem d32 {x q : Int32} {c : Int} (hq : q.toInt = c) (h1 : 0 ≤ x.toInt) (h2 : 0 < c) : (x / q).toInt = x.toInt / c := by
  subst hq; rw [Jvm.Kit.i32_div (by omega), Int.tdiv_eq_ediv_of_nonneg h1]
theorem a64 {x q : Int64} {c : Int} (hq : q.toInt = c) (h1 : -2 ^ 63 ≤ x.toInt + c) (h2 : x.toInt + c < 2 ^ 63) : (x + q).toInt = x.toInt + c := by subst hq; exact Jvm.Kit.i64_add h1 h2
theorem s64 {x q : Int64} {c : Int} (hq : q.toInt = c) (h1 : -2 ^ 63 ≤ x.toInt - c) (h2 : x.toInt - c < 2 ^ 63) : (x - q).toInt = x.toInt - c := by subst hq; exact Jvm.Kit.i64_sub h1 h2
theorem m64 {x q : Int64} {c : Int} (hq : q.toInt = c) (h1 : -2 ^ 63 ≤ x.toInt * c) (h2 : x.toInt * c < 2 ^ 63) : (x * q).toInt = x.toInt * c := by subst hq; exact Jvm.Kit.i64_mul h1 h2
theorem d64 {x q : Int64} {c : Int} (hq : q.toInt = c) (h1 : 0 ≤ x.toInt) (h2 : 0 < c) : (x / q).toInt = x.toInt / c := by
  subst hq; rw [Jvm.Kit.i64_div (by omega), Int.tdiv_eq_ediv_of_nonneg h1]
end Jvm.OwnKit
namespace Jvm.OwnKit
/-- a place of a list, by a natural index -/
theorem idx_lt {vs : List Value} {n : Nat} {v : Value} {f : Value → Prop} (h : n < 2147483648) (hv : vs[n]? = some v) : idx vs (Int32.ofNat n) f = f v := by
  rw [idx_c, if_neg (by rw [onat_nn h]; exact id), onat_nat h]
  simp [idxN, hv]
theorem idx_ig {vs : List Value} {n : Nat} {P : Prop} (h : n < 2147483648) (hv : n < vs.length) : idx vs (Int32.ofNat n) (fun _ => P) = P :=
  idx_lt h (List.getElem?_eq_getElem hv)
theorem setN_d {vs : List Value} {n : Nat} {v : Value} {f : List Value → Prop} : setN vs n v f = f (vs.set n v) := propext Iff.rfl
end Jvm.OwnKit
namespace Jvm.OwnKit
theorem ivs_set {xs : List Int32} {n : Nat} {x : Int32} : (ivs xs).set n (.int x) = ivs (xs.set n x) := by simp [ivs, List.map_set]
theorem idx_iv {xs : List Int32} {n : Nat} {P : Prop} (h : n < 2147483648) (hv : n < xs.length) : idx (ivs xs) (Int32.ofNat n) (fun _ => P) = P := idx_ig h (by rw [ivs_len]; exact hv)
theorem onat_add (n m : Nat) : Int32.ofNat n + Int32.ofNat m = Int32.ofNat (n + m) := (Int32.ofNat_add n m).symm
theorem onat_2 (n : Nat) : Int32.ofNat n + 2 = Int32.ofNat (n + 2) := (Int32.ofNat_add n 2).symm
/-- a small int is a natural -/
theorem to_onat {x : Int32} {m : Nat} (h0 : 0 ≤ x.toInt) (h1 : x.toInt < m) : ∃ n, n < m ∧ x = Int32.ofNat n := by
  have hl := x.toInt_lt
  exact ⟨x.toInt.toNat, by omega, Int32.toInt_inj.mp (by rw [onat (by omega)]; omega)⟩
end Jvm.OwnKit
namespace Jvm.OwnKit
open Sem ClassFile Op Lib Jvm.Stand Jvm.Free Jvm.LawKit Jvm.RoadKit
/-! the machine's equations, bundled -/
theorem B0 : type_of% @popI_c ∧ type_of% @popJ_c ∧ type_of% @popR_c ∧ type_of% @pop1_i ∧ type_of% @pop1_r ∧ type_of% @pop1_n ∧ type_of% @popA_r ∧ type_of% @popA_n ∧ type_of% @ldI_z ∧ type_of% @ldJ_z ∧ type_of% @ldA_z ∧ type_of% @ldA_n ∧ type_of% @ldI_s ∧ type_of% @ldJ_s ∧ type_of% @ldA_s ∧ type_of% @sto1_u ∧ type_of% @sto1_i ∧ type_of% @sto1_r ∧ type_of% @sto1_n ∧ type_of% @sto1_s ∧ type_of% @sto2_u ∧ type_of% @sto2_l ∧ type_of% @sto2_s ∧ type_of% @arr_c ∧ type_of% @arrI_z ∧ type_of% @arrI_s ∧ type_of% @obj_c ∧ type_of% @objI_z ∧ type_of% @objI_s ∧ type_of% @setL_z ∧ type_of% @setL_s ∧ type_of% @setH_z ∧ type_of% @setH_s ∧ type_of% @snoc_z ∧ type_of% @snoc_s ∧ type_of% @onLen_0 ∧ type_of% @onLen_1 ∧ type_of% @onLen_2 ∧ type_of% @onLen_3 ∧ type_of% @onLen_4 ∧ type_of% @repN_c ∧ type_of% @onSome_c ∧ type_of% @fgt_c ∧ type_of% @fst_n ∧ type_of% @fst_c := ⟨@popI_c, @popJ_c, @popR_c, @pop1_i, @pop1_r, @pop1_n, @popA_r, @popA_n, @ldI_z, @ldJ_z, @ldA_z, @ldA_n, @ldI_s, @ldJ_s, @ldA_s, @sto1_u, @sto1_i, @sto1_r, @sto1_n, @sto1_s, @sto2_u, @sto2_l, @sto2_s, @arr_c, @arrI_z, @arrI_s, @obj_c, @objI_z, @objI_s, @setL_z, @setL_s, @setH_z, @setH_s, @snoc_z, @snoc_s, @onLen_0, @onLen_1, @onLen_2, @onLen_3, @onLen_4, @repN_c, @onSome_c, @fgt_c, @fst_n, @fst_c⟩
theorem B1 : type_of% @nar_b0 ∧ type_of% @nar_b1 ∧ type_of% @nar_bb ∧ type_of% @nar_cc ∧ type_of% @cmpL_lt ∧ type_of% @cmpL_gt ∧ type_of% @cmpL_eq ∧ type_of% @i32_nl ∧ type_of% @i32_ng ∧ type_of% @i64_nl ∧ type_of% @i64_ng := ⟨@nar_b0, @nar_b1, @nar_bb, @nar_cc, @cmpL_lt, @cmpL_gt, @cmpL_eq, @i32_nl, @i32_ng, @i64_nl, @i64_ng⟩
end Jvm.OwnKit
namespace Jvm.Pilot.@@N@@
open Jvm Jvm.ClassFile Sem Op Lib Jvm.Free Jvm.Stand Jvm.LawKit Jvm.RoadKit Bundle Jvm.OwnKit Jvm.Pilot.@@N@@.Jvm.D
set_option maxRecDepth 65536
set_option maxHeartbeats 4000000
def G0 (l : Launch) (Z : State) (b : Heap) (K : Option Value → List Cel → Prop) : Cont := G code "com/example/bagscope/bagscope/Utf8PutPinLaw" "law" maxLocals ret room_1 tables_1 l Z b 16 128 K
def V0 (l : Launch) (Z : State) (b : Heap) (K : Option Value → List Cel → Prop) : Nat → Cont := Wn [14, 20] code [(7, 2147483647), (8, 1112064), (9, 55296), (16, 65536), (27, 262144)] [] [] [.byte] [] [] ret room_1 b.size 16 128 K (G0 l Z b K)
section Body0
variable {l : Launch} {Z : State} {b : Heap} {K : Option Value → List Cel → Prop} {q : Nat} {ls : List Slot} {st : List Value} {H : List Cel} {cN sN : Nat}
theorem r0 (q : Nat) {pc : Nat} (h : V0 l Z b K q pc ls st H cN sN) : G0 l Z b K pc ls st H cN sN := G.run q (by intro x hx; simp only [List.mem_cons, List.not_mem_nil, or_false] at hx; rcases hx with rfl | rfl | rfl | rfl | rfl <;> first | exact List.mem_of_getElem? (i := 0) rfl | exact List.mem_of_getElem? (i := 1) rfl | exact List.mem_of_getElem? (i := 2) rfl | exact List.mem_of_getElem? (i := 16) rfl | exact List.mem_of_getElem? (i := 17) rfl) (by intro x hx; cases hx) (by intro x hx; cases hx) (by intro x hx; simp only [List.mem_cons, List.not_mem_nil, or_false] at hx; rcases hx with rfl <;> first | exact List.mem_of_getElem? (i := 3) rfl) (by intro x hx; cases hx) (by intro x hx; cases hx) h
theorem z0 {pc : Nat} : V0 l Z b K 0 pc ls st H cN sN = G0 l Z b K pc ls st H cN sN := propext Iff.rfl
theorem f0_0 : at1 code 0 = some (.iload_n 0) := at1_of at_0 rfl (by decide)
theorem s0_0 : V0 l Z b K (q + 1) 0 ls st H cN sN = (ldI ls 0 fun v => V0 l Z b K q 1 ls (.int v :: st) H cN sN) := by show Wn _ _ _ _ _ _ _ _ _ _ _ _ _ _ _ (q + 1) _ _ _ _ _ _ = _; rw [wn_s (by decide), f0_0]; rfl
theorem f0_1 : at1 code 1 = some (.ldc 7) := at1_of at_1 rfl (by decide)
theorem s0_1 : V0 l Z b K (q + 1) 1 ls st H cN sN = (V0 l Z b K q 3 ls (.int 2147483647 :: st) H cN sN) := by show Wn _ _ _ _ _ _ _ _ _ _ _ _ _ _ _ (q + 1) _ _ _ _ _ _ = _; rw [wn_s (by decide), f0_1]; rfl
theorem f0_3 : at1 code 3 = some (.iand) := at1_of at_3 rfl (by decide)
theorem s0_3 : V0 l Z b K (q + 1) 3 ls st H cN sN = (popI st fun y r => popI r fun x r => V0 l Z b K q 4 ls (.int (x &&& y) :: r) H cN sN) := by show Wn _ _ _ _ _ _ _ _ _ _ _ _ _ _ _ (q + 1) _ _ _ _ _ _ = _; rw [wn_s (by decide), f0_3]; rfl
theorem f0_4 : at1 code 4 = some (.ldc 8) := at1_of at_4 rfl (by decide)
theorem s0_4 : V0 l Z b K (q + 1) 4 ls st H cN sN = (V0 l Z b K q 6 ls (.int 1112064 :: st) H cN sN) := by show Wn _ _ _ _ _ _ _ _ _ _ _ _ _ _ _ (q + 1) _ _ _ _ _ _ = _; rw [wn_s (by decide), f0_4]; rfl
theorem f0_6 : at1 code 6 = some (.irem) := at1_of at_6 rfl (by decide)
theorem s0_6 : V0 l Z b K (q + 1) 6 ls st H cN sN = (popI st fun y r => popI r fun x r => y ≠ 0 ∧ V0 l Z b K q 7 ls (.int (remI x y) :: r) H cN sN) := by show Wn _ _ _ _ _ _ _ _ _ _ _ _ _ _ _ (q + 1) _ _ _ _ _ _ = _; rw [wn_s (by decide), f0_6]; rfl
theorem f0_7 : at1 code 7 = some (.istore_n 3) := at1_of at_7 rfl (by decide)
theorem s0_7 : V0 l Z b K (q + 1) 7 ls st H cN sN = (popI st fun v r => sto1 ls 3 (.int v) fun l' => V0 l Z b K q 8 l' r H cN sN) := by show Wn _ _ _ _ _ _ _ _ _ _ _ _ _ _ _ (q + 1) _ _ _ _ _ _ = _; rw [wn_s (by decide), f0_7]; rfl
theorem f0_8 : at1 code 8 = some (.iload_n 3) := at1_of at_8 rfl (by decide)
theorem s0_8 : V0 l Z b K (q + 1) 8 ls st H cN sN = (ldI ls 3 fun v => V0 l Z b K q 9 ls (.int v :: st) H cN sN) := by show Wn _ _ _ _ _ _ _ _ _ _ _ _ _ _ _ (q + 1) _ _ _ _ _ _ = _; rw [wn_s (by decide), f0_8]; rfl
theorem f0_9 : at1 code 9 = some (.ldc 9) := at1_of at_9 rfl (by decide)
theorem s0_9 : V0 l Z b K (q + 1) 9 ls st H cN sN = (V0 l Z b K q 11 ls (.int 55296 :: st) H cN sN) := by show Wn _ _ _ _ _ _ _ _ _ _ _ _ _ _ _ (q + 1) _ _ _ _ _ _ = _; rw [wn_s (by decide), f0_9]; rfl
theorem f0_11 : at1 code 11 = some (.if_icmp .lt 9) := at1_of at_11 rfl (by decide)
theorem s0_11 : V0 l Z b K (q + 1) 11 ls st H cN sN = (popI st fun y r => popI r fun x r => if x < y then V0 l Z b K q 20 ls r H cN sN else V0 l Z b K q 14 ls r H cN sN) := by show Wn _ _ _ _ _ _ _ _ _ _ _ _ _ _ _ (q + 1) _ _ _ _ _ _ = _; rw [wn_s (by decide), f0_11]; rfl
theorem f0_14 : decode code 14 = .ok (.iinc 3 2048, 6) := by decide +kernel
theorem s0_14 : V0 l Z b K (q + 1) 14 ls st H cN sN = G0 l Z b K 14 ls st H cN sN := wn_p (by decide)
theorem e0_14 (q : Nat) (h : ldI ls 3 fun v => setL ls 3 (.val (.int (v + 2048))) fun l' => V0 l Z b K q 20 l' st H cN sN) : G0 l Z b K 14 ls st H cN sN := G.wideInc (k := V0 l Z b K q) f0_14 (fun _ _ _ _ _ _ z => r0 q z) h
theorem f0_20 : at1 code 20 = some (.iload_n 1) := at1_of at_20 rfl (by decide)
theorem s0_20 : V0 l Z b K (q + 1) 20 ls st H cN sN = G0 l Z b K 20 ls st H cN sN := wn_p (by decide)
theorem e0_20 (q : Nat) (h : ldI ls 1 fun v => V0 l Z b K q 21 ls (.int v :: st) H cN sN) : G0 l Z b K 20 ls st H cN sN := G.enter (S := [14, 20]) (CI := [(7, 2147483647), (8, 1112064), (9, 55296), (16, 65536), (27, 262144)]) (CL := []) (FL := []) (AL := [.byte]) (PL := []) (NL := []) q (by intro x hx; simp only [List.mem_cons, List.not_mem_nil, or_false] at hx; rcases hx with rfl | rfl | rfl | rfl | rfl <;> first | exact List.mem_of_getElem? (i := 0) rfl | exact List.mem_of_getElem? (i := 1) rfl | exact List.mem_of_getElem? (i := 2) rfl | exact List.mem_of_getElem? (i := 16) rfl | exact List.mem_of_getElem? (i := 17) rfl) (by intro x hx; cases hx) (by intro x hx; cases hx) (by intro x hx; simp only [List.mem_cons, List.not_mem_nil, or_false] at hx; rcases hx with rfl <;> first | exact List.mem_of_getElem? (i := 3) rfl) (by intro x hx; cases hx) (by intro x hx; cases hx) f0_20 h
theorem f0_21 : at1 code 21 = some (.iconst 3) := at1_of at_21 rfl (by decide)
theorem s0_21 : V0 l Z b K (q + 1) 21 ls st H cN sN = (V0 l Z b K q 22 ls (.int 3 :: st) H cN sN) := by show Wn _ _ _ _ _ _ _ _ _ _ _ _ _ _ _ (q + 1) _ _ _ _ _ _ = _; rw [wn_s (by decide), f0_21]; rfl
theorem f0_22 : at1 code 22 = some (.iand) := at1_of at_22 rfl (by decide)
theorem s0_22 : V0 l Z b K (q + 1) 22 ls st H cN sN = (popI st fun y r => popI r fun x r => V0 l Z b K q 23 ls (.int (x &&& y) :: r) H cN sN) := by show Wn _ _ _ _ _ _ _ _ _ _ _ _ _ _ _ (q + 1) _ _ _ _ _ _ = _; rw [wn_s (by decide), f0_22]; rfl
theorem f0_23 : at1 code 23 = some (.istore 4) := at1_of at_23 rfl (by decide)
theorem s0_23 : V0 l Z b K (q + 1) 23 ls st H cN sN = (popI st fun v r => sto1 ls 4 (.int v) fun l' => V0 l Z b K q 25 l' r H cN sN) := by show Wn _ _ _ _ _ _ _ _ _ _ _ _ _ _ _ (q + 1) _ _ _ _ _ _ = _; rw [wn_s (by decide), f0_23]; rfl
theorem f0_25 : at1 code 25 = some (.iload_n 2) := at1_of at_25 rfl (by decide)
theorem s0_25 : V0 l Z b K (q + 1) 25 ls st H cN sN = (ldI ls 2 fun v => V0 l Z b K q 26 ls (.int v :: st) H cN sN) := by show Wn _ _ _ _ _ _ _ _ _ _ _ _ _ _ _ (q + 1) _ _ _ _ _ _ = _; rw [wn_s (by decide), f0_25]; rfl
theorem f0_26 : at1 code 26 = some (.i2b) := at1_of at_26 rfl (by decide)
theorem s0_26 : V0 l Z b K (q + 1) 26 ls st H cN sN = (popI st fun x r => V0 l Z b K q 27 ls (.int (nar .byte x) :: r) H cN sN) := by show Wn _ _ _ _ _ _ _ _ _ _ _ _ _ _ _ (q + 1) _ _ _ _ _ _ = _; rw [wn_s (by decide), f0_26]; rfl
theorem f0_27 : at1 code 27 = some (.istore 5) := at1_of at_27 rfl (by decide)
theorem s0_27 : V0 l Z b K (q + 1) 27 ls st H cN sN = (popI st fun v r => sto1 ls 5 (.int v) fun l' => V0 l Z b K q 29 l' r H cN sN) := by show Wn _ _ _ _ _ _ _ _ _ _ _ _ _ _ _ (q + 1) _ _ _ _ _ _ = _; rw [wn_s (by decide), f0_27]; rfl
theorem f0_29 : at1 code 29 = some (.bipush 8) := at1_of at_29 rfl (by decide)
theorem s0_29 : V0 l Z b K (q + 1) 29 ls st H cN sN = (V0 l Z b K q 31 ls (.int 8 :: st) H cN sN) := by show Wn _ _ _ _ _ _ _ _ _ _ _ _ _ _ _ (q + 1) _ _ _ _ _ _ = _; rw [wn_s (by decide), f0_29]; rfl
theorem f0_31 : at1 code 31 = some (.newarray .byte) := at1_of at_31 rfl (by decide)
theorem s0_31 : V0 l Z b K (q + 1) 31 ls st H cN sN = (popI st fun n r => if ¬ n < 0 ∧ .byte ∈ ([.byte] : List FieldType) ∧ n.toNatClampNeg ≤ 65536 ∧ cN + 1 ≤ room_1.cells ∧ sN + n.toNatClampNeg ≤ room_1.slots then onLen H fun i => repN n.toNatClampNeg (.int 0) fun vs => snoc H (.inl (.byte, vs)) fun H' => V0 l Z b K q 33 ls (.ref (ad b.size i) :: r) H' (cN + 1) (sN + n.toNatClampNeg) else False) := by show Wn _ _ _ _ _ _ _ _ _ _ _ _ _ _ _ (q + 1) _ _ _ _ _ _ = _; rw [wn_s (by decide), f0_31]; rfl
theorem f0_33 : at1 code 33 = some (.dup) := at1_of at_33 rfl (by decide)
theorem s0_33 : V0 l Z b K (q + 1) 33 ls st H cN sN = (pop1 st fun x r => V0 l Z b K q 34 ls (x :: x :: r) H cN sN) := by show Wn _ _ _ _ _ _ _ _ _ _ _ _ _ _ _ (q + 1) _ _ _ _ _ _ = _; rw [wn_s (by decide), f0_33]; rfl
theorem f0_34 : at1 code 34 = some (.iconst 0) := at1_of at_34 rfl (by decide)
theorem s0_34 : V0 l Z b K (q + 1) 34 ls st H cN sN = (V0 l Z b K q 35 ls (.int 0 :: st) H cN sN) := by show Wn _ _ _ _ _ _ _ _ _ _ _ _ _ _ _ (q + 1) _ _ _ _ _ _ = _; rw [wn_s (by decide), f0_34]; rfl
theorem f0_35 : at1 code 35 = some (.iload 5) := at1_of at_35 rfl (by decide)
theorem s0_35 : V0 l Z b K (q + 1) 35 ls st H cN sN = (ldI ls 5 fun v => V0 l Z b K q 37 ls (.int v :: st) H cN sN) := by show Wn _ _ _ _ _ _ _ _ _ _ _ _ _ _ _ (q + 1) _ _ _ _ _ _ = _; rw [wn_s (by decide), f0_35]; rfl
theorem f0_37 : at1 code 37 = some (.bastore) := at1_of at_37 rfl (by decide)
theorem s0_37 : V0 l Z b K (q + 1) 37 ls st H cN sN = (popI st fun x r => popI r fun j r => popR r fun a r => arr H b.size a fun i ty vs => if ty = .byte then idx vs j fun _ => setN vs j.toNatClampNeg (.int (nar .byte x)) fun vs' => setH H i (.inl (.byte, vs')) fun H' => V0 l Z b K q 38 ls r H' cN sN else False) := by show Wn _ _ _ _ _ _ _ _ _ _ _ _ _ _ _ (q + 1) _ _ _ _ _ _ = _; rw [wn_s (by decide), f0_37]; rfl
theorem f0_38 : at1 code 38 = some (.dup) := at1_of at_38 rfl (by decide)
theorem s0_38 : V0 l Z b K (q + 1) 38 ls st H cN sN = (pop1 st fun x r => V0 l Z b K q 39 ls (x :: x :: r) H cN sN) := by show Wn _ _ _ _ _ _ _ _ _ _ _ _ _ _ _ (q + 1) _ _ _ _ _ _ = _; rw [wn_s (by decide), f0_38]; rfl
theorem f0_39 : at1 code 39 = some (.iconst 1) := at1_of at_39 rfl (by decide)
theorem s0_39 : V0 l Z b K (q + 1) 39 ls st H cN sN = (V0 l Z b K q 40 ls (.int 1 :: st) H cN sN) := by show Wn _ _ _ _ _ _ _ _ _ _ _ _ _ _ _ (q + 1) _ _ _ _ _ _ = _; rw [wn_s (by decide), f0_39]; rfl
theorem f0_40 : at1 code 40 = some (.iload 5) := at1_of at_40 rfl (by decide)
theorem s0_40 : V0 l Z b K (q + 1) 40 ls st H cN sN = (ldI ls 5 fun v => V0 l Z b K q 42 ls (.int v :: st) H cN sN) := by show Wn _ _ _ _ _ _ _ _ _ _ _ _ _ _ _ (q + 1) _ _ _ _ _ _ = _; rw [wn_s (by decide), f0_40]; rfl
theorem f0_42 : at1 code 42 = some (.bastore) := at1_of at_42 rfl (by decide)
theorem s0_42 : V0 l Z b K (q + 1) 42 ls st H cN sN = (popI st fun x r => popI r fun j r => popR r fun a r => arr H b.size a fun i ty vs => if ty = .byte then idx vs j fun _ => setN vs j.toNatClampNeg (.int (nar .byte x)) fun vs' => setH H i (.inl (.byte, vs')) fun H' => V0 l Z b K q 43 ls r H' cN sN else False) := by show Wn _ _ _ _ _ _ _ _ _ _ _ _ _ _ _ (q + 1) _ _ _ _ _ _ = _; rw [wn_s (by decide), f0_42]; rfl
theorem f0_43 : at1 code 43 = some (.dup) := at1_of at_43 rfl (by decide)
theorem s0_43 : V0 l Z b K (q + 1) 43 ls st H cN sN = (pop1 st fun x r => V0 l Z b K q 44 ls (x :: x :: r) H cN sN) := by show Wn _ _ _ _ _ _ _ _ _ _ _ _ _ _ _ (q + 1) _ _ _ _ _ _ = _; rw [wn_s (by decide), f0_43]; rfl
theorem f0_44 : at1 code 44 = some (.iconst 2) := at1_of at_44 rfl (by decide)
theorem s0_44 : V0 l Z b K (q + 1) 44 ls st H cN sN = (V0 l Z b K q 45 ls (.int 2 :: st) H cN sN) := by show Wn _ _ _ _ _ _ _ _ _ _ _ _ _ _ _ (q + 1) _ _ _ _ _ _ = _; rw [wn_s (by decide), f0_44]; rfl
theorem f0_45 : at1 code 45 = some (.iload 5) := at1_of at_45 rfl (by decide)
theorem s0_45 : V0 l Z b K (q + 1) 45 ls st H cN sN = (ldI ls 5 fun v => V0 l Z b K q 47 ls (.int v :: st) H cN sN) := by show Wn _ _ _ _ _ _ _ _ _ _ _ _ _ _ _ (q + 1) _ _ _ _ _ _ = _; rw [wn_s (by decide), f0_45]; rfl
theorem f0_47 : at1 code 47 = some (.bastore) := at1_of at_47 rfl (by decide)
theorem s0_47 : V0 l Z b K (q + 1) 47 ls st H cN sN = (popI st fun x r => popI r fun j r => popR r fun a r => arr H b.size a fun i ty vs => if ty = .byte then idx vs j fun _ => setN vs j.toNatClampNeg (.int (nar .byte x)) fun vs' => setH H i (.inl (.byte, vs')) fun H' => V0 l Z b K q 48 ls r H' cN sN else False) := by show Wn _ _ _ _ _ _ _ _ _ _ _ _ _ _ _ (q + 1) _ _ _ _ _ _ = _; rw [wn_s (by decide), f0_47]; rfl
theorem f0_48 : at1 code 48 = some (.dup) := at1_of at_48 rfl (by decide)
theorem s0_48 : V0 l Z b K (q + 1) 48 ls st H cN sN = (pop1 st fun x r => V0 l Z b K q 49 ls (x :: x :: r) H cN sN) := by show Wn _ _ _ _ _ _ _ _ _ _ _ _ _ _ _ (q + 1) _ _ _ _ _ _ = _; rw [wn_s (by decide), f0_48]; rfl
theorem f0_49 : at1 code 49 = some (.iconst 3) := at1_of at_49 rfl (by decide)
theorem s0_49 : V0 l Z b K (q + 1) 49 ls st H cN sN = (V0 l Z b K q 50 ls (.int 3 :: st) H cN sN) := by show Wn _ _ _ _ _ _ _ _ _ _ _ _ _ _ _ (q + 1) _ _ _ _ _ _ = _; rw [wn_s (by decide), f0_49]; rfl
theorem f0_50 : at1 code 50 = some (.iload 5) := at1_of at_50 rfl (by decide)
theorem s0_50 : V0 l Z b K (q + 1) 50 ls st H cN sN = (ldI ls 5 fun v => V0 l Z b K q 52 ls (.int v :: st) H cN sN) := by show Wn _ _ _ _ _ _ _ _ _ _ _ _ _ _ _ (q + 1) _ _ _ _ _ _ = _; rw [wn_s (by decide), f0_50]; rfl
theorem f0_52 : at1 code 52 = some (.bastore) := at1_of at_52 rfl (by decide)
theorem s0_52 : V0 l Z b K (q + 1) 52 ls st H cN sN = (popI st fun x r => popI r fun j r => popR r fun a r => arr H b.size a fun i ty vs => if ty = .byte then idx vs j fun _ => setN vs j.toNatClampNeg (.int (nar .byte x)) fun vs' => setH H i (.inl (.byte, vs')) fun H' => V0 l Z b K q 53 ls r H' cN sN else False) := by show Wn _ _ _ _ _ _ _ _ _ _ _ _ _ _ _ (q + 1) _ _ _ _ _ _ = _; rw [wn_s (by decide), f0_52]; rfl
theorem f0_53 : at1 code 53 = some (.dup) := at1_of at_53 rfl (by decide)
theorem s0_53 : V0 l Z b K (q + 1) 53 ls st H cN sN = (pop1 st fun x r => V0 l Z b K q 54 ls (x :: x :: r) H cN sN) := by show Wn _ _ _ _ _ _ _ _ _ _ _ _ _ _ _ (q + 1) _ _ _ _ _ _ = _; rw [wn_s (by decide), f0_53]; rfl
theorem f0_54 : at1 code 54 = some (.iconst 4) := at1_of at_54 rfl (by decide)
theorem s0_54 : V0 l Z b K (q + 1) 54 ls st H cN sN = (V0 l Z b K q 55 ls (.int 4 :: st) H cN sN) := by show Wn _ _ _ _ _ _ _ _ _ _ _ _ _ _ _ (q + 1) _ _ _ _ _ _ = _; rw [wn_s (by decide), f0_54]; rfl
theorem f0_55 : at1 code 55 = some (.iload 5) := at1_of at_55 rfl (by decide)
theorem s0_55 : V0 l Z b K (q + 1) 55 ls st H cN sN = (ldI ls 5 fun v => V0 l Z b K q 57 ls (.int v :: st) H cN sN) := by show Wn _ _ _ _ _ _ _ _ _ _ _ _ _ _ _ (q + 1) _ _ _ _ _ _ = _; rw [wn_s (by decide), f0_55]; rfl
theorem f0_57 : at1 code 57 = some (.bastore) := at1_of at_57 rfl (by decide)
theorem s0_57 : V0 l Z b K (q + 1) 57 ls st H cN sN = (popI st fun x r => popI r fun j r => popR r fun a r => arr H b.size a fun i ty vs => if ty = .byte then idx vs j fun _ => setN vs j.toNatClampNeg (.int (nar .byte x)) fun vs' => setH H i (.inl (.byte, vs')) fun H' => V0 l Z b K q 58 ls r H' cN sN else False) := by show Wn _ _ _ _ _ _ _ _ _ _ _ _ _ _ _ (q + 1) _ _ _ _ _ _ = _; rw [wn_s (by decide), f0_57]; rfl
theorem f0_58 : at1 code 58 = some (.dup) := at1_of at_58 rfl (by decide)
theorem s0_58 : V0 l Z b K (q + 1) 58 ls st H cN sN = (pop1 st fun x r => V0 l Z b K q 59 ls (x :: x :: r) H cN sN) := by show Wn _ _ _ _ _ _ _ _ _ _ _ _ _ _ _ (q + 1) _ _ _ _ _ _ = _; rw [wn_s (by decide), f0_58]; rfl
theorem f0_59 : at1 code 59 = some (.iconst 5) := at1_of at_59 rfl (by decide)
theorem s0_59 : V0 l Z b K (q + 1) 59 ls st H cN sN = (V0 l Z b K q 60 ls (.int 5 :: st) H cN sN) := by show Wn _ _ _ _ _ _ _ _ _ _ _ _ _ _ _ (q + 1) _ _ _ _ _ _ = _; rw [wn_s (by decide), f0_59]; rfl
theorem f0_60 : at1 code 60 = some (.iload 5) := at1_of at_60 rfl (by decide)
theorem s0_60 : V0 l Z b K (q + 1) 60 ls st H cN sN = (ldI ls 5 fun v => V0 l Z b K q 62 ls (.int v :: st) H cN sN) := by show Wn _ _ _ _ _ _ _ _ _ _ _ _ _ _ _ (q + 1) _ _ _ _ _ _ = _; rw [wn_s (by decide), f0_60]; rfl
theorem f0_62 : at1 code 62 = some (.bastore) := at1_of at_62 rfl (by decide)
theorem s0_62 : V0 l Z b K (q + 1) 62 ls st H cN sN = (popI st fun x r => popI r fun j r => popR r fun a r => arr H b.size a fun i ty vs => if ty = .byte then idx vs j fun _ => setN vs j.toNatClampNeg (.int (nar .byte x)) fun vs' => setH H i (.inl (.byte, vs')) fun H' => V0 l Z b K q 63 ls r H' cN sN else False) := by show Wn _ _ _ _ _ _ _ _ _ _ _ _ _ _ _ (q + 1) _ _ _ _ _ _ = _; rw [wn_s (by decide), f0_62]; rfl
theorem f0_63 : at1 code 63 = some (.dup) := at1_of at_63 rfl (by decide)
theorem s0_63 : V0 l Z b K (q + 1) 63 ls st H cN sN = (pop1 st fun x r => V0 l Z b K q 64 ls (x :: x :: r) H cN sN) := by show Wn _ _ _ _ _ _ _ _ _ _ _ _ _ _ _ (q + 1) _ _ _ _ _ _ = _; rw [wn_s (by decide), f0_63]; rfl
theorem f0_64 : at1 code 64 = some (.bipush 6) := at1_of at_64 rfl (by decide)
theorem s0_64 : V0 l Z b K (q + 1) 64 ls st H cN sN = (V0 l Z b K q 66 ls (.int 6 :: st) H cN sN) := by show Wn _ _ _ _ _ _ _ _ _ _ _ _ _ _ _ (q + 1) _ _ _ _ _ _ = _; rw [wn_s (by decide), f0_64]; rfl
theorem f0_66 : at1 code 66 = some (.iload 5) := at1_of at_66 rfl (by decide)
theorem s0_66 : V0 l Z b K (q + 1) 66 ls st H cN sN = (ldI ls 5 fun v => V0 l Z b K q 68 ls (.int v :: st) H cN sN) := by show Wn _ _ _ _ _ _ _ _ _ _ _ _ _ _ _ (q + 1) _ _ _ _ _ _ = _; rw [wn_s (by decide), f0_66]; rfl
theorem f0_68 : at1 code 68 = some (.bastore) := at1_of at_68 rfl (by decide)
theorem s0_68 : V0 l Z b K (q + 1) 68 ls st H cN sN = (popI st fun x r => popI r fun j r => popR r fun a r => arr H b.size a fun i ty vs => if ty = .byte then idx vs j fun _ => setN vs j.toNatClampNeg (.int (nar .byte x)) fun vs' => setH H i (.inl (.byte, vs')) fun H' => V0 l Z b K q 69 ls r H' cN sN else False) := by show Wn _ _ _ _ _ _ _ _ _ _ _ _ _ _ _ (q + 1) _ _ _ _ _ _ = _; rw [wn_s (by decide), f0_68]; rfl
theorem f0_69 : at1 code 69 = some (.dup) := at1_of at_69 rfl (by decide)
theorem s0_69 : V0 l Z b K (q + 1) 69 ls st H cN sN = (pop1 st fun x r => V0 l Z b K q 70 ls (x :: x :: r) H cN sN) := by show Wn _ _ _ _ _ _ _ _ _ _ _ _ _ _ _ (q + 1) _ _ _ _ _ _ = _; rw [wn_s (by decide), f0_69]; rfl
theorem f0_70 : at1 code 70 = some (.bipush 7) := at1_of at_70 rfl (by decide)
theorem s0_70 : V0 l Z b K (q + 1) 70 ls st H cN sN = (V0 l Z b K q 72 ls (.int 7 :: st) H cN sN) := by show Wn _ _ _ _ _ _ _ _ _ _ _ _ _ _ _ (q + 1) _ _ _ _ _ _ = _; rw [wn_s (by decide), f0_70]; rfl
theorem f0_72 : at1 code 72 = some (.iload 5) := at1_of at_72 rfl (by decide)
theorem s0_72 : V0 l Z b K (q + 1) 72 ls st H cN sN = (ldI ls 5 fun v => V0 l Z b K q 74 ls (.int v :: st) H cN sN) := by show Wn _ _ _ _ _ _ _ _ _ _ _ _ _ _ _ (q + 1) _ _ _ _ _ _ = _; rw [wn_s (by decide), f0_72]; rfl
theorem f0_74 : at1 code 74 = some (.bastore) := at1_of at_74 rfl (by decide)
theorem s0_74 : V0 l Z b K (q + 1) 74 ls st H cN sN = (popI st fun x r => popI r fun j r => popR r fun a r => arr H b.size a fun i ty vs => if ty = .byte then idx vs j fun _ => setN vs j.toNatClampNeg (.int (nar .byte x)) fun vs' => setH H i (.inl (.byte, vs')) fun H' => V0 l Z b K q 75 ls r H' cN sN else False) := by show Wn _ _ _ _ _ _ _ _ _ _ _ _ _ _ _ (q + 1) _ _ _ _ _ _ = _; rw [wn_s (by decide), f0_74]; rfl
theorem f0_75 : at1 code 75 = some (.astore 6) := at1_of at_75 rfl (by decide)
theorem s0_75 : V0 l Z b K (q + 1) 75 ls st H cN sN = (popA st fun v r => sto1 ls 6 v fun l' => V0 l Z b K q 77 l' r H cN sN) := by show Wn _ _ _ _ _ _ _ _ _ _ _ _ _ _ _ (q + 1) _ _ _ _ _ _ = _; rw [wn_s (by decide), f0_75]; rfl
theorem f0_77 : at1 code 77 = some (.aload 6) := at1_of at_77 rfl (by decide)
theorem s0_77 : V0 l Z b K (q + 1) 77 ls st H cN sN = (ldA ls 6 fun v => V0 l Z b K q 79 ls (v :: st) H cN sN) := by show Wn _ _ _ _ _ _ _ _ _ _ _ _ _ _ _ (q + 1) _ _ _ _ _ _ = _; rw [wn_s (by decide), f0_77]; rfl
theorem f0_79 : at1 code 79 = some (.iload 4) := at1_of at_79 rfl (by decide)
theorem s0_79 : V0 l Z b K (q + 1) 79 ls st H cN sN = (ldI ls 4 fun v => V0 l Z b K q 81 ls (.int v :: st) H cN sN) := by show Wn _ _ _ _ _ _ _ _ _ _ _ _ _ _ _ (q + 1) _ _ _ _ _ _ = _; rw [wn_s (by decide), f0_79]; rfl
theorem f0_81 : at1 code 81 = some (.iload_n 3) := at1_of at_81 rfl (by decide)
theorem s0_81 : V0 l Z b K (q + 1) 81 ls st H cN sN = (ldI ls 3 fun v => V0 l Z b K q 82 ls (.int v :: st) H cN sN) := by show Wn _ _ _ _ _ _ _ _ _ _ _ _ _ _ _ (q + 1) _ _ _ _ _ _ = _; rw [wn_s (by decide), f0_81]; rfl
theorem f0_82 : at1 code 82 = some (.invokestatic 10) := at1_of at_82 rfl (by decide)
theorem s0_82 : V0 l Z b K (q + 1) 82 ls st H cN sN = (G0 l Z b K 82 ls st H cN sN) := by show Wn _ _ _ _ _ _ _ _ _ _ _ _ _ _ _ (q + 1) _ _ _ _ _ _ = _; rw [wn_s (by decide), f0_82]; rfl
theorem f0_85 : at1 code 85 = some (.istore 7) := at1_of at_85 rfl (by decide)
theorem s0_85 : V0 l Z b K (q + 1) 85 ls st H cN sN = (popI st fun v r => sto1 ls 7 (.int v) fun l' => V0 l Z b K q 87 l' r H cN sN) := by show Wn _ _ _ _ _ _ _ _ _ _ _ _ _ _ _ (q + 1) _ _ _ _ _ _ = _; rw [wn_s (by decide), f0_85]; rfl
theorem f0_87 : at1 code 87 = some (.iload 7) := at1_of at_87 rfl (by decide)
theorem s0_87 : V0 l Z b K (q + 1) 87 ls st H cN sN = (ldI ls 7 fun v => V0 l Z b K q 89 ls (.int v :: st) H cN sN) := by show Wn _ _ _ _ _ _ _ _ _ _ _ _ _ _ _ (q + 1) _ _ _ _ _ _ = _; rw [wn_s (by decide), f0_87]; rfl
theorem f0_89 : at1 code 89 = some (.iload 4) := at1_of at_89 rfl (by decide)
theorem s0_89 : V0 l Z b K (q + 1) 89 ls st H cN sN = (ldI ls 4 fun v => V0 l Z b K q 91 ls (.int v :: st) H cN sN) := by show Wn _ _ _ _ _ _ _ _ _ _ _ _ _ _ _ (q + 1) _ _ _ _ _ _ = _; rw [wn_s (by decide), f0_89]; rfl
theorem f0_91 : at1 code 91 = some (.isub) := at1_of at_91 rfl (by decide)
theorem s0_91 : V0 l Z b K (q + 1) 91 ls st H cN sN = (popI st fun y r => popI r fun x r => V0 l Z b K q 92 ls (.int (x - y) :: r) H cN sN) := by show Wn _ _ _ _ _ _ _ _ _ _ _ _ _ _ _ (q + 1) _ _ _ _ _ _ = _; rw [wn_s (by decide), f0_91]; rfl
theorem f0_92 : at1 code 92 = some (.istore 8) := at1_of at_92 rfl (by decide)
theorem s0_92 : V0 l Z b K (q + 1) 92 ls st H cN sN = (popI st fun v r => sto1 ls 8 (.int v) fun l' => V0 l Z b K q 94 l' r H cN sN) := by show Wn _ _ _ _ _ _ _ _ _ _ _ _ _ _ _ (q + 1) _ _ _ _ _ _ = _; rw [wn_s (by decide), f0_92]; rfl
theorem f0_94 : at1 code 94 = some (.iload_n 3) := at1_of at_94 rfl (by decide)
theorem s0_94 : V0 l Z b K (q + 1) 94 ls st H cN sN = (ldI ls 3 fun v => V0 l Z b K q 95 ls (.int v :: st) H cN sN) := by show Wn _ _ _ _ _ _ _ _ _ _ _ _ _ _ _ (q + 1) _ _ _ _ _ _ = _; rw [wn_s (by decide), f0_94]; rfl
theorem f0_95 : at1 code 95 = some (.sipush 128) := at1_of at_95 rfl (by decide)
theorem s0_95 : V0 l Z b K (q + 1) 95 ls st H cN sN = (V0 l Z b K q 98 ls (.int 128 :: st) H cN sN) := by show Wn _ _ _ _ _ _ _ _ _ _ _ _ _ _ _ (q + 1) _ _ _ _ _ _ = _; rw [wn_s (by decide), f0_95]; rfl
theorem f0_98 : at1 code 98 = some (.if_icmp .ge 7) := at1_of at_98 rfl (by decide)
theorem s0_98 : V0 l Z b K (q + 1) 98 ls st H cN sN = (popI st fun y r => popI r fun x r => if x < y then V0 l Z b K q 101 ls r H cN sN else V0 l Z b K q 105 ls r H cN sN) := by show Wn _ _ _ _ _ _ _ _ _ _ _ _ _ _ _ (q + 1) _ _ _ _ _ _ = _; rw [wn_s (by decide), f0_98]; rfl
theorem f0_101 : at1 code 101 = some (.iconst 1) := at1_of at_101 rfl (by decide)
theorem s0_101 : V0 l Z b K (q + 1) 101 ls st H cN sN = (V0 l Z b K q 102 ls (.int 1 :: st) H cN sN) := by show Wn _ _ _ _ _ _ _ _ _ _ _ _ _ _ _ (q + 1) _ _ _ _ _ _ = _; rw [wn_s (by decide), f0_101]; rfl
theorem f0_102 : at1 code 102 = some (.goto 25) := at1_of at_102 rfl (by decide)
theorem s0_102 : V0 l Z b K (q + 1) 102 ls st H cN sN = (V0 l Z b K q 127 ls st H cN sN) := by show Wn _ _ _ _ _ _ _ _ _ _ _ _ _ _ _ (q + 1) _ _ _ _ _ _ = _; rw [wn_s (by decide), f0_102]; rfl
theorem f0_105 : at1 code 105 = some (.iload_n 3) := at1_of at_105 rfl (by decide)
theorem s0_105 : V0 l Z b K (q + 1) 105 ls st H cN sN = (ldI ls 3 fun v => V0 l Z b K q 106 ls (.int v :: st) H cN sN) := by show Wn _ _ _ _ _ _ _ _ _ _ _ _ _ _ _ (q + 1) _ _ _ _ _ _ = _; rw [wn_s (by decide), f0_105]; rfl
theorem f0_106 : at1 code 106 = some (.sipush 2048) := at1_of at_106 rfl (by decide)
theorem s0_106 : V0 l Z b K (q + 1) 106 ls st H cN sN = (V0 l Z b K q 109 ls (.int 2048 :: st) H cN sN) := by show Wn _ _ _ _ _ _ _ _ _ _ _ _ _ _ _ (q + 1) _ _ _ _ _ _ = _; rw [wn_s (by decide), f0_106]; rfl
theorem f0_109 : at1 code 109 = some (.if_icmp .ge 7) := at1_of at_109 rfl (by decide)
theorem s0_109 : V0 l Z b K (q + 1) 109 ls st H cN sN = (popI st fun y r => popI r fun x r => if x < y then V0 l Z b K q 112 ls r H cN sN else V0 l Z b K q 116 ls r H cN sN) := by show Wn _ _ _ _ _ _ _ _ _ _ _ _ _ _ _ (q + 1) _ _ _ _ _ _ = _; rw [wn_s (by decide), f0_109]; rfl
theorem f0_112 : at1 code 112 = some (.iconst 2) := at1_of at_112 rfl (by decide)
theorem s0_112 : V0 l Z b K (q + 1) 112 ls st H cN sN = (V0 l Z b K q 113 ls (.int 2 :: st) H cN sN) := by show Wn _ _ _ _ _ _ _ _ _ _ _ _ _ _ _ (q + 1) _ _ _ _ _ _ = _; rw [wn_s (by decide), f0_112]; rfl
theorem f0_113 : at1 code 113 = some (.goto 14) := at1_of at_113 rfl (by decide)
theorem s0_113 : V0 l Z b K (q + 1) 113 ls st H cN sN = (V0 l Z b K q 127 ls st H cN sN) := by show Wn _ _ _ _ _ _ _ _ _ _ _ _ _ _ _ (q + 1) _ _ _ _ _ _ = _; rw [wn_s (by decide), f0_113]; rfl
theorem f0_116 : at1 code 116 = some (.iload_n 3) := at1_of at_116 rfl (by decide)
theorem s0_116 : V0 l Z b K (q + 1) 116 ls st H cN sN = (ldI ls 3 fun v => V0 l Z b K q 117 ls (.int v :: st) H cN sN) := by show Wn _ _ _ _ _ _ _ _ _ _ _ _ _ _ _ (q + 1) _ _ _ _ _ _ = _; rw [wn_s (by decide), f0_116]; rfl
theorem f0_117 : at1 code 117 = some (.ldc 16) := at1_of at_117 rfl (by decide)
theorem s0_117 : V0 l Z b K (q + 1) 117 ls st H cN sN = (V0 l Z b K q 119 ls (.int 65536 :: st) H cN sN) := by show Wn _ _ _ _ _ _ _ _ _ _ _ _ _ _ _ (q + 1) _ _ _ _ _ _ = _; rw [wn_s (by decide), f0_117]; rfl
theorem f0_119 : at1 code 119 = some (.if_icmp .ge 7) := at1_of at_119 rfl (by decide)
theorem s0_119 : V0 l Z b K (q + 1) 119 ls st H cN sN = (popI st fun y r => popI r fun x r => if x < y then V0 l Z b K q 122 ls r H cN sN else V0 l Z b K q 126 ls r H cN sN) := by show Wn _ _ _ _ _ _ _ _ _ _ _ _ _ _ _ (q + 1) _ _ _ _ _ _ = _; rw [wn_s (by decide), f0_119]; rfl
theorem f0_122 : at1 code 122 = some (.iconst 3) := at1_of at_122 rfl (by decide)
theorem s0_122 : V0 l Z b K (q + 1) 122 ls st H cN sN = (V0 l Z b K q 123 ls (.int 3 :: st) H cN sN) := by show Wn _ _ _ _ _ _ _ _ _ _ _ _ _ _ _ (q + 1) _ _ _ _ _ _ = _; rw [wn_s (by decide), f0_122]; rfl
theorem f0_123 : at1 code 123 = some (.goto 4) := at1_of at_123 rfl (by decide)
theorem s0_123 : V0 l Z b K (q + 1) 123 ls st H cN sN = (V0 l Z b K q 127 ls st H cN sN) := by show Wn _ _ _ _ _ _ _ _ _ _ _ _ _ _ _ (q + 1) _ _ _ _ _ _ = _; rw [wn_s (by decide), f0_123]; rfl
theorem f0_126 : at1 code 126 = some (.iconst 4) := at1_of at_126 rfl (by decide)
theorem s0_126 : V0 l Z b K (q + 1) 126 ls st H cN sN = (V0 l Z b K q 127 ls (.int 4 :: st) H cN sN) := by show Wn _ _ _ _ _ _ _ _ _ _ _ _ _ _ _ (q + 1) _ _ _ _ _ _ = _; rw [wn_s (by decide), f0_126]; rfl
theorem f0_127 : at1 code 127 = some (.istore 9) := at1_of at_127 rfl (by decide)
theorem s0_127 : V0 l Z b K (q + 1) 127 ls st H cN sN = (popI st fun v r => sto1 ls 9 (.int v) fun l' => V0 l Z b K q 129 l' r H cN sN) := by show Wn _ _ _ _ _ _ _ _ _ _ _ _ _ _ _ (q + 1) _ _ _ _ _ _ = _; rw [wn_s (by decide), f0_127]; rfl
theorem f0_129 : at1 code 129 = some (.iload 8) := at1_of at_129 rfl (by decide)
theorem s0_129 : V0 l Z b K (q + 1) 129 ls st H cN sN = (ldI ls 8 fun v => V0 l Z b K q 131 ls (.int v :: st) H cN sN) := by show Wn _ _ _ _ _ _ _ _ _ _ _ _ _ _ _ (q + 1) _ _ _ _ _ _ = _; rw [wn_s (by decide), f0_129]; rfl
theorem f0_131 : at1 code 131 = some (.iload 9) := at1_of at_131 rfl (by decide)
theorem s0_131 : V0 l Z b K (q + 1) 131 ls st H cN sN = (ldI ls 9 fun v => V0 l Z b K q 133 ls (.int v :: st) H cN sN) := by show Wn _ _ _ _ _ _ _ _ _ _ _ _ _ _ _ (q + 1) _ _ _ _ _ _ = _; rw [wn_s (by decide), f0_131]; rfl
theorem f0_133 : at1 code 133 = some (.if_icmp .eq 5) := at1_of at_133 rfl (by decide)
theorem s0_133 : V0 l Z b K (q + 1) 133 ls st H cN sN = (popI st fun y r => popI r fun x r => if x = y then V0 l Z b K q 138 ls r H cN sN else V0 l Z b K q 136 ls r H cN sN) := by show Wn _ _ _ _ _ _ _ _ _ _ _ _ _ _ _ (q + 1) _ _ _ _ _ _ = _; rw [wn_s (by decide), f0_133]; rfl
theorem f0_136 : at1 code 136 = some (.iconst 0) := at1_of at_136 rfl (by decide)
theorem s0_136 : V0 l Z b K (q + 1) 136 ls st H cN sN = (V0 l Z b K q 137 ls (.int 0 :: st) H cN sN) := by show Wn _ _ _ _ _ _ _ _ _ _ _ _ _ _ _ (q + 1) _ _ _ _ _ _ = _; rw [wn_s (by decide), f0_136]; rfl
theorem f0_137 : at1 code 137 = some (.ireturn) := at1_of at_137 rfl (by decide)
theorem s0_137 : V0 l Z b K (q + 1) 137 ls st H cN sN = (popI st fun x r => if cN ≤ 16 ∧ sN ≤ 128 then K (some (.int (nar .boolean x))) H else False) := by show Wn _ _ _ _ _ _ _ _ _ _ _ _ _ _ _ (q + 1) _ _ _ _ _ _ = _; rw [wn_s (by decide), f0_137]; rfl
theorem f0_138 : at1 code 138 = some (.aload 6) := at1_of at_138 rfl (by decide)
theorem s0_138 : V0 l Z b K (q + 1) 138 ls st H cN sN = (ldA ls 6 fun v => V0 l Z b K q 140 ls (v :: st) H cN sN) := by show Wn _ _ _ _ _ _ _ _ _ _ _ _ _ _ _ (q + 1) _ _ _ _ _ _ = _; rw [wn_s (by decide), f0_138]; rfl
theorem f0_140 : at1 code 140 = some (.iconst 0) := at1_of at_140 rfl (by decide)
theorem s0_140 : V0 l Z b K (q + 1) 140 ls st H cN sN = (V0 l Z b K q 141 ls (.int 0 :: st) H cN sN) := by show Wn _ _ _ _ _ _ _ _ _ _ _ _ _ _ _ (q + 1) _ _ _ _ _ _ = _; rw [wn_s (by decide), f0_140]; rfl
theorem f0_141 : at1 code 141 = some (.iload 4) := at1_of at_141 rfl (by decide)
theorem s0_141 : V0 l Z b K (q + 1) 141 ls st H cN sN = (ldI ls 4 fun v => V0 l Z b K q 143 ls (.int v :: st) H cN sN) := by show Wn _ _ _ _ _ _ _ _ _ _ _ _ _ _ _ (q + 1) _ _ _ _ _ _ = _; rw [wn_s (by decide), f0_141]; rfl
theorem f0_143 : at1 code 143 = some (.iload 8) := at1_of at_143 rfl (by decide)
theorem s0_143 : V0 l Z b K (q + 1) 143 ls st H cN sN = (ldI ls 8 fun v => V0 l Z b K q 145 ls (.int v :: st) H cN sN) := by show Wn _ _ _ _ _ _ _ _ _ _ _ _ _ _ _ (q + 1) _ _ _ _ _ _ = _; rw [wn_s (by decide), f0_143]; rfl
theorem f0_145 : at1 code 145 = some (.iload 5) := at1_of at_145 rfl (by decide)
theorem s0_145 : V0 l Z b K (q + 1) 145 ls st H cN sN = (ldI ls 5 fun v => V0 l Z b K q 147 ls (.int v :: st) H cN sN) := by show Wn _ _ _ _ _ _ _ _ _ _ _ _ _ _ _ (q + 1) _ _ _ _ _ _ = _; rw [wn_s (by decide), f0_145]; rfl
theorem f0_147 : at1 code 147 = some (.invokestatic 17) := at1_of at_147 rfl (by decide)
theorem s0_147 : V0 l Z b K (q + 1) 147 ls st H cN sN = (G0 l Z b K 147 ls st H cN sN) := by show Wn _ _ _ _ _ _ _ _ _ _ _ _ _ _ _ (q + 1) _ _ _ _ _ _ = _; rw [wn_s (by decide), f0_147]; rfl
theorem f0_150 : at1 code 150 = some (.ifCond .eq 114) := at1_of at_150 rfl (by decide)
theorem s0_150 : V0 l Z b K (q + 1) 150 ls st H cN sN = (popI st fun x r => if x = 0 then V0 l Z b K q 264 ls r H cN sN else V0 l Z b K q 153 ls r H cN sN) := by show Wn _ _ _ _ _ _ _ _ _ _ _ _ _ _ _ (q + 1) _ _ _ _ _ _ = _; rw [wn_s (by decide), f0_150]; rfl
theorem f0_153 : at1 code 153 = some (.aload 6) := at1_of at_153 rfl (by decide)
theorem s0_153 : V0 l Z b K (q + 1) 153 ls st H cN sN = (ldA ls 6 fun v => V0 l Z b K q 155 ls (v :: st) H cN sN) := by show Wn _ _ _ _ _ _ _ _ _ _ _ _ _ _ _ (q + 1) _ _ _ _ _ _ = _; rw [wn_s (by decide), f0_153]; rfl
theorem f0_155 : at1 code 155 = some (.iconst 1) := at1_of at_155 rfl (by decide)
theorem s0_155 : V0 l Z b K (q + 1) 155 ls st H cN sN = (V0 l Z b K q 156 ls (.int 1 :: st) H cN sN) := by show Wn _ _ _ _ _ _ _ _ _ _ _ _ _ _ _ (q + 1) _ _ _ _ _ _ = _; rw [wn_s (by decide), f0_155]; rfl
theorem f0_156 : at1 code 156 = some (.iload 4) := at1_of at_156 rfl (by decide)
theorem s0_156 : V0 l Z b K (q + 1) 156 ls st H cN sN = (ldI ls 4 fun v => V0 l Z b K q 158 ls (.int v :: st) H cN sN) := by show Wn _ _ _ _ _ _ _ _ _ _ _ _ _ _ _ (q + 1) _ _ _ _ _ _ = _; rw [wn_s (by decide), f0_156]; rfl
theorem f0_158 : at1 code 158 = some (.iload 8) := at1_of at_158 rfl (by decide)
theorem s0_158 : V0 l Z b K (q + 1) 158 ls st H cN sN = (ldI ls 8 fun v => V0 l Z b K q 160 ls (.int v :: st) H cN sN) := by show Wn _ _ _ _ _ _ _ _ _ _ _ _ _ _ _ (q + 1) _ _ _ _ _ _ = _; rw [wn_s (by decide), f0_158]; rfl
theorem f0_160 : at1 code 160 = some (.iload 5) := at1_of at_160 rfl (by decide)
theorem s0_160 : V0 l Z b K (q + 1) 160 ls st H cN sN = (ldI ls 5 fun v => V0 l Z b K q 162 ls (.int v :: st) H cN sN) := by show Wn _ _ _ _ _ _ _ _ _ _ _ _ _ _ _ (q + 1) _ _ _ _ _ _ = _; rw [wn_s (by decide), f0_160]; rfl
theorem f0_162 : at1 code 162 = some (.invokestatic 17) := at1_of at_162 rfl (by decide)
theorem s0_162 : V0 l Z b K (q + 1) 162 ls st H cN sN = (G0 l Z b K 162 ls st H cN sN) := by show Wn _ _ _ _ _ _ _ _ _ _ _ _ _ _ _ (q + 1) _ _ _ _ _ _ = _; rw [wn_s (by decide), f0_162]; rfl
theorem f0_165 : at1 code 165 = some (.ifCond .eq 99) := at1_of at_165 rfl (by decide)
theorem s0_165 : V0 l Z b K (q + 1) 165 ls st H cN sN = (popI st fun x r => if x = 0 then V0 l Z b K q 264 ls r H cN sN else V0 l Z b K q 168 ls r H cN sN) := by show Wn _ _ _ _ _ _ _ _ _ _ _ _ _ _ _ (q + 1) _ _ _ _ _ _ = _; rw [wn_s (by decide), f0_165]; rfl
theorem f0_168 : at1 code 168 = some (.aload 6) := at1_of at_168 rfl (by decide)
theorem s0_168 : V0 l Z b K (q + 1) 168 ls st H cN sN = (ldA ls 6 fun v => V0 l Z b K q 170 ls (v :: st) H cN sN) := by show Wn _ _ _ _ _ _ _ _ _ _ _ _ _ _ _ (q + 1) _ _ _ _ _ _ = _; rw [wn_s (by decide), f0_168]; rfl
theorem f0_170 : at1 code 170 = some (.iconst 2) := at1_of at_170 rfl (by decide)
theorem s0_170 : V0 l Z b K (q + 1) 170 ls st H cN sN = (V0 l Z b K q 171 ls (.int 2 :: st) H cN sN) := by show Wn _ _ _ _ _ _ _ _ _ _ _ _ _ _ _ (q + 1) _ _ _ _ _ _ = _; rw [wn_s (by decide), f0_170]; rfl
theorem f0_171 : at1 code 171 = some (.iload 4) := at1_of at_171 rfl (by decide)
theorem s0_171 : V0 l Z b K (q + 1) 171 ls st H cN sN = (ldI ls 4 fun v => V0 l Z b K q 173 ls (.int v :: st) H cN sN) := by show Wn _ _ _ _ _ _ _ _ _ _ _ _ _ _ _ (q + 1) _ _ _ _ _ _ = _; rw [wn_s (by decide), f0_171]; rfl
theorem f0_173 : at1 code 173 = some (.iload 8) := at1_of at_173 rfl (by decide)
theorem s0_173 : V0 l Z b K (q + 1) 173 ls st H cN sN = (ldI ls 8 fun v => V0 l Z b K q 175 ls (.int v :: st) H cN sN) := by show Wn _ _ _ _ _ _ _ _ _ _ _ _ _ _ _ (q + 1) _ _ _ _ _ _ = _; rw [wn_s (by decide), f0_173]; rfl
theorem f0_175 : at1 code 175 = some (.iload 5) := at1_of at_175 rfl (by decide)
theorem s0_175 : V0 l Z b K (q + 1) 175 ls st H cN sN = (ldI ls 5 fun v => V0 l Z b K q 177 ls (.int v :: st) H cN sN) := by show Wn _ _ _ _ _ _ _ _ _ _ _ _ _ _ _ (q + 1) _ _ _ _ _ _ = _; rw [wn_s (by decide), f0_175]; rfl
theorem f0_177 : at1 code 177 = some (.invokestatic 17) := at1_of at_177 rfl (by decide)
theorem s0_177 : V0 l Z b K (q + 1) 177 ls st H cN sN = (G0 l Z b K 177 ls st H cN sN) := by show Wn _ _ _ _ _ _ _ _ _ _ _ _ _ _ _ (q + 1) _ _ _ _ _ _ = _; rw [wn_s (by decide), f0_177]; rfl
theorem f0_180 : at1 code 180 = some (.ifCond .eq 84) := at1_of at_180 rfl (by decide)
theorem s0_180 : V0 l Z b K (q + 1) 180 ls st H cN sN = (popI st fun x r => if x = 0 then V0 l Z b K q 264 ls r H cN sN else V0 l Z b K q 183 ls r H cN sN) := by show Wn _ _ _ _ _ _ _ _ _ _ _ _ _ _ _ (q + 1) _ _ _ _ _ _ = _; rw [wn_s (by decide), f0_180]; rfl
theorem f0_183 : at1 code 183 = some (.aload 6) := at1_of at_183 rfl (by decide)
theorem s0_183 : V0 l Z b K (q + 1) 183 ls st H cN sN = (ldA ls 6 fun v => V0 l Z b K q 185 ls (v :: st) H cN sN) := by show Wn _ _ _ _ _ _ _ _ _ _ _ _ _ _ _ (q + 1) _ _ _ _ _ _ = _; rw [wn_s (by decide), f0_183]; rfl
theorem f0_185 : at1 code 185 = some (.iconst 3) := at1_of at_185 rfl (by decide)
theorem s0_185 : V0 l Z b K (q + 1) 185 ls st H cN sN = (V0 l Z b K q 186 ls (.int 3 :: st) H cN sN) := by show Wn _ _ _ _ _ _ _ _ _ _ _ _ _ _ _ (q + 1) _ _ _ _ _ _ = _; rw [wn_s (by decide), f0_185]; rfl
theorem f0_186 : at1 code 186 = some (.iload 4) := at1_of at_186 rfl (by decide)
theorem s0_186 : V0 l Z b K (q + 1) 186 ls st H cN sN = (ldI ls 4 fun v => V0 l Z b K q 188 ls (.int v :: st) H cN sN) := by show Wn _ _ _ _ _ _ _ _ _ _ _ _ _ _ _ (q + 1) _ _ _ _ _ _ = _; rw [wn_s (by decide), f0_186]; rfl
theorem f0_188 : at1 code 188 = some (.iload 8) := at1_of at_188 rfl (by decide)
theorem s0_188 : V0 l Z b K (q + 1) 188 ls st H cN sN = (ldI ls 8 fun v => V0 l Z b K q 190 ls (.int v :: st) H cN sN) := by show Wn _ _ _ _ _ _ _ _ _ _ _ _ _ _ _ (q + 1) _ _ _ _ _ _ = _; rw [wn_s (by decide), f0_188]; rfl
theorem f0_190 : at1 code 190 = some (.iload 5) := at1_of at_190 rfl (by decide)
theorem s0_190 : V0 l Z b K (q + 1) 190 ls st H cN sN = (ldI ls 5 fun v => V0 l Z b K q 192 ls (.int v :: st) H cN sN) := by show Wn _ _ _ _ _ _ _ _ _ _ _ _ _ _ _ (q + 1) _ _ _ _ _ _ = _; rw [wn_s (by decide), f0_190]; rfl
theorem f0_192 : at1 code 192 = some (.invokestatic 17) := at1_of at_192 rfl (by decide)
theorem s0_192 : V0 l Z b K (q + 1) 192 ls st H cN sN = (G0 l Z b K 192 ls st H cN sN) := by show Wn _ _ _ _ _ _ _ _ _ _ _ _ _ _ _ (q + 1) _ _ _ _ _ _ = _; rw [wn_s (by decide), f0_192]; rfl
theorem f0_195 : at1 code 195 = some (.ifCond .eq 69) := at1_of at_195 rfl (by decide)
theorem s0_195 : V0 l Z b K (q + 1) 195 ls st H cN sN = (popI st fun x r => if x = 0 then V0 l Z b K q 264 ls r H cN sN else V0 l Z b K q 198 ls r H cN sN) := by show Wn _ _ _ _ _ _ _ _ _ _ _ _ _ _ _ (q + 1) _ _ _ _ _ _ = _; rw [wn_s (by decide), f0_195]; rfl
theorem f0_198 : at1 code 198 = some (.aload 6) := at1_of at_198 rfl (by decide)
theorem s0_198 : V0 l Z b K (q + 1) 198 ls st H cN sN = (ldA ls 6 fun v => V0 l Z b K q 200 ls (v :: st) H cN sN) := by show Wn _ _ _ _ _ _ _ _ _ _ _ _ _ _ _ (q + 1) _ _ _ _ _ _ = _; rw [wn_s (by decide), f0_198]; rfl
theorem f0_200 : at1 code 200 = some (.iconst 4) := at1_of at_200 rfl (by decide)
theorem s0_200 : V0 l Z b K (q + 1) 200 ls st H cN sN = (V0 l Z b K q 201 ls (.int 4 :: st) H cN sN) := by show Wn _ _ _ _ _ _ _ _ _ _ _ _ _ _ _ (q + 1) _ _ _ _ _ _ = _; rw [wn_s (by decide), f0_200]; rfl
theorem f0_201 : at1 code 201 = some (.iload 4) := at1_of at_201 rfl (by decide)
theorem s0_201 : V0 l Z b K (q + 1) 201 ls st H cN sN = (ldI ls 4 fun v => V0 l Z b K q 203 ls (.int v :: st) H cN sN) := by show Wn _ _ _ _ _ _ _ _ _ _ _ _ _ _ _ (q + 1) _ _ _ _ _ _ = _; rw [wn_s (by decide), f0_201]; rfl
theorem f0_203 : at1 code 203 = some (.iload 8) := at1_of at_203 rfl (by decide)
theorem s0_203 : V0 l Z b K (q + 1) 203 ls st H cN sN = (ldI ls 8 fun v => V0 l Z b K q 205 ls (.int v :: st) H cN sN) := by show Wn _ _ _ _ _ _ _ _ _ _ _ _ _ _ _ (q + 1) _ _ _ _ _ _ = _; rw [wn_s (by decide), f0_203]; rfl
theorem f0_205 : at1 code 205 = some (.iload 5) := at1_of at_205 rfl (by decide)
theorem s0_205 : V0 l Z b K (q + 1) 205 ls st H cN sN = (ldI ls 5 fun v => V0 l Z b K q 207 ls (.int v :: st) H cN sN) := by show Wn _ _ _ _ _ _ _ _ _ _ _ _ _ _ _ (q + 1) _ _ _ _ _ _ = _; rw [wn_s (by decide), f0_205]; rfl
theorem f0_207 : at1 code 207 = some (.invokestatic 17) := at1_of at_207 rfl (by decide)
theorem s0_207 : V0 l Z b K (q + 1) 207 ls st H cN sN = (G0 l Z b K 207 ls st H cN sN) := by show Wn _ _ _ _ _ _ _ _ _ _ _ _ _ _ _ (q + 1) _ _ _ _ _ _ = _; rw [wn_s (by decide), f0_207]; rfl
theorem f0_210 : at1 code 210 = some (.ifCond .eq 54) := at1_of at_210 rfl (by decide)
theorem s0_210 : V0 l Z b K (q + 1) 210 ls st H cN sN = (popI st fun x r => if x = 0 then V0 l Z b K q 264 ls r H cN sN else V0 l Z b K q 213 ls r H cN sN) := by show Wn _ _ _ _ _ _ _ _ _ _ _ _ _ _ _ (q + 1) _ _ _ _ _ _ = _; rw [wn_s (by decide), f0_210]; rfl
theorem f0_213 : at1 code 213 = some (.aload 6) := at1_of at_213 rfl (by decide)
theorem s0_213 : V0 l Z b K (q + 1) 213 ls st H cN sN = (ldA ls 6 fun v => V0 l Z b K q 215 ls (v :: st) H cN sN) := by show Wn _ _ _ _ _ _ _ _ _ _ _ _ _ _ _ (q + 1) _ _ _ _ _ _ = _; rw [wn_s (by decide), f0_213]; rfl
theorem f0_215 : at1 code 215 = some (.iconst 5) := at1_of at_215 rfl (by decide)
theorem s0_215 : V0 l Z b K (q + 1) 215 ls st H cN sN = (V0 l Z b K q 216 ls (.int 5 :: st) H cN sN) := by show Wn _ _ _ _ _ _ _ _ _ _ _ _ _ _ _ (q + 1) _ _ _ _ _ _ = _; rw [wn_s (by decide), f0_215]; rfl
theorem f0_216 : at1 code 216 = some (.iload 4) := at1_of at_216 rfl (by decide)
theorem s0_216 : V0 l Z b K (q + 1) 216 ls st H cN sN = (ldI ls 4 fun v => V0 l Z b K q 218 ls (.int v :: st) H cN sN) := by show Wn _ _ _ _ _ _ _ _ _ _ _ _ _ _ _ (q + 1) _ _ _ _ _ _ = _; rw [wn_s (by decide), f0_216]; rfl
theorem f0_218 : at1 code 218 = some (.iload 8) := at1_of at_218 rfl (by decide)
theorem s0_218 : V0 l Z b K (q + 1) 218 ls st H cN sN = (ldI ls 8 fun v => V0 l Z b K q 220 ls (.int v :: st) H cN sN) := by show Wn _ _ _ _ _ _ _ _ _ _ _ _ _ _ _ (q + 1) _ _ _ _ _ _ = _; rw [wn_s (by decide), f0_218]; rfl
theorem f0_220 : at1 code 220 = some (.iload 5) := at1_of at_220 rfl (by decide)
theorem s0_220 : V0 l Z b K (q + 1) 220 ls st H cN sN = (ldI ls 5 fun v => V0 l Z b K q 222 ls (.int v :: st) H cN sN) := by show Wn _ _ _ _ _ _ _ _ _ _ _ _ _ _ _ (q + 1) _ _ _ _ _ _ = _; rw [wn_s (by decide), f0_220]; rfl
theorem f0_222 : at1 code 222 = some (.invokestatic 17) := at1_of at_222 rfl (by decide)
theorem s0_222 : V0 l Z b K (q + 1) 222 ls st H cN sN = (G0 l Z b K 222 ls st H cN sN) := by show Wn _ _ _ _ _ _ _ _ _ _ _ _ _ _ _ (q + 1) _ _ _ _ _ _ = _; rw [wn_s (by decide), f0_222]; rfl
theorem f0_225 : at1 code 225 = some (.ifCond .eq 39) := at1_of at_225 rfl (by decide)
theorem s0_225 : V0 l Z b K (q + 1) 225 ls st H cN sN = (popI st fun x r => if x = 0 then V0 l Z b K q 264 ls r H cN sN else V0 l Z b K q 228 ls r H cN sN) := by show Wn _ _ _ _ _ _ _ _ _ _ _ _ _ _ _ (q + 1) _ _ _ _ _ _ = _; rw [wn_s (by decide), f0_225]; rfl
theorem f0_228 : at1 code 228 = some (.aload 6) := at1_of at_228 rfl (by decide)
theorem s0_228 : V0 l Z b K (q + 1) 228 ls st H cN sN = (ldA ls 6 fun v => V0 l Z b K q 230 ls (v :: st) H cN sN) := by show Wn _ _ _ _ _ _ _ _ _ _ _ _ _ _ _ (q + 1) _ _ _ _ _ _ = _; rw [wn_s (by decide), f0_228]; rfl
theorem f0_230 : at1 code 230 = some (.bipush 6) := at1_of at_230 rfl (by decide)
theorem s0_230 : V0 l Z b K (q + 1) 230 ls st H cN sN = (V0 l Z b K q 232 ls (.int 6 :: st) H cN sN) := by show Wn _ _ _ _ _ _ _ _ _ _ _ _ _ _ _ (q + 1) _ _ _ _ _ _ = _; rw [wn_s (by decide), f0_230]; rfl
theorem f0_232 : at1 code 232 = some (.iload 4) := at1_of at_232 rfl (by decide)
theorem s0_232 : V0 l Z b K (q + 1) 232 ls st H cN sN = (ldI ls 4 fun v => V0 l Z b K q 234 ls (.int v :: st) H cN sN) := by show Wn _ _ _ _ _ _ _ _ _ _ _ _ _ _ _ (q + 1) _ _ _ _ _ _ = _; rw [wn_s (by decide), f0_232]; rfl
theorem f0_234 : at1 code 234 = some (.iload 8) := at1_of at_234 rfl (by decide)
theorem s0_234 : V0 l Z b K (q + 1) 234 ls st H cN sN = (ldI ls 8 fun v => V0 l Z b K q 236 ls (.int v :: st) H cN sN) := by show Wn _ _ _ _ _ _ _ _ _ _ _ _ _ _ _ (q + 1) _ _ _ _ _ _ = _; rw [wn_s (by decide), f0_234]; rfl
theorem f0_236 : at1 code 236 = some (.iload 5) := at1_of at_236 rfl (by decide)
theorem s0_236 : V0 l Z b K (q + 1) 236 ls st H cN sN = (ldI ls 5 fun v => V0 l Z b K q 238 ls (.int v :: st) H cN sN) := by show Wn _ _ _ _ _ _ _ _ _ _ _ _ _ _ _ (q + 1) _ _ _ _ _ _ = _; rw [wn_s (by decide), f0_236]; rfl
theorem f0_238 : at1 code 238 = some (.invokestatic 17) := at1_of at_238 rfl (by decide)
theorem s0_238 : V0 l Z b K (q + 1) 238 ls st H cN sN = (G0 l Z b K 238 ls st H cN sN) := by show Wn _ _ _ _ _ _ _ _ _ _ _ _ _ _ _ (q + 1) _ _ _ _ _ _ = _; rw [wn_s (by decide), f0_238]; rfl
theorem f0_241 : at1 code 241 = some (.ifCond .eq 23) := at1_of at_241 rfl (by decide)
theorem s0_241 : V0 l Z b K (q + 1) 241 ls st H cN sN = (popI st fun x r => if x = 0 then V0 l Z b K q 264 ls r H cN sN else V0 l Z b K q 244 ls r H cN sN) := by show Wn _ _ _ _ _ _ _ _ _ _ _ _ _ _ _ (q + 1) _ _ _ _ _ _ = _; rw [wn_s (by decide), f0_241]; rfl
theorem f0_244 : at1 code 244 = some (.aload 6) := at1_of at_244 rfl (by decide)
theorem s0_244 : V0 l Z b K (q + 1) 244 ls st H cN sN = (ldA ls 6 fun v => V0 l Z b K q 246 ls (v :: st) H cN sN) := by show Wn _ _ _ _ _ _ _ _ _ _ _ _ _ _ _ (q + 1) _ _ _ _ _ _ = _; rw [wn_s (by decide), f0_244]; rfl
theorem f0_246 : at1 code 246 = some (.bipush 7) := at1_of at_246 rfl (by decide)
theorem s0_246 : V0 l Z b K (q + 1) 246 ls st H cN sN = (V0 l Z b K q 248 ls (.int 7 :: st) H cN sN) := by show Wn _ _ _ _ _ _ _ _ _ _ _ _ _ _ _ (q + 1) _ _ _ _ _ _ = _; rw [wn_s (by decide), f0_246]; rfl
theorem f0_248 : at1 code 248 = some (.iload 4) := at1_of at_248 rfl (by decide)
theorem s0_248 : V0 l Z b K (q + 1) 248 ls st H cN sN = (ldI ls 4 fun v => V0 l Z b K q 250 ls (.int v :: st) H cN sN) := by show Wn _ _ _ _ _ _ _ _ _ _ _ _ _ _ _ (q + 1) _ _ _ _ _ _ = _; rw [wn_s (by decide), f0_248]; rfl
theorem f0_250 : at1 code 250 = some (.iload 8) := at1_of at_250 rfl (by decide)
theorem s0_250 : V0 l Z b K (q + 1) 250 ls st H cN sN = (ldI ls 8 fun v => V0 l Z b K q 252 ls (.int v :: st) H cN sN) := by show Wn _ _ _ _ _ _ _ _ _ _ _ _ _ _ _ (q + 1) _ _ _ _ _ _ = _; rw [wn_s (by decide), f0_250]; rfl
theorem f0_252 : at1 code 252 = some (.iload 5) := at1_of at_252 rfl (by decide)
theorem s0_252 : V0 l Z b K (q + 1) 252 ls st H cN sN = (ldI ls 5 fun v => V0 l Z b K q 254 ls (.int v :: st) H cN sN) := by show Wn _ _ _ _ _ _ _ _ _ _ _ _ _ _ _ (q + 1) _ _ _ _ _ _ = _; rw [wn_s (by decide), f0_252]; rfl
theorem f0_254 : at1 code 254 = some (.invokestatic 17) := at1_of at_254 rfl (by decide)
theorem s0_254 : V0 l Z b K (q + 1) 254 ls st H cN sN = (G0 l Z b K 254 ls st H cN sN) := by show Wn _ _ _ _ _ _ _ _ _ _ _ _ _ _ _ (q + 1) _ _ _ _ _ _ = _; rw [wn_s (by decide), f0_254]; rfl
theorem f0_257 : at1 code 257 = some (.ifCond .eq 7) := at1_of at_257 rfl (by decide)
theorem s0_257 : V0 l Z b K (q + 1) 257 ls st H cN sN = (popI st fun x r => if x = 0 then V0 l Z b K q 264 ls r H cN sN else V0 l Z b K q 260 ls r H cN sN) := by show Wn _ _ _ _ _ _ _ _ _ _ _ _ _ _ _ (q + 1) _ _ _ _ _ _ = _; rw [wn_s (by decide), f0_257]; rfl
theorem f0_260 : at1 code 260 = some (.iconst 1) := at1_of at_260 rfl (by decide)
theorem s0_260 : V0 l Z b K (q + 1) 260 ls st H cN sN = (V0 l Z b K q 261 ls (.int 1 :: st) H cN sN) := by show Wn _ _ _ _ _ _ _ _ _ _ _ _ _ _ _ (q + 1) _ _ _ _ _ _ = _; rw [wn_s (by decide), f0_260]; rfl
theorem f0_261 : at1 code 261 = some (.goto 4) := at1_of at_261 rfl (by decide)
theorem s0_261 : V0 l Z b K (q + 1) 261 ls st H cN sN = (V0 l Z b K q 265 ls st H cN sN) := by show Wn _ _ _ _ _ _ _ _ _ _ _ _ _ _ _ (q + 1) _ _ _ _ _ _ = _; rw [wn_s (by decide), f0_261]; rfl
theorem f0_264 : at1 code 264 = some (.iconst 0) := at1_of at_264 rfl (by decide)
theorem s0_264 : V0 l Z b K (q + 1) 264 ls st H cN sN = (V0 l Z b K q 265 ls (.int 0 :: st) H cN sN) := by show Wn _ _ _ _ _ _ _ _ _ _ _ _ _ _ _ (q + 1) _ _ _ _ _ _ = _; rw [wn_s (by decide), f0_264]; rfl
theorem f0_265 : at1 code 265 = some (.istore 10) := at1_of at_265 rfl (by decide)
theorem s0_265 : V0 l Z b K (q + 1) 265 ls st H cN sN = (popI st fun v r => sto1 ls 10 (.int v) fun l' => V0 l Z b K q 267 l' r H cN sN) := by show Wn _ _ _ _ _ _ _ _ _ _ _ _ _ _ _ (q + 1) _ _ _ _ _ _ = _; rw [wn_s (by decide), f0_265]; rfl
theorem f0_267 : at1 code 267 = some (.iload 10) := at1_of at_267 rfl (by decide)
theorem s0_267 : V0 l Z b K (q + 1) 267 ls st H cN sN = (ldI ls 10 fun v => V0 l Z b K q 269 ls (.int v :: st) H cN sN) := by show Wn _ _ _ _ _ _ _ _ _ _ _ _ _ _ _ (q + 1) _ _ _ _ _ _ = _; rw [wn_s (by decide), f0_267]; rfl
theorem f0_269 : at1 code 269 = some (.ifCond .ne 5) := at1_of at_269 rfl (by decide)
theorem s0_269 : V0 l Z b K (q + 1) 269 ls st H cN sN = (popI st fun x r => if x = 0 then V0 l Z b K q 272 ls r H cN sN else V0 l Z b K q 274 ls r H cN sN) := by show Wn _ _ _ _ _ _ _ _ _ _ _ _ _ _ _ (q + 1) _ _ _ _ _ _ = _; rw [wn_s (by decide), f0_269]; rfl
theorem f0_272 : at1 code 272 = some (.iconst 0) := at1_of at_272 rfl (by decide)
theorem s0_272 : V0 l Z b K (q + 1) 272 ls st H cN sN = (V0 l Z b K q 273 ls (.int 0 :: st) H cN sN) := by show Wn _ _ _ _ _ _ _ _ _ _ _ _ _ _ _ (q + 1) _ _ _ _ _ _ = _; rw [wn_s (by decide), f0_272]; rfl
theorem f0_273 : at1 code 273 = some (.ireturn) := at1_of at_273 rfl (by decide)
theorem s0_273 : V0 l Z b K (q + 1) 273 ls st H cN sN = (popI st fun x r => if cN ≤ 16 ∧ sN ≤ 128 then K (some (.int (nar .boolean x))) H else False) := by show Wn _ _ _ _ _ _ _ _ _ _ _ _ _ _ _ (q + 1) _ _ _ _ _ _ = _; rw [wn_s (by decide), f0_273]; rfl
theorem f0_274 : at1 code 274 = some (.aload 6) := at1_of at_274 rfl (by decide)
theorem s0_274 : V0 l Z b K (q + 1) 274 ls st H cN sN = (ldA ls 6 fun v => V0 l Z b K q 276 ls (v :: st) H cN sN) := by show Wn _ _ _ _ _ _ _ _ _ _ _ _ _ _ _ (q + 1) _ _ _ _ _ _ = _; rw [wn_s (by decide), f0_274]; rfl
theorem f0_276 : at1 code 276 = some (.iload 4) := at1_of at_276 rfl (by decide)
theorem s0_276 : V0 l Z b K (q + 1) 276 ls st H cN sN = (ldI ls 4 fun v => V0 l Z b K q 278 ls (.int v :: st) H cN sN) := by show Wn _ _ _ _ _ _ _ _ _ _ _ _ _ _ _ (q + 1) _ _ _ _ _ _ = _; rw [wn_s (by decide), f0_276]; rfl
theorem f0_278 : at1 code 278 = some (.baload) := at1_of at_278 rfl (by decide)
theorem s0_278 : V0 l Z b K (q + 1) 278 ls st H cN sN = (popI st fun j r => popR r fun a r => arr H b.size a fun i ty vs => if ty = .byte then idx vs j fun v => V0 l Z b K q 279 ls (v :: r) H cN sN else False) := by show Wn _ _ _ _ _ _ _ _ _ _ _ _ _ _ _ (q + 1) _ _ _ _ _ _ = _; rw [wn_s (by decide), f0_278]; rfl
theorem f0_279 : at1 code 279 = some (.sipush 255) := at1_of at_279 rfl (by decide)
theorem s0_279 : V0 l Z b K (q + 1) 279 ls st H cN sN = (V0 l Z b K q 282 ls (.int 255 :: st) H cN sN) := by show Wn _ _ _ _ _ _ _ _ _ _ _ _ _ _ _ (q + 1) _ _ _ _ _ _ = _; rw [wn_s (by decide), f0_279]; rfl
theorem f0_282 : at1 code 282 = some (.iand) := at1_of at_282 rfl (by decide)
theorem s0_282 : V0 l Z b K (q + 1) 282 ls st H cN sN = (popI st fun y r => popI r fun x r => V0 l Z b K q 283 ls (.int (x &&& y) :: r) H cN sN) := by show Wn _ _ _ _ _ _ _ _ _ _ _ _ _ _ _ (q + 1) _ _ _ _ _ _ = _; rw [wn_s (by decide), f0_282]; rfl
theorem f0_283 : at1 code 283 = some (.istore 11) := at1_of at_283 rfl (by decide)
theorem s0_283 : V0 l Z b K (q + 1) 283 ls st H cN sN = (popI st fun v r => sto1 ls 11 (.int v) fun l' => V0 l Z b K q 285 l' r H cN sN) := by show Wn _ _ _ _ _ _ _ _ _ _ _ _ _ _ _ (q + 1) _ _ _ _ _ _ = _; rw [wn_s (by decide), f0_283]; rfl
theorem f0_285 : at1 code 285 = some (.aload 6) := at1_of at_285 rfl (by decide)
theorem s0_285 : V0 l Z b K (q + 1) 285 ls st H cN sN = (ldA ls 6 fun v => V0 l Z b K q 287 ls (v :: st) H cN sN) := by show Wn _ _ _ _ _ _ _ _ _ _ _ _ _ _ _ (q + 1) _ _ _ _ _ _ = _; rw [wn_s (by decide), f0_285]; rfl
theorem f0_287 : at1 code 287 = some (.iload 4) := at1_of at_287 rfl (by decide)
theorem s0_287 : V0 l Z b K (q + 1) 287 ls st H cN sN = (ldI ls 4 fun v => V0 l Z b K q 289 ls (.int v :: st) H cN sN) := by show Wn _ _ _ _ _ _ _ _ _ _ _ _ _ _ _ (q + 1) _ _ _ _ _ _ = _; rw [wn_s (by decide), f0_287]; rfl
theorem f0_289 : at1 code 289 = some (.iconst 1) := at1_of at_289 rfl (by decide)
theorem s0_289 : V0 l Z b K (q + 1) 289 ls st H cN sN = (V0 l Z b K q 290 ls (.int 1 :: st) H cN sN) := by show Wn _ _ _ _ _ _ _ _ _ _ _ _ _ _ _ (q + 1) _ _ _ _ _ _ = _; rw [wn_s (by decide), f0_289]; rfl
theorem f0_290 : at1 code 290 = some (.iadd) := at1_of at_290 rfl (by decide)
theorem s0_290 : V0 l Z b K (q + 1) 290 ls st H cN sN = (popI st fun y r => popI r fun x r => V0 l Z b K q 291 ls (.int (x + y) :: r) H cN sN) := by show Wn _ _ _ _ _ _ _ _ _ _ _ _ _ _ _ (q + 1) _ _ _ _ _ _ = _; rw [wn_s (by decide), f0_290]; rfl
theorem f0_291 : at1 code 291 = some (.baload) := at1_of at_291 rfl (by decide)
theorem s0_291 : V0 l Z b K (q + 1) 291 ls st H cN sN = (popI st fun j r => popR r fun a r => arr H b.size a fun i ty vs => if ty = .byte then idx vs j fun v => V0 l Z b K q 292 ls (v :: r) H cN sN else False) := by show Wn _ _ _ _ _ _ _ _ _ _ _ _ _ _ _ (q + 1) _ _ _ _ _ _ = _; rw [wn_s (by decide), f0_291]; rfl
theorem f0_292 : at1 code 292 = some (.sipush 255) := at1_of at_292 rfl (by decide)
theorem s0_292 : V0 l Z b K (q + 1) 292 ls st H cN sN = (V0 l Z b K q 295 ls (.int 255 :: st) H cN sN) := by show Wn _ _ _ _ _ _ _ _ _ _ _ _ _ _ _ (q + 1) _ _ _ _ _ _ = _; rw [wn_s (by decide), f0_292]; rfl
theorem f0_295 : at1 code 295 = some (.iand) := at1_of at_295 rfl (by decide)
theorem s0_295 : V0 l Z b K (q + 1) 295 ls st H cN sN = (popI st fun y r => popI r fun x r => V0 l Z b K q 296 ls (.int (x &&& y) :: r) H cN sN) := by show Wn _ _ _ _ _ _ _ _ _ _ _ _ _ _ _ (q + 1) _ _ _ _ _ _ = _; rw [wn_s (by decide), f0_295]; rfl
theorem f0_296 : at1 code 296 = some (.istore 12) := at1_of at_296 rfl (by decide)
theorem s0_296 : V0 l Z b K (q + 1) 296 ls st H cN sN = (popI st fun v r => sto1 ls 12 (.int v) fun l' => V0 l Z b K q 298 l' r H cN sN) := by show Wn _ _ _ _ _ _ _ _ _ _ _ _ _ _ _ (q + 1) _ _ _ _ _ _ = _; rw [wn_s (by decide), f0_296]; rfl
theorem f0_298 : at1 code 298 = some (.aload 6) := at1_of at_298 rfl (by decide)
theorem s0_298 : V0 l Z b K (q + 1) 298 ls st H cN sN = (ldA ls 6 fun v => V0 l Z b K q 300 ls (v :: st) H cN sN) := by show Wn _ _ _ _ _ _ _ _ _ _ _ _ _ _ _ (q + 1) _ _ _ _ _ _ = _; rw [wn_s (by decide), f0_298]; rfl
theorem f0_300 : at1 code 300 = some (.iload 4) := at1_of at_300 rfl (by decide)
theorem s0_300 : V0 l Z b K (q + 1) 300 ls st H cN sN = (ldI ls 4 fun v => V0 l Z b K q 302 ls (.int v :: st) H cN sN) := by show Wn _ _ _ _ _ _ _ _ _ _ _ _ _ _ _ (q + 1) _ _ _ _ _ _ = _; rw [wn_s (by decide), f0_300]; rfl
theorem f0_302 : at1 code 302 = some (.iconst 2) := at1_of at_302 rfl (by decide)
theorem s0_302 : V0 l Z b K (q + 1) 302 ls st H cN sN = (V0 l Z b K q 303 ls (.int 2 :: st) H cN sN) := by show Wn _ _ _ _ _ _ _ _ _ _ _ _ _ _ _ (q + 1) _ _ _ _ _ _ = _; rw [wn_s (by decide), f0_302]; rfl
theorem f0_303 : at1 code 303 = some (.iadd) := at1_of at_303 rfl (by decide)
theorem s0_303 : V0 l Z b K (q + 1) 303 ls st H cN sN = (popI st fun y r => popI r fun x r => V0 l Z b K q 304 ls (.int (x + y) :: r) H cN sN) := by show Wn _ _ _ _ _ _ _ _ _ _ _ _ _ _ _ (q + 1) _ _ _ _ _ _ = _; rw [wn_s (by decide), f0_303]; rfl
theorem f0_304 : at1 code 304 = some (.baload) := at1_of at_304 rfl (by decide)
theorem s0_304 : V0 l Z b K (q + 1) 304 ls st H cN sN = (popI st fun j r => popR r fun a r => arr H b.size a fun i ty vs => if ty = .byte then idx vs j fun v => V0 l Z b K q 305 ls (v :: r) H cN sN else False) := by show Wn _ _ _ _ _ _ _ _ _ _ _ _ _ _ _ (q + 1) _ _ _ _ _ _ = _; rw [wn_s (by decide), f0_304]; rfl
theorem f0_305 : at1 code 305 = some (.sipush 255) := at1_of at_305 rfl (by decide)
theorem s0_305 : V0 l Z b K (q + 1) 305 ls st H cN sN = (V0 l Z b K q 308 ls (.int 255 :: st) H cN sN) := by show Wn _ _ _ _ _ _ _ _ _ _ _ _ _ _ _ (q + 1) _ _ _ _ _ _ = _; rw [wn_s (by decide), f0_305]; rfl
theorem f0_308 : at1 code 308 = some (.iand) := at1_of at_308 rfl (by decide)
theorem s0_308 : V0 l Z b K (q + 1) 308 ls st H cN sN = (popI st fun y r => popI r fun x r => V0 l Z b K q 309 ls (.int (x &&& y) :: r) H cN sN) := by show Wn _ _ _ _ _ _ _ _ _ _ _ _ _ _ _ (q + 1) _ _ _ _ _ _ = _; rw [wn_s (by decide), f0_308]; rfl
theorem f0_309 : at1 code 309 = some (.istore 13) := at1_of at_309 rfl (by decide)
theorem s0_309 : V0 l Z b K (q + 1) 309 ls st H cN sN = (popI st fun v r => sto1 ls 13 (.int v) fun l' => V0 l Z b K q 311 l' r H cN sN) := by show Wn _ _ _ _ _ _ _ _ _ _ _ _ _ _ _ (q + 1) _ _ _ _ _ _ = _; rw [wn_s (by decide), f0_309]; rfl
theorem f0_311 : at1 code 311 = some (.aload 6) := at1_of at_311 rfl (by decide)
theorem s0_311 : V0 l Z b K (q + 1) 311 ls st H cN sN = (ldA ls 6 fun v => V0 l Z b K q 313 ls (v :: st) H cN sN) := by show Wn _ _ _ _ _ _ _ _ _ _ _ _ _ _ _ (q + 1) _ _ _ _ _ _ = _; rw [wn_s (by decide), f0_311]; rfl
theorem f0_313 : at1 code 313 = some (.iload 4) := at1_of at_313 rfl (by decide)
theorem s0_313 : V0 l Z b K (q + 1) 313 ls st H cN sN = (ldI ls 4 fun v => V0 l Z b K q 315 ls (.int v :: st) H cN sN) := by show Wn _ _ _ _ _ _ _ _ _ _ _ _ _ _ _ (q + 1) _ _ _ _ _ _ = _; rw [wn_s (by decide), f0_313]; rfl
theorem f0_315 : at1 code 315 = some (.iconst 3) := at1_of at_315 rfl (by decide)
theorem s0_315 : V0 l Z b K (q + 1) 315 ls st H cN sN = (V0 l Z b K q 316 ls (.int 3 :: st) H cN sN) := by show Wn _ _ _ _ _ _ _ _ _ _ _ _ _ _ _ (q + 1) _ _ _ _ _ _ = _; rw [wn_s (by decide), f0_315]; rfl
theorem f0_316 : at1 code 316 = some (.iadd) := at1_of at_316 rfl (by decide)
theorem s0_316 : V0 l Z b K (q + 1) 316 ls st H cN sN = (popI st fun y r => popI r fun x r => V0 l Z b K q 317 ls (.int (x + y) :: r) H cN sN) := by show Wn _ _ _ _ _ _ _ _ _ _ _ _ _ _ _ (q + 1) _ _ _ _ _ _ = _; rw [wn_s (by decide), f0_316]; rfl
theorem f0_317 : at1 code 317 = some (.baload) := at1_of at_317 rfl (by decide)
theorem s0_317 : V0 l Z b K (q + 1) 317 ls st H cN sN = (popI st fun j r => popR r fun a r => arr H b.size a fun i ty vs => if ty = .byte then idx vs j fun v => V0 l Z b K q 318 ls (v :: r) H cN sN else False) := by show Wn _ _ _ _ _ _ _ _ _ _ _ _ _ _ _ (q + 1) _ _ _ _ _ _ = _; rw [wn_s (by decide), f0_317]; rfl
theorem f0_318 : at1 code 318 = some (.sipush 255) := at1_of at_318 rfl (by decide)
theorem s0_318 : V0 l Z b K (q + 1) 318 ls st H cN sN = (V0 l Z b K q 321 ls (.int 255 :: st) H cN sN) := by show Wn _ _ _ _ _ _ _ _ _ _ _ _ _ _ _ (q + 1) _ _ _ _ _ _ = _; rw [wn_s (by decide), f0_318]; rfl
theorem f0_321 : at1 code 321 = some (.iand) := at1_of at_321 rfl (by decide)
theorem s0_321 : V0 l Z b K (q + 1) 321 ls st H cN sN = (popI st fun y r => popI r fun x r => V0 l Z b K q 322 ls (.int (x &&& y) :: r) H cN sN) := by show Wn _ _ _ _ _ _ _ _ _ _ _ _ _ _ _ (q + 1) _ _ _ _ _ _ = _; rw [wn_s (by decide), f0_321]; rfl
theorem f0_322 : at1 code 322 = some (.istore 14) := at1_of at_322 rfl (by decide)
theorem s0_322 : V0 l Z b K (q + 1) 322 ls st H cN sN = (popI st fun v r => sto1 ls 14 (.int v) fun l' => V0 l Z b K q 324 l' r H cN sN) := by show Wn _ _ _ _ _ _ _ _ _ _ _ _ _ _ _ (q + 1) _ _ _ _ _ _ = _; rw [wn_s (by decide), f0_322]; rfl
theorem f0_324 : at1 code 324 = some (.iload 8) := at1_of at_324 rfl (by decide)
theorem s0_324 : V0 l Z b K (q + 1) 324 ls st H cN sN = (ldI ls 8 fun v => V0 l Z b K q 326 ls (.int v :: st) H cN sN) := by show Wn _ _ _ _ _ _ _ _ _ _ _ _ _ _ _ (q + 1) _ _ _ _ _ _ = _; rw [wn_s (by decide), f0_324]; rfl
theorem f0_326 : at1 code 326 = some (.iconst 1) := at1_of at_326 rfl (by decide)
theorem s0_326 : V0 l Z b K (q + 1) 326 ls st H cN sN = (V0 l Z b K q 327 ls (.int 1 :: st) H cN sN) := by show Wn _ _ _ _ _ _ _ _ _ _ _ _ _ _ _ (q + 1) _ _ _ _ _ _ = _; rw [wn_s (by decide), f0_326]; rfl
theorem f0_327 : at1 code 327 = some (.if_icmp .ne 15) := at1_of at_327 rfl (by decide)
theorem s0_327 : V0 l Z b K (q + 1) 327 ls st H cN sN = (popI st fun y r => popI r fun x r => if x = y then V0 l Z b K q 330 ls r H cN sN else V0 l Z b K q 342 ls r H cN sN) := by show Wn _ _ _ _ _ _ _ _ _ _ _ _ _ _ _ (q + 1) _ _ _ _ _ _ = _; rw [wn_s (by decide), f0_327]; rfl
theorem f0_330 : at1 code 330 = some (.iload 11) := at1_of at_330 rfl (by decide)
theorem s0_330 : V0 l Z b K (q + 1) 330 ls st H cN sN = (ldI ls 11 fun v => V0 l Z b K q 332 ls (.int v :: st) H cN sN) := by show Wn _ _ _ _ _ _ _ _ _ _ _ _ _ _ _ (q + 1) _ _ _ _ _ _ = _; rw [wn_s (by decide), f0_330]; rfl
theorem f0_332 : at1 code 332 = some (.iload_n 3) := at1_of at_332 rfl (by decide)
theorem s0_332 : V0 l Z b K (q + 1) 332 ls st H cN sN = (ldI ls 3 fun v => V0 l Z b K q 333 ls (.int v :: st) H cN sN) := by show Wn _ _ _ _ _ _ _ _ _ _ _ _ _ _ _ (q + 1) _ _ _ _ _ _ = _; rw [wn_s (by decide), f0_332]; rfl
theorem f0_333 : at1 code 333 = some (.if_icmp .ne 7) := at1_of at_333 rfl (by decide)
theorem s0_333 : V0 l Z b K (q + 1) 333 ls st H cN sN = (popI st fun y r => popI r fun x r => if x = y then V0 l Z b K q 336 ls r H cN sN else V0 l Z b K q 340 ls r H cN sN) := by show Wn _ _ _ _ _ _ _ _ _ _ _ _ _ _ _ (q + 1) _ _ _ _ _ _ = _; rw [wn_s (by decide), f0_333]; rfl
theorem f0_336 : at1 code 336 = some (.iconst 1) := at1_of at_336 rfl (by decide)
theorem s0_336 : V0 l Z b K (q + 1) 336 ls st H cN sN = (V0 l Z b K q 337 ls (.int 1 :: st) H cN sN) := by show Wn _ _ _ _ _ _ _ _ _ _ _ _ _ _ _ (q + 1) _ _ _ _ _ _ = _; rw [wn_s (by decide), f0_336]; rfl
theorem f0_337 : at1 code 337 = some (.goto 4) := at1_of at_337 rfl (by decide)
theorem s0_337 : V0 l Z b K (q + 1) 337 ls st H cN sN = (V0 l Z b K q 341 ls st H cN sN) := by show Wn _ _ _ _ _ _ _ _ _ _ _ _ _ _ _ (q + 1) _ _ _ _ _ _ = _; rw [wn_s (by decide), f0_337]; rfl
theorem f0_340 : at1 code 340 = some (.iconst 0) := at1_of at_340 rfl (by decide)
theorem s0_340 : V0 l Z b K (q + 1) 340 ls st H cN sN = (V0 l Z b K q 341 ls (.int 0 :: st) H cN sN) := by show Wn _ _ _ _ _ _ _ _ _ _ _ _ _ _ _ (q + 1) _ _ _ _ _ _ = _; rw [wn_s (by decide), f0_340]; rfl
theorem f0_341 : at1 code 341 = some (.ireturn) := at1_of at_341 rfl (by decide)
theorem s0_341 : V0 l Z b K (q + 1) 341 ls st H cN sN = (popI st fun x r => if cN ≤ 16 ∧ sN ≤ 128 then K (some (.int (nar .boolean x))) H else False) := by show Wn _ _ _ _ _ _ _ _ _ _ _ _ _ _ _ (q + 1) _ _ _ _ _ _ = _; rw [wn_s (by decide), f0_341]; rfl
theorem f0_342 : at1 code 342 = some (.iload 8) := at1_of at_342 rfl (by decide)
theorem s0_342 : V0 l Z b K (q + 1) 342 ls st H cN sN = (ldI ls 8 fun v => V0 l Z b K q 344 ls (.int v :: st) H cN sN) := by show Wn _ _ _ _ _ _ _ _ _ _ _ _ _ _ _ (q + 1) _ _ _ _ _ _ = _; rw [wn_s (by decide), f0_342]; rfl
theorem f0_344 : at1 code 344 = some (.iconst 2) := at1_of at_344 rfl (by decide)
theorem s0_344 : V0 l Z b K (q + 1) 344 ls st H cN sN = (V0 l Z b K q 345 ls (.int 2 :: st) H cN sN) := by show Wn _ _ _ _ _ _ _ _ _ _ _ _ _ _ _ (q + 1) _ _ _ _ _ _ = _; rw [wn_s (by decide), f0_344]; rfl
theorem f0_345 : at1 code 345 = some (.if_icmp .ne 53) := at1_of at_345 rfl (by decide)
theorem s0_345 : V0 l Z b K (q + 1) 345 ls st H cN sN = (popI st fun y r => popI r fun x r => if x = y then V0 l Z b K q 348 ls r H cN sN else V0 l Z b K q 398 ls r H cN sN) := by show Wn _ _ _ _ _ _ _ _ _ _ _ _ _ _ _ (q + 1) _ _ _ _ _ _ = _; rw [wn_s (by decide), f0_345]; rfl
theorem f0_348 : at1 code 348 = some (.iload 11) := at1_of at_348 rfl (by decide)
theorem s0_348 : V0 l Z b K (q + 1) 348 ls st H cN sN = (ldI ls 11 fun v => V0 l Z b K q 350 ls (.int v :: st) H cN sN) := by show Wn _ _ _ _ _ _ _ _ _ _ _ _ _ _ _ (q + 1) _ _ _ _ _ _ = _; rw [wn_s (by decide), f0_348]; rfl
theorem f0_350 : at1 code 350 = some (.sipush 192) := at1_of at_350 rfl (by decide)
theorem s0_350 : V0 l Z b K (q + 1) 350 ls st H cN sN = (V0 l Z b K q 353 ls (.int 192 :: st) H cN sN) := by show Wn _ _ _ _ _ _ _ _ _ _ _ _ _ _ _ (q + 1) _ _ _ _ _ _ = _; rw [wn_s (by decide), f0_350]; rfl
theorem f0_353 : at1 code 353 = some (.if_icmp .lt 43) := at1_of at_353 rfl (by decide)
theorem s0_353 : V0 l Z b K (q + 1) 353 ls st H cN sN = (popI st fun y r => popI r fun x r => if x < y then V0 l Z b K q 396 ls r H cN sN else V0 l Z b K q 356 ls r H cN sN) := by show Wn _ _ _ _ _ _ _ _ _ _ _ _ _ _ _ (q + 1) _ _ _ _ _ _ = _; rw [wn_s (by decide), f0_353]; rfl
theorem f0_356 : at1 code 356 = some (.iload 11) := at1_of at_356 rfl (by decide)
theorem s0_356 : V0 l Z b K (q + 1) 356 ls st H cN sN = (ldI ls 11 fun v => V0 l Z b K q 358 ls (.int v :: st) H cN sN) := by show Wn _ _ _ _ _ _ _ _ _ _ _ _ _ _ _ (q + 1) _ _ _ _ _ _ = _; rw [wn_s (by decide), f0_356]; rfl
theorem f0_358 : at1 code 358 = some (.sipush 223) := at1_of at_358 rfl (by decide)
theorem s0_358 : V0 l Z b K (q + 1) 358 ls st H cN sN = (V0 l Z b K q 361 ls (.int 223 :: st) H cN sN) := by show Wn _ _ _ _ _ _ _ _ _ _ _ _ _ _ _ (q + 1) _ _ _ _ _ _ = _; rw [wn_s (by decide), f0_358]; rfl
theorem f0_361 : at1 code 361 = some (.if_icmp .gt 35) := at1_of at_361 rfl (by decide)
theorem s0_361 : V0 l Z b K (q + 1) 361 ls st H cN sN = (popI st fun y r => popI r fun x r => if y < x then V0 l Z b K q 396 ls r H cN sN else V0 l Z b K q 364 ls r H cN sN) := by show Wn _ _ _ _ _ _ _ _ _ _ _ _ _ _ _ (q + 1) _ _ _ _ _ _ = _; rw [wn_s (by decide), f0_361]; rfl
theorem f0_364 : at1 code 364 = some (.iload 12) := at1_of at_364 rfl (by decide)
theorem s0_364 : V0 l Z b K (q + 1) 364 ls st H cN sN = (ldI ls 12 fun v => V0 l Z b K q 366 ls (.int v :: st) H cN sN) := by show Wn _ _ _ _ _ _ _ _ _ _ _ _ _ _ _ (q + 1) _ _ _ _ _ _ = _; rw [wn_s (by decide), f0_364]; rfl
theorem f0_366 : at1 code 366 = some (.invokestatic 23) := at1_of at_366 rfl (by decide)
theorem s0_366 : V0 l Z b K (q + 1) 366 ls st H cN sN = (G0 l Z b K 366 ls st H cN sN) := by show Wn _ _ _ _ _ _ _ _ _ _ _ _ _ _ _ (q + 1) _ _ _ _ _ _ = _; rw [wn_s (by decide), f0_366]; rfl
theorem f0_369 : at1 code 369 = some (.ifCond .eq 27) := at1_of at_369 rfl (by decide)
theorem s0_369 : V0 l Z b K (q + 1) 369 ls st H cN sN = (popI st fun x r => if x = 0 then V0 l Z b K q 396 ls r H cN sN else V0 l Z b K q 372 ls r H cN sN) := by show Wn _ _ _ _ _ _ _ _ _ _ _ _ _ _ _ (q + 1) _ _ _ _ _ _ = _; rw [wn_s (by decide), f0_369]; rfl
theorem f0_372 : at1 code 372 = some (.iload 11) := at1_of at_372 rfl (by decide)
theorem s0_372 : V0 l Z b K (q + 1) 372 ls st H cN sN = (ldI ls 11 fun v => V0 l Z b K q 374 ls (.int v :: st) H cN sN) := by show Wn _ _ _ _ _ _ _ _ _ _ _ _ _ _ _ (q + 1) _ _ _ _ _ _ = _; rw [wn_s (by decide), f0_372]; rfl
theorem f0_374 : at1 code 374 = some (.sipush 192) := at1_of at_374 rfl (by decide)
theorem s0_374 : V0 l Z b K (q + 1) 374 ls st H cN sN = (V0 l Z b K q 377 ls (.int 192 :: st) H cN sN) := by show Wn _ _ _ _ _ _ _ _ _ _ _ _ _ _ _ (q + 1) _ _ _ _ _ _ = _; rw [wn_s (by decide), f0_374]; rfl
theorem f0_377 : at1 code 377 = some (.isub) := at1_of at_377 rfl (by decide)
theorem s0_377 : V0 l Z b K (q + 1) 377 ls st H cN sN = (popI st fun y r => popI r fun x r => V0 l Z b K q 378 ls (.int (x - y) :: r) H cN sN) := by show Wn _ _ _ _ _ _ _ _ _ _ _ _ _ _ _ (q + 1) _ _ _ _ _ _ = _; rw [wn_s (by decide), f0_377]; rfl
theorem f0_378 : at1 code 378 = some (.bipush 64) := at1_of at_378 rfl (by decide)
theorem s0_378 : V0 l Z b K (q + 1) 378 ls st H cN sN = (V0 l Z b K q 380 ls (.int 64 :: st) H cN sN) := by show Wn _ _ _ _ _ _ _ _ _ _ _ _ _ _ _ (q + 1) _ _ _ _ _ _ = _; rw [wn_s (by decide), f0_378]; rfl
theorem f0_380 : at1 code 380 = some (.imul) := at1_of at_380 rfl (by decide)
theorem s0_380 : V0 l Z b K (q + 1) 380 ls st H cN sN = (popI st fun y r => popI r fun x r => V0 l Z b K q 381 ls (.int (x * y) :: r) H cN sN) := by show Wn _ _ _ _ _ _ _ _ _ _ _ _ _ _ _ (q + 1) _ _ _ _ _ _ = _; rw [wn_s (by decide), f0_380]; rfl
theorem f0_381 : at1 code 381 = some (.iload 12) := at1_of at_381 rfl (by decide)
theorem s0_381 : V0 l Z b K (q + 1) 381 ls st H cN sN = (ldI ls 12 fun v => V0 l Z b K q 383 ls (.int v :: st) H cN sN) := by show Wn _ _ _ _ _ _ _ _ _ _ _ _ _ _ _ (q + 1) _ _ _ _ _ _ = _; rw [wn_s (by decide), f0_381]; rfl
theorem f0_383 : at1 code 383 = some (.sipush 128) := at1_of at_383 rfl (by decide)
theorem s0_383 : V0 l Z b K (q + 1) 383 ls st H cN sN = (V0 l Z b K q 386 ls (.int 128 :: st) H cN sN) := by show Wn _ _ _ _ _ _ _ _ _ _ _ _ _ _ _ (q + 1) _ _ _ _ _ _ = _; rw [wn_s (by decide), f0_383]; rfl
theorem f0_386 : at1 code 386 = some (.isub) := at1_of at_386 rfl (by decide)
theorem s0_386 : V0 l Z b K (q + 1) 386 ls st H cN sN = (popI st fun y r => popI r fun x r => V0 l Z b K q 387 ls (.int (x - y) :: r) H cN sN) := by show Wn _ _ _ _ _ _ _ _ _ _ _ _ _ _ _ (q + 1) _ _ _ _ _ _ = _; rw [wn_s (by decide), f0_386]; rfl
theorem f0_387 : at1 code 387 = some (.iadd) := at1_of at_387 rfl (by decide)
theorem s0_387 : V0 l Z b K (q + 1) 387 ls st H cN sN = (popI st fun y r => popI r fun x r => V0 l Z b K q 388 ls (.int (x + y) :: r) H cN sN) := by show Wn _ _ _ _ _ _ _ _ _ _ _ _ _ _ _ (q + 1) _ _ _ _ _ _ = _; rw [wn_s (by decide), f0_387]; rfl
theorem f0_388 : at1 code 388 = some (.iload_n 3) := at1_of at_388 rfl (by decide)
theorem s0_388 : V0 l Z b K (q + 1) 388 ls st H cN sN = (ldI ls 3 fun v => V0 l Z b K q 389 ls (.int v :: st) H cN sN) := by show Wn _ _ _ _ _ _ _ _ _ _ _ _ _ _ _ (q + 1) _ _ _ _ _ _ = _; rw [wn_s (by decide), f0_388]; rfl
theorem f0_389 : at1 code 389 = some (.if_icmp .ne 7) := at1_of at_389 rfl (by decide)
theorem s0_389 : V0 l Z b K (q + 1) 389 ls st H cN sN = (popI st fun y r => popI r fun x r => if x = y then V0 l Z b K q 392 ls r H cN sN else V0 l Z b K q 396 ls r H cN sN) := by show Wn _ _ _ _ _ _ _ _ _ _ _ _ _ _ _ (q + 1) _ _ _ _ _ _ = _; rw [wn_s (by decide), f0_389]; rfl
theorem f0_392 : at1 code 392 = some (.iconst 1) := at1_of at_392 rfl (by decide)
theorem s0_392 : V0 l Z b K (q + 1) 392 ls st H cN sN = (V0 l Z b K q 393 ls (.int 1 :: st) H cN sN) := by show Wn _ _ _ _ _ _ _ _ _ _ _ _ _ _ _ (q + 1) _ _ _ _ _ _ = _; rw [wn_s (by decide), f0_392]; rfl
theorem f0_393 : at1 code 393 = some (.goto 4) := at1_of at_393 rfl (by decide)
theorem s0_393 : V0 l Z b K (q + 1) 393 ls st H cN sN = (V0 l Z b K q 397 ls st H cN sN) := by show Wn _ _ _ _ _ _ _ _ _ _ _ _ _ _ _ (q + 1) _ _ _ _ _ _ = _; rw [wn_s (by decide), f0_393]; rfl
theorem f0_396 : at1 code 396 = some (.iconst 0) := at1_of at_396 rfl (by decide)
theorem s0_396 : V0 l Z b K (q + 1) 396 ls st H cN sN = (V0 l Z b K q 397 ls (.int 0 :: st) H cN sN) := by show Wn _ _ _ _ _ _ _ _ _ _ _ _ _ _ _ (q + 1) _ _ _ _ _ _ = _; rw [wn_s (by decide), f0_396]; rfl
theorem f0_397 : at1 code 397 = some (.ireturn) := at1_of at_397 rfl (by decide)
theorem s0_397 : V0 l Z b K (q + 1) 397 ls st H cN sN = (popI st fun x r => if cN ≤ 16 ∧ sN ≤ 128 then K (some (.int (nar .boolean x))) H else False) := by show Wn _ _ _ _ _ _ _ _ _ _ _ _ _ _ _ (q + 1) _ _ _ _ _ _ = _; rw [wn_s (by decide), f0_397]; rfl
theorem f0_398 : at1 code 398 = some (.iload 8) := at1_of at_398 rfl (by decide)
theorem s0_398 : V0 l Z b K (q + 1) 398 ls st H cN sN = (ldI ls 8 fun v => V0 l Z b K q 400 ls (.int v :: st) H cN sN) := by show Wn _ _ _ _ _ _ _ _ _ _ _ _ _ _ _ (q + 1) _ _ _ _ _ _ = _; rw [wn_s (by decide), f0_398]; rfl
theorem f0_400 : at1 code 400 = some (.iconst 3) := at1_of at_400 rfl (by decide)
theorem s0_400 : V0 l Z b K (q + 1) 400 ls st H cN sN = (V0 l Z b K q 401 ls (.int 3 :: st) H cN sN) := by show Wn _ _ _ _ _ _ _ _ _ _ _ _ _ _ _ (q + 1) _ _ _ _ _ _ = _; rw [wn_s (by decide), f0_400]; rfl
theorem f0_401 : at1 code 401 = some (.if_icmp .ne 72) := at1_of at_401 rfl (by decide)
theorem s0_401 : V0 l Z b K (q + 1) 401 ls st H cN sN = (popI st fun y r => popI r fun x r => if x = y then V0 l Z b K q 404 ls r H cN sN else V0 l Z b K q 473 ls r H cN sN) := by show Wn _ _ _ _ _ _ _ _ _ _ _ _ _ _ _ (q + 1) _ _ _ _ _ _ = _; rw [wn_s (by decide), f0_401]; rfl
theorem f0_404 : at1 code 404 = some (.iload 11) := at1_of at_404 rfl (by decide)
theorem s0_404 : V0 l Z b K (q + 1) 404 ls st H cN sN = (ldI ls 11 fun v => V0 l Z b K q 406 ls (.int v :: st) H cN sN) := by show Wn _ _ _ _ _ _ _ _ _ _ _ _ _ _ _ (q + 1) _ _ _ _ _ _ = _; rw [wn_s (by decide), f0_404]; rfl
theorem f0_406 : at1 code 406 = some (.sipush 224) := at1_of at_406 rfl (by decide)
theorem s0_406 : V0 l Z b K (q + 1) 406 ls st H cN sN = (V0 l Z b K q 409 ls (.int 224 :: st) H cN sN) := by show Wn _ _ _ _ _ _ _ _ _ _ _ _ _ _ _ (q + 1) _ _ _ _ _ _ = _; rw [wn_s (by decide), f0_406]; rfl
theorem f0_409 : at1 code 409 = some (.if_icmp .lt 62) := at1_of at_409 rfl (by decide)
theorem s0_409 : V0 l Z b K (q + 1) 409 ls st H cN sN = (popI st fun y r => popI r fun x r => if x < y then V0 l Z b K q 471 ls r H cN sN else V0 l Z b K q 412 ls r H cN sN) := by show Wn _ _ _ _ _ _ _ _ _ _ _ _ _ _ _ (q + 1) _ _ _ _ _ _ = _; rw [wn_s (by decide), f0_409]; rfl
theorem f0_412 : at1 code 412 = some (.iload 11) := at1_of at_412 rfl (by decide)
theorem s0_412 : V0 l Z b K (q + 1) 412 ls st H cN sN = (ldI ls 11 fun v => V0 l Z b K q 414 ls (.int v :: st) H cN sN) := by show Wn _ _ _ _ _ _ _ _ _ _ _ _ _ _ _ (q + 1) _ _ _ _ _ _ = _; rw [wn_s (by decide), f0_412]; rfl
theorem f0_414 : at1 code 414 = some (.sipush 239) := at1_of at_414 rfl (by decide)
theorem s0_414 : V0 l Z b K (q + 1) 414 ls st H cN sN = (V0 l Z b K q 417 ls (.int 239 :: st) H cN sN) := by show Wn _ _ _ _ _ _ _ _ _ _ _ _ _ _ _ (q + 1) _ _ _ _ _ _ = _; rw [wn_s (by decide), f0_414]; rfl
theorem f0_417 : at1 code 417 = some (.if_icmp .gt 54) := at1_of at_417 rfl (by decide)
theorem s0_417 : V0 l Z b K (q + 1) 417 ls st H cN sN = (popI st fun y r => popI r fun x r => if y < x then V0 l Z b K q 471 ls r H cN sN else V0 l Z b K q 420 ls r H cN sN) := by show Wn _ _ _ _ _ _ _ _ _ _ _ _ _ _ _ (q + 1) _ _ _ _ _ _ = _; rw [wn_s (by decide), f0_417]; rfl
theorem f0_420 : at1 code 420 = some (.iload 12) := at1_of at_420 rfl (by decide)
theorem s0_420 : V0 l Z b K (q + 1) 420 ls st H cN sN = (ldI ls 12 fun v => V0 l Z b K q 422 ls (.int v :: st) H cN sN) := by show Wn _ _ _ _ _ _ _ _ _ _ _ _ _ _ _ (q + 1) _ _ _ _ _ _ = _; rw [wn_s (by decide), f0_420]; rfl
theorem f0_422 : at1 code 422 = some (.invokestatic 23) := at1_of at_422 rfl (by decide)
theorem s0_422 : V0 l Z b K (q + 1) 422 ls st H cN sN = (G0 l Z b K 422 ls st H cN sN) := by show Wn _ _ _ _ _ _ _ _ _ _ _ _ _ _ _ (q + 1) _ _ _ _ _ _ = _; rw [wn_s (by decide), f0_422]; rfl
theorem f0_425 : at1 code 425 = some (.ifCond .eq 46) := at1_of at_425 rfl (by decide)
theorem s0_425 : V0 l Z b K (q + 1) 425 ls st H cN sN = (popI st fun x r => if x = 0 then V0 l Z b K q 471 ls r H cN sN else V0 l Z b K q 428 ls r H cN sN) := by show Wn _ _ _ _ _ _ _ _ _ _ _ _ _ _ _ (q + 1) _ _ _ _ _ _ = _; rw [wn_s (by decide), f0_425]; rfl
theorem f0_428 : at1 code 428 = some (.iload 13) := at1_of at_428 rfl (by decide)
theorem s0_428 : V0 l Z b K (q + 1) 428 ls st H cN sN = (ldI ls 13 fun v => V0 l Z b K q 430 ls (.int v :: st) H cN sN) := by show Wn _ _ _ _ _ _ _ _ _ _ _ _ _ _ _ (q + 1) _ _ _ _ _ _ = _; rw [wn_s (by decide), f0_428]; rfl
theorem f0_430 : at1 code 430 = some (.invokestatic 23) := at1_of at_430 rfl (by decide)
theorem s0_430 : V0 l Z b K (q + 1) 430 ls st H cN sN = (G0 l Z b K 430 ls st H cN sN) := by show Wn _ _ _ _ _ _ _ _ _ _ _ _ _ _ _ (q + 1) _ _ _ _ _ _ = _; rw [wn_s (by decide), f0_430]; rfl
theorem f0_433 : at1 code 433 = some (.ifCond .eq 38) := at1_of at_433 rfl (by decide)
theorem s0_433 : V0 l Z b K (q + 1) 433 ls st H cN sN = (popI st fun x r => if x = 0 then V0 l Z b K q 471 ls r H cN sN else V0 l Z b K q 436 ls r H cN sN) := by show Wn _ _ _ _ _ _ _ _ _ _ _ _ _ _ _ (q + 1) _ _ _ _ _ _ = _; rw [wn_s (by decide), f0_433]; rfl
theorem f0_436 : at1 code 436 = some (.iload 11) := at1_of at_436 rfl (by decide)
theorem s0_436 : V0 l Z b K (q + 1) 436 ls st H cN sN = (ldI ls 11 fun v => V0 l Z b K q 438 ls (.int v :: st) H cN sN) := by show Wn _ _ _ _ _ _ _ _ _ _ _ _ _ _ _ (q + 1) _ _ _ _ _ _ = _; rw [wn_s (by decide), f0_436]; rfl
theorem f0_438 : at1 code 438 = some (.sipush 224) := at1_of at_438 rfl (by decide)
theorem s0_438 : V0 l Z b K (q + 1) 438 ls st H cN sN = (V0 l Z b K q 441 ls (.int 224 :: st) H cN sN) := by show Wn _ _ _ _ _ _ _ _ _ _ _ _ _ _ _ (q + 1) _ _ _ _ _ _ = _; rw [wn_s (by decide), f0_438]; rfl
theorem f0_441 : at1 code 441 = some (.isub) := at1_of at_441 rfl (by decide)
theorem s0_441 : V0 l Z b K (q + 1) 441 ls st H cN sN = (popI st fun y r => popI r fun x r => V0 l Z b K q 442 ls (.int (x - y) :: r) H cN sN) := by show Wn _ _ _ _ _ _ _ _ _ _ _ _ _ _ _ (q + 1) _ _ _ _ _ _ = _; rw [wn_s (by decide), f0_441]; rfl
theorem f0_442 : at1 code 442 = some (.sipush 4096) := at1_of at_442 rfl (by decide)
theorem s0_442 : V0 l Z b K (q + 1) 442 ls st H cN sN = (V0 l Z b K q 445 ls (.int 4096 :: st) H cN sN) := by show Wn _ _ _ _ _ _ _ _ _ _ _ _ _ _ _ (q + 1) _ _ _ _ _ _ = _; rw [wn_s (by decide), f0_442]; rfl
theorem f0_445 : at1 code 445 = some (.imul) := at1_of at_445 rfl (by decide)
theorem s0_445 : V0 l Z b K (q + 1) 445 ls st H cN sN = (popI st fun y r => popI r fun x r => V0 l Z b K q 446 ls (.int (x * y) :: r) H cN sN) := by show Wn _ _ _ _ _ _ _ _ _ _ _ _ _ _ _ (q + 1) _ _ _ _ _ _ = _; rw [wn_s (by decide), f0_445]; rfl
theorem f0_446 : at1 code 446 = some (.iload 12) := at1_of at_446 rfl (by decide)
theorem s0_446 : V0 l Z b K (q + 1) 446 ls st H cN sN = (ldI ls 12 fun v => V0 l Z b K q 448 ls (.int v :: st) H cN sN) := by show Wn _ _ _ _ _ _ _ _ _ _ _ _ _ _ _ (q + 1) _ _ _ _ _ _ = _; rw [wn_s (by decide), f0_446]; rfl
theorem f0_448 : at1 code 448 = some (.sipush 128) := at1_of at_448 rfl (by decide)
theorem s0_448 : V0 l Z b K (q + 1) 448 ls st H cN sN = (V0 l Z b K q 451 ls (.int 128 :: st) H cN sN) := by show Wn _ _ _ _ _ _ _ _ _ _ _ _ _ _ _ (q + 1) _ _ _ _ _ _ = _; rw [wn_s (by decide), f0_448]; rfl
theorem f0_451 : at1 code 451 = some (.isub) := at1_of at_451 rfl (by decide)
theorem s0_451 : V0 l Z b K (q + 1) 451 ls st H cN sN = (popI st fun y r => popI r fun x r => V0 l Z b K q 452 ls (.int (x - y) :: r) H cN sN) := by show Wn _ _ _ _ _ _ _ _ _ _ _ _ _ _ _ (q + 1) _ _ _ _ _ _ = _; rw [wn_s (by decide), f0_451]; rfl
theorem f0_452 : at1 code 452 = some (.bipush 64) := at1_of at_452 rfl (by decide)
theorem s0_452 : V0 l Z b K (q + 1) 452 ls st H cN sN = (V0 l Z b K q 454 ls (.int 64 :: st) H cN sN) := by show Wn _ _ _ _ _ _ _ _ _ _ _ _ _ _ _ (q + 1) _ _ _ _ _ _ = _; rw [wn_s (by decide), f0_452]; rfl
theorem f0_454 : at1 code 454 = some (.imul) := at1_of at_454 rfl (by decide)
theorem s0_454 : V0 l Z b K (q + 1) 454 ls st H cN sN = (popI st fun y r => popI r fun x r => V0 l Z b K q 455 ls (.int (x * y) :: r) H cN sN) := by show Wn _ _ _ _ _ _ _ _ _ _ _ _ _ _ _ (q + 1) _ _ _ _ _ _ = _; rw [wn_s (by decide), f0_454]; rfl
theorem f0_455 : at1 code 455 = some (.iadd) := at1_of at_455 rfl (by decide)
theorem s0_455 : V0 l Z b K (q + 1) 455 ls st H cN sN = (popI st fun y r => popI r fun x r => V0 l Z b K q 456 ls (.int (x + y) :: r) H cN sN) := by show Wn _ _ _ _ _ _ _ _ _ _ _ _ _ _ _ (q + 1) _ _ _ _ _ _ = _; rw [wn_s (by decide), f0_455]; rfl
theorem f0_456 : at1 code 456 = some (.iload 13) := at1_of at_456 rfl (by decide)
theorem s0_456 : V0 l Z b K (q + 1) 456 ls st H cN sN = (ldI ls 13 fun v => V0 l Z b K q 458 ls (.int v :: st) H cN sN) := by show Wn _ _ _ _ _ _ _ _ _ _ _ _ _ _ _ (q + 1) _ _ _ _ _ _ = _; rw [wn_s (by decide), f0_456]; rfl
theorem f0_458 : at1 code 458 = some (.sipush 128) := at1_of at_458 rfl (by decide)
theorem s0_458 : V0 l Z b K (q + 1) 458 ls st H cN sN = (V0 l Z b K q 461 ls (.int 128 :: st) H cN sN) := by show Wn _ _ _ _ _ _ _ _ _ _ _ _ _ _ _ (q + 1) _ _ _ _ _ _ = _; rw [wn_s (by decide), f0_458]; rfl
theorem f0_461 : at1 code 461 = some (.isub) := at1_of at_461 rfl (by decide)
theorem s0_461 : V0 l Z b K (q + 1) 461 ls st H cN sN = (popI st fun y r => popI r fun x r => V0 l Z b K q 462 ls (.int (x - y) :: r) H cN sN) := by show Wn _ _ _ _ _ _ _ _ _ _ _ _ _ _ _ (q + 1) _ _ _ _ _ _ = _; rw [wn_s (by decide), f0_461]; rfl
theorem f0_462 : at1 code 462 = some (.iadd) := at1_of at_462 rfl (by decide)
theorem s0_462 : V0 l Z b K (q + 1) 462 ls st H cN sN = (popI st fun y r => popI r fun x r => V0 l Z b K q 463 ls (.int (x + y) :: r) H cN sN) := by show Wn _ _ _ _ _ _ _ _ _ _ _ _ _ _ _ (q + 1) _ _ _ _ _ _ = _; rw [wn_s (by decide), f0_462]; rfl
theorem f0_463 : at1 code 463 = some (.iload_n 3) := at1_of at_463 rfl (by decide)
theorem s0_463 : V0 l Z b K (q + 1) 463 ls st H cN sN = (ldI ls 3 fun v => V0 l Z b K q 464 ls (.int v :: st) H cN sN) := by show Wn _ _ _ _ _ _ _ _ _ _ _ _ _ _ _ (q + 1) _ _ _ _ _ _ = _; rw [wn_s (by decide), f0_463]; rfl
theorem f0_464 : at1 code 464 = some (.if_icmp .ne 7) := at1_of at_464 rfl (by decide)
theorem s0_464 : V0 l Z b K (q + 1) 464 ls st H cN sN = (popI st fun y r => popI r fun x r => if x = y then V0 l Z b K q 467 ls r H cN sN else V0 l Z b K q 471 ls r H cN sN) := by show Wn _ _ _ _ _ _ _ _ _ _ _ _ _ _ _ (q + 1) _ _ _ _ _ _ = _; rw [wn_s (by decide), f0_464]; rfl
theorem f0_467 : at1 code 467 = some (.iconst 1) := at1_of at_467 rfl (by decide)
theorem s0_467 : V0 l Z b K (q + 1) 467 ls st H cN sN = (V0 l Z b K q 468 ls (.int 1 :: st) H cN sN) := by show Wn _ _ _ _ _ _ _ _ _ _ _ _ _ _ _ (q + 1) _ _ _ _ _ _ = _; rw [wn_s (by decide), f0_467]; rfl
theorem f0_468 : at1 code 468 = some (.goto 4) := at1_of at_468 rfl (by decide)
theorem s0_468 : V0 l Z b K (q + 1) 468 ls st H cN sN = (V0 l Z b K q 472 ls st H cN sN) := by show Wn _ _ _ _ _ _ _ _ _ _ _ _ _ _ _ (q + 1) _ _ _ _ _ _ = _; rw [wn_s (by decide), f0_468]; rfl
theorem f0_471 : at1 code 471 = some (.iconst 0) := at1_of at_471 rfl (by decide)
theorem s0_471 : V0 l Z b K (q + 1) 471 ls st H cN sN = (V0 l Z b K q 472 ls (.int 0 :: st) H cN sN) := by show Wn _ _ _ _ _ _ _ _ _ _ _ _ _ _ _ (q + 1) _ _ _ _ _ _ = _; rw [wn_s (by decide), f0_471]; rfl
theorem f0_472 : at1 code 472 = some (.ireturn) := at1_of at_472 rfl (by decide)
theorem s0_472 : V0 l Z b K (q + 1) 472 ls st H cN sN = (popI st fun x r => if cN ≤ 16 ∧ sN ≤ 128 then K (some (.int (nar .boolean x))) H else False) := by show Wn _ _ _ _ _ _ _ _ _ _ _ _ _ _ _ (q + 1) _ _ _ _ _ _ = _; rw [wn_s (by decide), f0_472]; rfl
theorem f0_473 : at1 code 473 = some (.iload 11) := at1_of at_473 rfl (by decide)
theorem s0_473 : V0 l Z b K (q + 1) 473 ls st H cN sN = (ldI ls 11 fun v => V0 l Z b K q 475 ls (.int v :: st) H cN sN) := by show Wn _ _ _ _ _ _ _ _ _ _ _ _ _ _ _ (q + 1) _ _ _ _ _ _ = _; rw [wn_s (by decide), f0_473]; rfl
theorem f0_475 : at1 code 475 = some (.sipush 240) := at1_of at_475 rfl (by decide)
theorem s0_475 : V0 l Z b K (q + 1) 475 ls st H cN sN = (V0 l Z b K q 478 ls (.int 240 :: st) H cN sN) := by show Wn _ _ _ _ _ _ _ _ _ _ _ _ _ _ _ (q + 1) _ _ _ _ _ _ = _; rw [wn_s (by decide), f0_475]; rfl
theorem f0_478 : at1 code 478 = some (.if_icmp .lt 80) := at1_of at_478 rfl (by decide)
theorem s0_478 : V0 l Z b K (q + 1) 478 ls st H cN sN = (popI st fun y r => popI r fun x r => if x < y then V0 l Z b K q 558 ls r H cN sN else V0 l Z b K q 481 ls r H cN sN) := by show Wn _ _ _ _ _ _ _ _ _ _ _ _ _ _ _ (q + 1) _ _ _ _ _ _ = _; rw [wn_s (by decide), f0_478]; rfl
theorem f0_481 : at1 code 481 = some (.iload 11) := at1_of at_481 rfl (by decide)
theorem s0_481 : V0 l Z b K (q + 1) 481 ls st H cN sN = (ldI ls 11 fun v => V0 l Z b K q 483 ls (.int v :: st) H cN sN) := by show Wn _ _ _ _ _ _ _ _ _ _ _ _ _ _ _ (q + 1) _ _ _ _ _ _ = _; rw [wn_s (by decide), f0_481]; rfl
theorem f0_483 : at1 code 483 = some (.sipush 247) := at1_of at_483 rfl (by decide)
theorem s0_483 : V0 l Z b K (q + 1) 483 ls st H cN sN = (V0 l Z b K q 486 ls (.int 247 :: st) H cN sN) := by show Wn _ _ _ _ _ _ _ _ _ _ _ _ _ _ _ (q + 1) _ _ _ _ _ _ = _; rw [wn_s (by decide), f0_483]; rfl
theorem f0_486 : at1 code 486 = some (.if_icmp .gt 72) := at1_of at_486 rfl (by decide)
theorem s0_486 : V0 l Z b K (q + 1) 486 ls st H cN sN = (popI st fun y r => popI r fun x r => if y < x then V0 l Z b K q 558 ls r H cN sN else V0 l Z b K q 489 ls r H cN sN) := by show Wn _ _ _ _ _ _ _ _ _ _ _ _ _ _ _ (q + 1) _ _ _ _ _ _ = _; rw [wn_s (by decide), f0_486]; rfl
theorem f0_489 : at1 code 489 = some (.iload 12) := at1_of at_489 rfl (by decide)
theorem s0_489 : V0 l Z b K (q + 1) 489 ls st H cN sN = (ldI ls 12 fun v => V0 l Z b K q 491 ls (.int v :: st) H cN sN) := by show Wn _ _ _ _ _ _ _ _ _ _ _ _ _ _ _ (q + 1) _ _ _ _ _ _ = _; rw [wn_s (by decide), f0_489]; rfl
theorem f0_491 : at1 code 491 = some (.invokestatic 23) := at1_of at_491 rfl (by decide)
theorem s0_491 : V0 l Z b K (q + 1) 491 ls st H cN sN = (G0 l Z b K 491 ls st H cN sN) := by show Wn _ _ _ _ _ _ _ _ _ _ _ _ _ _ _ (q + 1) _ _ _ _ _ _ = _; rw [wn_s (by decide), f0_491]; rfl
theorem f0_494 : at1 code 494 = some (.ifCond .eq 64) := at1_of at_494 rfl (by decide)
theorem s0_494 : V0 l Z b K (q + 1) 494 ls st H cN sN = (popI st fun x r => if x = 0 then V0 l Z b K q 558 ls r H cN sN else V0 l Z b K q 497 ls r H cN sN) := by show Wn _ _ _ _ _ _ _ _ _ _ _ _ _ _ _ (q + 1) _ _ _ _ _ _ = _; rw [wn_s (by decide), f0_494]; rfl
theorem f0_497 : at1 code 497 = some (.iload 13) := at1_of at_497 rfl (by decide)
theorem s0_497 : V0 l Z b K (q + 1) 497 ls st H cN sN = (ldI ls 13 fun v => V0 l Z b K q 499 ls (.int v :: st) H cN sN) := by show Wn _ _ _ _ _ _ _ _ _ _ _ _ _ _ _ (q + 1) _ _ _ _ _ _ = _; rw [wn_s (by decide), f0_497]; rfl
theorem f0_499 : at1 code 499 = some (.invokestatic 23) := at1_of at_499 rfl (by decide)
theorem s0_499 : V0 l Z b K (q + 1) 499 ls st H cN sN = (G0 l Z b K 499 ls st H cN sN) := by show Wn _ _ _ _ _ _ _ _ _ _ _ _ _ _ _ (q + 1) _ _ _ _ _ _ = _; rw [wn_s (by decide), f0_499]; rfl
theorem f0_502 : at1 code 502 = some (.ifCond .eq 56) := at1_of at_502 rfl (by decide)
theorem s0_502 : V0 l Z b K (q + 1) 502 ls st H cN sN = (popI st fun x r => if x = 0 then V0 l Z b K q 558 ls r H cN sN else V0 l Z b K q 505 ls r H cN sN) := by show Wn _ _ _ _ _ _ _ _ _ _ _ _ _ _ _ (q + 1) _ _ _ _ _ _ = _; rw [wn_s (by decide), f0_502]; rfl
theorem f0_505 : at1 code 505 = some (.iload 14) := at1_of at_505 rfl (by decide)
theorem s0_505 : V0 l Z b K (q + 1) 505 ls st H cN sN = (ldI ls 14 fun v => V0 l Z b K q 507 ls (.int v :: st) H cN sN) := by show Wn _ _ _ _ _ _ _ _ _ _ _ _ _ _ _ (q + 1) _ _ _ _ _ _ = _; rw [wn_s (by decide), f0_505]; rfl
theorem f0_507 : at1 code 507 = some (.invokestatic 23) := at1_of at_507 rfl (by decide)
theorem s0_507 : V0 l Z b K (q + 1) 507 ls st H cN sN = (G0 l Z b K 507 ls st H cN sN) := by show Wn _ _ _ _ _ _ _ _ _ _ _ _ _ _ _ (q + 1) _ _ _ _ _ _ = _; rw [wn_s (by decide), f0_507]; rfl
theorem f0_510 : at1 code 510 = some (.ifCond .eq 48) := at1_of at_510 rfl (by decide)
theorem s0_510 : V0 l Z b K (q + 1) 510 ls st H cN sN = (popI st fun x r => if x = 0 then V0 l Z b K q 558 ls r H cN sN else V0 l Z b K q 513 ls r H cN sN) := by show Wn _ _ _ _ _ _ _ _ _ _ _ _ _ _ _ (q + 1) _ _ _ _ _ _ = _; rw [wn_s (by decide), f0_510]; rfl
theorem f0_513 : at1 code 513 = some (.iload 11) := at1_of at_513 rfl (by decide)
theorem s0_513 : V0 l Z b K (q + 1) 513 ls st H cN sN = (ldI ls 11 fun v => V0 l Z b K q 515 ls (.int v :: st) H cN sN) := by show Wn _ _ _ _ _ _ _ _ _ _ _ _ _ _ _ (q + 1) _ _ _ _ _ _ = _; rw [wn_s (by decide), f0_513]; rfl
theorem f0_515 : at1 code 515 = some (.sipush 240) := at1_of at_515 rfl (by decide)
theorem s0_515 : V0 l Z b K (q + 1) 515 ls st H cN sN = (V0 l Z b K q 518 ls (.int 240 :: st) H cN sN) := by show Wn _ _ _ _ _ _ _ _ _ _ _ _ _ _ _ (q + 1) _ _ _ _ _ _ = _; rw [wn_s (by decide), f0_515]; rfl
theorem f0_518 : at1 code 518 = some (.isub) := at1_of at_518 rfl (by decide)
theorem s0_518 : V0 l Z b K (q + 1) 518 ls st H cN sN = (popI st fun y r => popI r fun x r => V0 l Z b K q 519 ls (.int (x - y) :: r) H cN sN) := by show Wn _ _ _ _ _ _ _ _ _ _ _ _ _ _ _ (q + 1) _ _ _ _ _ _ = _; rw [wn_s (by decide), f0_518]; rfl
theorem f0_519 : at1 code 519 = some (.ldc 27) := at1_of at_519 rfl (by decide)
theorem s0_519 : V0 l Z b K (q + 1) 519 ls st H cN sN = (V0 l Z b K q 521 ls (.int 262144 :: st) H cN sN) := by show Wn _ _ _ _ _ _ _ _ _ _ _ _ _ _ _ (q + 1) _ _ _ _ _ _ = _; rw [wn_s (by decide), f0_519]; rfl
theorem f0_521 : at1 code 521 = some (.imul) := at1_of at_521 rfl (by decide)
theorem s0_521 : V0 l Z b K (q + 1) 521 ls st H cN sN = (popI st fun y r => popI r fun x r => V0 l Z b K q 522 ls (.int (x * y) :: r) H cN sN) := by show Wn _ _ _ _ _ _ _ _ _ _ _ _ _ _ _ (q + 1) _ _ _ _ _ _ = _; rw [wn_s (by decide), f0_521]; rfl
theorem f0_522 : at1 code 522 = some (.iload 12) := at1_of at_522 rfl (by decide)
theorem s0_522 : V0 l Z b K (q + 1) 522 ls st H cN sN = (ldI ls 12 fun v => V0 l Z b K q 524 ls (.int v :: st) H cN sN) := by show Wn _ _ _ _ _ _ _ _ _ _ _ _ _ _ _ (q + 1) _ _ _ _ _ _ = _; rw [wn_s (by decide), f0_522]; rfl
theorem f0_524 : at1 code 524 = some (.sipush 128) := at1_of at_524 rfl (by decide)
theorem s0_524 : V0 l Z b K (q + 1) 524 ls st H cN sN = (V0 l Z b K q 527 ls (.int 128 :: st) H cN sN) := by show Wn _ _ _ _ _ _ _ _ _ _ _ _ _ _ _ (q + 1) _ _ _ _ _ _ = _; rw [wn_s (by decide), f0_524]; rfl
theorem f0_527 : at1 code 527 = some (.isub) := at1_of at_527 rfl (by decide)
theorem s0_527 : V0 l Z b K (q + 1) 527 ls st H cN sN = (popI st fun y r => popI r fun x r => V0 l Z b K q 528 ls (.int (x - y) :: r) H cN sN) := by show Wn _ _ _ _ _ _ _ _ _ _ _ _ _ _ _ (q + 1) _ _ _ _ _ _ = _; rw [wn_s (by decide), f0_527]; rfl
theorem f0_528 : at1 code 528 = some (.sipush 4096) := at1_of at_528 rfl (by decide)
theorem s0_528 : V0 l Z b K (q + 1) 528 ls st H cN sN = (V0 l Z b K q 531 ls (.int 4096 :: st) H cN sN) := by show Wn _ _ _ _ _ _ _ _ _ _ _ _ _ _ _ (q + 1) _ _ _ _ _ _ = _; rw [wn_s (by decide), f0_528]; rfl
theorem f0_531 : at1 code 531 = some (.imul) := at1_of at_531 rfl (by decide)
theorem s0_531 : V0 l Z b K (q + 1) 531 ls st H cN sN = (popI st fun y r => popI r fun x r => V0 l Z b K q 532 ls (.int (x * y) :: r) H cN sN) := by show Wn _ _ _ _ _ _ _ _ _ _ _ _ _ _ _ (q + 1) _ _ _ _ _ _ = _; rw [wn_s (by decide), f0_531]; rfl
theorem f0_532 : at1 code 532 = some (.iadd) := at1_of at_532 rfl (by decide)
theorem s0_532 : V0 l Z b K (q + 1) 532 ls st H cN sN = (popI st fun y r => popI r fun x r => V0 l Z b K q 533 ls (.int (x + y) :: r) H cN sN) := by show Wn _ _ _ _ _ _ _ _ _ _ _ _ _ _ _ (q + 1) _ _ _ _ _ _ = _; rw [wn_s (by decide), f0_532]; rfl
theorem f0_533 : at1 code 533 = some (.iload 13) := at1_of at_533 rfl (by decide)
theorem s0_533 : V0 l Z b K (q + 1) 533 ls st H cN sN = (ldI ls 13 fun v => V0 l Z b K q 535 ls (.int v :: st) H cN sN) := by show Wn _ _ _ _ _ _ _ _ _ _ _ _ _ _ _ (q + 1) _ _ _ _ _ _ = _; rw [wn_s (by decide), f0_533]; rfl
theorem f0_535 : at1 code 535 = some (.sipush 128) := at1_of at_535 rfl (by decide)
theorem s0_535 : V0 l Z b K (q + 1) 535 ls st H cN sN = (V0 l Z b K q 538 ls (.int 128 :: st) H cN sN) := by show Wn _ _ _ _ _ _ _ _ _ _ _ _ _ _ _ (q + 1) _ _ _ _ _ _ = _; rw [wn_s (by decide), f0_535]; rfl
theorem f0_538 : at1 code 538 = some (.isub) := at1_of at_538 rfl (by decide)
theorem s0_538 : V0 l Z b K (q + 1) 538 ls st H cN sN = (popI st fun y r => popI r fun x r => V0 l Z b K q 539 ls (.int (x - y) :: r) H cN sN) := by show Wn _ _ _ _ _ _ _ _ _ _ _ _ _ _ _ (q + 1) _ _ _ _ _ _ = _; rw [wn_s (by decide), f0_538]; rfl
theorem f0_539 : at1 code 539 = some (.bipush 64) := at1_of at_539 rfl (by decide)
theorem s0_539 : V0 l Z b K (q + 1) 539 ls st H cN sN = (V0 l Z b K q 541 ls (.int 64 :: st) H cN sN) := by show Wn _ _ _ _ _ _ _ _ _ _ _ _ _ _ _ (q + 1) _ _ _ _ _ _ = _; rw [wn_s (by decide), f0_539]; rfl
theorem f0_541 : at1 code 541 = some (.imul) := at1_of at_541 rfl (by decide)
theorem s0_541 : V0 l Z b K (q + 1) 541 ls st H cN sN = (popI st fun y r => popI r fun x r => V0 l Z b K q 542 ls (.int (x * y) :: r) H cN sN) := by show Wn _ _ _ _ _ _ _ _ _ _ _ _ _ _ _ (q + 1) _ _ _ _ _ _ = _; rw [wn_s (by decide), f0_541]; rfl
theorem f0_542 : at1 code 542 = some (.iadd) := at1_of at_542 rfl (by decide)
theorem s0_542 : V0 l Z b K (q + 1) 542 ls st H cN sN = (popI st fun y r => popI r fun x r => V0 l Z b K q 543 ls (.int (x + y) :: r) H cN sN) := by show Wn _ _ _ _ _ _ _ _ _ _ _ _ _ _ _ (q + 1) _ _ _ _ _ _ = _; rw [wn_s (by decide), f0_542]; rfl
theorem f0_543 : at1 code 543 = some (.iload 14) := at1_of at_543 rfl (by decide)
theorem s0_543 : V0 l Z b K (q + 1) 543 ls st H cN sN = (ldI ls 14 fun v => V0 l Z b K q 545 ls (.int v :: st) H cN sN) := by show Wn _ _ _ _ _ _ _ _ _ _ _ _ _ _ _ (q + 1) _ _ _ _ _ _ = _; rw [wn_s (by decide), f0_543]; rfl
theorem f0_545 : at1 code 545 = some (.sipush 128) := at1_of at_545 rfl (by decide)
theorem s0_545 : V0 l Z b K (q + 1) 545 ls st H cN sN = (V0 l Z b K q 548 ls (.int 128 :: st) H cN sN) := by show Wn _ _ _ _ _ _ _ _ _ _ _ _ _ _ _ (q + 1) _ _ _ _ _ _ = _; rw [wn_s (by decide), f0_545]; rfl
theorem f0_548 : at1 code 548 = some (.isub) := at1_of at_548 rfl (by decide)
theorem s0_548 : V0 l Z b K (q + 1) 548 ls st H cN sN = (popI st fun y r => popI r fun x r => V0 l Z b K q 549 ls (.int (x - y) :: r) H cN sN) := by show Wn _ _ _ _ _ _ _ _ _ _ _ _ _ _ _ (q + 1) _ _ _ _ _ _ = _; rw [wn_s (by decide), f0_548]; rfl
theorem f0_549 : at1 code 549 = some (.iadd) := at1_of at_549 rfl (by decide)
theorem s0_549 : V0 l Z b K (q + 1) 549 ls st H cN sN = (popI st fun y r => popI r fun x r => V0 l Z b K q 550 ls (.int (x + y) :: r) H cN sN) := by show Wn _ _ _ _ _ _ _ _ _ _ _ _ _ _ _ (q + 1) _ _ _ _ _ _ = _; rw [wn_s (by decide), f0_549]; rfl
theorem f0_550 : at1 code 550 = some (.iload_n 3) := at1_of at_550 rfl (by decide)
theorem s0_550 : V0 l Z b K (q + 1) 550 ls st H cN sN = (ldI ls 3 fun v => V0 l Z b K q 551 ls (.int v :: st) H cN sN) := by show Wn _ _ _ _ _ _ _ _ _ _ _ _ _ _ _ (q + 1) _ _ _ _ _ _ = _; rw [wn_s (by decide), f0_550]; rfl
theorem f0_551 : at1 code 551 = some (.if_icmp .ne 7) := at1_of at_551 rfl (by decide)
theorem s0_551 : V0 l Z b K (q + 1) 551 ls st H cN sN = (popI st fun y r => popI r fun x r => if x = y then V0 l Z b K q 554 ls r H cN sN else V0 l Z b K q 558 ls r H cN sN) := by show Wn _ _ _ _ _ _ _ _ _ _ _ _ _ _ _ (q + 1) _ _ _ _ _ _ = _; rw [wn_s (by decide), f0_551]; rfl
theorem f0_554 : at1 code 554 = some (.iconst 1) := at1_of at_554 rfl (by decide)
theorem s0_554 : V0 l Z b K (q + 1) 554 ls st H cN sN = (V0 l Z b K q 555 ls (.int 1 :: st) H cN sN) := by show Wn _ _ _ _ _ _ _ _ _ _ _ _ _ _ _ (q + 1) _ _ _ _ _ _ = _; rw [wn_s (by decide), f0_554]; rfl
theorem f0_555 : at1 code 555 = some (.goto 4) := at1_of at_555 rfl (by decide)
theorem s0_555 : V0 l Z b K (q + 1) 555 ls st H cN sN = (V0 l Z b K q 559 ls st H cN sN) := by show Wn _ _ _ _ _ _ _ _ _ _ _ _ _ _ _ (q + 1) _ _ _ _ _ _ = _; rw [wn_s (by decide), f0_555]; rfl
theorem f0_558 : at1 code 558 = some (.iconst 0) := at1_of at_558 rfl (by decide)
theorem s0_558 : V0 l Z b K (q + 1) 558 ls st H cN sN = (V0 l Z b K q 559 ls (.int 0 :: st) H cN sN) := by show Wn _ _ _ _ _ _ _ _ _ _ _ _ _ _ _ (q + 1) _ _ _ _ _ _ = _; rw [wn_s (by decide), f0_558]; rfl
theorem f0_559 : at1 code 559 = some (.ireturn) := at1_of at_559 rfl (by decide)
theorem s0_559 : V0 l Z b K (q + 1) 559 ls st H cN sN = (popI st fun x r => if cN ≤ 16 ∧ sN ≤ 128 then K (some (.int (nar .boolean x))) H else False) := by show Wn _ _ _ _ _ _ _ _ _ _ _ _ _ _ _ (q + 1) _ _ _ _ _ _ = _; rw [wn_s (by decide), f0_559]; rfl
theorem S0 : type_of% @z0 ∧ type_of% @s0_0 ∧ type_of% @s0_1 ∧ type_of% @s0_3 ∧ type_of% @s0_4 ∧ type_of% @s0_6 ∧ type_of% @s0_7 ∧ type_of% @s0_8 ∧ type_of% @s0_9 ∧ type_of% @s0_11 ∧ type_of% @s0_14 ∧ type_of% @s0_20 ∧ type_of% @s0_21 ∧ type_of% @s0_22 ∧ type_of% @s0_23 ∧ type_of% @s0_25 ∧ type_of% @s0_26 ∧ type_of% @s0_27 ∧ type_of% @s0_29 ∧ type_of% @s0_31 ∧ type_of% @s0_33 ∧ type_of% @s0_34 ∧ type_of% @s0_35 ∧ type_of% @s0_37 ∧ type_of% @s0_38 ∧ type_of% @s0_39 ∧ type_of% @s0_40 ∧ type_of% @s0_42 ∧ type_of% @s0_43 ∧ type_of% @s0_44 ∧ type_of% @s0_45 ∧ type_of% @s0_47 ∧ type_of% @s0_48 ∧ type_of% @s0_49 ∧ type_of% @s0_50 ∧ type_of% @s0_52 ∧ type_of% @s0_53 ∧ type_of% @s0_54 ∧ type_of% @s0_55 ∧ type_of% @s0_57 ∧ type_of% @s0_58 ∧ type_of% @s0_59 ∧ type_of% @s0_60 ∧ type_of% @s0_62 ∧ type_of% @s0_63 ∧ type_of% @s0_64 ∧ type_of% @s0_66 ∧ type_of% @s0_68 ∧ type_of% @s0_69 ∧ type_of% @s0_70 ∧ type_of% @s0_72 ∧ type_of% @s0_74 ∧ type_of% @s0_75 ∧ type_of% @s0_77 ∧ type_of% @s0_79 ∧ type_of% @s0_81 ∧ type_of% @s0_82 ∧ type_of% @s0_85 ∧ type_of% @s0_87 ∧ type_of% @s0_89 ∧ type_of% @s0_91 ∧ type_of% @s0_92 ∧ type_of% @s0_94 ∧ type_of% @s0_95 ∧ type_of% @s0_98 ∧ type_of% @s0_101 ∧ type_of% @s0_102 ∧ type_of% @s0_105 ∧ type_of% @s0_106 ∧ type_of% @s0_109 ∧ type_of% @s0_112 ∧ type_of% @s0_113 ∧ type_of% @s0_116 ∧ type_of% @s0_117 ∧ type_of% @s0_119 ∧ type_of% @s0_122 ∧ type_of% @s0_123 ∧ type_of% @s0_126 ∧ type_of% @s0_127 ∧ type_of% @s0_129 ∧ type_of% @s0_131 ∧ type_of% @s0_133 ∧ type_of% @s0_136 ∧ type_of% @s0_137 ∧ type_of% @s0_138 ∧ type_of% @s0_140 ∧ type_of% @s0_141 ∧ type_of% @s0_143 ∧ type_of% @s0_145 ∧ type_of% @s0_147 ∧ type_of% @s0_150 ∧ type_of% @s0_153 ∧ type_of% @s0_155 ∧ type_of% @s0_156 ∧ type_of% @s0_158 ∧ type_of% @s0_160 ∧ type_of% @s0_162 ∧ type_of% @s0_165 ∧ type_of% @s0_168 ∧ type_of% @s0_170 ∧ type_of% @s0_171 ∧ type_of% @s0_173 ∧ type_of% @s0_175 ∧ type_of% @s0_177 ∧ type_of% @s0_180 ∧ type_of% @s0_183 ∧ type_of% @s0_185 ∧ type_of% @s0_186 ∧ type_of% @s0_188 ∧ type_of% @s0_190 ∧ type_of% @s0_192 ∧ type_of% @s0_195 ∧ type_of% @s0_198 ∧ type_of% @s0_200 ∧ type_of% @s0_201 ∧ type_of% @s0_203 ∧ type_of% @s0_205 ∧ type_of% @s0_207 ∧ type_of% @s0_210 ∧ type_of% @s0_213 ∧ type_of% @s0_215 ∧ type_of% @s0_216 ∧ type_of% @s0_218 ∧ type_of% @s0_220 ∧ type_of% @s0_222 ∧ type_of% @s0_225 ∧ type_of% @s0_228 ∧ type_of% @s0_230 ∧ type_of% @s0_232 ∧ type_of% @s0_234 ∧ type_of% @s0_236 ∧ type_of% @s0_238 ∧ type_of% @s0_241 ∧ type_of% @s0_244 ∧ type_of% @s0_246 ∧ type_of% @s0_248 ∧ type_of% @s0_250 ∧ type_of% @s0_252 ∧ type_of% @s0_254 ∧ type_of% @s0_257 ∧ type_of% @s0_260 ∧ type_of% @s0_261 ∧ type_of% @s0_264 ∧ type_of% @s0_265 ∧ type_of% @s0_267 ∧ type_of% @s0_269 ∧ type_of% @s0_272 ∧ type_of% @s0_273 ∧ type_of% @s0_274 ∧ type_of% @s0_276 ∧ type_of% @s0_278 ∧ type_of% @s0_279 ∧ type_of% @s0_282 ∧ type_of% @s0_283 ∧ type_of% @s0_285 ∧ type_of% @s0_287 ∧ type_of% @s0_289 ∧ type_of% @s0_290 ∧ type_of% @s0_291 ∧ type_of% @s0_292 ∧ type_of% @s0_295 ∧ type_of% @s0_296 ∧ type_of% @s0_298 ∧ type_of% @s0_300 ∧ type_of% @s0_302 ∧ type_of% @s0_303 ∧ type_of% @s0_304 ∧ type_of% @s0_305 ∧ type_of% @s0_308 ∧ type_of% @s0_309 ∧ type_of% @s0_311 ∧ type_of% @s0_313 ∧ type_of% @s0_315 ∧ type_of% @s0_316 ∧ type_of% @s0_317 ∧ type_of% @s0_318 ∧ type_of% @s0_321 ∧ type_of% @s0_322 ∧ type_of% @s0_324 ∧ type_of% @s0_326 ∧ type_of% @s0_327 ∧ type_of% @s0_330 ∧ type_of% @s0_332 ∧ type_of% @s0_333 ∧ type_of% @s0_336 ∧ type_of% @s0_337 ∧ type_of% @s0_340 ∧ type_of% @s0_341 ∧ type_of% @s0_342 ∧ type_of% @s0_344 ∧ type_of% @s0_345 ∧ type_of% @s0_348 ∧ type_of% @s0_350 ∧ type_of% @s0_353 ∧ type_of% @s0_356 ∧ type_of% @s0_358 ∧ type_of% @s0_361 ∧ type_of% @s0_364 ∧ type_of% @s0_366 ∧ type_of% @s0_369 ∧ type_of% @s0_372 ∧ type_of% @s0_374 ∧ type_of% @s0_377 ∧ type_of% @s0_378 ∧ type_of% @s0_380 ∧ type_of% @s0_381 ∧ type_of% @s0_383 ∧ type_of% @s0_386 ∧ type_of% @s0_387 ∧ type_of% @s0_388 ∧ type_of% @s0_389 ∧ type_of% @s0_392 ∧ type_of% @s0_393 ∧ type_of% @s0_396 ∧ type_of% @s0_397 ∧ type_of% @s0_398 ∧ type_of% @s0_400 ∧ type_of% @s0_401 ∧ type_of% @s0_404 ∧ type_of% @s0_406 ∧ type_of% @s0_409 ∧ type_of% @s0_412 ∧ type_of% @s0_414 ∧ type_of% @s0_417 ∧ type_of% @s0_420 ∧ type_of% @s0_422 ∧ type_of% @s0_425 ∧ type_of% @s0_428 ∧ type_of% @s0_430 ∧ type_of% @s0_433 ∧ type_of% @s0_436 ∧ type_of% @s0_438 ∧ type_of% @s0_441 ∧ type_of% @s0_442 ∧ type_of% @s0_445 ∧ type_of% @s0_446 ∧ type_of% @s0_448 ∧ type_of% @s0_451 ∧ type_of% @s0_452 ∧ type_of% @s0_454 ∧ type_of% @s0_455 ∧ type_of% @s0_456 ∧ type_of% @s0_458 ∧ type_of% @s0_461 ∧ type_of% @s0_462 ∧ type_of% @s0_463 ∧ type_of% @s0_464 ∧ type_of% @s0_467 ∧ type_of% @s0_468 ∧ type_of% @s0_471 ∧ type_of% @s0_472 ∧ type_of% @s0_473 ∧ type_of% @s0_475 ∧ type_of% @s0_478 ∧ type_of% @s0_481 ∧ type_of% @s0_483 ∧ type_of% @s0_486 ∧ type_of% @s0_489 ∧ type_of% @s0_491 ∧ type_of% @s0_494 ∧ type_of% @s0_497 ∧ type_of% @s0_499 ∧ type_of% @s0_502 ∧ type_of% @s0_505 ∧ type_of% @s0_507 ∧ type_of% @s0_510 ∧ type_of% @s0_513 ∧ type_of% @s0_515 ∧ type_of% @s0_518 ∧ type_of% @s0_519 ∧ type_of% @s0_521 ∧ type_of% @s0_522 ∧ type_of% @s0_524 ∧ type_of% @s0_527 ∧ type_of% @s0_528 ∧ type_of% @s0_531 ∧ type_of% @s0_532 ∧ type_of% @s0_533 ∧ type_of% @s0_535 ∧ type_of% @s0_538 ∧ type_of% @s0_539 ∧ type_of% @s0_541 ∧ type_of% @s0_542 ∧ type_of% @s0_543 ∧ type_of% @s0_545 ∧ type_of% @s0_548 ∧ type_of% @s0_549 ∧ type_of% @s0_550 ∧ type_of% @s0_551 ∧ type_of% @s0_554 ∧ type_of% @s0_555 ∧ type_of% @s0_558 ∧ type_of% @s0_559 := ⟨@z0, @s0_0, @s0_1, @s0_3, @s0_4, @s0_6, @s0_7, @s0_8, @s0_9, @s0_11, @s0_14, @s0_20, @s0_21, @s0_22, @s0_23, @s0_25, @s0_26, @s0_27, @s0_29, @s0_31, @s0_33, @s0_34, @s0_35, @s0_37, @s0_38, @s0_39, @s0_40, @s0_42, @s0_43, @s0_44, @s0_45, @s0_47, @s0_48, @s0_49, @s0_50, @s0_52, @s0_53, @s0_54, @s0_55, @s0_57, @s0_58, @s0_59, @s0_60, @s0_62, @s0_63, @s0_64, @s0_66, @s0_68, @s0_69, @s0_70, @s0_72, @s0_74, @s0_75, @s0_77, @s0_79, @s0_81, @s0_82, @s0_85, @s0_87, @s0_89, @s0_91, @s0_92, @s0_94, @s0_95, @s0_98, @s0_101, @s0_102, @s0_105, @s0_106, @s0_109, @s0_112, @s0_113, @s0_116, @s0_117, @s0_119, @s0_122, @s0_123, @s0_126, @s0_127, @s0_129, @s0_131, @s0_133, @s0_136, @s0_137, @s0_138, @s0_140, @s0_141, @s0_143, @s0_145, @s0_147, @s0_150, @s0_153, @s0_155, @s0_156, @s0_158, @s0_160, @s0_162, @s0_165, @s0_168, @s0_170, @s0_171, @s0_173, @s0_175, @s0_177, @s0_180, @s0_183, @s0_185, @s0_186, @s0_188, @s0_190, @s0_192, @s0_195, @s0_198, @s0_200, @s0_201, @s0_203, @s0_205, @s0_207, @s0_210, @s0_213, @s0_215, @s0_216, @s0_218, @s0_220, @s0_222, @s0_225, @s0_228, @s0_230, @s0_232, @s0_234, @s0_236, @s0_238, @s0_241, @s0_244, @s0_246, @s0_248, @s0_250, @s0_252, @s0_254, @s0_257, @s0_260, @s0_261, @s0_264, @s0_265, @s0_267, @s0_269, @s0_272, @s0_273, @s0_274, @s0_276, @s0_278, @s0_279, @s0_282, @s0_283, @s0_285, @s0_287, @s0_289, @s0_290, @s0_291, @s0_292, @s0_295, @s0_296, @s0_298, @s0_300, @s0_302, @s0_303, @s0_304, @s0_305, @s0_308, @s0_309, @s0_311, @s0_313, @s0_315, @s0_316, @s0_317, @s0_318, @s0_321, @s0_322, @s0_324, @s0_326, @s0_327, @s0_330, @s0_332, @s0_333, @s0_336, @s0_337, @s0_340, @s0_341, @s0_342, @s0_344, @s0_345, @s0_348, @s0_350, @s0_353, @s0_356, @s0_358, @s0_361, @s0_364, @s0_366, @s0_369, @s0_372, @s0_374, @s0_377, @s0_378, @s0_380, @s0_381, @s0_383, @s0_386, @s0_387, @s0_388, @s0_389, @s0_392, @s0_393, @s0_396, @s0_397, @s0_398, @s0_400, @s0_401, @s0_404, @s0_406, @s0_409, @s0_412, @s0_414, @s0_417, @s0_420, @s0_422, @s0_425, @s0_428, @s0_430, @s0_433, @s0_436, @s0_438, @s0_441, @s0_442, @s0_445, @s0_446, @s0_448, @s0_451, @s0_452, @s0_454, @s0_455, @s0_456, @s0_458, @s0_461, @s0_462, @s0_463, @s0_464, @s0_467, @s0_468, @s0_471, @s0_472, @s0_473, @s0_475, @s0_478, @s0_481, @s0_483, @s0_486, @s0_489, @s0_491, @s0_494, @s0_497, @s0_499, @s0_502, @s0_505, @s0_507, @s0_510, @s0_513, @s0_515, @s0_518, @s0_519, @s0_521, @s0_522, @s0_524, @s0_527, @s0_528, @s0_531, @s0_532, @s0_533, @s0_535, @s0_538, @s0_539, @s0_541, @s0_542, @s0_543, @s0_545, @s0_548, @s0_549, @s0_550, @s0_551, @s0_554, @s0_555, @s0_558, @s0_559⟩
theorem ef0 (m : MethodId) (x0 : Int32) (x1 : Int32) (x2 : Int32) : entryFrame m [.int x0, .int x1, .int x2].toArray maxLocals = mkF m 0 [.val (.int x0), .val (.int x1), .val (.int x2), .unset, .unset, .unset, .unset, .unset, .unset, .unset, .unset, .unset, .unset, .unset, .unset].toArray [] := by first | (simp [entryFrame, mkF, argsToLocals, Value.category, maxLocals, List.replicate]; done) | rfl
end Body0
def R1 : Room := { frames := 0, cells := 0, slots := 0, locals := 0 }
def y1 : MethodName := ⟨"com/example/bagscope/bagscope/Utf8", "put", "([BII)I"⟩
def G1 (l : Launch) (Z : State) (b : Heap) (K : Option Value → List Cel → Prop) : Cont := G prog_60_method_10_code "com/example/bagscope/bagscope/Utf8" "put" 3 (some .int) R1 tables_1 l Z b 0 0 K
def V1 (l : Launch) (Z : State) (b : Heap) (K : Option Value → List Cel → Prop) : Nat → Cont := Wn [] prog_60_method_10_code [(40, 65536)] [] [] [] [] [] (some .int) R1 b.size 0 0 K (G1 l Z b K)
section Body1
variable {l : Launch} {Z : State} {b : Heap} {K : Option Value → List Cel → Prop} {q : Nat} {ls : List Slot} {st : List Value} {H : List Cel} {cN sN : Nat}
theorem r1 (q : Nat) {pc : Nat} (h : V1 l Z b K q pc ls st H cN sN) : G1 l Z b K pc ls st H cN sN := G.run q (by intro x hx; simp only [List.mem_cons, List.not_mem_nil, or_false] at hx; rcases hx with rfl <;> first | exact List.mem_of_getElem? (i := 15) rfl) (by intro x hx; cases hx) (by intro x hx; cases hx) (by intro x hx; cases hx) (by intro x hx; cases hx) (by intro x hx; cases hx) h
theorem z1 {pc : Nat} : V1 l Z b K 0 pc ls st H cN sN = G1 l Z b K pc ls st H cN sN := propext Iff.rfl
theorem f1_0 : at1 prog_60_method_10_code 0 = some (.iload_n 2) := by decide +kernel
theorem s1_0 : V1 l Z b K (q + 1) 0 ls st H cN sN = (ldI ls 2 fun v => V1 l Z b K q 1 ls (.int v :: st) H cN sN) := by show Wn _ _ _ _ _ _ _ _ _ _ _ _ _ _ _ (q + 1) _ _ _ _ _ _ = _; rw [wn_s (by decide), f1_0]; rfl
theorem f1_1 : at1 prog_60_method_10_code 1 = some (.sipush 128) := by decide +kernel
theorem s1_1 : V1 l Z b K (q + 1) 1 ls st H cN sN = (V1 l Z b K q 4 ls (.int 128 :: st) H cN sN) := by show Wn _ _ _ _ _ _ _ _ _ _ _ _ _ _ _ (q + 1) _ _ _ _ _ _ = _; rw [wn_s (by decide), f1_1]; rfl
theorem f1_4 : at1 prog_60_method_10_code 4 = some (.if_icmp .ge 14) := by decide +kernel
theorem s1_4 : V1 l Z b K (q + 1) 4 ls st H cN sN = (popI st fun y r => popI r fun x r => if x < y then V1 l Z b K q 7 ls r H cN sN else V1 l Z b K q 18 ls r H cN sN) := by show Wn _ _ _ _ _ _ _ _ _ _ _ _ _ _ _ (q + 1) _ _ _ _ _ _ = _; rw [wn_s (by decide), f1_4]; rfl
theorem f1_7 : at1 prog_60_method_10_code 7 = some (.aload_n 0) := by decide +kernel
theorem s1_7 : V1 l Z b K (q + 1) 7 ls st H cN sN = (ldA ls 0 fun v => V1 l Z b K q 8 ls (v :: st) H cN sN) := by show Wn _ _ _ _ _ _ _ _ _ _ _ _ _ _ _ (q + 1) _ _ _ _ _ _ = _; rw [wn_s (by decide), f1_7]; rfl
theorem f1_8 : at1 prog_60_method_10_code 8 = some (.iload_n 1) := by decide +kernel
theorem s1_8 : V1 l Z b K (q + 1) 8 ls st H cN sN = (ldI ls 1 fun v => V1 l Z b K q 9 ls (.int v :: st) H cN sN) := by show Wn _ _ _ _ _ _ _ _ _ _ _ _ _ _ _ (q + 1) _ _ _ _ _ _ = _; rw [wn_s (by decide), f1_8]; rfl
theorem f1_9 : at1 prog_60_method_10_code 9 = some (.iinc 1 1) := by decide +kernel
theorem s1_9 : V1 l Z b K (q + 1) 9 ls st H cN sN = (ldI ls 1 fun v => setL ls 1 (.val (.int (v + 1))) fun l' => V1 l Z b K q 12 l' st H cN sN) := by show Wn _ _ _ _ _ _ _ _ _ _ _ _ _ _ _ (q + 1) _ _ _ _ _ _ = _; rw [wn_s (by decide), f1_9]; rfl
theorem f1_12 : at1 prog_60_method_10_code 12 = some (.iload_n 2) := by decide +kernel
theorem s1_12 : V1 l Z b K (q + 1) 12 ls st H cN sN = (ldI ls 2 fun v => V1 l Z b K q 13 ls (.int v :: st) H cN sN) := by show Wn _ _ _ _ _ _ _ _ _ _ _ _ _ _ _ (q + 1) _ _ _ _ _ _ = _; rw [wn_s (by decide), f1_12]; rfl
theorem f1_13 : at1 prog_60_method_10_code 13 = some (.i2b) := by decide +kernel
theorem s1_13 : V1 l Z b K (q + 1) 13 ls st H cN sN = (popI st fun x r => V1 l Z b K q 14 ls (.int (nar .byte x) :: r) H cN sN) := by show Wn _ _ _ _ _ _ _ _ _ _ _ _ _ _ _ (q + 1) _ _ _ _ _ _ = _; rw [wn_s (by decide), f1_13]; rfl
theorem f1_14 : at1 prog_60_method_10_code 14 = some (.bastore) := by decide +kernel
theorem s1_14 : V1 l Z b K (q + 1) 14 ls st H cN sN = (popI st fun x r => popI r fun j r => popR r fun a r => arr H b.size a fun i ty vs => if ty = .byte then idx vs j fun _ => setN vs j.toNatClampNeg (.int (nar .byte x)) fun vs' => setH H i (.inl (.byte, vs')) fun H' => V1 l Z b K q 15 ls r H' cN sN else False) := by show Wn _ _ _ _ _ _ _ _ _ _ _ _ _ _ _ (q + 1) _ _ _ _ _ _ = _; rw [wn_s (by decide), f1_14]; rfl
theorem f1_15 : at1 prog_60_method_10_code 15 = some (.goto 166) := by decide +kernel
theorem s1_15 : V1 l Z b K (q + 1) 15 ls st H cN sN = (V1 l Z b K q 181 ls st H cN sN) := by show Wn _ _ _ _ _ _ _ _ _ _ _ _ _ _ _ (q + 1) _ _ _ _ _ _ = _; rw [wn_s (by decide), f1_15]; rfl
theorem f1_18 : at1 prog_60_method_10_code 18 = some (.iload_n 2) := by decide +kernel
theorem s1_18 : V1 l Z b K (q + 1) 18 ls st H cN sN = (ldI ls 2 fun v => V1 l Z b K q 19 ls (.int v :: st) H cN sN) := by show Wn _ _ _ _ _ _ _ _ _ _ _ _ _ _ _ (q + 1) _ _ _ _ _ _ = _; rw [wn_s (by decide), f1_18]; rfl
theorem f1_19 : at1 prog_60_method_10_code 19 = some (.sipush 2048) := by decide +kernel
theorem s1_19 : V1 l Z b K (q + 1) 19 ls st H cN sN = (V1 l Z b K q 22 ls (.int 2048 :: st) H cN sN) := by show Wn _ _ _ _ _ _ _ _ _ _ _ _ _ _ _ (q + 1) _ _ _ _ _ _ = _; rw [wn_s (by decide), f1_19]; rfl
theorem f1_22 : at1 prog_60_method_10_code 22 = some (.if_icmp .ge 36) := by decide +kernel
theorem s1_22 : V1 l Z b K (q + 1) 22 ls st H cN sN = (popI st fun y r => popI r fun x r => if x < y then V1 l Z b K q 25 ls r H cN sN else V1 l Z b K q 58 ls r H cN sN) := by show Wn _ _ _ _ _ _ _ _ _ _ _ _ _ _ _ (q + 1) _ _ _ _ _ _ = _; rw [wn_s (by decide), f1_22]; rfl
theorem f1_25 : at1 prog_60_method_10_code 25 = some (.aload_n 0) := by decide +kernel
theorem s1_25 : V1 l Z b K (q + 1) 25 ls st H cN sN = (ldA ls 0 fun v => V1 l Z b K q 26 ls (v :: st) H cN sN) := by show Wn _ _ _ _ _ _ _ _ _ _ _ _ _ _ _ (q + 1) _ _ _ _ _ _ = _; rw [wn_s (by decide), f1_25]; rfl
theorem f1_26 : at1 prog_60_method_10_code 26 = some (.iload_n 1) := by decide +kernel
theorem s1_26 : V1 l Z b K (q + 1) 26 ls st H cN sN = (ldI ls 1 fun v => V1 l Z b K q 27 ls (.int v :: st) H cN sN) := by show Wn _ _ _ _ _ _ _ _ _ _ _ _ _ _ _ (q + 1) _ _ _ _ _ _ = _; rw [wn_s (by decide), f1_26]; rfl
theorem f1_27 : at1 prog_60_method_10_code 27 = some (.iinc 1 1) := by decide +kernel
theorem s1_27 : V1 l Z b K (q + 1) 27 ls st H cN sN = (ldI ls 1 fun v => setL ls 1 (.val (.int (v + 1))) fun l' => V1 l Z b K q 30 l' st H cN sN) := by show Wn _ _ _ _ _ _ _ _ _ _ _ _ _ _ _ (q + 1) _ _ _ _ _ _ = _; rw [wn_s (by decide), f1_27]; rfl
theorem f1_30 : at1 prog_60_method_10_code 30 = some (.sipush 192) := by decide +kernel
theorem s1_30 : V1 l Z b K (q + 1) 30 ls st H cN sN = (V1 l Z b K q 33 ls (.int 192 :: st) H cN sN) := by show Wn _ _ _ _ _ _ _ _ _ _ _ _ _ _ _ (q + 1) _ _ _ _ _ _ = _; rw [wn_s (by decide), f1_30]; rfl
theorem f1_33 : at1 prog_60_method_10_code 33 = some (.iload_n 2) := by decide +kernel
theorem s1_33 : V1 l Z b K (q + 1) 33 ls st H cN sN = (ldI ls 2 fun v => V1 l Z b K q 34 ls (.int v :: st) H cN sN) := by show Wn _ _ _ _ _ _ _ _ _ _ _ _ _ _ _ (q + 1) _ _ _ _ _ _ = _; rw [wn_s (by decide), f1_33]; rfl
theorem f1_34 : at1 prog_60_method_10_code 34 = some (.bipush 6) := by decide +kernel
theorem s1_34 : V1 l Z b K (q + 1) 34 ls st H cN sN = (V1 l Z b K q 36 ls (.int 6 :: st) H cN sN) := by show Wn _ _ _ _ _ _ _ _ _ _ _ _ _ _ _ (q + 1) _ _ _ _ _ _ = _; rw [wn_s (by decide), f1_34]; rfl
theorem f1_36 : at1 prog_60_method_10_code 36 = some (.ishr) := by decide +kernel
theorem s1_36 : V1 l Z b K (q + 1) 36 ls st H cN sN = (popI st fun y r => popI r fun x r => V1 l Z b K q 37 ls (.int (x >>> (y &&& 31)) :: r) H cN sN) := by show Wn _ _ _ _ _ _ _ _ _ _ _ _ _ _ _ (q + 1) _ _ _ _ _ _ = _; rw [wn_s (by decide), f1_36]; rfl
theorem f1_37 : at1 prog_60_method_10_code 37 = some (.ior) := by decide +kernel
theorem s1_37 : V1 l Z b K (q + 1) 37 ls st H cN sN = (popI st fun y r => popI r fun x r => V1 l Z b K q 38 ls (.int (x ||| y) :: r) H cN sN) := by show Wn _ _ _ _ _ _ _ _ _ _ _ _ _ _ _ (q + 1) _ _ _ _ _ _ = _; rw [wn_s (by decide), f1_37]; rfl
theorem f1_38 : at1 prog_60_method_10_code 38 = some (.i2b) := by decide +kernel
theorem s1_38 : V1 l Z b K (q + 1) 38 ls st H cN sN = (popI st fun x r => V1 l Z b K q 39 ls (.int (nar .byte x) :: r) H cN sN) := by show Wn _ _ _ _ _ _ _ _ _ _ _ _ _ _ _ (q + 1) _ _ _ _ _ _ = _; rw [wn_s (by decide), f1_38]; rfl
theorem f1_39 : at1 prog_60_method_10_code 39 = some (.bastore) := by decide +kernel
theorem s1_39 : V1 l Z b K (q + 1) 39 ls st H cN sN = (popI st fun x r => popI r fun j r => popR r fun a r => arr H b.size a fun i ty vs => if ty = .byte then idx vs j fun _ => setN vs j.toNatClampNeg (.int (nar .byte x)) fun vs' => setH H i (.inl (.byte, vs')) fun H' => V1 l Z b K q 40 ls r H' cN sN else False) := by show Wn _ _ _ _ _ _ _ _ _ _ _ _ _ _ _ (q + 1) _ _ _ _ _ _ = _; rw [wn_s (by decide), f1_39]; rfl
theorem f1_40 : at1 prog_60_method_10_code 40 = some (.aload_n 0) := by decide +kernel
theorem s1_40 : V1 l Z b K (q + 1) 40 ls st H cN sN = (ldA ls 0 fun v => V1 l Z b K q 41 ls (v :: st) H cN sN) := by show Wn _ _ _ _ _ _ _ _ _ _ _ _ _ _ _ (q + 1) _ _ _ _ _ _ = _; rw [wn_s (by decide), f1_40]; rfl
theorem f1_41 : at1 prog_60_method_10_code 41 = some (.iload_n 1) := by decide +kernel
theorem s1_41 : V1 l Z b K (q + 1) 41 ls st H cN sN = (ldI ls 1 fun v => V1 l Z b K q 42 ls (.int v :: st) H cN sN) := by show Wn _ _ _ _ _ _ _ _ _ _ _ _ _ _ _ (q + 1) _ _ _ _ _ _ = _; rw [wn_s (by decide), f1_41]; rfl
theorem f1_42 : at1 prog_60_method_10_code 42 = some (.iinc 1 1) := by decide +kernel
theorem s1_42 : V1 l Z b K (q + 1) 42 ls st H cN sN = (ldI ls 1 fun v => setL ls 1 (.val (.int (v + 1))) fun l' => V1 l Z b K q 45 l' st H cN sN) := by show Wn _ _ _ _ _ _ _ _ _ _ _ _ _ _ _ (q + 1) _ _ _ _ _ _ = _; rw [wn_s (by decide), f1_42]; rfl
theorem f1_45 : at1 prog_60_method_10_code 45 = some (.sipush 128) := by decide +kernel
theorem s1_45 : V1 l Z b K (q + 1) 45 ls st H cN sN = (V1 l Z b K q 48 ls (.int 128 :: st) H cN sN) := by show Wn _ _ _ _ _ _ _ _ _ _ _ _ _ _ _ (q + 1) _ _ _ _ _ _ = _; rw [wn_s (by decide), f1_45]; rfl
theorem f1_48 : at1 prog_60_method_10_code 48 = some (.iload_n 2) := by decide +kernel
theorem s1_48 : V1 l Z b K (q + 1) 48 ls st H cN sN = (ldI ls 2 fun v => V1 l Z b K q 49 ls (.int v :: st) H cN sN) := by show Wn _ _ _ _ _ _ _ _ _ _ _ _ _ _ _ (q + 1) _ _ _ _ _ _ = _; rw [wn_s (by decide), f1_48]; rfl
theorem f1_49 : at1 prog_60_method_10_code 49 = some (.bipush 63) := by decide +kernel
theorem s1_49 : V1 l Z b K (q + 1) 49 ls st H cN sN = (V1 l Z b K q 51 ls (.int 63 :: st) H cN sN) := by show Wn _ _ _ _ _ _ _ _ _ _ _ _ _ _ _ (q + 1) _ _ _ _ _ _ = _; rw [wn_s (by decide), f1_49]; rfl
theorem f1_51 : at1 prog_60_method_10_code 51 = some (.iand) := by decide +kernel
theorem s1_51 : V1 l Z b K (q + 1) 51 ls st H cN sN = (popI st fun y r => popI r fun x r => V1 l Z b K q 52 ls (.int (x &&& y) :: r) H cN sN) := by show Wn _ _ _ _ _ _ _ _ _ _ _ _ _ _ _ (q + 1) _ _ _ _ _ _ = _; rw [wn_s (by decide), f1_51]; rfl
theorem f1_52 : at1 prog_60_method_10_code 52 = some (.ior) := by decide +kernel
theorem s1_52 : V1 l Z b K (q + 1) 52 ls st H cN sN = (popI st fun y r => popI r fun x r => V1 l Z b K q 53 ls (.int (x ||| y) :: r) H cN sN) := by show Wn _ _ _ _ _ _ _ _ _ _ _ _ _ _ _ (q + 1) _ _ _ _ _ _ = _; rw [wn_s (by decide), f1_52]; rfl
theorem f1_53 : at1 prog_60_method_10_code 53 = some (.i2b) := by decide +kernel
theorem s1_53 : V1 l Z b K (q + 1) 53 ls st H cN sN = (popI st fun x r => V1 l Z b K q 54 ls (.int (nar .byte x) :: r) H cN sN) := by show Wn _ _ _ _ _ _ _ _ _ _ _ _ _ _ _ (q + 1) _ _ _ _ _ _ = _; rw [wn_s (by decide), f1_53]; rfl
theorem f1_54 : at1 prog_60_method_10_code 54 = some (.bastore) := by decide +kernel
theorem s1_54 : V1 l Z b K (q + 1) 54 ls st H cN sN = (popI st fun x r => popI r fun j r => popR r fun a r => arr H b.size a fun i ty vs => if ty = .byte then idx vs j fun _ => setN vs j.toNatClampNeg (.int (nar .byte x)) fun vs' => setH H i (.inl (.byte, vs')) fun H' => V1 l Z b K q 55 ls r H' cN sN else False) := by show Wn _ _ _ _ _ _ _ _ _ _ _ _ _ _ _ (q + 1) _ _ _ _ _ _ = _; rw [wn_s (by decide), f1_54]; rfl
theorem f1_55 : at1 prog_60_method_10_code 55 = some (.goto 126) := by decide +kernel
theorem s1_55 : V1 l Z b K (q + 1) 55 ls st H cN sN = (V1 l Z b K q 181 ls st H cN sN) := by show Wn _ _ _ _ _ _ _ _ _ _ _ _ _ _ _ (q + 1) _ _ _ _ _ _ = _; rw [wn_s (by decide), f1_55]; rfl
theorem f1_58 : at1 prog_60_method_10_code 58 = some (.iload_n 2) := by decide +kernel
theorem s1_58 : V1 l Z b K (q + 1) 58 ls st H cN sN = (ldI ls 2 fun v => V1 l Z b K q 59 ls (.int v :: st) H cN sN) := by show Wn _ _ _ _ _ _ _ _ _ _ _ _ _ _ _ (q + 1) _ _ _ _ _ _ = _; rw [wn_s (by decide), f1_58]; rfl
theorem f1_59 : at1 prog_60_method_10_code 59 = some (.ldc 40) := by decide +kernel
theorem s1_59 : V1 l Z b K (q + 1) 59 ls st H cN sN = (V1 l Z b K q 61 ls (.int 65536 :: st) H cN sN) := by show Wn _ _ _ _ _ _ _ _ _ _ _ _ _ _ _ (q + 1) _ _ _ _ _ _ = _; rw [wn_s (by decide), f1_59]; rfl
theorem f1_61 : at1 prog_60_method_10_code 61 = some (.if_icmp .ge 54) := by decide +kernel
theorem s1_61 : V1 l Z b K (q + 1) 61 ls st H cN sN = (popI st fun y r => popI r fun x r => if x < y then V1 l Z b K q 64 ls r H cN sN else V1 l Z b K q 115 ls r H cN sN) := by show Wn _ _ _ _ _ _ _ _ _ _ _ _ _ _ _ (q + 1) _ _ _ _ _ _ = _; rw [wn_s (by decide), f1_61]; rfl
theorem f1_64 : at1 prog_60_method_10_code 64 = some (.aload_n 0) := by decide +kernel
theorem s1_64 : V1 l Z b K (q + 1) 64 ls st H cN sN = (ldA ls 0 fun v => V1 l Z b K q 65 ls (v :: st) H cN sN) := by show Wn _ _ _ _ _ _ _ _ _ _ _ _ _ _ _ (q + 1) _ _ _ _ _ _ = _; rw [wn_s (by decide), f1_64]; rfl
theorem f1_65 : at1 prog_60_method_10_code 65 = some (.iload_n 1) := by decide +kernel
theorem s1_65 : V1 l Z b K (q + 1) 65 ls st H cN sN = (ldI ls 1 fun v => V1 l Z b K q 66 ls (.int v :: st) H cN sN) := by show Wn _ _ _ _ _ _ _ _ _ _ _ _ _ _ _ (q + 1) _ _ _ _ _ _ = _; rw [wn_s (by decide), f1_65]; rfl
theorem f1_66 : at1 prog_60_method_10_code 66 = some (.iinc 1 1) := by decide +kernel
theorem s1_66 : V1 l Z b K (q + 1) 66 ls st H cN sN = (ldI ls 1 fun v => setL ls 1 (.val (.int (v + 1))) fun l' => V1 l Z b K q 69 l' st H cN sN) := by show Wn _ _ _ _ _ _ _ _ _ _ _ _ _ _ _ (q + 1) _ _ _ _ _ _ = _; rw [wn_s (by decide), f1_66]; rfl
theorem f1_69 : at1 prog_60_method_10_code 69 = some (.sipush 224) := by decide +kernel
theorem s1_69 : V1 l Z b K (q + 1) 69 ls st H cN sN = (V1 l Z b K q 72 ls (.int 224 :: st) H cN sN) := by show Wn _ _ _ _ _ _ _ _ _ _ _ _ _ _ _ (q + 1) _ _ _ _ _ _ = _; rw [wn_s (by decide), f1_69]; rfl
theorem f1_72 : at1 prog_60_method_10_code 72 = some (.iload_n 2) := by decide +kernel
theorem s1_72 : V1 l Z b K (q + 1) 72 ls st H cN sN = (ldI ls 2 fun v => V1 l Z b K q 73 ls (.int v :: st) H cN sN) := by show Wn _ _ _ _ _ _ _ _ _ _ _ _ _ _ _ (q + 1) _ _ _ _ _ _ = _; rw [wn_s (by decide), f1_72]; rfl
theorem f1_73 : at1 prog_60_method_10_code 73 = some (.bipush 12) := by decide +kernel
theorem s1_73 : V1 l Z b K (q + 1) 73 ls st H cN sN = (V1 l Z b K q 75 ls (.int 12 :: st) H cN sN) := by show Wn _ _ _ _ _ _ _ _ _ _ _ _ _ _ _ (q + 1) _ _ _ _ _ _ = _; rw [wn_s (by decide), f1_73]; rfl
theorem f1_75 : at1 prog_60_method_10_code 75 = some (.ishr) := by decide +kernel
theorem s1_75 : V1 l Z b K (q + 1) 75 ls st H cN sN = (popI st fun y r => popI r fun x r => V1 l Z b K q 76 ls (.int (x >>> (y &&& 31)) :: r) H cN sN) := by show Wn _ _ _ _ _ _ _ _ _ _ _ _ _ _ _ (q + 1) _ _ _ _ _ _ = _; rw [wn_s (by decide), f1_75]; rfl
theorem f1_76 : at1 prog_60_method_10_code 76 = some (.ior) := by decide +kernel
theorem s1_76 : V1 l Z b K (q + 1) 76 ls st H cN sN = (popI st fun y r => popI r fun x r => V1 l Z b K q 77 ls (.int (x ||| y) :: r) H cN sN) := by show Wn _ _ _ _ _ _ _ _ _ _ _ _ _ _ _ (q + 1) _ _ _ _ _ _ = _; rw [wn_s (by decide), f1_76]; rfl
theorem f1_77 : at1 prog_60_method_10_code 77 = some (.i2b) := by decide +kernel
theorem s1_77 : V1 l Z b K (q + 1) 77 ls st H cN sN = (popI st fun x r => V1 l Z b K q 78 ls (.int (nar .byte x) :: r) H cN sN) := by show Wn _ _ _ _ _ _ _ _ _ _ _ _ _ _ _ (q + 1) _ _ _ _ _ _ = _; rw [wn_s (by decide), f1_77]; rfl
theorem f1_78 : at1 prog_60_method_10_code 78 = some (.bastore) := by decide +kernel
theorem s1_78 : V1 l Z b K (q + 1) 78 ls st H cN sN = (popI st fun x r => popI r fun j r => popR r fun a r => arr H b.size a fun i ty vs => if ty = .byte then idx vs j fun _ => setN vs j.toNatClampNeg (.int (nar .byte x)) fun vs' => setH H i (.inl (.byte, vs')) fun H' => V1 l Z b K q 79 ls r H' cN sN else False) := by show Wn _ _ _ _ _ _ _ _ _ _ _ _ _ _ _ (q + 1) _ _ _ _ _ _ = _; rw [wn_s (by decide), f1_78]; rfl
theorem f1_79 : at1 prog_60_method_10_code 79 = some (.aload_n 0) := by decide +kernel
theorem s1_79 : V1 l Z b K (q + 1) 79 ls st H cN sN = (ldA ls 0 fun v => V1 l Z b K q 80 ls (v :: st) H cN sN) := by show Wn _ _ _ _ _ _ _ _ _ _ _ _ _ _ _ (q + 1) _ _ _ _ _ _ = _; rw [wn_s (by decide), f1_79]; rfl
theorem f1_80 : at1 prog_60_method_10_code 80 = some (.iload_n 1) := by decide +kernel
theorem s1_80 : V1 l Z b K (q + 1) 80 ls st H cN sN = (ldI ls 1 fun v => V1 l Z b K q 81 ls (.int v :: st) H cN sN) := by show Wn _ _ _ _ _ _ _ _ _ _ _ _ _ _ _ (q + 1) _ _ _ _ _ _ = _; rw [wn_s (by decide), f1_80]; rfl
theorem f1_81 : at1 prog_60_method_10_code 81 = some (.iinc 1 1) := by decide +kernel
theorem s1_81 : V1 l Z b K (q + 1) 81 ls st H cN sN = (ldI ls 1 fun v => setL ls 1 (.val (.int (v + 1))) fun l' => V1 l Z b K q 84 l' st H cN sN) := by show Wn _ _ _ _ _ _ _ _ _ _ _ _ _ _ _ (q + 1) _ _ _ _ _ _ = _; rw [wn_s (by decide), f1_81]; rfl
theorem f1_84 : at1 prog_60_method_10_code 84 = some (.sipush 128) := by decide +kernel
theorem s1_84 : V1 l Z b K (q + 1) 84 ls st H cN sN = (V1 l Z b K q 87 ls (.int 128 :: st) H cN sN) := by show Wn _ _ _ _ _ _ _ _ _ _ _ _ _ _ _ (q + 1) _ _ _ _ _ _ = _; rw [wn_s (by decide), f1_84]; rfl
theorem f1_87 : at1 prog_60_method_10_code 87 = some (.iload_n 2) := by decide +kernel
theorem s1_87 : V1 l Z b K (q + 1) 87 ls st H cN sN = (ldI ls 2 fun v => V1 l Z b K q 88 ls (.int v :: st) H cN sN) := by show Wn _ _ _ _ _ _ _ _ _ _ _ _ _ _ _ (q + 1) _ _ _ _ _ _ = _; rw [wn_s (by decide), f1_87]; rfl
theorem f1_88 : at1 prog_60_method_10_code 88 = some (.bipush 6) := by decide +kernel
theorem s1_88 : V1 l Z b K (q + 1) 88 ls st H cN sN = (V1 l Z b K q 90 ls (.int 6 :: st) H cN sN) := by show Wn _ _ _ _ _ _ _ _ _ _ _ _ _ _ _ (q + 1) _ _ _ _ _ _ = _; rw [wn_s (by decide), f1_88]; rfl
theorem f1_90 : at1 prog_60_method_10_code 90 = some (.ishr) := by decide +kernel
theorem s1_90 : V1 l Z b K (q + 1) 90 ls st H cN sN = (popI st fun y r => popI r fun x r => V1 l Z b K q 91 ls (.int (x >>> (y &&& 31)) :: r) H cN sN) := by show Wn _ _ _ _ _ _ _ _ _ _ _ _ _ _ _ (q + 1) _ _ _ _ _ _ = _; rw [wn_s (by decide), f1_90]; rfl
theorem f1_91 : at1 prog_60_method_10_code 91 = some (.bipush 63) := by decide +kernel
theorem s1_91 : V1 l Z b K (q + 1) 91 ls st H cN sN = (V1 l Z b K q 93 ls (.int 63 :: st) H cN sN) := by show Wn _ _ _ _ _ _ _ _ _ _ _ _ _ _ _ (q + 1) _ _ _ _ _ _ = _; rw [wn_s (by decide), f1_91]; rfl
theorem f1_93 : at1 prog_60_method_10_code 93 = some (.iand) := by decide +kernel
theorem s1_93 : V1 l Z b K (q + 1) 93 ls st H cN sN = (popI st fun y r => popI r fun x r => V1 l Z b K q 94 ls (.int (x &&& y) :: r) H cN sN) := by show Wn _ _ _ _ _ _ _ _ _ _ _ _ _ _ _ (q + 1) _ _ _ _ _ _ = _; rw [wn_s (by decide), f1_93]; rfl
theorem f1_94 : at1 prog_60_method_10_code 94 = some (.ior) := by decide +kernel
theorem s1_94 : V1 l Z b K (q + 1) 94 ls st H cN sN = (popI st fun y r => popI r fun x r => V1 l Z b K q 95 ls (.int (x ||| y) :: r) H cN sN) := by show Wn _ _ _ _ _ _ _ _ _ _ _ _ _ _ _ (q + 1) _ _ _ _ _ _ = _; rw [wn_s (by decide), f1_94]; rfl
theorem f1_95 : at1 prog_60_method_10_code 95 = some (.i2b) := by decide +kernel
theorem s1_95 : V1 l Z b K (q + 1) 95 ls st H cN sN = (popI st fun x r => V1 l Z b K q 96 ls (.int (nar .byte x) :: r) H cN sN) := by show Wn _ _ _ _ _ _ _ _ _ _ _ _ _ _ _ (q + 1) _ _ _ _ _ _ = _; rw [wn_s (by decide), f1_95]; rfl
theorem f1_96 : at1 prog_60_method_10_code 96 = some (.bastore) := by decide +kernel
theorem s1_96 : V1 l Z b K (q + 1) 96 ls st H cN sN = (popI st fun x r => popI r fun j r => popR r fun a r => arr H b.size a fun i ty vs => if ty = .byte then idx vs j fun _ => setN vs j.toNatClampNeg (.int (nar .byte x)) fun vs' => setH H i (.inl (.byte, vs')) fun H' => V1 l Z b K q 97 ls r H' cN sN else False) := by show Wn _ _ _ _ _ _ _ _ _ _ _ _ _ _ _ (q + 1) _ _ _ _ _ _ = _; rw [wn_s (by decide), f1_96]; rfl
theorem f1_97 : at1 prog_60_method_10_code 97 = some (.aload_n 0) := by decide +kernel
theorem s1_97 : V1 l Z b K (q + 1) 97 ls st H cN sN = (ldA ls 0 fun v => V1 l Z b K q 98 ls (v :: st) H cN sN) := by show Wn _ _ _ _ _ _ _ _ _ _ _ _ _ _ _ (q + 1) _ _ _ _ _ _ = _; rw [wn_s (by decide), f1_97]; rfl
theorem f1_98 : at1 prog_60_method_10_code 98 = some (.iload_n 1) := by decide +kernel
theorem s1_98 : V1 l Z b K (q + 1) 98 ls st H cN sN = (ldI ls 1 fun v => V1 l Z b K q 99 ls (.int v :: st) H cN sN) := by show Wn _ _ _ _ _ _ _ _ _ _ _ _ _ _ _ (q + 1) _ _ _ _ _ _ = _; rw [wn_s (by decide), f1_98]; rfl
theorem f1_99 : at1 prog_60_method_10_code 99 = some (.iinc 1 1) := by decide +kernel
theorem s1_99 : V1 l Z b K (q + 1) 99 ls st H cN sN = (ldI ls 1 fun v => setL ls 1 (.val (.int (v + 1))) fun l' => V1 l Z b K q 102 l' st H cN sN) := by show Wn _ _ _ _ _ _ _ _ _ _ _ _ _ _ _ (q + 1) _ _ _ _ _ _ = _; rw [wn_s (by decide), f1_99]; rfl
theorem f1_102 : at1 prog_60_method_10_code 102 = some (.sipush 128) := by decide +kernel
theorem s1_102 : V1 l Z b K (q + 1) 102 ls st H cN sN = (V1 l Z b K q 105 ls (.int 128 :: st) H cN sN) := by show Wn _ _ _ _ _ _ _ _ _ _ _ _ _ _ _ (q + 1) _ _ _ _ _ _ = _; rw [wn_s (by decide), f1_102]; rfl
theorem f1_105 : at1 prog_60_method_10_code 105 = some (.iload_n 2) := by decide +kernel
theorem s1_105 : V1 l Z b K (q + 1) 105 ls st H cN sN = (ldI ls 2 fun v => V1 l Z b K q 106 ls (.int v :: st) H cN sN) := by show Wn _ _ _ _ _ _ _ _ _ _ _ _ _ _ _ (q + 1) _ _ _ _ _ _ = _; rw [wn_s (by decide), f1_105]; rfl
theorem f1_106 : at1 prog_60_method_10_code 106 = some (.bipush 63) := by decide +kernel
theorem s1_106 : V1 l Z b K (q + 1) 106 ls st H cN sN = (V1 l Z b K q 108 ls (.int 63 :: st) H cN sN) := by show Wn _ _ _ _ _ _ _ _ _ _ _ _ _ _ _ (q + 1) _ _ _ _ _ _ = _; rw [wn_s (by decide), f1_106]; rfl
theorem f1_108 : at1 prog_60_method_10_code 108 = some (.iand) := by decide +kernel
theorem s1_108 : V1 l Z b K (q + 1) 108 ls st H cN sN = (popI st fun y r => popI r fun x r => V1 l Z b K q 109 ls (.int (x &&& y) :: r) H cN sN) := by show Wn _ _ _ _ _ _ _ _ _ _ _ _ _ _ _ (q + 1) _ _ _ _ _ _ = _; rw [wn_s (by decide), f1_108]; rfl
theorem f1_109 : at1 prog_60_method_10_code 109 = some (.ior) := by decide +kernel
theorem s1_109 : V1 l Z b K (q + 1) 109 ls st H cN sN = (popI st fun y r => popI r fun x r => V1 l Z b K q 110 ls (.int (x ||| y) :: r) H cN sN) := by show Wn _ _ _ _ _ _ _ _ _ _ _ _ _ _ _ (q + 1) _ _ _ _ _ _ = _; rw [wn_s (by decide), f1_109]; rfl
theorem f1_110 : at1 prog_60_method_10_code 110 = some (.i2b) := by decide +kernel
theorem s1_110 : V1 l Z b K (q + 1) 110 ls st H cN sN = (popI st fun x r => V1 l Z b K q 111 ls (.int (nar .byte x) :: r) H cN sN) := by show Wn _ _ _ _ _ _ _ _ _ _ _ _ _ _ _ (q + 1) _ _ _ _ _ _ = _; rw [wn_s (by decide), f1_110]; rfl
theorem f1_111 : at1 prog_60_method_10_code 111 = some (.bastore) := by decide +kernel
theorem s1_111 : V1 l Z b K (q + 1) 111 ls st H cN sN = (popI st fun x r => popI r fun j r => popR r fun a r => arr H b.size a fun i ty vs => if ty = .byte then idx vs j fun _ => setN vs j.toNatClampNeg (.int (nar .byte x)) fun vs' => setH H i (.inl (.byte, vs')) fun H' => V1 l Z b K q 112 ls r H' cN sN else False) := by show Wn _ _ _ _ _ _ _ _ _ _ _ _ _ _ _ (q + 1) _ _ _ _ _ _ = _; rw [wn_s (by decide), f1_111]; rfl
theorem f1_112 : at1 prog_60_method_10_code 112 = some (.goto 69) := by decide +kernel
theorem s1_112 : V1 l Z b K (q + 1) 112 ls st H cN sN = (V1 l Z b K q 181 ls st H cN sN) := by show Wn _ _ _ _ _ _ _ _ _ _ _ _ _ _ _ (q + 1) _ _ _ _ _ _ = _; rw [wn_s (by decide), f1_112]; rfl
theorem f1_115 : at1 prog_60_method_10_code 115 = some (.aload_n 0) := by decide +kernel
theorem s1_115 : V1 l Z b K (q + 1) 115 ls st H cN sN = (ldA ls 0 fun v => V1 l Z b K q 116 ls (v :: st) H cN sN) := by show Wn _ _ _ _ _ _ _ _ _ _ _ _ _ _ _ (q + 1) _ _ _ _ _ _ = _; rw [wn_s (by decide), f1_115]; rfl
theorem f1_116 : at1 prog_60_method_10_code 116 = some (.iload_n 1) := by decide +kernel
theorem s1_116 : V1 l Z b K (q + 1) 116 ls st H cN sN = (ldI ls 1 fun v => V1 l Z b K q 117 ls (.int v :: st) H cN sN) := by show Wn _ _ _ _ _ _ _ _ _ _ _ _ _ _ _ (q + 1) _ _ _ _ _ _ = _; rw [wn_s (by decide), f1_116]; rfl
theorem f1_117 : at1 prog_60_method_10_code 117 = some (.iinc 1 1) := by decide +kernel
theorem s1_117 : V1 l Z b K (q + 1) 117 ls st H cN sN = (ldI ls 1 fun v => setL ls 1 (.val (.int (v + 1))) fun l' => V1 l Z b K q 120 l' st H cN sN) := by show Wn _ _ _ _ _ _ _ _ _ _ _ _ _ _ _ (q + 1) _ _ _ _ _ _ = _; rw [wn_s (by decide), f1_117]; rfl
theorem f1_120 : at1 prog_60_method_10_code 120 = some (.sipush 240) := by decide +kernel
theorem s1_120 : V1 l Z b K (q + 1) 120 ls st H cN sN = (V1 l Z b K q 123 ls (.int 240 :: st) H cN sN) := by show Wn _ _ _ _ _ _ _ _ _ _ _ _ _ _ _ (q + 1) _ _ _ _ _ _ = _; rw [wn_s (by decide), f1_120]; rfl
theorem f1_123 : at1 prog_60_method_10_code 123 = some (.iload_n 2) := by decide +kernel
theorem s1_123 : V1 l Z b K (q + 1) 123 ls st H cN sN = (ldI ls 2 fun v => V1 l Z b K q 124 ls (.int v :: st) H cN sN) := by show Wn _ _ _ _ _ _ _ _ _ _ _ _ _ _ _ (q + 1) _ _ _ _ _ _ = _; rw [wn_s (by decide), f1_123]; rfl
theorem f1_124 : at1 prog_60_method_10_code 124 = some (.bipush 18) := by decide +kernel
theorem s1_124 : V1 l Z b K (q + 1) 124 ls st H cN sN = (V1 l Z b K q 126 ls (.int 18 :: st) H cN sN) := by show Wn _ _ _ _ _ _ _ _ _ _ _ _ _ _ _ (q + 1) _ _ _ _ _ _ = _; rw [wn_s (by decide), f1_124]; rfl
theorem f1_126 : at1 prog_60_method_10_code 126 = some (.ishr) := by decide +kernel
theorem s1_126 : V1 l Z b K (q + 1) 126 ls st H cN sN = (popI st fun y r => popI r fun x r => V1 l Z b K q 127 ls (.int (x >>> (y &&& 31)) :: r) H cN sN) := by show Wn _ _ _ _ _ _ _ _ _ _ _ _ _ _ _ (q + 1) _ _ _ _ _ _ = _; rw [wn_s (by decide), f1_126]; rfl
theorem f1_127 : at1 prog_60_method_10_code 127 = some (.ior) := by decide +kernel
theorem s1_127 : V1 l Z b K (q + 1) 127 ls st H cN sN = (popI st fun y r => popI r fun x r => V1 l Z b K q 128 ls (.int (x ||| y) :: r) H cN sN) := by show Wn _ _ _ _ _ _ _ _ _ _ _ _ _ _ _ (q + 1) _ _ _ _ _ _ = _; rw [wn_s (by decide), f1_127]; rfl
theorem f1_128 : at1 prog_60_method_10_code 128 = some (.i2b) := by decide +kernel
theorem s1_128 : V1 l Z b K (q + 1) 128 ls st H cN sN = (popI st fun x r => V1 l Z b K q 129 ls (.int (nar .byte x) :: r) H cN sN) := by show Wn _ _ _ _ _ _ _ _ _ _ _ _ _ _ _ (q + 1) _ _ _ _ _ _ = _; rw [wn_s (by decide), f1_128]; rfl
theorem f1_129 : at1 prog_60_method_10_code 129 = some (.bastore) := by decide +kernel
theorem s1_129 : V1 l Z b K (q + 1) 129 ls st H cN sN = (popI st fun x r => popI r fun j r => popR r fun a r => arr H b.size a fun i ty vs => if ty = .byte then idx vs j fun _ => setN vs j.toNatClampNeg (.int (nar .byte x)) fun vs' => setH H i (.inl (.byte, vs')) fun H' => V1 l Z b K q 130 ls r H' cN sN else False) := by show Wn _ _ _ _ _ _ _ _ _ _ _ _ _ _ _ (q + 1) _ _ _ _ _ _ = _; rw [wn_s (by decide), f1_129]; rfl
theorem f1_130 : at1 prog_60_method_10_code 130 = some (.aload_n 0) := by decide +kernel
theorem s1_130 : V1 l Z b K (q + 1) 130 ls st H cN sN = (ldA ls 0 fun v => V1 l Z b K q 131 ls (v :: st) H cN sN) := by show Wn _ _ _ _ _ _ _ _ _ _ _ _ _ _ _ (q + 1) _ _ _ _ _ _ = _; rw [wn_s (by decide), f1_130]; rfl
theorem f1_131 : at1 prog_60_method_10_code 131 = some (.iload_n 1) := by decide +kernel
theorem s1_131 : V1 l Z b K (q + 1) 131 ls st H cN sN = (ldI ls 1 fun v => V1 l Z b K q 132 ls (.int v :: st) H cN sN) := by show Wn _ _ _ _ _ _ _ _ _ _ _ _ _ _ _ (q + 1) _ _ _ _ _ _ = _; rw [wn_s (by decide), f1_131]; rfl
theorem f1_132 : at1 prog_60_method_10_code 132 = some (.iinc 1 1) := by decide +kernel
theorem s1_132 : V1 l Z b K (q + 1) 132 ls st H cN sN = (ldI ls 1 fun v => setL ls 1 (.val (.int (v + 1))) fun l' => V1 l Z b K q 135 l' st H cN sN) := by show Wn _ _ _ _ _ _ _ _ _ _ _ _ _ _ _ (q + 1) _ _ _ _ _ _ = _; rw [wn_s (by decide), f1_132]; rfl
theorem f1_135 : at1 prog_60_method_10_code 135 = some (.sipush 128) := by decide +kernel
theorem s1_135 : V1 l Z b K (q + 1) 135 ls st H cN sN = (V1 l Z b K q 138 ls (.int 128 :: st) H cN sN) := by show Wn _ _ _ _ _ _ _ _ _ _ _ _ _ _ _ (q + 1) _ _ _ _ _ _ = _; rw [wn_s (by decide), f1_135]; rfl
theorem f1_138 : at1 prog_60_method_10_code 138 = some (.iload_n 2) := by decide +kernel
theorem s1_138 : V1 l Z b K (q + 1) 138 ls st H cN sN = (ldI ls 2 fun v => V1 l Z b K q 139 ls (.int v :: st) H cN sN) := by show Wn _ _ _ _ _ _ _ _ _ _ _ _ _ _ _ (q + 1) _ _ _ _ _ _ = _; rw [wn_s (by decide), f1_138]; rfl
theorem f1_139 : at1 prog_60_method_10_code 139 = some (.bipush 12) := by decide +kernel
theorem s1_139 : V1 l Z b K (q + 1) 139 ls st H cN sN = (V1 l Z b K q 141 ls (.int 12 :: st) H cN sN) := by show Wn _ _ _ _ _ _ _ _ _ _ _ _ _ _ _ (q + 1) _ _ _ _ _ _ = _; rw [wn_s (by decide), f1_139]; rfl
theorem f1_141 : at1 prog_60_method_10_code 141 = some (.ishr) := by decide +kernel
theorem s1_141 : V1 l Z b K (q + 1) 141 ls st H cN sN = (popI st fun y r => popI r fun x r => V1 l Z b K q 142 ls (.int (x >>> (y &&& 31)) :: r) H cN sN) := by show Wn _ _ _ _ _ _ _ _ _ _ _ _ _ _ _ (q + 1) _ _ _ _ _ _ = _; rw [wn_s (by decide), f1_141]; rfl
theorem f1_142 : at1 prog_60_method_10_code 142 = some (.bipush 63) := by decide +kernel
theorem s1_142 : V1 l Z b K (q + 1) 142 ls st H cN sN = (V1 l Z b K q 144 ls (.int 63 :: st) H cN sN) := by show Wn _ _ _ _ _ _ _ _ _ _ _ _ _ _ _ (q + 1) _ _ _ _ _ _ = _; rw [wn_s (by decide), f1_142]; rfl
theorem f1_144 : at1 prog_60_method_10_code 144 = some (.iand) := by decide +kernel
theorem s1_144 : V1 l Z b K (q + 1) 144 ls st H cN sN = (popI st fun y r => popI r fun x r => V1 l Z b K q 145 ls (.int (x &&& y) :: r) H cN sN) := by show Wn _ _ _ _ _ _ _ _ _ _ _ _ _ _ _ (q + 1) _ _ _ _ _ _ = _; rw [wn_s (by decide), f1_144]; rfl
theorem f1_145 : at1 prog_60_method_10_code 145 = some (.ior) := by decide +kernel
theorem s1_145 : V1 l Z b K (q + 1) 145 ls st H cN sN = (popI st fun y r => popI r fun x r => V1 l Z b K q 146 ls (.int (x ||| y) :: r) H cN sN) := by show Wn _ _ _ _ _ _ _ _ _ _ _ _ _ _ _ (q + 1) _ _ _ _ _ _ = _; rw [wn_s (by decide), f1_145]; rfl
theorem f1_146 : at1 prog_60_method_10_code 146 = some (.i2b) := by decide +kernel
theorem s1_146 : V1 l Z b K (q + 1) 146 ls st H cN sN = (popI st fun x r => V1 l Z b K q 147 ls (.int (nar .byte x) :: r) H cN sN) := by show Wn _ _ _ _ _ _ _ _ _ _ _ _ _ _ _ (q + 1) _ _ _ _ _ _ = _; rw [wn_s (by decide), f1_146]; rfl
theorem f1_147 : at1 prog_60_method_10_code 147 = some (.bastore) := by decide +kernel
theorem s1_147 : V1 l Z b K (q + 1) 147 ls st H cN sN = (popI st fun x r => popI r fun j r => popR r fun a r => arr H b.size a fun i ty vs => if ty = .byte then idx vs j fun _ => setN vs j.toNatClampNeg (.int (nar .byte x)) fun vs' => setH H i (.inl (.byte, vs')) fun H' => V1 l Z b K q 148 ls r H' cN sN else False) := by show Wn _ _ _ _ _ _ _ _ _ _ _ _ _ _ _ (q + 1) _ _ _ _ _ _ = _; rw [wn_s (by decide), f1_147]; rfl
theorem f1_148 : at1 prog_60_method_10_code 148 = some (.aload_n 0) := by decide +kernel
theorem s1_148 : V1 l Z b K (q + 1) 148 ls st H cN sN = (ldA ls 0 fun v => V1 l Z b K q 149 ls (v :: st) H cN sN) := by show Wn _ _ _ _ _ _ _ _ _ _ _ _ _ _ _ (q + 1) _ _ _ _ _ _ = _; rw [wn_s (by decide), f1_148]; rfl
theorem f1_149 : at1 prog_60_method_10_code 149 = some (.iload_n 1) := by decide +kernel
theorem s1_149 : V1 l Z b K (q + 1) 149 ls st H cN sN = (ldI ls 1 fun v => V1 l Z b K q 150 ls (.int v :: st) H cN sN) := by show Wn _ _ _ _ _ _ _ _ _ _ _ _ _ _ _ (q + 1) _ _ _ _ _ _ = _; rw [wn_s (by decide), f1_149]; rfl
theorem f1_150 : at1 prog_60_method_10_code 150 = some (.iinc 1 1) := by decide +kernel
theorem s1_150 : V1 l Z b K (q + 1) 150 ls st H cN sN = (ldI ls 1 fun v => setL ls 1 (.val (.int (v + 1))) fun l' => V1 l Z b K q 153 l' st H cN sN) := by show Wn _ _ _ _ _ _ _ _ _ _ _ _ _ _ _ (q + 1) _ _ _ _ _ _ = _; rw [wn_s (by decide), f1_150]; rfl
theorem f1_153 : at1 prog_60_method_10_code 153 = some (.sipush 128) := by decide +kernel
theorem s1_153 : V1 l Z b K (q + 1) 153 ls st H cN sN = (V1 l Z b K q 156 ls (.int 128 :: st) H cN sN) := by show Wn _ _ _ _ _ _ _ _ _ _ _ _ _ _ _ (q + 1) _ _ _ _ _ _ = _; rw [wn_s (by decide), f1_153]; rfl
theorem f1_156 : at1 prog_60_method_10_code 156 = some (.iload_n 2) := by decide +kernel
theorem s1_156 : V1 l Z b K (q + 1) 156 ls st H cN sN = (ldI ls 2 fun v => V1 l Z b K q 157 ls (.int v :: st) H cN sN) := by show Wn _ _ _ _ _ _ _ _ _ _ _ _ _ _ _ (q + 1) _ _ _ _ _ _ = _; rw [wn_s (by decide), f1_156]; rfl
theorem f1_157 : at1 prog_60_method_10_code 157 = some (.bipush 6) := by decide +kernel
theorem s1_157 : V1 l Z b K (q + 1) 157 ls st H cN sN = (V1 l Z b K q 159 ls (.int 6 :: st) H cN sN) := by show Wn _ _ _ _ _ _ _ _ _ _ _ _ _ _ _ (q + 1) _ _ _ _ _ _ = _; rw [wn_s (by decide), f1_157]; rfl
theorem f1_159 : at1 prog_60_method_10_code 159 = some (.ishr) := by decide +kernel
theorem s1_159 : V1 l Z b K (q + 1) 159 ls st H cN sN = (popI st fun y r => popI r fun x r => V1 l Z b K q 160 ls (.int (x >>> (y &&& 31)) :: r) H cN sN) := by show Wn _ _ _ _ _ _ _ _ _ _ _ _ _ _ _ (q + 1) _ _ _ _ _ _ = _; rw [wn_s (by decide), f1_159]; rfl
theorem f1_160 : at1 prog_60_method_10_code 160 = some (.bipush 63) := by decide +kernel
theorem s1_160 : V1 l Z b K (q + 1) 160 ls st H cN sN = (V1 l Z b K q 162 ls (.int 63 :: st) H cN sN) := by show Wn _ _ _ _ _ _ _ _ _ _ _ _ _ _ _ (q + 1) _ _ _ _ _ _ = _; rw [wn_s (by decide), f1_160]; rfl
theorem f1_162 : at1 prog_60_method_10_code 162 = some (.iand) := by decide +kernel
theorem s1_162 : V1 l Z b K (q + 1) 162 ls st H cN sN = (popI st fun y r => popI r fun x r => V1 l Z b K q 163 ls (.int (x &&& y) :: r) H cN sN) := by show Wn _ _ _ _ _ _ _ _ _ _ _ _ _ _ _ (q + 1) _ _ _ _ _ _ = _; rw [wn_s (by decide), f1_162]; rfl
theorem f1_163 : at1 prog_60_method_10_code 163 = some (.ior) := by decide +kernel
theorem s1_163 : V1 l Z b K (q + 1) 163 ls st H cN sN = (popI st fun y r => popI r fun x r => V1 l Z b K q 164 ls (.int (x ||| y) :: r) H cN sN) := by show Wn _ _ _ _ _ _ _ _ _ _ _ _ _ _ _ (q + 1) _ _ _ _ _ _ = _; rw [wn_s (by decide), f1_163]; rfl
theorem f1_164 : at1 prog_60_method_10_code 164 = some (.i2b) := by decide +kernel
theorem s1_164 : V1 l Z b K (q + 1) 164 ls st H cN sN = (popI st fun x r => V1 l Z b K q 165 ls (.int (nar .byte x) :: r) H cN sN) := by show Wn _ _ _ _ _ _ _ _ _ _ _ _ _ _ _ (q + 1) _ _ _ _ _ _ = _; rw [wn_s (by decide), f1_164]; rfl
theorem f1_165 : at1 prog_60_method_10_code 165 = some (.bastore) := by decide +kernel
theorem s1_165 : V1 l Z b K (q + 1) 165 ls st H cN sN = (popI st fun x r => popI r fun j r => popR r fun a r => arr H b.size a fun i ty vs => if ty = .byte then idx vs j fun _ => setN vs j.toNatClampNeg (.int (nar .byte x)) fun vs' => setH H i (.inl (.byte, vs')) fun H' => V1 l Z b K q 166 ls r H' cN sN else False) := by show Wn _ _ _ _ _ _ _ _ _ _ _ _ _ _ _ (q + 1) _ _ _ _ _ _ = _; rw [wn_s (by decide), f1_165]; rfl
theorem f1_166 : at1 prog_60_method_10_code 166 = some (.aload_n 0) := by decide +kernel
theorem s1_166 : V1 l Z b K (q + 1) 166 ls st H cN sN = (ldA ls 0 fun v => V1 l Z b K q 167 ls (v :: st) H cN sN) := by show Wn _ _ _ _ _ _ _ _ _ _ _ _ _ _ _ (q + 1) _ _ _ _ _ _ = _; rw [wn_s (by decide), f1_166]; rfl
theorem f1_167 : at1 prog_60_method_10_code 167 = some (.iload_n 1) := by decide +kernel
theorem s1_167 : V1 l Z b K (q + 1) 167 ls st H cN sN = (ldI ls 1 fun v => V1 l Z b K q 168 ls (.int v :: st) H cN sN) := by show Wn _ _ _ _ _ _ _ _ _ _ _ _ _ _ _ (q + 1) _ _ _ _ _ _ = _; rw [wn_s (by decide), f1_167]; rfl
theorem f1_168 : at1 prog_60_method_10_code 168 = some (.iinc 1 1) := by decide +kernel
theorem s1_168 : V1 l Z b K (q + 1) 168 ls st H cN sN = (ldI ls 1 fun v => setL ls 1 (.val (.int (v + 1))) fun l' => V1 l Z b K q 171 l' st H cN sN) := by show Wn _ _ _ _ _ _ _ _ _ _ _ _ _ _ _ (q + 1) _ _ _ _ _ _ = _; rw [wn_s (by decide), f1_168]; rfl
theorem f1_171 : at1 prog_60_method_10_code 171 = some (.sipush 128) := by decide +kernel
theorem s1_171 : V1 l Z b K (q + 1) 171 ls st H cN sN = (V1 l Z b K q 174 ls (.int 128 :: st) H cN sN) := by show Wn _ _ _ _ _ _ _ _ _ _ _ _ _ _ _ (q + 1) _ _ _ _ _ _ = _; rw [wn_s (by decide), f1_171]; rfl
theorem f1_174 : at1 prog_60_method_10_code 174 = some (.iload_n 2) := by decide +kernel
theorem s1_174 : V1 l Z b K (q + 1) 174 ls st H cN sN = (ldI ls 2 fun v => V1 l Z b K q 175 ls (.int v :: st) H cN sN) := by show Wn _ _ _ _ _ _ _ _ _ _ _ _ _ _ _ (q + 1) _ _ _ _ _ _ = _; rw [wn_s (by decide), f1_174]; rfl
theorem f1_175 : at1 prog_60_method_10_code 175 = some (.bipush 63) := by decide +kernel
theorem s1_175 : V1 l Z b K (q + 1) 175 ls st H cN sN = (V1 l Z b K q 177 ls (.int 63 :: st) H cN sN) := by show Wn _ _ _ _ _ _ _ _ _ _ _ _ _ _ _ (q + 1) _ _ _ _ _ _ = _; rw [wn_s (by decide), f1_175]; rfl
theorem f1_177 : at1 prog_60_method_10_code 177 = some (.iand) := by decide +kernel
theorem s1_177 : V1 l Z b K (q + 1) 177 ls st H cN sN = (popI st fun y r => popI r fun x r => V1 l Z b K q 178 ls (.int (x &&& y) :: r) H cN sN) := by show Wn _ _ _ _ _ _ _ _ _ _ _ _ _ _ _ (q + 1) _ _ _ _ _ _ = _; rw [wn_s (by decide), f1_177]; rfl
theorem f1_178 : at1 prog_60_method_10_code 178 = some (.ior) := by decide +kernel
theorem s1_178 : V1 l Z b K (q + 1) 178 ls st H cN sN = (popI st fun y r => popI r fun x r => V1 l Z b K q 179 ls (.int (x ||| y) :: r) H cN sN) := by show Wn _ _ _ _ _ _ _ _ _ _ _ _ _ _ _ (q + 1) _ _ _ _ _ _ = _; rw [wn_s (by decide), f1_178]; rfl
theorem f1_179 : at1 prog_60_method_10_code 179 = some (.i2b) := by decide +kernel
theorem s1_179 : V1 l Z b K (q + 1) 179 ls st H cN sN = (popI st fun x r => V1 l Z b K q 180 ls (.int (nar .byte x) :: r) H cN sN) := by show Wn _ _ _ _ _ _ _ _ _ _ _ _ _ _ _ (q + 1) _ _ _ _ _ _ = _; rw [wn_s (by decide), f1_179]; rfl
theorem f1_180 : at1 prog_60_method_10_code 180 = some (.bastore) := by decide +kernel
theorem s1_180 : V1 l Z b K (q + 1) 180 ls st H cN sN = (popI st fun x r => popI r fun j r => popR r fun a r => arr H b.size a fun i ty vs => if ty = .byte then idx vs j fun _ => setN vs j.toNatClampNeg (.int (nar .byte x)) fun vs' => setH H i (.inl (.byte, vs')) fun H' => V1 l Z b K q 181 ls r H' cN sN else False) := by show Wn _ _ _ _ _ _ _ _ _ _ _ _ _ _ _ (q + 1) _ _ _ _ _ _ = _; rw [wn_s (by decide), f1_180]; rfl
theorem f1_181 : at1 prog_60_method_10_code 181 = some (.iload_n 1) := by decide +kernel
theorem s1_181 : V1 l Z b K (q + 1) 181 ls st H cN sN = (ldI ls 1 fun v => V1 l Z b K q 182 ls (.int v :: st) H cN sN) := by show Wn _ _ _ _ _ _ _ _ _ _ _ _ _ _ _ (q + 1) _ _ _ _ _ _ = _; rw [wn_s (by decide), f1_181]; rfl
theorem f1_182 : at1 prog_60_method_10_code 182 = some (.ireturn) := by decide +kernel
theorem s1_182 : V1 l Z b K (q + 1) 182 ls st H cN sN = (popI st fun x r => if cN ≤ 0 ∧ sN ≤ 0 then K (some (.int x)) H else False) := by show Wn _ _ _ _ _ _ _ _ _ _ _ _ _ _ _ (q + 1) _ _ _ _ _ _ = _; rw [wn_s (by decide), f1_182]; rfl
theorem S1 : type_of% @z1 ∧ type_of% @s1_0 ∧ type_of% @s1_1 ∧ type_of% @s1_4 ∧ type_of% @s1_7 ∧ type_of% @s1_8 ∧ type_of% @s1_9 ∧ type_of% @s1_12 ∧ type_of% @s1_13 ∧ type_of% @s1_14 ∧ type_of% @s1_15 ∧ type_of% @s1_18 ∧ type_of% @s1_19 ∧ type_of% @s1_22 ∧ type_of% @s1_25 ∧ type_of% @s1_26 ∧ type_of% @s1_27 ∧ type_of% @s1_30 ∧ type_of% @s1_33 ∧ type_of% @s1_34 ∧ type_of% @s1_36 ∧ type_of% @s1_37 ∧ type_of% @s1_38 ∧ type_of% @s1_39 ∧ type_of% @s1_40 ∧ type_of% @s1_41 ∧ type_of% @s1_42 ∧ type_of% @s1_45 ∧ type_of% @s1_48 ∧ type_of% @s1_49 ∧ type_of% @s1_51 ∧ type_of% @s1_52 ∧ type_of% @s1_53 ∧ type_of% @s1_54 ∧ type_of% @s1_55 ∧ type_of% @s1_58 ∧ type_of% @s1_59 ∧ type_of% @s1_61 ∧ type_of% @s1_64 ∧ type_of% @s1_65 ∧ type_of% @s1_66 ∧ type_of% @s1_69 ∧ type_of% @s1_72 ∧ type_of% @s1_73 ∧ type_of% @s1_75 ∧ type_of% @s1_76 ∧ type_of% @s1_77 ∧ type_of% @s1_78 ∧ type_of% @s1_79 ∧ type_of% @s1_80 ∧ type_of% @s1_81 ∧ type_of% @s1_84 ∧ type_of% @s1_87 ∧ type_of% @s1_88 ∧ type_of% @s1_90 ∧ type_of% @s1_91 ∧ type_of% @s1_93 ∧ type_of% @s1_94 ∧ type_of% @s1_95 ∧ type_of% @s1_96 ∧ type_of% @s1_97 ∧ type_of% @s1_98 ∧ type_of% @s1_99 ∧ type_of% @s1_102 ∧ type_of% @s1_105 ∧ type_of% @s1_106 ∧ type_of% @s1_108 ∧ type_of% @s1_109 ∧ type_of% @s1_110 ∧ type_of% @s1_111 ∧ type_of% @s1_112 ∧ type_of% @s1_115 ∧ type_of% @s1_116 ∧ type_of% @s1_117 ∧ type_of% @s1_120 ∧ type_of% @s1_123 ∧ type_of% @s1_124 ∧ type_of% @s1_126 ∧ type_of% @s1_127 ∧ type_of% @s1_128 ∧ type_of% @s1_129 ∧ type_of% @s1_130 ∧ type_of% @s1_131 ∧ type_of% @s1_132 ∧ type_of% @s1_135 ∧ type_of% @s1_138 ∧ type_of% @s1_139 ∧ type_of% @s1_141 ∧ type_of% @s1_142 ∧ type_of% @s1_144 ∧ type_of% @s1_145 ∧ type_of% @s1_146 ∧ type_of% @s1_147 ∧ type_of% @s1_148 ∧ type_of% @s1_149 ∧ type_of% @s1_150 ∧ type_of% @s1_153 ∧ type_of% @s1_156 ∧ type_of% @s1_157 ∧ type_of% @s1_159 ∧ type_of% @s1_160 ∧ type_of% @s1_162 ∧ type_of% @s1_163 ∧ type_of% @s1_164 ∧ type_of% @s1_165 ∧ type_of% @s1_166 ∧ type_of% @s1_167 ∧ type_of% @s1_168 ∧ type_of% @s1_171 ∧ type_of% @s1_174 ∧ type_of% @s1_175 ∧ type_of% @s1_177 ∧ type_of% @s1_178 ∧ type_of% @s1_179 ∧ type_of% @s1_180 ∧ type_of% @s1_181 ∧ type_of% @s1_182 := ⟨@z1, @s1_0, @s1_1, @s1_4, @s1_7, @s1_8, @s1_9, @s1_12, @s1_13, @s1_14, @s1_15, @s1_18, @s1_19, @s1_22, @s1_25, @s1_26, @s1_27, @s1_30, @s1_33, @s1_34, @s1_36, @s1_37, @s1_38, @s1_39, @s1_40, @s1_41, @s1_42, @s1_45, @s1_48, @s1_49, @s1_51, @s1_52, @s1_53, @s1_54, @s1_55, @s1_58, @s1_59, @s1_61, @s1_64, @s1_65, @s1_66, @s1_69, @s1_72, @s1_73, @s1_75, @s1_76, @s1_77, @s1_78, @s1_79, @s1_80, @s1_81, @s1_84, @s1_87, @s1_88, @s1_90, @s1_91, @s1_93, @s1_94, @s1_95, @s1_96, @s1_97, @s1_98, @s1_99, @s1_102, @s1_105, @s1_106, @s1_108, @s1_109, @s1_110, @s1_111, @s1_112, @s1_115, @s1_116, @s1_117, @s1_120, @s1_123, @s1_124, @s1_126, @s1_127, @s1_128, @s1_129, @s1_130, @s1_131, @s1_132, @s1_135, @s1_138, @s1_139, @s1_141, @s1_142, @s1_144, @s1_145, @s1_146, @s1_147, @s1_148, @s1_149, @s1_150, @s1_153, @s1_156, @s1_157, @s1_159, @s1_160, @s1_162, @s1_163, @s1_164, @s1_165, @s1_166, @s1_167, @s1_168, @s1_171, @s1_174, @s1_175, @s1_177, @s1_178, @s1_179, @s1_180, @s1_181, @s1_182⟩
theorem ef1 (m : MethodId) (x0 : Nat) (x1 : Int32) (x2 : Int32) : entryFrame m [.ref x0, .int x1, .int x2].toArray 3 = mkF m 0 [.val (.ref x0), .val (.int x1), .val (.int x2)].toArray [] := by first | (simp [entryFrame, mkF, argsToLocals, Value.category, maxLocals, List.replicate]; done) | rfl
theorem pn1 : plainFor y1 = true := by first | decide +kernel | exact plainFor_of_name (by simp [y1, plainName, overriddenIn])
theorem pd1 : parseMethodDescriptor "([BII)I" = some ⟨[(.array .byte), .int, .int], some .int⟩ := by decide +kernel
theorem c1 (x0 : Nat) (x1 : Int32) (x2 : Int32) (g : G1 l Z b K 0 [.val (.ref x0), .val (.int x1), .val (.int x2)] [] H 0 0) : Con tables_1 l Z b y1 prog_60_method_10_code 3 (some .int) R1 [.ref x0, .int x1, .int x2] H K := G.con pn1 (fun m => ef1 m x0 x1 x2) g
end Body1
def R2 : Room := { frames := 0, cells := 0, slots := 0, locals := 0 }
def y2 : MethodName := ⟨"com/example/bagscope/bagscope/Utf8PutPinLaw", "kept", "([BIIIB)Z"⟩
def G2 (l : Launch) (Z : State) (b : Heap) (K : Option Value → List Cel → Prop) : Cont := G method_3_code "com/example/bagscope/bagscope/Utf8PutPinLaw" "kept" 5 (some .boolean) R2 tables_1 l Z b 0 0 K
def V2 (l : Launch) (Z : State) (b : Heap) (K : Option Value → List Cel → Prop) : Nat → Cont := Wn [] method_3_code [] [] [] [] [] [] (some .boolean) R2 b.size 0 0 K (G2 l Z b K)
section Body2
variable {l : Launch} {Z : State} {b : Heap} {K : Option Value → List Cel → Prop} {q : Nat} {ls : List Slot} {st : List Value} {H : List Cel} {cN sN : Nat}
theorem r2 (q : Nat) {pc : Nat} (h : V2 l Z b K q pc ls st H cN sN) : G2 l Z b K pc ls st H cN sN := G.run q (by intro x hx; cases hx) (by intro x hx; cases hx) (by intro x hx; cases hx) (by intro x hx; cases hx) (by intro x hx; cases hx) (by intro x hx; cases hx) h
theorem z2 {pc : Nat} : V2 l Z b K 0 pc ls st H cN sN = G2 l Z b K pc ls st H cN sN := propext Iff.rfl
theorem f2_0 : at1 method_3_code 0 = some (.iload_n 1) := by decide +kernel
theorem s2_0 : V2 l Z b K (q + 1) 0 ls st H cN sN = (ldI ls 1 fun v => V2 l Z b K q 1 ls (.int v :: st) H cN sN) := by show Wn _ _ _ _ _ _ _ _ _ _ _ _ _ _ _ (q + 1) _ _ _ _ _ _ = _; rw [wn_s (by decide), f2_0]; rfl
theorem f2_1 : at1 method_3_code 1 = some (.iload_n 2) := by decide +kernel
theorem s2_1 : V2 l Z b K (q + 1) 1 ls st H cN sN = (ldI ls 2 fun v => V2 l Z b K q 2 ls (.int v :: st) H cN sN) := by show Wn _ _ _ _ _ _ _ _ _ _ _ _ _ _ _ (q + 1) _ _ _ _ _ _ = _; rw [wn_s (by decide), f2_1]; rfl
theorem f2_2 : at1 method_3_code 2 = some (.if_icmp .lt 10) := by decide +kernel
theorem s2_2 : V2 l Z b K (q + 1) 2 ls st H cN sN = (popI st fun y r => popI r fun x r => if x < y then V2 l Z b K q 12 ls r H cN sN else V2 l Z b K q 5 ls r H cN sN) := by show Wn _ _ _ _ _ _ _ _ _ _ _ _ _ _ _ (q + 1) _ _ _ _ _ _ = _; rw [wn_s (by decide), f2_2]; rfl
theorem f2_5 : at1 method_3_code 5 = some (.iload_n 1) := by decide +kernel
theorem s2_5 : V2 l Z b K (q + 1) 5 ls st H cN sN = (ldI ls 1 fun v => V2 l Z b K q 6 ls (.int v :: st) H cN sN) := by show Wn _ _ _ _ _ _ _ _ _ _ _ _ _ _ _ (q + 1) _ _ _ _ _ _ = _; rw [wn_s (by decide), f2_5]; rfl
theorem f2_6 : at1 method_3_code 6 = some (.iload_n 2) := by decide +kernel
theorem s2_6 : V2 l Z b K (q + 1) 6 ls st H cN sN = (ldI ls 2 fun v => V2 l Z b K q 7 ls (.int v :: st) H cN sN) := by show Wn _ _ _ _ _ _ _ _ _ _ _ _ _ _ _ (q + 1) _ _ _ _ _ _ = _; rw [wn_s (by decide), f2_6]; rfl
theorem f2_7 : at1 method_3_code 7 = some (.iload_n 3) := by decide +kernel
theorem s2_7 : V2 l Z b K (q + 1) 7 ls st H cN sN = (ldI ls 3 fun v => V2 l Z b K q 8 ls (.int v :: st) H cN sN) := by show Wn _ _ _ _ _ _ _ _ _ _ _ _ _ _ _ (q + 1) _ _ _ _ _ _ = _; rw [wn_s (by decide), f2_7]; rfl
theorem f2_8 : at1 method_3_code 8 = some (.iadd) := by decide +kernel
theorem s2_8 : V2 l Z b K (q + 1) 8 ls st H cN sN = (popI st fun y r => popI r fun x r => V2 l Z b K q 9 ls (.int (x + y) :: r) H cN sN) := by show Wn _ _ _ _ _ _ _ _ _ _ _ _ _ _ _ (q + 1) _ _ _ _ _ _ = _; rw [wn_s (by decide), f2_8]; rfl
theorem f2_9 : at1 method_3_code 9 = some (.if_icmp .lt 11) := by decide +kernel
theorem s2_9 : V2 l Z b K (q + 1) 9 ls st H cN sN = (popI st fun y r => popI r fun x r => if x < y then V2 l Z b K q 20 ls r H cN sN else V2 l Z b K q 12 ls r H cN sN) := by show Wn _ _ _ _ _ _ _ _ _ _ _ _ _ _ _ (q + 1) _ _ _ _ _ _ = _; rw [wn_s (by decide), f2_9]; rfl
theorem f2_12 : at1 method_3_code 12 = some (.aload_n 0) := by decide +kernel
theorem s2_12 : V2 l Z b K (q + 1) 12 ls st H cN sN = (ldA ls 0 fun v => V2 l Z b K q 13 ls (v :: st) H cN sN) := by show Wn _ _ _ _ _ _ _ _ _ _ _ _ _ _ _ (q + 1) _ _ _ _ _ _ = _; rw [wn_s (by decide), f2_12]; rfl
theorem f2_13 : at1 method_3_code 13 = some (.iload_n 1) := by decide +kernel
theorem s2_13 : V2 l Z b K (q + 1) 13 ls st H cN sN = (ldI ls 1 fun v => V2 l Z b K q 14 ls (.int v :: st) H cN sN) := by show Wn _ _ _ _ _ _ _ _ _ _ _ _ _ _ _ (q + 1) _ _ _ _ _ _ = _; rw [wn_s (by decide), f2_13]; rfl
theorem f2_14 : at1 method_3_code 14 = some (.baload) := by decide +kernel
theorem s2_14 : V2 l Z b K (q + 1) 14 ls st H cN sN = (popI st fun j r => popR r fun a r => arr H b.size a fun i ty vs => if ty = .byte then idx vs j fun v => V2 l Z b K q 15 ls (v :: r) H cN sN else False) := by show Wn _ _ _ _ _ _ _ _ _ _ _ _ _ _ _ (q + 1) _ _ _ _ _ _ = _; rw [wn_s (by decide), f2_14]; rfl
theorem f2_15 : at1 method_3_code 15 = some (.iload 4) := by decide +kernel
theorem s2_15 : V2 l Z b K (q + 1) 15 ls st H cN sN = (ldI ls 4 fun v => V2 l Z b K q 17 ls (.int v :: st) H cN sN) := by show Wn _ _ _ _ _ _ _ _ _ _ _ _ _ _ _ (q + 1) _ _ _ _ _ _ = _; rw [wn_s (by decide), f2_15]; rfl
theorem f2_17 : at1 method_3_code 17 = some (.if_icmp .ne 7) := by decide +kernel
theorem s2_17 : V2 l Z b K (q + 1) 17 ls st H cN sN = (popI st fun y r => popI r fun x r => if x = y then V2 l Z b K q 20 ls r H cN sN else V2 l Z b K q 24 ls r H cN sN) := by show Wn _ _ _ _ _ _ _ _ _ _ _ _ _ _ _ (q + 1) _ _ _ _ _ _ = _; rw [wn_s (by decide), f2_17]; rfl
theorem f2_20 : at1 method_3_code 20 = some (.iconst 1) := by decide +kernel
theorem s2_20 : V2 l Z b K (q + 1) 20 ls st H cN sN = (V2 l Z b K q 21 ls (.int 1 :: st) H cN sN) := by show Wn _ _ _ _ _ _ _ _ _ _ _ _ _ _ _ (q + 1) _ _ _ _ _ _ = _; rw [wn_s (by decide), f2_20]; rfl
theorem f2_21 : at1 method_3_code 21 = some (.goto 4) := by decide +kernel
theorem s2_21 : V2 l Z b K (q + 1) 21 ls st H cN sN = (V2 l Z b K q 25 ls st H cN sN) := by show Wn _ _ _ _ _ _ _ _ _ _ _ _ _ _ _ (q + 1) _ _ _ _ _ _ = _; rw [wn_s (by decide), f2_21]; rfl
theorem f2_24 : at1 method_3_code 24 = some (.iconst 0) := by decide +kernel
theorem s2_24 : V2 l Z b K (q + 1) 24 ls st H cN sN = (V2 l Z b K q 25 ls (.int 0 :: st) H cN sN) := by show Wn _ _ _ _ _ _ _ _ _ _ _ _ _ _ _ (q + 1) _ _ _ _ _ _ = _; rw [wn_s (by decide), f2_24]; rfl
theorem f2_25 : at1 method_3_code 25 = some (.ireturn) := by decide +kernel
theorem s2_25 : V2 l Z b K (q + 1) 25 ls st H cN sN = (popI st fun x r => if cN ≤ 0 ∧ sN ≤ 0 then K (some (.int (nar .boolean x))) H else False) := by show Wn _ _ _ _ _ _ _ _ _ _ _ _ _ _ _ (q + 1) _ _ _ _ _ _ = _; rw [wn_s (by decide), f2_25]; rfl
theorem S2 : type_of% @z2 ∧ type_of% @s2_0 ∧ type_of% @s2_1 ∧ type_of% @s2_2 ∧ type_of% @s2_5 ∧ type_of% @s2_6 ∧ type_of% @s2_7 ∧ type_of% @s2_8 ∧ type_of% @s2_9 ∧ type_of% @s2_12 ∧ type_of% @s2_13 ∧ type_of% @s2_14 ∧ type_of% @s2_15 ∧ type_of% @s2_17 ∧ type_of% @s2_20 ∧ type_of% @s2_21 ∧ type_of% @s2_24 ∧ type_of% @s2_25 := ⟨@z2, @s2_0, @s2_1, @s2_2, @s2_5, @s2_6, @s2_7, @s2_8, @s2_9, @s2_12, @s2_13, @s2_14, @s2_15, @s2_17, @s2_20, @s2_21, @s2_24, @s2_25⟩
theorem ef2 (m : MethodId) (x0 : Nat) (x1 : Int32) (x2 : Int32) (x3 : Int32) (x4 : Int32) : entryFrame m [.ref x0, .int x1, .int x2, .int x3, .int x4].toArray 5 = mkF m 0 [.val (.ref x0), .val (.int x1), .val (.int x2), .val (.int x3), .val (.int x4)].toArray [] := by first | (simp [entryFrame, mkF, argsToLocals, Value.category, maxLocals, List.replicate]; done) | rfl
theorem pn2 : plainFor y2 = true := by first | decide +kernel | exact plainFor_of_name (by simp [y2, plainName, overriddenIn])
theorem pd2 : parseMethodDescriptor "([BIIIB)Z" = some ⟨[(.array .byte), .int, .int, .int, .byte], some .boolean⟩ := by decide +kernel
theorem c2 (x0 : Nat) (x1 : Int32) (x2 : Int32) (x3 : Int32) (x4 : Int32) (g : G2 l Z b K 0 [.val (.ref x0), .val (.int x1), .val (.int x2), .val (.int x3), .val (.int x4)] [] H 0 0) : Con tables_1 l Z b y2 method_3_code 5 (some .boolean) R2 [.ref x0, .int x1, .int x2, .int x3, .int x4] H K := G.con pn2 (fun m => ef2 m x0 x1 x2 x3 x4) g
end Body2
def R3 : Room := { frames := 0, cells := 0, slots := 0, locals := 0 }
def y3 : MethodName := ⟨"com/example/bagscope/bagscope/Utf8PutPinLaw", "cont", "(I)Z"⟩
def G3 (l : Launch) (Z : State) (b : Heap) (K : Option Value → List Cel → Prop) : Cont := G method_4_code "com/example/bagscope/bagscope/Utf8PutPinLaw" "cont" 1 (some .boolean) R3 tables_1 l Z b 0 0 K
def V3 (l : Launch) (Z : State) (b : Heap) (K : Option Value → List Cel → Prop) : Nat → Cont := Wn [] method_4_code [] [] [] [] [] [] (some .boolean) R3 b.size 0 0 K (G3 l Z b K)
section Body3
variable {l : Launch} {Z : State} {b : Heap} {K : Option Value → List Cel → Prop} {q : Nat} {ls : List Slot} {st : List Value} {H : List Cel} {cN sN : Nat}
theorem r3 (q : Nat) {pc : Nat} (h : V3 l Z b K q pc ls st H cN sN) : G3 l Z b K pc ls st H cN sN := G.run q (by intro x hx; cases hx) (by intro x hx; cases hx) (by intro x hx; cases hx) (by intro x hx; cases hx) (by intro x hx; cases hx) (by intro x hx; cases hx) h
theorem z3 {pc : Nat} : V3 l Z b K 0 pc ls st H cN sN = G3 l Z b K pc ls st H cN sN := propext Iff.rfl
theorem f3_0 : at1 method_4_code 0 = some (.iload_n 0) := by decide +kernel
theorem s3_0 : V3 l Z b K (q + 1) 0 ls st H cN sN = (ldI ls 0 fun v => V3 l Z b K q 1 ls (.int v :: st) H cN sN) := by show Wn _ _ _ _ _ _ _ _ _ _ _ _ _ _ _ (q + 1) _ _ _ _ _ _ = _; rw [wn_s (by decide), f3_0]; rfl
theorem f3_1 : at1 method_4_code 1 = some (.sipush 128) := by decide +kernel
theorem s3_1 : V3 l Z b K (q + 1) 1 ls st H cN sN = (V3 l Z b K q 4 ls (.int 128 :: st) H cN sN) := by show Wn _ _ _ _ _ _ _ _ _ _ _ _ _ _ _ (q + 1) _ _ _ _ _ _ = _; rw [wn_s (by decide), f3_1]; rfl
theorem f3_4 : at1 method_4_code 4 = some (.if_icmp .lt 14) := by decide +kernel
theorem s3_4 : V3 l Z b K (q + 1) 4 ls st H cN sN = (popI st fun y r => popI r fun x r => if x < y then V3 l Z b K q 18 ls r H cN sN else V3 l Z b K q 7 ls r H cN sN) := by show Wn _ _ _ _ _ _ _ _ _ _ _ _ _ _ _ (q + 1) _ _ _ _ _ _ = _; rw [wn_s (by decide), f3_4]; rfl
theorem f3_7 : at1 method_4_code 7 = some (.iload_n 0) := by decide +kernel
theorem s3_7 : V3 l Z b K (q + 1) 7 ls st H cN sN = (ldI ls 0 fun v => V3 l Z b K q 8 ls (.int v :: st) H cN sN) := by show Wn _ _ _ _ _ _ _ _ _ _ _ _ _ _ _ (q + 1) _ _ _ _ _ _ = _; rw [wn_s (by decide), f3_7]; rfl
theorem f3_8 : at1 method_4_code 8 = some (.sipush 191) := by decide +kernel
theorem s3_8 : V3 l Z b K (q + 1) 8 ls st H cN sN = (V3 l Z b K q 11 ls (.int 191 :: st) H cN sN) := by show Wn _ _ _ _ _ _ _ _ _ _ _ _ _ _ _ (q + 1) _ _ _ _ _ _ = _; rw [wn_s (by decide), f3_8]; rfl
theorem f3_11 : at1 method_4_code 11 = some (.if_icmp .gt 7) := by decide +kernel
theorem s3_11 : V3 l Z b K (q + 1) 11 ls st H cN sN = (popI st fun y r => popI r fun x r => if y < x then V3 l Z b K q 18 ls r H cN sN else V3 l Z b K q 14 ls r H cN sN) := by show Wn _ _ _ _ _ _ _ _ _ _ _ _ _ _ _ (q + 1) _ _ _ _ _ _ = _; rw [wn_s (by decide), f3_11]; rfl
theorem f3_14 : at1 method_4_code 14 = some (.iconst 1) := by decide +kernel
theorem s3_14 : V3 l Z b K (q + 1) 14 ls st H cN sN = (V3 l Z b K q 15 ls (.int 1 :: st) H cN sN) := by show Wn _ _ _ _ _ _ _ _ _ _ _ _ _ _ _ (q + 1) _ _ _ _ _ _ = _; rw [wn_s (by decide), f3_14]; rfl
theorem f3_15 : at1 method_4_code 15 = some (.goto 4) := by decide +kernel
theorem s3_15 : V3 l Z b K (q + 1) 15 ls st H cN sN = (V3 l Z b K q 19 ls st H cN sN) := by show Wn _ _ _ _ _ _ _ _ _ _ _ _ _ _ _ (q + 1) _ _ _ _ _ _ = _; rw [wn_s (by decide), f3_15]; rfl
theorem f3_18 : at1 method_4_code 18 = some (.iconst 0) := by decide +kernel
theorem s3_18 : V3 l Z b K (q + 1) 18 ls st H cN sN = (V3 l Z b K q 19 ls (.int 0 :: st) H cN sN) := by show Wn _ _ _ _ _ _ _ _ _ _ _ _ _ _ _ (q + 1) _ _ _ _ _ _ = _; rw [wn_s (by decide), f3_18]; rfl
theorem f3_19 : at1 method_4_code 19 = some (.ireturn) := by decide +kernel
theorem s3_19 : V3 l Z b K (q + 1) 19 ls st H cN sN = (popI st fun x r => if cN ≤ 0 ∧ sN ≤ 0 then K (some (.int (nar .boolean x))) H else False) := by show Wn _ _ _ _ _ _ _ _ _ _ _ _ _ _ _ (q + 1) _ _ _ _ _ _ = _; rw [wn_s (by decide), f3_19]; rfl
theorem S3 : type_of% @z3 ∧ type_of% @s3_0 ∧ type_of% @s3_1 ∧ type_of% @s3_4 ∧ type_of% @s3_7 ∧ type_of% @s3_8 ∧ type_of% @s3_11 ∧ type_of% @s3_14 ∧ type_of% @s3_15 ∧ type_of% @s3_18 ∧ type_of% @s3_19 := ⟨@z3, @s3_0, @s3_1, @s3_4, @s3_7, @s3_8, @s3_11, @s3_14, @s3_15, @s3_18, @s3_19⟩
theorem ef3 (m : MethodId) (x0 : Int32) : entryFrame m [.int x0].toArray 1 = mkF m 0 [.val (.int x0)].toArray [] := by first | (simp [entryFrame, mkF, argsToLocals, Value.category, maxLocals, List.replicate]; done) | rfl
theorem pn3 : plainFor y3 = true := by first | decide +kernel | exact plainFor_of_name (by simp [y3, plainName, overriddenIn])
theorem pd3 : parseMethodDescriptor "(I)Z" = some ⟨[.int], some .boolean⟩ := by decide +kernel
theorem c3 (x0 : Int32) (g : G3 l Z b K 0 [.val (.int x0)] [] H 0 0) : Con tables_1 l Z b y3 method_4_code 1 (some .boolean) R3 [.int x0] H K := G.con pn3 (fun m => ef3 m x0) g
end Body3
section Calls0
variable {l : Launch} {Z : State} {b : Heap} {K : Option Value → List Cel → Prop} {ls : List Slot} {rest : List Value} {H : List Cel} {cN sN : Nat} {K' : Option Value → List Cel → Prop}
theorem k0_82 {x0 : Nat} {x1 : Int32} {x2 : Int32} (C : Con tables_1 l Z b y1 prog_60_method_10_code 3 (some .int) R1 [.ref x0, .int x1, .int x2] H K') (k : ∀ v H', K' v H' → G0 l Z b K 85 ls (v.toList ++ rest) H' (cN + 0) (sN + 0)) (hls : ls.length = maxLocals := by rfl) (hlo : wt rest + (3 + 11) + R1.locals ≤ room_1.locals := by exact Nat.le_of_ble_eq_true rfl) (hc : cN + R1.cells ≤ room_1.cells := by exact Nat.le_of_ble_eq_true rfl) (hs : sN + R1.slots ≤ room_1.slots := by exact Nat.le_of_ble_eq_true rfl) : G0 l Z b K 82 ls (.int x2 :: .int x1 :: .ref x0 :: rest) H cN sN := G.callS (List.mem_of_getElem? (i := 4) rfl) (List.mem_of_getElem? (i := 5) rfl) (List.mem_of_getElem? (i := 6) rfl) (List.mem_of_getElem? (i := 7) rfl) ⟨by decide, by decide⟩ pd1 C f0_82 rfl rfl hls (by decide) hlo hc hs k
theorem kf0_82 {x0 : Nat} {x1 : Int32} {x2 : Int32} {r : Value} {Hr : List Cel} (C : Con tables_1 l Z b y1 prog_60_method_10_code 3 (some .int) R1 [.ref x0, .int x1, .int x2] H (is (some r) Hr)) (k : G0 l Z b K 85 ls (r :: rest) Hr (cN + 0) (sN + 0)) (hls : ls.length = maxLocals := by rfl) (hlo : wt rest + (3 + 11) + R1.locals ≤ room_1.locals := by exact Nat.le_of_ble_eq_true rfl) (hc : cN + R1.cells ≤ room_1.cells := by exact Nat.le_of_ble_eq_true rfl) (hs : sN + R1.slots ≤ room_1.slots := by exact Nat.le_of_ble_eq_true rfl) : G0 l Z b K 82 ls (.int x2 :: .int x1 :: .ref x0 :: rest) H cN sN := k0_82 C (fun v H' h => by obtain ⟨rfl, rfl⟩ := h; exact k) hls hlo hc hs
theorem k0_147 {x0 : Nat} {x1 : Int32} {x2 : Int32} {x3 : Int32} {x4 : Int32} (C : Con tables_1 l Z b y2 method_3_code 5 (some .boolean) R2 [.ref x0, .int x1, .int x2, .int x3, .int x4] H K') (k : ∀ v H', K' v H' → G0 l Z b K 150 ls (v.toList ++ rest) H' (cN + 0) (sN + 0)) (hls : ls.length = maxLocals := by rfl) (hlo : wt rest + (5 + 11) + R2.locals ≤ room_1.locals := by exact Nat.le_of_ble_eq_true rfl) (hc : cN + R2.cells ≤ room_1.cells := by exact Nat.le_of_ble_eq_true rfl) (hs : sN + R2.slots ≤ room_1.slots := by exact Nat.le_of_ble_eq_true rfl) : G0 l Z b K 147 ls (.int x4 :: .int x3 :: .int x2 :: .int x1 :: .ref x0 :: rest) H cN sN := G.callS (List.mem_of_getElem? (i := 8) rfl) (List.mem_of_getElem? (i := 9) rfl) (List.mem_of_getElem? (i := 10) rfl) (List.mem_of_getElem? (i := 11) rfl) ⟨by decide, by decide⟩ pd2 C f0_147 rfl rfl hls (by decide) hlo hc hs k
theorem kf0_147 {x0 : Nat} {x1 : Int32} {x2 : Int32} {x3 : Int32} {x4 : Int32} {r : Value} {Hr : List Cel} (C : Con tables_1 l Z b y2 method_3_code 5 (some .boolean) R2 [.ref x0, .int x1, .int x2, .int x3, .int x4] H (is (some r) Hr)) (k : G0 l Z b K 150 ls (r :: rest) Hr (cN + 0) (sN + 0)) (hls : ls.length = maxLocals := by rfl) (hlo : wt rest + (5 + 11) + R2.locals ≤ room_1.locals := by exact Nat.le_of_ble_eq_true rfl) (hc : cN + R2.cells ≤ room_1.cells := by exact Nat.le_of_ble_eq_true rfl) (hs : sN + R2.slots ≤ room_1.slots := by exact Nat.le_of_ble_eq_true rfl) : G0 l Z b K 147 ls (.int x4 :: .int x3 :: .int x2 :: .int x1 :: .ref x0 :: rest) H cN sN := k0_147 C (fun v H' h => by obtain ⟨rfl, rfl⟩ := h; exact k) hls hlo hc hs
theorem k0_162 {x0 : Nat} {x1 : Int32} {x2 : Int32} {x3 : Int32} {x4 : Int32} (C : Con tables_1 l Z b y2 method_3_code 5 (some .boolean) R2 [.ref x0, .int x1, .int x2, .int x3, .int x4] H K') (k : ∀ v H', K' v H' → G0 l Z b K 165 ls (v.toList ++ rest) H' (cN + 0) (sN + 0)) (hls : ls.length = maxLocals := by rfl) (hlo : wt rest + (5 + 11) + R2.locals ≤ room_1.locals := by exact Nat.le_of_ble_eq_true rfl) (hc : cN + R2.cells ≤ room_1.cells := by exact Nat.le_of_ble_eq_true rfl) (hs : sN + R2.slots ≤ room_1.slots := by exact Nat.le_of_ble_eq_true rfl) : G0 l Z b K 162 ls (.int x4 :: .int x3 :: .int x2 :: .int x1 :: .ref x0 :: rest) H cN sN := G.callS (List.mem_of_getElem? (i := 8) rfl) (List.mem_of_getElem? (i := 9) rfl) (List.mem_of_getElem? (i := 10) rfl) (List.mem_of_getElem? (i := 11) rfl) ⟨by decide, by decide⟩ pd2 C f0_162 rfl rfl hls (by decide) hlo hc hs k
theorem kf0_162 {x0 : Nat} {x1 : Int32} {x2 : Int32} {x3 : Int32} {x4 : Int32} {r : Value} {Hr : List Cel} (C : Con tables_1 l Z b y2 method_3_code 5 (some .boolean) R2 [.ref x0, .int x1, .int x2, .int x3, .int x4] H (is (some r) Hr)) (k : G0 l Z b K 165 ls (r :: rest) Hr (cN + 0) (sN + 0)) (hls : ls.length = maxLocals := by rfl) (hlo : wt rest + (5 + 11) + R2.locals ≤ room_1.locals := by exact Nat.le_of_ble_eq_true rfl) (hc : cN + R2.cells ≤ room_1.cells := by exact Nat.le_of_ble_eq_true rfl) (hs : sN + R2.slots ≤ room_1.slots := by exact Nat.le_of_ble_eq_true rfl) : G0 l Z b K 162 ls (.int x4 :: .int x3 :: .int x2 :: .int x1 :: .ref x0 :: rest) H cN sN := k0_162 C (fun v H' h => by obtain ⟨rfl, rfl⟩ := h; exact k) hls hlo hc hs
theorem k0_177 {x0 : Nat} {x1 : Int32} {x2 : Int32} {x3 : Int32} {x4 : Int32} (C : Con tables_1 l Z b y2 method_3_code 5 (some .boolean) R2 [.ref x0, .int x1, .int x2, .int x3, .int x4] H K') (k : ∀ v H', K' v H' → G0 l Z b K 180 ls (v.toList ++ rest) H' (cN + 0) (sN + 0)) (hls : ls.length = maxLocals := by rfl) (hlo : wt rest + (5 + 11) + R2.locals ≤ room_1.locals := by exact Nat.le_of_ble_eq_true rfl) (hc : cN + R2.cells ≤ room_1.cells := by exact Nat.le_of_ble_eq_true rfl) (hs : sN + R2.slots ≤ room_1.slots := by exact Nat.le_of_ble_eq_true rfl) : G0 l Z b K 177 ls (.int x4 :: .int x3 :: .int x2 :: .int x1 :: .ref x0 :: rest) H cN sN := G.callS (List.mem_of_getElem? (i := 8) rfl) (List.mem_of_getElem? (i := 9) rfl) (List.mem_of_getElem? (i := 10) rfl) (List.mem_of_getElem? (i := 11) rfl) ⟨by decide, by decide⟩ pd2 C f0_177 rfl rfl hls (by decide) hlo hc hs k
theorem kf0_177 {x0 : Nat} {x1 : Int32} {x2 : Int32} {x3 : Int32} {x4 : Int32} {r : Value} {Hr : List Cel} (C : Con tables_1 l Z b y2 method_3_code 5 (some .boolean) R2 [.ref x0, .int x1, .int x2, .int x3, .int x4] H (is (some r) Hr)) (k : G0 l Z b K 180 ls (r :: rest) Hr (cN + 0) (sN + 0)) (hls : ls.length = maxLocals := by rfl) (hlo : wt rest + (5 + 11) + R2.locals ≤ room_1.locals := by exact Nat.le_of_ble_eq_true rfl) (hc : cN + R2.cells ≤ room_1.cells := by exact Nat.le_of_ble_eq_true rfl) (hs : sN + R2.slots ≤ room_1.slots := by exact Nat.le_of_ble_eq_true rfl) : G0 l Z b K 177 ls (.int x4 :: .int x3 :: .int x2 :: .int x1 :: .ref x0 :: rest) H cN sN := k0_177 C (fun v H' h => by obtain ⟨rfl, rfl⟩ := h; exact k) hls hlo hc hs
theorem k0_192 {x0 : Nat} {x1 : Int32} {x2 : Int32} {x3 : Int32} {x4 : Int32} (C : Con tables_1 l Z b y2 method_3_code 5 (some .boolean) R2 [.ref x0, .int x1, .int x2, .int x3, .int x4] H K') (k : ∀ v H', K' v H' → G0 l Z b K 195 ls (v.toList ++ rest) H' (cN + 0) (sN + 0)) (hls : ls.length = maxLocals := by rfl) (hlo : wt rest + (5 + 11) + R2.locals ≤ room_1.locals := by exact Nat.le_of_ble_eq_true rfl) (hc : cN + R2.cells ≤ room_1.cells := by exact Nat.le_of_ble_eq_true rfl) (hs : sN + R2.slots ≤ room_1.slots := by exact Nat.le_of_ble_eq_true rfl) : G0 l Z b K 192 ls (.int x4 :: .int x3 :: .int x2 :: .int x1 :: .ref x0 :: rest) H cN sN := G.callS (List.mem_of_getElem? (i := 8) rfl) (List.mem_of_getElem? (i := 9) rfl) (List.mem_of_getElem? (i := 10) rfl) (List.mem_of_getElem? (i := 11) rfl) ⟨by decide, by decide⟩ pd2 C f0_192 rfl rfl hls (by decide) hlo hc hs k
theorem kf0_192 {x0 : Nat} {x1 : Int32} {x2 : Int32} {x3 : Int32} {x4 : Int32} {r : Value} {Hr : List Cel} (C : Con tables_1 l Z b y2 method_3_code 5 (some .boolean) R2 [.ref x0, .int x1, .int x2, .int x3, .int x4] H (is (some r) Hr)) (k : G0 l Z b K 195 ls (r :: rest) Hr (cN + 0) (sN + 0)) (hls : ls.length = maxLocals := by rfl) (hlo : wt rest + (5 + 11) + R2.locals ≤ room_1.locals := by exact Nat.le_of_ble_eq_true rfl) (hc : cN + R2.cells ≤ room_1.cells := by exact Nat.le_of_ble_eq_true rfl) (hs : sN + R2.slots ≤ room_1.slots := by exact Nat.le_of_ble_eq_true rfl) : G0 l Z b K 192 ls (.int x4 :: .int x3 :: .int x2 :: .int x1 :: .ref x0 :: rest) H cN sN := k0_192 C (fun v H' h => by obtain ⟨rfl, rfl⟩ := h; exact k) hls hlo hc hs
theorem k0_207 {x0 : Nat} {x1 : Int32} {x2 : Int32} {x3 : Int32} {x4 : Int32} (C : Con tables_1 l Z b y2 method_3_code 5 (some .boolean) R2 [.ref x0, .int x1, .int x2, .int x3, .int x4] H K') (k : ∀ v H', K' v H' → G0 l Z b K 210 ls (v.toList ++ rest) H' (cN + 0) (sN + 0)) (hls : ls.length = maxLocals := by rfl) (hlo : wt rest + (5 + 11) + R2.locals ≤ room_1.locals := by exact Nat.le_of_ble_eq_true rfl) (hc : cN + R2.cells ≤ room_1.cells := by exact Nat.le_of_ble_eq_true rfl) (hs : sN + R2.slots ≤ room_1.slots := by exact Nat.le_of_ble_eq_true rfl) : G0 l Z b K 207 ls (.int x4 :: .int x3 :: .int x2 :: .int x1 :: .ref x0 :: rest) H cN sN := G.callS (List.mem_of_getElem? (i := 8) rfl) (List.mem_of_getElem? (i := 9) rfl) (List.mem_of_getElem? (i := 10) rfl) (List.mem_of_getElem? (i := 11) rfl) ⟨by decide, by decide⟩ pd2 C f0_207 rfl rfl hls (by decide) hlo hc hs k
theorem kf0_207 {x0 : Nat} {x1 : Int32} {x2 : Int32} {x3 : Int32} {x4 : Int32} {r : Value} {Hr : List Cel} (C : Con tables_1 l Z b y2 method_3_code 5 (some .boolean) R2 [.ref x0, .int x1, .int x2, .int x3, .int x4] H (is (some r) Hr)) (k : G0 l Z b K 210 ls (r :: rest) Hr (cN + 0) (sN + 0)) (hls : ls.length = maxLocals := by rfl) (hlo : wt rest + (5 + 11) + R2.locals ≤ room_1.locals := by exact Nat.le_of_ble_eq_true rfl) (hc : cN + R2.cells ≤ room_1.cells := by exact Nat.le_of_ble_eq_true rfl) (hs : sN + R2.slots ≤ room_1.slots := by exact Nat.le_of_ble_eq_true rfl) : G0 l Z b K 207 ls (.int x4 :: .int x3 :: .int x2 :: .int x1 :: .ref x0 :: rest) H cN sN := k0_207 C (fun v H' h => by obtain ⟨rfl, rfl⟩ := h; exact k) hls hlo hc hs
theorem k0_222 {x0 : Nat} {x1 : Int32} {x2 : Int32} {x3 : Int32} {x4 : Int32} (C : Con tables_1 l Z b y2 method_3_code 5 (some .boolean) R2 [.ref x0, .int x1, .int x2, .int x3, .int x4] H K') (k : ∀ v H', K' v H' → G0 l Z b K 225 ls (v.toList ++ rest) H' (cN + 0) (sN + 0)) (hls : ls.length = maxLocals := by rfl) (hlo : wt rest + (5 + 11) + R2.locals ≤ room_1.locals := by exact Nat.le_of_ble_eq_true rfl) (hc : cN + R2.cells ≤ room_1.cells := by exact Nat.le_of_ble_eq_true rfl) (hs : sN + R2.slots ≤ room_1.slots := by exact Nat.le_of_ble_eq_true rfl) : G0 l Z b K 222 ls (.int x4 :: .int x3 :: .int x2 :: .int x1 :: .ref x0 :: rest) H cN sN := G.callS (List.mem_of_getElem? (i := 8) rfl) (List.mem_of_getElem? (i := 9) rfl) (List.mem_of_getElem? (i := 10) rfl) (List.mem_of_getElem? (i := 11) rfl) ⟨by decide, by decide⟩ pd2 C f0_222 rfl rfl hls (by decide) hlo hc hs k
theorem kf0_222 {x0 : Nat} {x1 : Int32} {x2 : Int32} {x3 : Int32} {x4 : Int32} {r : Value} {Hr : List Cel} (C : Con tables_1 l Z b y2 method_3_code 5 (some .boolean) R2 [.ref x0, .int x1, .int x2, .int x3, .int x4] H (is (some r) Hr)) (k : G0 l Z b K 225 ls (r :: rest) Hr (cN + 0) (sN + 0)) (hls : ls.length = maxLocals := by rfl) (hlo : wt rest + (5 + 11) + R2.locals ≤ room_1.locals := by exact Nat.le_of_ble_eq_true rfl) (hc : cN + R2.cells ≤ room_1.cells := by exact Nat.le_of_ble_eq_true rfl) (hs : sN + R2.slots ≤ room_1.slots := by exact Nat.le_of_ble_eq_true rfl) : G0 l Z b K 222 ls (.int x4 :: .int x3 :: .int x2 :: .int x1 :: .ref x0 :: rest) H cN sN := k0_222 C (fun v H' h => by obtain ⟨rfl, rfl⟩ := h; exact k) hls hlo hc hs
theorem k0_238 {x0 : Nat} {x1 : Int32} {x2 : Int32} {x3 : Int32} {x4 : Int32} (C : Con tables_1 l Z b y2 method_3_code 5 (some .boolean) R2 [.ref x0, .int x1, .int x2, .int x3, .int x4] H K') (k : ∀ v H', K' v H' → G0 l Z b K 241 ls (v.toList ++ rest) H' (cN + 0) (sN + 0)) (hls : ls.length = maxLocals := by rfl) (hlo : wt rest + (5 + 11) + R2.locals ≤ room_1.locals := by exact Nat.le_of_ble_eq_true rfl) (hc : cN + R2.cells ≤ room_1.cells := by exact Nat.le_of_ble_eq_true rfl) (hs : sN + R2.slots ≤ room_1.slots := by exact Nat.le_of_ble_eq_true rfl) : G0 l Z b K 238 ls (.int x4 :: .int x3 :: .int x2 :: .int x1 :: .ref x0 :: rest) H cN sN := G.callS (List.mem_of_getElem? (i := 8) rfl) (List.mem_of_getElem? (i := 9) rfl) (List.mem_of_getElem? (i := 10) rfl) (List.mem_of_getElem? (i := 11) rfl) ⟨by decide, by decide⟩ pd2 C f0_238 rfl rfl hls (by decide) hlo hc hs k
theorem kf0_238 {x0 : Nat} {x1 : Int32} {x2 : Int32} {x3 : Int32} {x4 : Int32} {r : Value} {Hr : List Cel} (C : Con tables_1 l Z b y2 method_3_code 5 (some .boolean) R2 [.ref x0, .int x1, .int x2, .int x3, .int x4] H (is (some r) Hr)) (k : G0 l Z b K 241 ls (r :: rest) Hr (cN + 0) (sN + 0)) (hls : ls.length = maxLocals := by rfl) (hlo : wt rest + (5 + 11) + R2.locals ≤ room_1.locals := by exact Nat.le_of_ble_eq_true rfl) (hc : cN + R2.cells ≤ room_1.cells := by exact Nat.le_of_ble_eq_true rfl) (hs : sN + R2.slots ≤ room_1.slots := by exact Nat.le_of_ble_eq_true rfl) : G0 l Z b K 238 ls (.int x4 :: .int x3 :: .int x2 :: .int x1 :: .ref x0 :: rest) H cN sN := k0_238 C (fun v H' h => by obtain ⟨rfl, rfl⟩ := h; exact k) hls hlo hc hs
theorem k0_254 {x0 : Nat} {x1 : Int32} {x2 : Int32} {x3 : Int32} {x4 : Int32} (C : Con tables_1 l Z b y2 method_3_code 5 (some .boolean) R2 [.ref x0, .int x1, .int x2, .int x3, .int x4] H K') (k : ∀ v H', K' v H' → G0 l Z b K 257 ls (v.toList ++ rest) H' (cN + 0) (sN + 0)) (hls : ls.length = maxLocals := by rfl) (hlo : wt rest + (5 + 11) + R2.locals ≤ room_1.locals := by exact Nat.le_of_ble_eq_true rfl) (hc : cN + R2.cells ≤ room_1.cells := by exact Nat.le_of_ble_eq_true rfl) (hs : sN + R2.slots ≤ room_1.slots := by exact Nat.le_of_ble_eq_true rfl) : G0 l Z b K 254 ls (.int x4 :: .int x3 :: .int x2 :: .int x1 :: .ref x0 :: rest) H cN sN := G.callS (List.mem_of_getElem? (i := 8) rfl) (List.mem_of_getElem? (i := 9) rfl) (List.mem_of_getElem? (i := 10) rfl) (List.mem_of_getElem? (i := 11) rfl) ⟨by decide, by decide⟩ pd2 C f0_254 rfl rfl hls (by decide) hlo hc hs k
theorem kf0_254 {x0 : Nat} {x1 : Int32} {x2 : Int32} {x3 : Int32} {x4 : Int32} {r : Value} {Hr : List Cel} (C : Con tables_1 l Z b y2 method_3_code 5 (some .boolean) R2 [.ref x0, .int x1, .int x2, .int x3, .int x4] H (is (some r) Hr)) (k : G0 l Z b K 257 ls (r :: rest) Hr (cN + 0) (sN + 0)) (hls : ls.length = maxLocals := by rfl) (hlo : wt rest + (5 + 11) + R2.locals ≤ room_1.locals := by exact Nat.le_of_ble_eq_true rfl) (hc : cN + R2.cells ≤ room_1.cells := by exact Nat.le_of_ble_eq_true rfl) (hs : sN + R2.slots ≤ room_1.slots := by exact Nat.le_of_ble_eq_true rfl) : G0 l Z b K 254 ls (.int x4 :: .int x3 :: .int x2 :: .int x1 :: .ref x0 :: rest) H cN sN := k0_254 C (fun v H' h => by obtain ⟨rfl, rfl⟩ := h; exact k) hls hlo hc hs
theorem k0_366 {x0 : Int32} (C : Con tables_1 l Z b y3 method_4_code 1 (some .boolean) R3 [.int x0] H K') (k : ∀ v H', K' v H' → G0 l Z b K 369 ls (v.toList ++ rest) H' (cN + 0) (sN + 0)) (hls : ls.length = maxLocals := by rfl) (hlo : wt rest + (1 + 11) + R3.locals ≤ room_1.locals := by exact Nat.le_of_ble_eq_true rfl) (hc : cN + R3.cells ≤ room_1.cells := by exact Nat.le_of_ble_eq_true rfl) (hs : sN + R3.slots ≤ room_1.slots := by exact Nat.le_of_ble_eq_true rfl) : G0 l Z b K 366 ls (.int x0 :: rest) H cN sN := G.callS (List.mem_of_getElem? (i := 12) rfl) (List.mem_of_getElem? (i := 13) rfl) (List.mem_of_getElem? (i := 10) rfl) (List.mem_of_getElem? (i := 14) rfl) ⟨by decide, by decide⟩ pd3 C f0_366 rfl rfl hls (by decide) hlo hc hs k
theorem kf0_366 {x0 : Int32} {r : Value} {Hr : List Cel} (C : Con tables_1 l Z b y3 method_4_code 1 (some .boolean) R3 [.int x0] H (is (some r) Hr)) (k : G0 l Z b K 369 ls (r :: rest) Hr (cN + 0) (sN + 0)) (hls : ls.length = maxLocals := by rfl) (hlo : wt rest + (1 + 11) + R3.locals ≤ room_1.locals := by exact Nat.le_of_ble_eq_true rfl) (hc : cN + R3.cells ≤ room_1.cells := by exact Nat.le_of_ble_eq_true rfl) (hs : sN + R3.slots ≤ room_1.slots := by exact Nat.le_of_ble_eq_true rfl) : G0 l Z b K 366 ls (.int x0 :: rest) H cN sN := k0_366 C (fun v H' h => by obtain ⟨rfl, rfl⟩ := h; exact k) hls hlo hc hs
theorem k0_422 {x0 : Int32} (C : Con tables_1 l Z b y3 method_4_code 1 (some .boolean) R3 [.int x0] H K') (k : ∀ v H', K' v H' → G0 l Z b K 425 ls (v.toList ++ rest) H' (cN + 0) (sN + 0)) (hls : ls.length = maxLocals := by rfl) (hlo : wt rest + (1 + 11) + R3.locals ≤ room_1.locals := by exact Nat.le_of_ble_eq_true rfl) (hc : cN + R3.cells ≤ room_1.cells := by exact Nat.le_of_ble_eq_true rfl) (hs : sN + R3.slots ≤ room_1.slots := by exact Nat.le_of_ble_eq_true rfl) : G0 l Z b K 422 ls (.int x0 :: rest) H cN sN := G.callS (List.mem_of_getElem? (i := 12) rfl) (List.mem_of_getElem? (i := 13) rfl) (List.mem_of_getElem? (i := 10) rfl) (List.mem_of_getElem? (i := 14) rfl) ⟨by decide, by decide⟩ pd3 C f0_422 rfl rfl hls (by decide) hlo hc hs k
theorem kf0_422 {x0 : Int32} {r : Value} {Hr : List Cel} (C : Con tables_1 l Z b y3 method_4_code 1 (some .boolean) R3 [.int x0] H (is (some r) Hr)) (k : G0 l Z b K 425 ls (r :: rest) Hr (cN + 0) (sN + 0)) (hls : ls.length = maxLocals := by rfl) (hlo : wt rest + (1 + 11) + R3.locals ≤ room_1.locals := by exact Nat.le_of_ble_eq_true rfl) (hc : cN + R3.cells ≤ room_1.cells := by exact Nat.le_of_ble_eq_true rfl) (hs : sN + R3.slots ≤ room_1.slots := by exact Nat.le_of_ble_eq_true rfl) : G0 l Z b K 422 ls (.int x0 :: rest) H cN sN := k0_422 C (fun v H' h => by obtain ⟨rfl, rfl⟩ := h; exact k) hls hlo hc hs
theorem k0_430 {x0 : Int32} (C : Con tables_1 l Z b y3 method_4_code 1 (some .boolean) R3 [.int x0] H K') (k : ∀ v H', K' v H' → G0 l Z b K 433 ls (v.toList ++ rest) H' (cN + 0) (sN + 0)) (hls : ls.length = maxLocals := by rfl) (hlo : wt rest + (1 + 11) + R3.locals ≤ room_1.locals := by exact Nat.le_of_ble_eq_true rfl) (hc : cN + R3.cells ≤ room_1.cells := by exact Nat.le_of_ble_eq_true rfl) (hs : sN + R3.slots ≤ room_1.slots := by exact Nat.le_of_ble_eq_true rfl) : G0 l Z b K 430 ls (.int x0 :: rest) H cN sN := G.callS (List.mem_of_getElem? (i := 12) rfl) (List.mem_of_getElem? (i := 13) rfl) (List.mem_of_getElem? (i := 10) rfl) (List.mem_of_getElem? (i := 14) rfl) ⟨by decide, by decide⟩ pd3 C f0_430 rfl rfl hls (by decide) hlo hc hs k
theorem kf0_430 {x0 : Int32} {r : Value} {Hr : List Cel} (C : Con tables_1 l Z b y3 method_4_code 1 (some .boolean) R3 [.int x0] H (is (some r) Hr)) (k : G0 l Z b K 433 ls (r :: rest) Hr (cN + 0) (sN + 0)) (hls : ls.length = maxLocals := by rfl) (hlo : wt rest + (1 + 11) + R3.locals ≤ room_1.locals := by exact Nat.le_of_ble_eq_true rfl) (hc : cN + R3.cells ≤ room_1.cells := by exact Nat.le_of_ble_eq_true rfl) (hs : sN + R3.slots ≤ room_1.slots := by exact Nat.le_of_ble_eq_true rfl) : G0 l Z b K 430 ls (.int x0 :: rest) H cN sN := k0_430 C (fun v H' h => by obtain ⟨rfl, rfl⟩ := h; exact k) hls hlo hc hs
theorem k0_491 {x0 : Int32} (C : Con tables_1 l Z b y3 method_4_code 1 (some .boolean) R3 [.int x0] H K') (k : ∀ v H', K' v H' → G0 l Z b K 494 ls (v.toList ++ rest) H' (cN + 0) (sN + 0)) (hls : ls.length = maxLocals := by rfl) (hlo : wt rest + (1 + 11) + R3.locals ≤ room_1.locals := by exact Nat.le_of_ble_eq_true rfl) (hc : cN + R3.cells ≤ room_1.cells := by exact Nat.le_of_ble_eq_true rfl) (hs : sN + R3.slots ≤ room_1.slots := by exact Nat.le_of_ble_eq_true rfl) : G0 l Z b K 491 ls (.int x0 :: rest) H cN sN := G.callS (List.mem_of_getElem? (i := 12) rfl) (List.mem_of_getElem? (i := 13) rfl) (List.mem_of_getElem? (i := 10) rfl) (List.mem_of_getElem? (i := 14) rfl) ⟨by decide, by decide⟩ pd3 C f0_491 rfl rfl hls (by decide) hlo hc hs k
theorem kf0_491 {x0 : Int32} {r : Value} {Hr : List Cel} (C : Con tables_1 l Z b y3 method_4_code 1 (some .boolean) R3 [.int x0] H (is (some r) Hr)) (k : G0 l Z b K 494 ls (r :: rest) Hr (cN + 0) (sN + 0)) (hls : ls.length = maxLocals := by rfl) (hlo : wt rest + (1 + 11) + R3.locals ≤ room_1.locals := by exact Nat.le_of_ble_eq_true rfl) (hc : cN + R3.cells ≤ room_1.cells := by exact Nat.le_of_ble_eq_true rfl) (hs : sN + R3.slots ≤ room_1.slots := by exact Nat.le_of_ble_eq_true rfl) : G0 l Z b K 491 ls (.int x0 :: rest) H cN sN := k0_491 C (fun v H' h => by obtain ⟨rfl, rfl⟩ := h; exact k) hls hlo hc hs
theorem k0_499 {x0 : Int32} (C : Con tables_1 l Z b y3 method_4_code 1 (some .boolean) R3 [.int x0] H K') (k : ∀ v H', K' v H' → G0 l Z b K 502 ls (v.toList ++ rest) H' (cN + 0) (sN + 0)) (hls : ls.length = maxLocals := by rfl) (hlo : wt rest + (1 + 11) + R3.locals ≤ room_1.locals := by exact Nat.le_of_ble_eq_true rfl) (hc : cN + R3.cells ≤ room_1.cells := by exact Nat.le_of_ble_eq_true rfl) (hs : sN + R3.slots ≤ room_1.slots := by exact Nat.le_of_ble_eq_true rfl) : G0 l Z b K 499 ls (.int x0 :: rest) H cN sN := G.callS (List.mem_of_getElem? (i := 12) rfl) (List.mem_of_getElem? (i := 13) rfl) (List.mem_of_getElem? (i := 10) rfl) (List.mem_of_getElem? (i := 14) rfl) ⟨by decide, by decide⟩ pd3 C f0_499 rfl rfl hls (by decide) hlo hc hs k
theorem kf0_499 {x0 : Int32} {r : Value} {Hr : List Cel} (C : Con tables_1 l Z b y3 method_4_code 1 (some .boolean) R3 [.int x0] H (is (some r) Hr)) (k : G0 l Z b K 502 ls (r :: rest) Hr (cN + 0) (sN + 0)) (hls : ls.length = maxLocals := by rfl) (hlo : wt rest + (1 + 11) + R3.locals ≤ room_1.locals := by exact Nat.le_of_ble_eq_true rfl) (hc : cN + R3.cells ≤ room_1.cells := by exact Nat.le_of_ble_eq_true rfl) (hs : sN + R3.slots ≤ room_1.slots := by exact Nat.le_of_ble_eq_true rfl) : G0 l Z b K 499 ls (.int x0 :: rest) H cN sN := k0_499 C (fun v H' h => by obtain ⟨rfl, rfl⟩ := h; exact k) hls hlo hc hs
theorem k0_507 {x0 : Int32} (C : Con tables_1 l Z b y3 method_4_code 1 (some .boolean) R3 [.int x0] H K') (k : ∀ v H', K' v H' → G0 l Z b K 510 ls (v.toList ++ rest) H' (cN + 0) (sN + 0)) (hls : ls.length = maxLocals := by rfl) (hlo : wt rest + (1 + 11) + R3.locals ≤ room_1.locals := by exact Nat.le_of_ble_eq_true rfl) (hc : cN + R3.cells ≤ room_1.cells := by exact Nat.le_of_ble_eq_true rfl) (hs : sN + R3.slots ≤ room_1.slots := by exact Nat.le_of_ble_eq_true rfl) : G0 l Z b K 507 ls (.int x0 :: rest) H cN sN := G.callS (List.mem_of_getElem? (i := 12) rfl) (List.mem_of_getElem? (i := 13) rfl) (List.mem_of_getElem? (i := 10) rfl) (List.mem_of_getElem? (i := 14) rfl) ⟨by decide, by decide⟩ pd3 C f0_507 rfl rfl hls (by decide) hlo hc hs k
theorem kf0_507 {x0 : Int32} {r : Value} {Hr : List Cel} (C : Con tables_1 l Z b y3 method_4_code 1 (some .boolean) R3 [.int x0] H (is (some r) Hr)) (k : G0 l Z b K 510 ls (r :: rest) Hr (cN + 0) (sN + 0)) (hls : ls.length = maxLocals := by rfl) (hlo : wt rest + (1 + 11) + R3.locals ≤ room_1.locals := by exact Nat.le_of_ble_eq_true rfl) (hc : cN + R3.cells ≤ room_1.cells := by exact Nat.le_of_ble_eq_true rfl) (hs : sN + R3.slots ≤ room_1.slots := by exact Nat.le_of_ble_eq_true rfl) : G0 l Z b K 507 ls (.int x0 :: rest) H cN sN := k0_507 C (fun v H' h => by obtain ⟨rfl, rfl⟩ := h; exact k) hls hlo hc hs
end Calls0
theorem room_c : room_1.cells = 16 := by decide
theorem room_s : room_1.slots = 128 := by decide
--STOP 0 14 20
def kp (i a n f p : Int32) : Int32 := if i < a then (if p = f then 1 else 0) else if i < a + n then 1 else (if p = f then 1 else 0)
def ct (x : Int32) : Int32 := if x < 128 then 0 else if 191 < x then 0 else 1
section Own
variable {l : Launch} {Z : State} {b : Heap} {H : List Cel}
theorem con2 (vs : List Value) (i : Nat) (p a n f : Int32) (hi : vs[i]? = some (.int p)) (hl : i < 1000) :
    Con tables_1 l Z b y2 method_3_code 5 (some .boolean) R2 [.ref (ad b.size 0), .int (Int32.ofNat i), .int a, .int n, .int f] [.inl (.byte, vs)] (is (some (.int (kp (Int32.ofNat i) a n f p))) [.inl (.byte, vs)]) := by
  have g0 : i < 2147483648 := by omega
  refine c2 _ _ _ _ _ (r2 100 ?_)
  by_cases h1 : Int32.ofNat i < a
  · by_cases h4 : p = f
    · subst h4; simp only [↓S2, ↓B0, ↓setN_c, ↓idxN_c, ↓reduceIte, B1, List.length_cons, List.length_nil, List.mem_cons, List.not_mem_nil, or_false, true_or, or_true, true_and, and_true, and_self, not_true_eq_false, not_false_eq_true, eq_self, ne_eq, Nat.zero_le, Nat.le_refl, Nat.reduceAdd, Nat.reduceSub, Nat.reduceEqDiff, Nat.reduceLeDiff, Int32.reduceLT, Int32.reduceLE, Int32.reduceAdd, Int32.reduceSub, Int32.reduceMul, Int32.reduceToNatClampNeg, Int32.reduceOfNat, Int32.reduceOfInt, Int64.reduceLT, Int64.reduceAdd, Int64.reduceSub, Int64.reduceMul, String.reduceEq, reduceCtorEq, room_c, room_s, h1, ↓idx_lt g0 hi, kp]; exact is_self
    · simp only [↓S2, ↓B0, ↓setN_c, ↓idxN_c, ↓reduceIte, B1, List.length_cons, List.length_nil, List.mem_cons, List.not_mem_nil, or_false, true_or, or_true, true_and, and_true, and_self, not_true_eq_false, not_false_eq_true, eq_self, ne_eq, Nat.zero_le, Nat.le_refl, Nat.reduceAdd, Nat.reduceSub, Nat.reduceEqDiff, Nat.reduceLeDiff, Int32.reduceLT, Int32.reduceLE, Int32.reduceAdd, Int32.reduceSub, Int32.reduceMul, Int32.reduceToNatClampNeg, Int32.reduceOfNat, Int32.reduceOfInt, Int64.reduceLT, Int64.reduceAdd, Int64.reduceSub, Int64.reduceMul, String.reduceEq, reduceCtorEq, room_c, room_s, h1, ↓idx_lt g0 hi, h4, kp]; exact is_self
  · by_cases h2 : Int32.ofNat i < a + n
    · simp only [↓S2, ↓B0, ↓setN_c, ↓idxN_c, ↓reduceIte, B1, List.length_cons, List.length_nil, List.mem_cons, List.not_mem_nil, or_false, true_or, or_true, true_and, and_true, and_self, not_true_eq_false, not_false_eq_true, eq_self, ne_eq, Nat.zero_le, Nat.le_refl, Nat.reduceAdd, Nat.reduceSub, Nat.reduceEqDiff, Nat.reduceLeDiff, Int32.reduceLT, Int32.reduceLE, Int32.reduceAdd, Int32.reduceSub, Int32.reduceMul, Int32.reduceToNatClampNeg, Int32.reduceOfNat, Int32.reduceOfInt, Int64.reduceLT, Int64.reduceAdd, Int64.reduceSub, Int64.reduceMul, String.reduceEq, reduceCtorEq, room_c, room_s, h1, h2, kp]; exact is_self
    · by_cases h4 : p = f
      · subst h4; simp only [↓S2, ↓B0, ↓setN_c, ↓idxN_c, ↓reduceIte, B1, List.length_cons, List.length_nil, List.mem_cons, List.not_mem_nil, or_false, true_or, or_true, true_and, and_true, and_self, not_true_eq_false, not_false_eq_true, eq_self, ne_eq, Nat.zero_le, Nat.le_refl, Nat.reduceAdd, Nat.reduceSub, Nat.reduceEqDiff, Nat.reduceLeDiff, Int32.reduceLT, Int32.reduceLE, Int32.reduceAdd, Int32.reduceSub, Int32.reduceMul, Int32.reduceToNatClampNeg, Int32.reduceOfNat, Int32.reduceOfInt, Int64.reduceLT, Int64.reduceAdd, Int64.reduceSub, Int64.reduceMul, String.reduceEq, reduceCtorEq, room_c, room_s, h1, h2, ↓idx_lt g0 hi, kp]; exact is_self
      · simp only [↓S2, ↓B0, ↓setN_c, ↓idxN_c, ↓reduceIte, B1, List.length_cons, List.length_nil, List.mem_cons, List.not_mem_nil, or_false, true_or, or_true, true_and, and_true, and_self, not_true_eq_false, not_false_eq_true, eq_self, ne_eq, Nat.zero_le, Nat.le_refl, Nat.reduceAdd, Nat.reduceSub, Nat.reduceEqDiff, Nat.reduceLeDiff, Int32.reduceLT, Int32.reduceLE, Int32.reduceAdd, Int32.reduceSub, Int32.reduceMul, Int32.reduceToNatClampNeg, Int32.reduceOfNat, Int32.reduceOfInt, Int64.reduceLT, Int64.reduceAdd, Int64.reduceSub, Int64.reduceMul, String.reduceEq, reduceCtorEq, room_c, room_s, h1, h2, ↓idx_lt g0 hi, h4, kp]; exact is_self
theorem con3 (x : Int32) : Con tables_1 l Z b y3 method_4_code 1 (some .boolean) R3 [.int x] H (is (some (.int (ct x))) H) := by
  refine c3 _ (r3 60 ?_)
  by_cases h1 : x < 128
  · simp only [↓S3, ↓B0, ↓idx_c, ↓setN_c, ↓idxN_c, ↓reduceIte, B1, List.length_cons, List.length_nil, List.mem_cons, List.not_mem_nil, or_false, true_or, or_true, true_and, and_true, and_self, not_true_eq_false, not_false_eq_true, eq_self, ne_eq, Nat.zero_le, Nat.le_refl, Nat.reduceAdd, Nat.reduceSub, Nat.reduceEqDiff, Nat.reduceLeDiff, Int32.reduceLT, Int32.reduceLE, Int32.reduceAdd, Int32.reduceSub, Int32.reduceMul, Int32.reduceToNatClampNeg, Int32.reduceOfNat, Int32.reduceOfInt, Int64.reduceLT, Int64.reduceAdd, Int64.reduceSub, Int64.reduceMul, String.reduceEq, reduceCtorEq, room_c, room_s, h1, ct]; exact is_self
  · by_cases h2 : 191 < x <;> simp only [↓S3, ↓B0, ↓idx_c, ↓setN_c, ↓idxN_c, ↓reduceIte, B1, List.length_cons, List.length_nil, List.mem_cons, List.not_mem_nil, or_false, true_or, or_true, true_and, and_true, and_self, not_true_eq_false, not_false_eq_true, eq_self, ne_eq, Nat.zero_le, Nat.le_refl, Nat.reduceAdd, Nat.reduceSub, Nat.reduceEqDiff, Nat.reduceLeDiff, Int32.reduceLT, Int32.reduceLE, Int32.reduceAdd, Int32.reduceSub, Int32.reduceMul, Int32.reduceToNatClampNeg, Int32.reduceOfNat, Int32.reduceOfInt, Int64.reduceLT, Int64.reduceAdd, Int64.reduceSub, Int64.reduceMul, String.reduceEq, reduceCtorEq, room_c, room_s, h1, h2, ct] <;> exact is_self
theorem con1_0_1 (f c : Int32)  (h1 : c < 128) : Con tables_1 l Z b y1 prog_60_method_10_code 3 (some .int) R1 [.ref (ad b.size 0), .int 0, .int c] [.inl (.byte, [.int f, .int f, .int f, .int f, .int f, .int f, .int f, .int f])] (is (some (.int 1)) [.inl (.byte, [.int (nar .byte c), .int f, .int f, .int f, .int f, .int f, .int f, .int f])]) := by
  refine c1 _ _ _ (r1 200 ?_)
  simp only [↓S1, ↓B0, ↓idx_c, ↓setN_c, ↓idxN_c, ↓reduceIte, B1, List.length_cons, List.length_nil, List.mem_cons, List.not_mem_nil, or_false, true_or, or_true, true_and, and_true, and_self, not_true_eq_false, not_false_eq_true, eq_self, ne_eq, Nat.zero_le, Nat.le_refl, Nat.reduceAdd, Nat.reduceSub, Nat.reduceEqDiff, Nat.reduceLeDiff, Int32.reduceLT, Int32.reduceLE, Int32.reduceAdd, Int32.reduceSub, Int32.reduceMul, Int32.reduceToNatClampNeg, Int32.reduceOfNat, Int32.reduceOfInt, Int64.reduceLT, Int64.reduceAdd, Int64.reduceSub, Int64.reduceMul, String.reduceEq, reduceCtorEq, room_c, room_s, h1]
  exact is_self
theorem con1_0_2 (f c : Int32) (h1 : ¬ c < 128) (h2 : c < 2048) : Con tables_1 l Z b y1 prog_60_method_10_code 3 (some .int) R1 [.ref (ad b.size 0), .int 0, .int c] [.inl (.byte, [.int f, .int f, .int f, .int f, .int f, .int f, .int f, .int f])] (is (some (.int 2)) [.inl (.byte, [.int (nar .byte ((192 : Int32) ||| (c >>> ((6 : Int32) &&& 31)))), .int (nar .byte ((128 : Int32) ||| c &&& 63)), .int f, .int f, .int f, .int f, .int f, .int f])]) := by
  refine c1 _ _ _ (r1 200 ?_)
  simp only [↓S1, ↓B0, ↓idx_c, ↓setN_c, ↓idxN_c, ↓reduceIte, B1, List.length_cons, List.length_nil, List.mem_cons, List.not_mem_nil, or_false, true_or, or_true, true_and, and_true, and_self, not_true_eq_false, not_false_eq_true, eq_self, ne_eq, Nat.zero_le, Nat.le_refl, Nat.reduceAdd, Nat.reduceSub, Nat.reduceEqDiff, Nat.reduceLeDiff, Int32.reduceLT, Int32.reduceLE, Int32.reduceAdd, Int32.reduceSub, Int32.reduceMul, Int32.reduceToNatClampNeg, Int32.reduceOfNat, Int32.reduceOfInt, Int64.reduceLT, Int64.reduceAdd, Int64.reduceSub, Int64.reduceMul, String.reduceEq, reduceCtorEq, room_c, room_s, h1, h2]
  exact is_self
theorem con1_0_3 (f c : Int32) (h1 : ¬ c < 128) (h2 : ¬ c < 2048) (h3 : c < 65536) : Con tables_1 l Z b y1 prog_60_method_10_code 3 (some .int) R1 [.ref (ad b.size 0), .int 0, .int c] [.inl (.byte, [.int f, .int f, .int f, .int f, .int f, .int f, .int f, .int f])] (is (some (.int 3)) [.inl (.byte, [.int (nar .byte ((224 : Int32) ||| (c >>> ((12 : Int32) &&& 31)))), .int (nar .byte ((128 : Int32) ||| (c >>> ((6 : Int32) &&& 31)) &&& 63)), .int (nar .byte ((128 : Int32) ||| c &&& 63)), .int f, .int f, .int f, .int f, .int f])]) := by
  refine c1 _ _ _ (r1 200 ?_)
  simp only [↓S1, ↓B0, ↓idx_c, ↓setN_c, ↓idxN_c, ↓reduceIte, B1, List.length_cons, List.length_nil, List.mem_cons, List.not_mem_nil, or_false, true_or, or_true, true_and, and_true, and_self, not_true_eq_false, not_false_eq_true, eq_self, ne_eq, Nat.zero_le, Nat.le_refl, Nat.reduceAdd, Nat.reduceSub, Nat.reduceEqDiff, Nat.reduceLeDiff, Int32.reduceLT, Int32.reduceLE, Int32.reduceAdd, Int32.reduceSub, Int32.reduceMul, Int32.reduceToNatClampNeg, Int32.reduceOfNat, Int32.reduceOfInt, Int64.reduceLT, Int64.reduceAdd, Int64.reduceSub, Int64.reduceMul, String.reduceEq, reduceCtorEq, room_c, room_s, h1, h2, h3]
  exact is_self
theorem con1_0_4 (f c : Int32) (h1 : ¬ c < 128) (h2 : ¬ c < 2048) (h3 : ¬ c < 65536) : Con tables_1 l Z b y1 prog_60_method_10_code 3 (some .int) R1 [.ref (ad b.size 0), .int 0, .int c] [.inl (.byte, [.int f, .int f, .int f, .int f, .int f, .int f, .int f, .int f])] (is (some (.int 4)) [.inl (.byte, [.int (nar .byte ((240 : Int32) ||| (c >>> ((18 : Int32) &&& 31)))), .int (nar .byte ((128 : Int32) ||| (c >>> ((12 : Int32) &&& 31)) &&& 63)), .int (nar .byte ((128 : Int32) ||| (c >>> ((6 : Int32) &&& 31)) &&& 63)), .int (nar .byte ((128 : Int32) ||| c &&& 63)), .int f, .int f, .int f, .int f])]) := by
  refine c1 _ _ _ (r1 200 ?_)
  simp only [↓S1, ↓B0, ↓idx_c, ↓setN_c, ↓idxN_c, ↓reduceIte, B1, List.length_cons, List.length_nil, List.mem_cons, List.not_mem_nil, or_false, true_or, or_true, true_and, and_true, and_self, not_true_eq_false, not_false_eq_true, eq_self, ne_eq, Nat.zero_le, Nat.le_refl, Nat.reduceAdd, Nat.reduceSub, Nat.reduceEqDiff, Nat.reduceLeDiff, Int32.reduceLT, Int32.reduceLE, Int32.reduceAdd, Int32.reduceSub, Int32.reduceMul, Int32.reduceToNatClampNeg, Int32.reduceOfNat, Int32.reduceOfInt, Int64.reduceLT, Int64.reduceAdd, Int64.reduceSub, Int64.reduceMul, String.reduceEq, reduceCtorEq, room_c, room_s, h1, h2, h3]
  exact is_self
theorem con1_1_1 (f c : Int32)  (h1 : c < 128) : Con tables_1 l Z b y1 prog_60_method_10_code 3 (some .int) R1 [.ref (ad b.size 0), .int 1, .int c] [.inl (.byte, [.int f, .int f, .int f, .int f, .int f, .int f, .int f, .int f])] (is (some (.int 2)) [.inl (.byte, [.int f, .int (nar .byte c), .int f, .int f, .int f, .int f, .int f, .int f])]) := by
  refine c1 _ _ _ (r1 200 ?_)
  simp only [↓S1, ↓B0, ↓idx_c, ↓setN_c, ↓idxN_c, ↓reduceIte, B1, List.length_cons, List.length_nil, List.mem_cons, List.not_mem_nil, or_false, true_or, or_true, true_and, and_true, and_self, not_true_eq_false, not_false_eq_true, eq_self, ne_eq, Nat.zero_le, Nat.le_refl, Nat.reduceAdd, Nat.reduceSub, Nat.reduceEqDiff, Nat.reduceLeDiff, Int32.reduceLT, Int32.reduceLE, Int32.reduceAdd, Int32.reduceSub, Int32.reduceMul, Int32.reduceToNatClampNeg, Int32.reduceOfNat, Int32.reduceOfInt, Int64.reduceLT, Int64.reduceAdd, Int64.reduceSub, Int64.reduceMul, String.reduceEq, reduceCtorEq, room_c, room_s, h1]
  exact is_self
theorem con1_1_2 (f c : Int32) (h1 : ¬ c < 128) (h2 : c < 2048) : Con tables_1 l Z b y1 prog_60_method_10_code 3 (some .int) R1 [.ref (ad b.size 0), .int 1, .int c] [.inl (.byte, [.int f, .int f, .int f, .int f, .int f, .int f, .int f, .int f])] (is (some (.int 3)) [.inl (.byte, [.int f, .int (nar .byte ((192 : Int32) ||| (c >>> ((6 : Int32) &&& 31)))), .int (nar .byte ((128 : Int32) ||| c &&& 63)), .int f, .int f, .int f, .int f, .int f])]) := by
  refine c1 _ _ _ (r1 200 ?_)
  simp only [↓S1, ↓B0, ↓idx_c, ↓setN_c, ↓idxN_c, ↓reduceIte, B1, List.length_cons, List.length_nil, List.mem_cons, List.not_mem_nil, or_false, true_or, or_true, true_and, and_true, and_self, not_true_eq_false, not_false_eq_true, eq_self, ne_eq, Nat.zero_le, Nat.le_refl, Nat.reduceAdd, Nat.reduceSub, Nat.reduceEqDiff, Nat.reduceLeDiff, Int32.reduceLT, Int32.reduceLE, Int32.reduceAdd, Int32.reduceSub, Int32.reduceMul, Int32.reduceToNatClampNeg, Int32.reduceOfNat, Int32.reduceOfInt, Int64.reduceLT, Int64.reduceAdd, Int64.reduceSub, Int64.reduceMul, String.reduceEq, reduceCtorEq, room_c, room_s, h1, h2]
  exact is_self
theorem con1_1_3 (f c : Int32) (h1 : ¬ c < 128) (h2 : ¬ c < 2048) (h3 : c < 65536) : Con tables_1 l Z b y1 prog_60_method_10_code 3 (some .int) R1 [.ref (ad b.size 0), .int 1, .int c] [.inl (.byte, [.int f, .int f, .int f, .int f, .int f, .int f, .int f, .int f])] (is (some (.int 4)) [.inl (.byte, [.int f, .int (nar .byte ((224 : Int32) ||| (c >>> ((12 : Int32) &&& 31)))), .int (nar .byte ((128 : Int32) ||| (c >>> ((6 : Int32) &&& 31)) &&& 63)), .int (nar .byte ((128 : Int32) ||| c &&& 63)), .int f, .int f, .int f, .int f])]) := by
  refine c1 _ _ _ (r1 200 ?_)
  simp only [↓S1, ↓B0, ↓idx_c, ↓setN_c, ↓idxN_c, ↓reduceIte, B1, List.length_cons, List.length_nil, List.mem_cons, List.not_mem_nil, or_false, true_or, or_true, true_and, and_true, and_self, not_true_eq_false, not_false_eq_true, eq_self, ne_eq, Nat.zero_le, Nat.le_refl, Nat.reduceAdd, Nat.reduceSub, Nat.reduceEqDiff, Nat.reduceLeDiff, Int32.reduceLT, Int32.reduceLE, Int32.reduceAdd, Int32.reduceSub, Int32.reduceMul, Int32.reduceToNatClampNeg, Int32.reduceOfNat, Int32.reduceOfInt, Int64.reduceLT, Int64.reduceAdd, Int64.reduceSub, Int64.reduceMul, String.reduceEq, reduceCtorEq, room_c, room_s, h1, h2, h3]
  exact is_self
theorem con1_1_4 (f c : Int32) (h1 : ¬ c < 128) (h2 : ¬ c < 2048) (h3 : ¬ c < 65536) : Con tables_1 l Z b y1 prog_60_method_10_code 3 (some .int) R1 [.ref (ad b.size 0), .int 1, .int c] [.inl (.byte, [.int f, .int f, .int f, .int f, .int f, .int f, .int f, .int f])] (is (some (.int 5)) [.inl (.byte, [.int f, .int (nar .byte ((240 : Int32) ||| (c >>> ((18 : Int32) &&& 31)))), .int (nar .byte ((128 : Int32) ||| (c >>> ((12 : Int32) &&& 31)) &&& 63)), .int (nar .byte ((128 : Int32) ||| (c >>> ((6 : Int32) &&& 31)) &&& 63)), .int (nar .byte ((128 : Int32) ||| c &&& 63)), .int f, .int f, .int f])]) := by
  refine c1 _ _ _ (r1 200 ?_)
  simp only [↓S1, ↓B0, ↓idx_c, ↓setN_c, ↓idxN_c, ↓reduceIte, B1, List.length_cons, List.length_nil, List.mem_cons, List.not_mem_nil, or_false, true_or, or_true, true_and, and_true, and_self, not_true_eq_false, not_false_eq_true, eq_self, ne_eq, Nat.zero_le, Nat.le_refl, Nat.reduceAdd, Nat.reduceSub, Nat.reduceEqDiff, Nat.reduceLeDiff, Int32.reduceLT, Int32.reduceLE, Int32.reduceAdd, Int32.reduceSub, Int32.reduceMul, Int32.reduceToNatClampNeg, Int32.reduceOfNat, Int32.reduceOfInt, Int64.reduceLT, Int64.reduceAdd, Int64.reduceSub, Int64.reduceMul, String.reduceEq, reduceCtorEq, room_c, room_s, h1, h2, h3]
  exact is_self
theorem con1_2_1 (f c : Int32)  (h1 : c < 128) : Con tables_1 l Z b y1 prog_60_method_10_code 3 (some .int) R1 [.ref (ad b.size 0), .int 2, .int c] [.inl (.byte, [.int f, .int f, .int f, .int f, .int f, .int f, .int f, .int f])] (is (some (.int 3)) [.inl (.byte, [.int f, .int f, .int (nar .byte c), .int f, .int f, .int f, .int f, .int f])]) := by
  refine c1 _ _ _ (r1 200 ?_)
  simp only [↓S1, ↓B0, ↓idx_c, ↓setN_c, ↓idxN_c, ↓reduceIte, B1, List.length_cons, List.length_nil, List.mem_cons, List.not_mem_nil, or_false, true_or, or_true, true_and, and_true, and_self, not_true_eq_false, not_false_eq_true, eq_self, ne_eq, Nat.zero_le, Nat.le_refl, Nat.reduceAdd, Nat.reduceSub, Nat.reduceEqDiff, Nat.reduceLeDiff, Int32.reduceLT, Int32.reduceLE, Int32.reduceAdd, Int32.reduceSub, Int32.reduceMul, Int32.reduceToNatClampNeg, Int32.reduceOfNat, Int32.reduceOfInt, Int64.reduceLT, Int64.reduceAdd, Int64.reduceSub, Int64.reduceMul, String.reduceEq, reduceCtorEq, room_c, room_s, h1]
  exact is_self
theorem con1_2_2 (f c : Int32) (h1 : ¬ c < 128) (h2 : c < 2048) : Con tables_1 l Z b y1 prog_60_method_10_code 3 (some .int) R1 [.ref (ad b.size 0), .int 2, .int c] [.inl (.byte, [.int f, .int f, .int f, .int f, .int f, .int f, .int f, .int f])] (is (some (.int 4)) [.inl (.byte, [.int f, .int f, .int (nar .byte ((192 : Int32) ||| (c >>> ((6 : Int32) &&& 31)))), .int (nar .byte ((128 : Int32) ||| c &&& 63)), .int f, .int f, .int f, .int f])]) := by
  refine c1 _ _ _ (r1 200 ?_)
  simp only [↓S1, ↓B0, ↓idx_c, ↓setN_c, ↓idxN_c, ↓reduceIte, B1, List.length_cons, List.length_nil, List.mem_cons, List.not_mem_nil, or_false, true_or, or_true, true_and, and_true, and_self, not_true_eq_false, not_false_eq_true, eq_self, ne_eq, Nat.zero_le, Nat.le_refl, Nat.reduceAdd, Nat.reduceSub, Nat.reduceEqDiff, Nat.reduceLeDiff, Int32.reduceLT, Int32.reduceLE, Int32.reduceAdd, Int32.reduceSub, Int32.reduceMul, Int32.reduceToNatClampNeg, Int32.reduceOfNat, Int32.reduceOfInt, Int64.reduceLT, Int64.reduceAdd, Int64.reduceSub, Int64.reduceMul, String.reduceEq, reduceCtorEq, room_c, room_s, h1, h2]
  exact is_self
theorem con1_2_3 (f c : Int32) (h1 : ¬ c < 128) (h2 : ¬ c < 2048) (h3 : c < 65536) : Con tables_1 l Z b y1 prog_60_method_10_code 3 (some .int) R1 [.ref (ad b.size 0), .int 2, .int c] [.inl (.byte, [.int f, .int f, .int f, .int f, .int f, .int f, .int f, .int f])] (is (some (.int 5)) [.inl (.byte, [.int f, .int f, .int (nar .byte ((224 : Int32) ||| (c >>> ((12 : Int32) &&& 31)))), .int (nar .byte ((128 : Int32) ||| (c >>> ((6 : Int32) &&& 31)) &&& 63)), .int (nar .byte ((128 : Int32) ||| c &&& 63)), .int f, .int f, .int f])]) := by
  refine c1 _ _ _ (r1 200 ?_)
  simp only [↓S1, ↓B0, ↓idx_c, ↓setN_c, ↓idxN_c, ↓reduceIte, B1, List.length_cons, List.length_nil, List.mem_cons, List.not_mem_nil, or_false, true_or, or_true, true_and, and_true, and_self, not_true_eq_false, not_false_eq_true, eq_self, ne_eq, Nat.zero_le, Nat.le_refl, Nat.reduceAdd, Nat.reduceSub, Nat.reduceEqDiff, Nat.reduceLeDiff, Int32.reduceLT, Int32.reduceLE, Int32.reduceAdd, Int32.reduceSub, Int32.reduceMul, Int32.reduceToNatClampNeg, Int32.reduceOfNat, Int32.reduceOfInt, Int64.reduceLT, Int64.reduceAdd, Int64.reduceSub, Int64.reduceMul, String.reduceEq, reduceCtorEq, room_c, room_s, h1, h2, h3]
  exact is_self
theorem con1_2_4 (f c : Int32) (h1 : ¬ c < 128) (h2 : ¬ c < 2048) (h3 : ¬ c < 65536) : Con tables_1 l Z b y1 prog_60_method_10_code 3 (some .int) R1 [.ref (ad b.size 0), .int 2, .int c] [.inl (.byte, [.int f, .int f, .int f, .int f, .int f, .int f, .int f, .int f])] (is (some (.int 6)) [.inl (.byte, [.int f, .int f, .int (nar .byte ((240 : Int32) ||| (c >>> ((18 : Int32) &&& 31)))), .int (nar .byte ((128 : Int32) ||| (c >>> ((12 : Int32) &&& 31)) &&& 63)), .int (nar .byte ((128 : Int32) ||| (c >>> ((6 : Int32) &&& 31)) &&& 63)), .int (nar .byte ((128 : Int32) ||| c &&& 63)), .int f, .int f])]) := by
  refine c1 _ _ _ (r1 200 ?_)
  simp only [↓S1, ↓B0, ↓idx_c, ↓setN_c, ↓idxN_c, ↓reduceIte, B1, List.length_cons, List.length_nil, List.mem_cons, List.not_mem_nil, or_false, true_or, or_true, true_and, and_true, and_self, not_true_eq_false, not_false_eq_true, eq_self, ne_eq, Nat.zero_le, Nat.le_refl, Nat.reduceAdd, Nat.reduceSub, Nat.reduceEqDiff, Nat.reduceLeDiff, Int32.reduceLT, Int32.reduceLE, Int32.reduceAdd, Int32.reduceSub, Int32.reduceMul, Int32.reduceToNatClampNeg, Int32.reduceOfNat, Int32.reduceOfInt, Int64.reduceLT, Int64.reduceAdd, Int64.reduceSub, Int64.reduceMul, String.reduceEq, reduceCtorEq, room_c, room_s, h1, h2, h3]
  exact is_self
theorem con1_3_1 (f c : Int32)  (h1 : c < 128) : Con tables_1 l Z b y1 prog_60_method_10_code 3 (some .int) R1 [.ref (ad b.size 0), .int 3, .int c] [.inl (.byte, [.int f, .int f, .int f, .int f, .int f, .int f, .int f, .int f])] (is (some (.int 4)) [.inl (.byte, [.int f, .int f, .int f, .int (nar .byte c), .int f, .int f, .int f, .int f])]) := by
  refine c1 _ _ _ (r1 200 ?_)
  simp only [↓S1, ↓B0, ↓idx_c, ↓setN_c, ↓idxN_c, ↓reduceIte, B1, List.length_cons, List.length_nil, List.mem_cons, List.not_mem_nil, or_false, true_or, or_true, true_and, and_true, and_self, not_true_eq_false, not_false_eq_true, eq_self, ne_eq, Nat.zero_le, Nat.le_refl, Nat.reduceAdd, Nat.reduceSub, Nat.reduceEqDiff, Nat.reduceLeDiff, Int32.reduceLT, Int32.reduceLE, Int32.reduceAdd, Int32.reduceSub, Int32.reduceMul, Int32.reduceToNatClampNeg, Int32.reduceOfNat, Int32.reduceOfInt, Int64.reduceLT, Int64.reduceAdd, Int64.reduceSub, Int64.reduceMul, String.reduceEq, reduceCtorEq, room_c, room_s, h1]
  exact is_self
theorem con1_3_2 (f c : Int32) (h1 : ¬ c < 128) (h2 : c < 2048) : Con tables_1 l Z b y1 prog_60_method_10_code 3 (some .int) R1 [.ref (ad b.size 0), .int 3, .int c] [.inl (.byte, [.int f, .int f, .int f, .int f, .int f, .int f, .int f, .int f])] (is (some (.int 5)) [.inl (.byte, [.int f, .int f, .int f, .int (nar .byte ((192 : Int32) ||| (c >>> ((6 : Int32) &&& 31)))), .int (nar .byte ((128 : Int32) ||| c &&& 63)), .int f, .int f, .int f])]) := by
  refine c1 _ _ _ (r1 200 ?_)
  simp only [↓S1, ↓B0, ↓idx_c, ↓setN_c, ↓idxN_c, ↓reduceIte, B1, List.length_cons, List.length_nil, List.mem_cons, List.not_mem_nil, or_false, true_or, or_true, true_and, and_true, and_self, not_true_eq_false, not_false_eq_true, eq_self, ne_eq, Nat.zero_le, Nat.le_refl, Nat.reduceAdd, Nat.reduceSub, Nat.reduceEqDiff, Nat.reduceLeDiff, Int32.reduceLT, Int32.reduceLE, Int32.reduceAdd, Int32.reduceSub, Int32.reduceMul, Int32.reduceToNatClampNeg, Int32.reduceOfNat, Int32.reduceOfInt, Int64.reduceLT, Int64.reduceAdd, Int64.reduceSub, Int64.reduceMul, String.reduceEq, reduceCtorEq, room_c, room_s, h1, h2]
  exact is_self
theorem con1_3_3 (f c : Int32) (h1 : ¬ c < 128) (h2 : ¬ c < 2048) (h3 : c < 65536) : Con tables_1 l Z b y1 prog_60_method_10_code 3 (some .int) R1 [.ref (ad b.size 0), .int 3, .int c] [.inl (.byte, [.int f, .int f, .int f, .int f, .int f, .int f, .int f, .int f])] (is (some (.int 6)) [.inl (.byte, [.int f, .int f, .int f, .int (nar .byte ((224 : Int32) ||| (c >>> ((12 : Int32) &&& 31)))), .int (nar .byte ((128 : Int32) ||| (c >>> ((6 : Int32) &&& 31)) &&& 63)), .int (nar .byte ((128 : Int32) ||| c &&& 63)), .int f, .int f])]) := by
  refine c1 _ _ _ (r1 200 ?_)
  simp only [↓S1, ↓B0, ↓idx_c, ↓setN_c, ↓idxN_c, ↓reduceIte, B1, List.length_cons, List.length_nil, List.mem_cons, List.not_mem_nil, or_false, true_or, or_true, true_and, and_true, and_self, not_true_eq_false, not_false_eq_true, eq_self, ne_eq, Nat.zero_le, Nat.le_refl, Nat.reduceAdd, Nat.reduceSub, Nat.reduceEqDiff, Nat.reduceLeDiff, Int32.reduceLT, Int32.reduceLE, Int32.reduceAdd, Int32.reduceSub, Int32.reduceMul, Int32.reduceToNatClampNeg, Int32.reduceOfNat, Int32.reduceOfInt, Int64.reduceLT, Int64.reduceAdd, Int64.reduceSub, Int64.reduceMul, String.reduceEq, reduceCtorEq, room_c, room_s, h1, h2, h3]
  exact is_self
theorem con1_3_4 (f c : Int32) (h1 : ¬ c < 128) (h2 : ¬ c < 2048) (h3 : ¬ c < 65536) : Con tables_1 l Z b y1 prog_60_method_10_code 3 (some .int) R1 [.ref (ad b.size 0), .int 3, .int c] [.inl (.byte, [.int f, .int f, .int f, .int f, .int f, .int f, .int f, .int f])] (is (some (.int 7)) [.inl (.byte, [.int f, .int f, .int f, .int (nar .byte ((240 : Int32) ||| (c >>> ((18 : Int32) &&& 31)))), .int (nar .byte ((128 : Int32) ||| (c >>> ((12 : Int32) &&& 31)) &&& 63)), .int (nar .byte ((128 : Int32) ||| (c >>> ((6 : Int32) &&& 31)) &&& 63)), .int (nar .byte ((128 : Int32) ||| c &&& 63)), .int f])]) := by
  refine c1 _ _ _ (r1 200 ?_)
  simp only [↓S1, ↓B0, ↓idx_c, ↓setN_c, ↓idxN_c, ↓reduceIte, B1, List.length_cons, List.length_nil, List.mem_cons, List.not_mem_nil, or_false, true_or, or_true, true_and, and_true, and_self, not_true_eq_false, not_false_eq_true, eq_self, ne_eq, Nat.zero_le, Nat.le_refl, Nat.reduceAdd, Nat.reduceSub, Nat.reduceEqDiff, Nat.reduceLeDiff, Int32.reduceLT, Int32.reduceLE, Int32.reduceAdd, Int32.reduceSub, Int32.reduceMul, Int32.reduceToNatClampNeg, Int32.reduceOfNat, Int32.reduceOfInt, Int64.reduceLT, Int64.reduceAdd, Int64.reduceSub, Int64.reduceMul, String.reduceEq, reduceCtorEq, room_c, room_s, h1, h2, h3]
  exact is_self
theorem nar_and (w : Int32) : nar .byte w &&& 255 = w &&& 255 := by
  apply Int32.toInt_inj.mp
  have e1 : (nar .byte w &&& 255).toInt = (nar .byte w).toInt % 2 ^ 8 := Jvm.Kit.i32_mask _ _ (k := 8) (by decide) (by decide)
  have e2 : (w &&& 255).toInt = w.toInt % 2 ^ 8 := Jvm.Kit.i32_mask _ _ (k := 8) (by decide) (by decide)
  have e3 : (nar .byte w).toInt = w.toInt.bmod 256 := by
    show w.toInt8.toInt32.toInt = _
    rw [Int8.toInt_toInt32, Int32.toInt_toInt8]
  rw [e1, e2, e3, Int.bmod_def]
  split <;> omega
theorem nat32 (x : Int32) : (x.toBitVec.toNat : Int) = x.toInt % 2 ^ 32 := by
  have e : x.toInt = x.toBitVec.toInt := rfl
  have := x.toBitVec.isLt
  rw [e, BitVec.toInt_eq_toNat_cond]
  split <;> omega
theorem or_shl (x c : Int32) (s : Int32) (k : Nat) (hs : (s.toBitVec.smod 32).toNat = k) (hk : k < 32) (hx : x.toBitVec.toNat < 2 ^ k) : x ||| (c <<< s) = x + c * Int32.ofNat (2 ^ k) := by
  apply Int32.toBitVec_inj.mp
  rw [Int32.toBitVec_or, Int32.toBitVec_shiftLeft, Int32.toBitVec_add, Int32.toBitVec_mul]
  have e1 : c.toBitVec <<< (s.toBitVec.smod 32) = c.toBitVec <<< k := by rw [← hs]; rfl
  have e2 : c.toBitVec * (Int32.ofNat (2 ^ k)).toBitVec = c.toBitVec <<< k := by rw [BitVec.shiftLeft_eq_mul_twoPow]; congr 1; apply BitVec.eq_of_toNat_eq; rw [BitVec.toNat_twoPow]; simp [Int32.ofNat, Int32.toBitVec]
  rw [e1, e2, BitVec.add_eq_or_of_and_eq_zero]
  apply BitVec.eq_of_toNat_eq
  apply Nat.eq_of_testBit_eq
  intro i
  rw [BitVec.testBit_toNat, BitVec.getLsbD_and, BitVec.getLsbD_shiftLeft]
  by_cases q : i < k
  · simp [q]
  · have : x.toBitVec.getLsbD i = false := by
      rw [← BitVec.testBit_toNat]
      exact Nat.testBit_lt_two_pow (Nat.lt_of_lt_of_le hx (Nat.pow_le_pow_right (by decide) (by omega)))
    simp [this]
theorem byt255 (base m s z : Int32) (k : Nat) (hs : (s.toBitVec.smod 32).toNat = k) (hk : k < 32) (e1 : m <<< s = base) (e2 : m * Int32.ofNat (2 ^ k) = base) (h0 : 0 ≤ z.toInt) (h1 : z.toInt < 2 ^ k) (h2 : 0 ≤ base.toInt) (h3 : base.toInt + z.toInt < 256) (hz : z.toInt < 256) :
    nar .byte (base ||| z) &&& 255 = base + z ∧ (base + z).toInt = base.toInt + z.toInt := by
  have nz := nat32 z
  have hz2 : z.toBitVec.toNat < 2 ^ k := by
    have : ((2 ^ k : Nat) : Int) = 2 ^ k := by norm_cast
    omega
  have e3 : base ||| z = base + z := by
    have := or_shl z m s k hs hk hz2
    rw [e1, e2] at this
    rw [Int32.or_comm, this, Int32.add_comm]
  have e4 := a32 (x := base) (q := z) rfl (by omega) (by omega)
  refine ⟨?_, e4⟩
  rw [nar_and, e3]
  apply Int32.toInt_inj.mp
  have e5 : (base + z &&& 255).toInt = (base + z).toInt % 2 ^ 8 := Jvm.Kit.i32_mask _ _ (k := 8) (by decide) (by decide)
  rw [e5]; omega
theorem m63 (x : Int32) : (x &&& 63).toInt = x.toInt % 2 ^ 6 := Jvm.Kit.i32_mask _ _ (k := 6) (by decide) (by decide)
theorem sh6 (x : Int32) : (x >>> ((6 : Int32) &&& 31)).toInt = x.toInt / 2 ^ 6 := Jvm.Kit.i32_shr _ _ (k := 6) (by decide)
theorem sh12 (x : Int32) : (x >>> ((12 : Int32) &&& 31)).toInt = x.toInt / 2 ^ 12 := Jvm.Kit.i32_shr _ _ (k := 12) (by decide)
theorem sh18 (x : Int32) : (x >>> ((18 : Int32) &&& 31)).toInt = x.toInt / 2 ^ 18 := Jvm.Kit.i32_shr _ _ (k := 18) (by decide)
theorem cont_b (z : Int32) : ∃ w : Int32, nar .byte ((128 : Int32) ||| z &&& 63) &&& 255 = w ∧ w.toInt = 128 + z.toInt % 64 ∧ ct w = 1 ∧ (w - 128).toInt = z.toInt % 64 := by
  have e := m63 z
  obtain ⟨h1, h2⟩ := byt255 128 2 6 (z &&& 63) 6 (by decide) (by decide) (by decide) (by decide) (by omega) (by omega) (by decide) (by show 128 + _ < _; omega) (by omega)
  have h3 : (128 + (z &&& 63)).toInt = 128 + z.toInt % 64 := by rw [h2, e]; rfl
  have h4 := s32 (x := 128 + (z &&& 63)) (q := 128) (c := 128) rfl (by omega) (by omega)
  refine ⟨_, h1, h3, ?_, by omega⟩
  have z1 : (128 : Int32).toInt = 128 := rfl
  have z2 : (191 : Int32).toInt = 191 := rfl
  unfold ct
  rw [if_neg (by rw [Int32.lt_iff_toInt_lt]; omega), if_neg (by rw [Int32.lt_iff_toInt_lt]; omega)]
theorem facts_1 (c : Int32) (g0 : 0 ≤ c.toInt) (g1 : c.toInt < 128) : nar .byte c &&& 255 = c := by
  rw [nar_and]
  apply Int32.toInt_inj.mp
  have e5 : (c &&& 255).toInt = c.toInt % 2 ^ 8 := Jvm.Kit.i32_mask _ _ (k := 8) (by decide) (by decide)
  rw [e5]; omega
theorem facts_2 (c : Int32) (g0 : 128 ≤ c.toInt) (g1 : c.toInt < 2048) : ∃ x0 x1 : Int32, nar .byte ((192 : Int32) ||| (c >>> ((6 : Int32) &&& 31))) &&& 255 = x0 ∧ nar .byte ((128 : Int32) ||| c &&& 63) &&& 255 = x1 ∧ ¬ x0 < 192 ∧ ¬ 223 < x0 ∧ ct x1 = 1 ∧ (x0 - 192) * 64 + (x1 - 128) = c := by
  have s := sh6 c
  obtain ⟨h1, h2⟩ := byt255 192 3 6 (c >>> ((6 : Int32) &&& 31)) 6 (by decide) (by decide) (by decide) (by decide) (by omega) (by omega) (by decide) (by show 192 + _ < _; omega) (by omega)
  obtain ⟨x1, t1, u1, v1, w1⟩ := cont_b c
  have z0 : (192 : Int32).toInt = 192 := rfl
  have z2 : (223 : Int32).toInt = 223 := rfl
  refine ⟨_, x1, h1, t1, by rw [Int32.lt_iff_toInt_lt]; omega, by rw [Int32.lt_iff_toInt_lt]; omega, v1, ?_⟩
  have d1 := s32 (x := 192 + (c >>> ((6 : Int32) &&& 31))) (q := 192) (c := 192) rfl (by omega) (by omega)
  have d2 := m32 (x := 192 + (c >>> ((6 : Int32) &&& 31)) - 192) (q := 64) (c := 64) rfl (by omega) (by omega)
  have d3 := a32 (x := (192 + (c >>> ((6 : Int32) &&& 31)) - 192) * 64) (q := x1 - 128) rfl (by omega) (by omega)
  apply Int32.toInt_inj.mp
  omega
theorem facts_3 (c : Int32) (g0 : 2048 ≤ c.toInt) (g1 : c.toInt < 65536) : ∃ x0 x1 x2 : Int32, nar .byte ((224 : Int32) ||| (c >>> ((12 : Int32) &&& 31))) &&& 255 = x0 ∧ nar .byte ((128 : Int32) ||| (c >>> ((6 : Int32) &&& 31)) &&& 63) &&& 255 = x1 ∧ nar .byte ((128 : Int32) ||| c &&& 63) &&& 255 = x2 ∧ ¬ x0 < 224 ∧ ¬ 239 < x0 ∧ ct x1 = 1 ∧ ct x2 = 1 ∧ (x0 - 224) * 4096 + (x1 - 128) * 64 + (x2 - 128) = c := by
  have s := sh12 c
  have s6 := sh6 c
  obtain ⟨h1, h2⟩ := byt255 224 7 5 (c >>> ((12 : Int32) &&& 31)) 5 (by decide) (by decide) (by decide) (by decide) (by omega) (by omega) (by decide) (by show 224 + _ < _; omega) (by omega)
  obtain ⟨x1, t1, u1, v1, w1⟩ := cont_b (c >>> ((6 : Int32) &&& 31))
  obtain ⟨x2, t2, u2, v2, w2⟩ := cont_b c
  have z0 : (224 : Int32).toInt = 224 := rfl
  have z2 : (239 : Int32).toInt = 239 := rfl
  refine ⟨_, x1, x2, h1, t1, t2, by rw [Int32.lt_iff_toInt_lt]; omega, by rw [Int32.lt_iff_toInt_lt]; omega, v1, v2, ?_⟩
  have d1 := s32 (x := 224 + (c >>> ((12 : Int32) &&& 31))) (q := 224) (c := 224) rfl (by omega) (by omega)
  have d2 := m32 (x := 224 + (c >>> ((12 : Int32) &&& 31)) - 224) (q := 4096) (c := 4096) rfl (by omega) (by omega)
  have d3 := m32 (x := x1 - 128) (q := 64) (c := 64) rfl (by omega) (by omega)
  have d4 := a32 (x := (224 + (c >>> ((12 : Int32) &&& 31)) - 224) * 4096) (q := (x1 - 128) * 64) rfl (by omega) (by omega)
  have d5 := a32 (x := (224 + (c >>> ((12 : Int32) &&& 31)) - 224) * 4096 + (x1 - 128) * 64) (q := x2 - 128) rfl (by omega) (by omega)
  apply Int32.toInt_inj.mp
  omega
theorem facts_4 (c : Int32) (g0 : 65536 ≤ c.toInt) (g1 : c.toInt < 1114112) : ∃ x0 x1 x2 x3 : Int32, nar .byte ((240 : Int32) ||| (c >>> ((18 : Int32) &&& 31))) &&& 255 = x0 ∧ nar .byte ((128 : Int32) ||| (c >>> ((12 : Int32) &&& 31)) &&& 63) &&& 255 = x1 ∧ nar .byte ((128 : Int32) ||| (c >>> ((6 : Int32) &&& 31)) &&& 63) &&& 255 = x2 ∧ nar .byte ((128 : Int32) ||| c &&& 63) &&& 255 = x3 ∧ ¬ x0 < 240 ∧ ¬ 247 < x0 ∧ ct x1 = 1 ∧ ct x2 = 1 ∧ ct x3 = 1 ∧ (x0 - 240) * 262144 + (x1 - 128) * 4096 + (x2 - 128) * 64 + (x3 - 128) = c := by
  have s := sh18 c
  have s12 := sh12 c
  have s6 := sh6 c
  obtain ⟨h1, h2⟩ := byt255 240 15 4 (c >>> ((18 : Int32) &&& 31)) 4 (by decide) (by decide) (by decide) (by decide) (by omega) (by omega) (by decide) (by show 240 + _ < _; omega) (by omega)
  obtain ⟨x1, t1, u1, v1, w1⟩ := cont_b (c >>> ((12 : Int32) &&& 31))
  obtain ⟨x2, t2, u2, v2, w2⟩ := cont_b (c >>> ((6 : Int32) &&& 31))
  obtain ⟨x3, t3, u3, v3, w3⟩ := cont_b c
  have z0 : (240 : Int32).toInt = 240 := rfl
  have z2 : (247 : Int32).toInt = 247 := rfl
  refine ⟨_, x1, x2, x3, h1, t1, t2, t3, by rw [Int32.lt_iff_toInt_lt]; omega, by rw [Int32.lt_iff_toInt_lt]; omega, v1, v2, v3, ?_⟩
  have d1 := s32 (x := 240 + (c >>> ((18 : Int32) &&& 31))) (q := 240) (c := 240) rfl (by omega) (by omega)
  have d2 := m32 (x := 240 + (c >>> ((18 : Int32) &&& 31)) - 240) (q := 262144) (c := 262144) rfl (by omega) (by omega)
  have d3 := m32 (x := x1 - 128) (q := 4096) (c := 4096) rfl (by omega) (by omega)
  have d4 := a32 (x := (240 + (c >>> ((18 : Int32) &&& 31)) - 240) * 262144) (q := (x1 - 128) * 4096) rfl (by omega) (by omega)
  have d5 := m32 (x := x2 - 128) (q := 64) (c := 64) rfl (by omega) (by omega)
  have d6 := a32 (x := (240 + (c >>> ((18 : Int32) &&& 31)) - 240) * 262144 + (x1 - 128) * 4096) (q := (x2 - 128) * 64) rfl (by omega) (by omega)
  have d7 := a32 (x := (240 + (c >>> ((18 : Int32) &&& 31)) - 240) * 262144 + (x1 - 128) * 4096 + (x2 - 128) * 64) (q := x3 - 128) rfl (by omega) (by omega)
  apply Int32.toInt_inj.mp
  omega
theorem st20 (i0 i1 i2 c : Int32) (g0 : 0 ≤ c.toInt) (g1 : c.toInt < 1114112) : G0 l Z b (fun v _ => v = some (.int 1)) 20 [.val (.int i0), .val (.int i1), .val (.int i2), .val (.int c), .unset, .unset, .unset, .unset, .unset, .unset, .unset, .unset, .unset, .unset, .unset] [] [] 0 0 := by
  have e1 : (i1 &&& 3).toInt = i1.toInt % 2 ^ 2 := Jvm.Kit.i32_mask _ _ (k := 2) (by decide) (by decide)
  have z1 : (128 : Int32).toInt = 128 := rfl
  have z2 : (2048 : Int32).toInt = 2048 := rfl
  have z3 : (65536 : Int32).toInt = 65536 := rfl
  have hu : c.toInt < 128 ∨ (128 ≤ c.toInt ∧ c.toInt < 2048) ∨ (2048 ≤ c.toInt ∧ c.toInt < 65536) ∨ 65536 ≤ c.toInt := by omega
  refine e0_20 300 ?_
  rcases cases4 (v := i1 &&& 3) (by omega) (by omega) with hv | hv | hv | hv <;> rcases hu with hu | hu | hu | hu
  · have h1 : c < 128 := by rw [Int32.lt_iff_toInt_lt]; omega
    have t0 := facts_1 c (by omega) (by omega)
    simp only [↓S0, ↓B0, ↓idx_c, ↓setN_c, ↓idxN_c, ↓reduceIte, B1, List.length_cons, List.length_nil, List.mem_cons, List.not_mem_nil, or_false, true_or, or_true, true_and, and_true, and_self, not_true_eq_false, not_false_eq_true, eq_self, ne_eq, Nat.zero_le, Nat.le_refl, Nat.reduceAdd, Nat.reduceSub, Nat.reduceEqDiff, Nat.reduceLeDiff, Int32.reduceLT, Int32.reduceLE, Int32.reduceAdd, Int32.reduceSub, Int32.reduceMul, Int32.reduceToNatClampNeg, Int32.reduceOfNat, Int32.reduceOfInt, Int64.reduceLT, Int64.reduceAdd, Int64.reduceSub, Int64.reduceMul, String.reduceEq, reduceCtorEq, room_c, room_s, hv]
    refine kf0_82 (con1_0_1 (nar .byte i2) c h1) (r0 300 ?_)
    simp only [↓S0, ↓B0, ↓idx_c, ↓setN_c, ↓idxN_c, ↓reduceIte, B1, List.length_cons, List.length_nil, List.mem_cons, List.not_mem_nil, or_false, true_or, or_true, true_and, and_true, and_self, not_true_eq_false, not_false_eq_true, eq_self, ne_eq, Nat.zero_le, Nat.le_refl, Nat.reduceAdd, Nat.reduceSub, Nat.reduceEqDiff, Nat.reduceLeDiff, Int32.reduceLT, Int32.reduceLE, Int32.reduceAdd, Int32.reduceSub, Int32.reduceMul, Int32.reduceToNatClampNeg, Int32.reduceOfNat, Int32.reduceOfInt, Int64.reduceLT, Int64.reduceAdd, Int64.reduceSub, Int64.reduceMul, String.reduceEq, reduceCtorEq, room_c, room_s, h1]
    refine kf0_147 (con2 _ 0 _ _ _ _ rfl (by decide)) ?_
    simp only [↓B0, ↓idx_c, ↓setN_c, ↓idxN_c, ↓reduceIte, B1, List.length_cons, List.length_nil, List.mem_cons, List.not_mem_nil, or_false, true_or, or_true, true_and, and_true, and_self, not_true_eq_false, not_false_eq_true, eq_self, ne_eq, Nat.zero_le, Nat.le_refl, Nat.reduceAdd, Nat.reduceSub, Nat.reduceEqDiff, Nat.reduceLeDiff, Int32.reduceLT, Int32.reduceLE, Int32.reduceAdd, Int32.reduceSub, Int32.reduceMul, Int32.reduceToNatClampNeg, Int32.reduceOfNat, Int32.reduceOfInt, Int64.reduceLT, Int64.reduceAdd, Int64.reduceSub, Int64.reduceMul, String.reduceEq, reduceCtorEq, room_c, room_s, kp]
    refine r0 300 ?_
    simp only [↓S0, ↓B0, ↓idx_c, ↓setN_c, ↓idxN_c, ↓reduceIte, B1, List.length_cons, List.length_nil, List.mem_cons, List.not_mem_nil, or_false, true_or, or_true, true_and, and_true, and_self, not_true_eq_false, not_false_eq_true, eq_self, ne_eq, Nat.zero_le, Nat.le_refl, Nat.reduceAdd, Nat.reduceSub, Nat.reduceEqDiff, Nat.reduceLeDiff, Int32.reduceLT, Int32.reduceLE, Int32.reduceAdd, Int32.reduceSub, Int32.reduceMul, Int32.reduceToNatClampNeg, Int32.reduceOfNat, Int32.reduceOfInt, Int64.reduceLT, Int64.reduceAdd, Int64.reduceSub, Int64.reduceMul, String.reduceEq, reduceCtorEq, room_c, room_s]
    refine kf0_162 (con2 _ 1 _ _ _ _ rfl (by decide)) ?_
    simp only [↓B0, ↓idx_c, ↓setN_c, ↓idxN_c, ↓reduceIte, B1, List.length_cons, List.length_nil, List.mem_cons, List.not_mem_nil, or_false, true_or, or_true, true_and, and_true, and_self, not_true_eq_false, not_false_eq_true, eq_self, ne_eq, Nat.zero_le, Nat.le_refl, Nat.reduceAdd, Nat.reduceSub, Nat.reduceEqDiff, Nat.reduceLeDiff, Int32.reduceLT, Int32.reduceLE, Int32.reduceAdd, Int32.reduceSub, Int32.reduceMul, Int32.reduceToNatClampNeg, Int32.reduceOfNat, Int32.reduceOfInt, Int64.reduceLT, Int64.reduceAdd, Int64.reduceSub, Int64.reduceMul, String.reduceEq, reduceCtorEq, room_c, room_s, kp]
    refine r0 300 ?_
    simp only [↓S0, ↓B0, ↓idx_c, ↓setN_c, ↓idxN_c, ↓reduceIte, B1, List.length_cons, List.length_nil, List.mem_cons, List.not_mem_nil, or_false, true_or, or_true, true_and, and_true, and_self, not_true_eq_false, not_false_eq_true, eq_self, ne_eq, Nat.zero_le, Nat.le_refl, Nat.reduceAdd, Nat.reduceSub, Nat.reduceEqDiff, Nat.reduceLeDiff, Int32.reduceLT, Int32.reduceLE, Int32.reduceAdd, Int32.reduceSub, Int32.reduceMul, Int32.reduceToNatClampNeg, Int32.reduceOfNat, Int32.reduceOfInt, Int64.reduceLT, Int64.reduceAdd, Int64.reduceSub, Int64.reduceMul, String.reduceEq, reduceCtorEq, room_c, room_s]
    refine kf0_177 (con2 _ 2 _ _ _ _ rfl (by decide)) ?_
    simp only [↓B0, ↓idx_c, ↓setN_c, ↓idxN_c, ↓reduceIte, B1, List.length_cons, List.length_nil, List.mem_cons, List.not_mem_nil, or_false, true_or, or_true, true_and, and_true, and_self, not_true_eq_false, not_false_eq_true, eq_self, ne_eq, Nat.zero_le, Nat.le_refl, Nat.reduceAdd, Nat.reduceSub, Nat.reduceEqDiff, Nat.reduceLeDiff, Int32.reduceLT, Int32.reduceLE, Int32.reduceAdd, Int32.reduceSub, Int32.reduceMul, Int32.reduceToNatClampNeg, Int32.reduceOfNat, Int32.reduceOfInt, Int64.reduceLT, Int64.reduceAdd, Int64.reduceSub, Int64.reduceMul, String.reduceEq, reduceCtorEq, room_c, room_s, kp]
    refine r0 300 ?_
    simp only [↓S0, ↓B0, ↓idx_c, ↓setN_c, ↓idxN_c, ↓reduceIte, B1, List.length_cons, List.length_nil, List.mem_cons, List.not_mem_nil, or_false, true_or, or_true, true_and, and_true, and_self, not_true_eq_false, not_false_eq_true, eq_self, ne_eq, Nat.zero_le, Nat.le_refl, Nat.reduceAdd, Nat.reduceSub, Nat.reduceEqDiff, Nat.reduceLeDiff, Int32.reduceLT, Int32.reduceLE, Int32.reduceAdd, Int32.reduceSub, Int32.reduceMul, Int32.reduceToNatClampNeg, Int32.reduceOfNat, Int32.reduceOfInt, Int64.reduceLT, Int64.reduceAdd, Int64.reduceSub, Int64.reduceMul, String.reduceEq, reduceCtorEq, room_c, room_s]
    refine kf0_192 (con2 _ 3 _ _ _ _ rfl (by decide)) ?_
    simp only [↓B0, ↓idx_c, ↓setN_c, ↓idxN_c, ↓reduceIte, B1, List.length_cons, List.length_nil, List.mem_cons, List.not_mem_nil, or_false, true_or, or_true, true_and, and_true, and_self, not_true_eq_false, not_false_eq_true, eq_self, ne_eq, Nat.zero_le, Nat.le_refl, Nat.reduceAdd, Nat.reduceSub, Nat.reduceEqDiff, Nat.reduceLeDiff, Int32.reduceLT, Int32.reduceLE, Int32.reduceAdd, Int32.reduceSub, Int32.reduceMul, Int32.reduceToNatClampNeg, Int32.reduceOfNat, Int32.reduceOfInt, Int64.reduceLT, Int64.reduceAdd, Int64.reduceSub, Int64.reduceMul, String.reduceEq, reduceCtorEq, room_c, room_s, kp]
    refine r0 300 ?_
    simp only [↓S0, ↓B0, ↓idx_c, ↓setN_c, ↓idxN_c, ↓reduceIte, B1, List.length_cons, List.length_nil, List.mem_cons, List.not_mem_nil, or_false, true_or, or_true, true_and, and_true, and_self, not_true_eq_false, not_false_eq_true, eq_self, ne_eq, Nat.zero_le, Nat.le_refl, Nat.reduceAdd, Nat.reduceSub, Nat.reduceEqDiff, Nat.reduceLeDiff, Int32.reduceLT, Int32.reduceLE, Int32.reduceAdd, Int32.reduceSub, Int32.reduceMul, Int32.reduceToNatClampNeg, Int32.reduceOfNat, Int32.reduceOfInt, Int64.reduceLT, Int64.reduceAdd, Int64.reduceSub, Int64.reduceMul, String.reduceEq, reduceCtorEq, room_c, room_s]
    refine kf0_207 (con2 _ 4 _ _ _ _ rfl (by decide)) ?_
    simp only [↓B0, ↓idx_c, ↓setN_c, ↓idxN_c, ↓reduceIte, B1, List.length_cons, List.length_nil, List.mem_cons, List.not_mem_nil, or_false, true_or, or_true, true_and, and_true, and_self, not_true_eq_false, not_false_eq_true, eq_self, ne_eq, Nat.zero_le, Nat.le_refl, Nat.reduceAdd, Nat.reduceSub, Nat.reduceEqDiff, Nat.reduceLeDiff, Int32.reduceLT, Int32.reduceLE, Int32.reduceAdd, Int32.reduceSub, Int32.reduceMul, Int32.reduceToNatClampNeg, Int32.reduceOfNat, Int32.reduceOfInt, Int64.reduceLT, Int64.reduceAdd, Int64.reduceSub, Int64.reduceMul, String.reduceEq, reduceCtorEq, room_c, room_s, kp]
    refine r0 300 ?_
    simp only [↓S0, ↓B0, ↓idx_c, ↓setN_c, ↓idxN_c, ↓reduceIte, B1, List.length_cons, List.length_nil, List.mem_cons, List.not_mem_nil, or_false, true_or, or_true, true_and, and_true, and_self, not_true_eq_false, not_false_eq_true, eq_self, ne_eq, Nat.zero_le, Nat.le_refl, Nat.reduceAdd, Nat.reduceSub, Nat.reduceEqDiff, Nat.reduceLeDiff, Int32.reduceLT, Int32.reduceLE, Int32.reduceAdd, Int32.reduceSub, Int32.reduceMul, Int32.reduceToNatClampNeg, Int32.reduceOfNat, Int32.reduceOfInt, Int64.reduceLT, Int64.reduceAdd, Int64.reduceSub, Int64.reduceMul, String.reduceEq, reduceCtorEq, room_c, room_s]
    refine kf0_222 (con2 _ 5 _ _ _ _ rfl (by decide)) ?_
    simp only [↓B0, ↓idx_c, ↓setN_c, ↓idxN_c, ↓reduceIte, B1, List.length_cons, List.length_nil, List.mem_cons, List.not_mem_nil, or_false, true_or, or_true, true_and, and_true, and_self, not_true_eq_false, not_false_eq_true, eq_self, ne_eq, Nat.zero_le, Nat.le_refl, Nat.reduceAdd, Nat.reduceSub, Nat.reduceEqDiff, Nat.reduceLeDiff, Int32.reduceLT, Int32.reduceLE, Int32.reduceAdd, Int32.reduceSub, Int32.reduceMul, Int32.reduceToNatClampNeg, Int32.reduceOfNat, Int32.reduceOfInt, Int64.reduceLT, Int64.reduceAdd, Int64.reduceSub, Int64.reduceMul, String.reduceEq, reduceCtorEq, room_c, room_s, kp]
    refine r0 300 ?_
    simp only [↓S0, ↓B0, ↓idx_c, ↓setN_c, ↓idxN_c, ↓reduceIte, B1, List.length_cons, List.length_nil, List.mem_cons, List.not_mem_nil, or_false, true_or, or_true, true_and, and_true, and_self, not_true_eq_false, not_false_eq_true, eq_self, ne_eq, Nat.zero_le, Nat.le_refl, Nat.reduceAdd, Nat.reduceSub, Nat.reduceEqDiff, Nat.reduceLeDiff, Int32.reduceLT, Int32.reduceLE, Int32.reduceAdd, Int32.reduceSub, Int32.reduceMul, Int32.reduceToNatClampNeg, Int32.reduceOfNat, Int32.reduceOfInt, Int64.reduceLT, Int64.reduceAdd, Int64.reduceSub, Int64.reduceMul, String.reduceEq, reduceCtorEq, room_c, room_s]
    refine kf0_238 (con2 _ 6 _ _ _ _ rfl (by decide)) ?_
    simp only [↓B0, ↓idx_c, ↓setN_c, ↓idxN_c, ↓reduceIte, B1, List.length_cons, List.length_nil, List.mem_cons, List.not_mem_nil, or_false, true_or, or_true, true_and, and_true, and_self, not_true_eq_false, not_false_eq_true, eq_self, ne_eq, Nat.zero_le, Nat.le_refl, Nat.reduceAdd, Nat.reduceSub, Nat.reduceEqDiff, Nat.reduceLeDiff, Int32.reduceLT, Int32.reduceLE, Int32.reduceAdd, Int32.reduceSub, Int32.reduceMul, Int32.reduceToNatClampNeg, Int32.reduceOfNat, Int32.reduceOfInt, Int64.reduceLT, Int64.reduceAdd, Int64.reduceSub, Int64.reduceMul, String.reduceEq, reduceCtorEq, room_c, room_s, kp]
    refine r0 300 ?_
    simp only [↓S0, ↓B0, ↓idx_c, ↓setN_c, ↓idxN_c, ↓reduceIte, B1, List.length_cons, List.length_nil, List.mem_cons, List.not_mem_nil, or_false, true_or, or_true, true_and, and_true, and_self, not_true_eq_false, not_false_eq_true, eq_self, ne_eq, Nat.zero_le, Nat.le_refl, Nat.reduceAdd, Nat.reduceSub, Nat.reduceEqDiff, Nat.reduceLeDiff, Int32.reduceLT, Int32.reduceLE, Int32.reduceAdd, Int32.reduceSub, Int32.reduceMul, Int32.reduceToNatClampNeg, Int32.reduceOfNat, Int32.reduceOfInt, Int64.reduceLT, Int64.reduceAdd, Int64.reduceSub, Int64.reduceMul, String.reduceEq, reduceCtorEq, room_c, room_s]
    refine kf0_254 (con2 _ 7 _ _ _ _ rfl (by decide)) ?_
    simp only [↓B0, ↓idx_c, ↓setN_c, ↓idxN_c, ↓reduceIte, B1, List.length_cons, List.length_nil, List.mem_cons, List.not_mem_nil, or_false, true_or, or_true, true_and, and_true, and_self, not_true_eq_false, not_false_eq_true, eq_self, ne_eq, Nat.zero_le, Nat.le_refl, Nat.reduceAdd, Nat.reduceSub, Nat.reduceEqDiff, Nat.reduceLeDiff, Int32.reduceLT, Int32.reduceLE, Int32.reduceAdd, Int32.reduceSub, Int32.reduceMul, Int32.reduceToNatClampNeg, Int32.reduceOfNat, Int32.reduceOfInt, Int64.reduceLT, Int64.reduceAdd, Int64.reduceSub, Int64.reduceMul, String.reduceEq, reduceCtorEq, room_c, room_s, kp]
    refine r0 300 ?_
    simp only [↓S0, ↓B0, ↓idx_c, ↓setN_c, ↓idxN_c, ↓reduceIte, B1, List.length_cons, List.length_nil, List.mem_cons, List.not_mem_nil, or_false, true_or, or_true, true_and, and_true, and_self, not_true_eq_false, not_false_eq_true, eq_self, ne_eq, Nat.zero_le, Nat.le_refl, Nat.reduceAdd, Nat.reduceSub, Nat.reduceEqDiff, Nat.reduceLeDiff, Int32.reduceLT, Int32.reduceLE, Int32.reduceAdd, Int32.reduceSub, Int32.reduceMul, Int32.reduceToNatClampNeg, Int32.reduceOfNat, Int32.reduceOfInt, Int64.reduceLT, Int64.reduceAdd, Int64.reduceSub, Int64.reduceMul, String.reduceEq, reduceCtorEq, room_c, room_s, t0]
  · have h1 : ¬ c < 128 := by rw [Int32.lt_iff_toInt_lt]; omega
    have h2 : c < 2048 := by rw [Int32.lt_iff_toInt_lt]; omega
    obtain ⟨x0, x1, t0, t1, l0, l1, c1, fin⟩ := facts_2 c (by omega) (by omega)
    simp only [↓S0, ↓B0, ↓idx_c, ↓setN_c, ↓idxN_c, ↓reduceIte, B1, List.length_cons, List.length_nil, List.mem_cons, List.not_mem_nil, or_false, true_or, or_true, true_and, and_true, and_self, not_true_eq_false, not_false_eq_true, eq_self, ne_eq, Nat.zero_le, Nat.le_refl, Nat.reduceAdd, Nat.reduceSub, Nat.reduceEqDiff, Nat.reduceLeDiff, Int32.reduceLT, Int32.reduceLE, Int32.reduceAdd, Int32.reduceSub, Int32.reduceMul, Int32.reduceToNatClampNeg, Int32.reduceOfNat, Int32.reduceOfInt, Int64.reduceLT, Int64.reduceAdd, Int64.reduceSub, Int64.reduceMul, String.reduceEq, reduceCtorEq, room_c, room_s, hv]
    refine kf0_82 (con1_0_2 (nar .byte i2) c h1 h2) (r0 300 ?_)
    simp only [↓S0, ↓B0, ↓idx_c, ↓setN_c, ↓idxN_c, ↓reduceIte, B1, List.length_cons, List.length_nil, List.mem_cons, List.not_mem_nil, or_false, true_or, or_true, true_and, and_true, and_self, not_true_eq_false, not_false_eq_true, eq_self, ne_eq, Nat.zero_le, Nat.le_refl, Nat.reduceAdd, Nat.reduceSub, Nat.reduceEqDiff, Nat.reduceLeDiff, Int32.reduceLT, Int32.reduceLE, Int32.reduceAdd, Int32.reduceSub, Int32.reduceMul, Int32.reduceToNatClampNeg, Int32.reduceOfNat, Int32.reduceOfInt, Int64.reduceLT, Int64.reduceAdd, Int64.reduceSub, Int64.reduceMul, String.reduceEq, reduceCtorEq, room_c, room_s, h1, h2]
    refine kf0_147 (con2 _ 0 _ _ _ _ rfl (by decide)) ?_
    simp only [↓B0, ↓idx_c, ↓setN_c, ↓idxN_c, ↓reduceIte, B1, List.length_cons, List.length_nil, List.mem_cons, List.not_mem_nil, or_false, true_or, or_true, true_and, and_true, and_self, not_true_eq_false, not_false_eq_true, eq_self, ne_eq, Nat.zero_le, Nat.le_refl, Nat.reduceAdd, Nat.reduceSub, Nat.reduceEqDiff, Nat.reduceLeDiff, Int32.reduceLT, Int32.reduceLE, Int32.reduceAdd, Int32.reduceSub, Int32.reduceMul, Int32.reduceToNatClampNeg, Int32.reduceOfNat, Int32.reduceOfInt, Int64.reduceLT, Int64.reduceAdd, Int64.reduceSub, Int64.reduceMul, String.reduceEq, reduceCtorEq, room_c, room_s, kp]
    refine r0 300 ?_
    simp only [↓S0, ↓B0, ↓idx_c, ↓setN_c, ↓idxN_c, ↓reduceIte, B1, List.length_cons, List.length_nil, List.mem_cons, List.not_mem_nil, or_false, true_or, or_true, true_and, and_true, and_self, not_true_eq_false, not_false_eq_true, eq_self, ne_eq, Nat.zero_le, Nat.le_refl, Nat.reduceAdd, Nat.reduceSub, Nat.reduceEqDiff, Nat.reduceLeDiff, Int32.reduceLT, Int32.reduceLE, Int32.reduceAdd, Int32.reduceSub, Int32.reduceMul, Int32.reduceToNatClampNeg, Int32.reduceOfNat, Int32.reduceOfInt, Int64.reduceLT, Int64.reduceAdd, Int64.reduceSub, Int64.reduceMul, String.reduceEq, reduceCtorEq, room_c, room_s]
    refine kf0_162 (con2 _ 1 _ _ _ _ rfl (by decide)) ?_
    simp only [↓B0, ↓idx_c, ↓setN_c, ↓idxN_c, ↓reduceIte, B1, List.length_cons, List.length_nil, List.mem_cons, List.not_mem_nil, or_false, true_or, or_true, true_and, and_true, and_self, not_true_eq_false, not_false_eq_true, eq_self, ne_eq, Nat.zero_le, Nat.le_refl, Nat.reduceAdd, Nat.reduceSub, Nat.reduceEqDiff, Nat.reduceLeDiff, Int32.reduceLT, Int32.reduceLE, Int32.reduceAdd, Int32.reduceSub, Int32.reduceMul, Int32.reduceToNatClampNeg, Int32.reduceOfNat, Int32.reduceOfInt, Int64.reduceLT, Int64.reduceAdd, Int64.reduceSub, Int64.reduceMul, String.reduceEq, reduceCtorEq, room_c, room_s, kp]
    refine r0 300 ?_
    simp only [↓S0, ↓B0, ↓idx_c, ↓setN_c, ↓idxN_c, ↓reduceIte, B1, List.length_cons, List.length_nil, List.mem_cons, List.not_mem_nil, or_false, true_or, or_true, true_and, and_true, and_self, not_true_eq_false, not_false_eq_true, eq_self, ne_eq, Nat.zero_le, Nat.le_refl, Nat.reduceAdd, Nat.reduceSub, Nat.reduceEqDiff, Nat.reduceLeDiff, Int32.reduceLT, Int32.reduceLE, Int32.reduceAdd, Int32.reduceSub, Int32.reduceMul, Int32.reduceToNatClampNeg, Int32.reduceOfNat, Int32.reduceOfInt, Int64.reduceLT, Int64.reduceAdd, Int64.reduceSub, Int64.reduceMul, String.reduceEq, reduceCtorEq, room_c, room_s]
    refine kf0_177 (con2 _ 2 _ _ _ _ rfl (by decide)) ?_
    simp only [↓B0, ↓idx_c, ↓setN_c, ↓idxN_c, ↓reduceIte, B1, List.length_cons, List.length_nil, List.mem_cons, List.not_mem_nil, or_false, true_or, or_true, true_and, and_true, and_self, not_true_eq_false, not_false_eq_true, eq_self, ne_eq, Nat.zero_le, Nat.le_refl, Nat.reduceAdd, Nat.reduceSub, Nat.reduceEqDiff, Nat.reduceLeDiff, Int32.reduceLT, Int32.reduceLE, Int32.reduceAdd, Int32.reduceSub, Int32.reduceMul, Int32.reduceToNatClampNeg, Int32.reduceOfNat, Int32.reduceOfInt, Int64.reduceLT, Int64.reduceAdd, Int64.reduceSub, Int64.reduceMul, String.reduceEq, reduceCtorEq, room_c, room_s, kp]
    refine r0 300 ?_
    simp only [↓S0, ↓B0, ↓idx_c, ↓setN_c, ↓idxN_c, ↓reduceIte, B1, List.length_cons, List.length_nil, List.mem_cons, List.not_mem_nil, or_false, true_or, or_true, true_and, and_true, and_self, not_true_eq_false, not_false_eq_true, eq_self, ne_eq, Nat.zero_le, Nat.le_refl, Nat.reduceAdd, Nat.reduceSub, Nat.reduceEqDiff, Nat.reduceLeDiff, Int32.reduceLT, Int32.reduceLE, Int32.reduceAdd, Int32.reduceSub, Int32.reduceMul, Int32.reduceToNatClampNeg, Int32.reduceOfNat, Int32.reduceOfInt, Int64.reduceLT, Int64.reduceAdd, Int64.reduceSub, Int64.reduceMul, String.reduceEq, reduceCtorEq, room_c, room_s]
    refine kf0_192 (con2 _ 3 _ _ _ _ rfl (by decide)) ?_
    simp only [↓B0, ↓idx_c, ↓setN_c, ↓idxN_c, ↓reduceIte, B1, List.length_cons, List.length_nil, List.mem_cons, List.not_mem_nil, or_false, true_or, or_true, true_and, and_true, and_self, not_true_eq_false, not_false_eq_true, eq_self, ne_eq, Nat.zero_le, Nat.le_refl, Nat.reduceAdd, Nat.reduceSub, Nat.reduceEqDiff, Nat.reduceLeDiff, Int32.reduceLT, Int32.reduceLE, Int32.reduceAdd, Int32.reduceSub, Int32.reduceMul, Int32.reduceToNatClampNeg, Int32.reduceOfNat, Int32.reduceOfInt, Int64.reduceLT, Int64.reduceAdd, Int64.reduceSub, Int64.reduceMul, String.reduceEq, reduceCtorEq, room_c, room_s, kp]
    refine r0 300 ?_
    simp only [↓S0, ↓B0, ↓idx_c, ↓setN_c, ↓idxN_c, ↓reduceIte, B1, List.length_cons, List.length_nil, List.mem_cons, List.not_mem_nil, or_false, true_or, or_true, true_and, and_true, and_self, not_true_eq_false, not_false_eq_true, eq_self, ne_eq, Nat.zero_le, Nat.le_refl, Nat.reduceAdd, Nat.reduceSub, Nat.reduceEqDiff, Nat.reduceLeDiff, Int32.reduceLT, Int32.reduceLE, Int32.reduceAdd, Int32.reduceSub, Int32.reduceMul, Int32.reduceToNatClampNeg, Int32.reduceOfNat, Int32.reduceOfInt, Int64.reduceLT, Int64.reduceAdd, Int64.reduceSub, Int64.reduceMul, String.reduceEq, reduceCtorEq, room_c, room_s]
    refine kf0_207 (con2 _ 4 _ _ _ _ rfl (by decide)) ?_
    simp only [↓B0, ↓idx_c, ↓setN_c, ↓idxN_c, ↓reduceIte, B1, List.length_cons, List.length_nil, List.mem_cons, List.not_mem_nil, or_false, true_or, or_true, true_and, and_true, and_self, not_true_eq_false, not_false_eq_true, eq_self, ne_eq, Nat.zero_le, Nat.le_refl, Nat.reduceAdd, Nat.reduceSub, Nat.reduceEqDiff, Nat.reduceLeDiff, Int32.reduceLT, Int32.reduceLE, Int32.reduceAdd, Int32.reduceSub, Int32.reduceMul, Int32.reduceToNatClampNeg, Int32.reduceOfNat, Int32.reduceOfInt, Int64.reduceLT, Int64.reduceAdd, Int64.reduceSub, Int64.reduceMul, String.reduceEq, reduceCtorEq, room_c, room_s, kp]
    refine r0 300 ?_
    simp only [↓S0, ↓B0, ↓idx_c, ↓setN_c, ↓idxN_c, ↓reduceIte, B1, List.length_cons, List.length_nil, List.mem_cons, List.not_mem_nil, or_false, true_or, or_true, true_and, and_true, and_self, not_true_eq_false, not_false_eq_true, eq_self, ne_eq, Nat.zero_le, Nat.le_refl, Nat.reduceAdd, Nat.reduceSub, Nat.reduceEqDiff, Nat.reduceLeDiff, Int32.reduceLT, Int32.reduceLE, Int32.reduceAdd, Int32.reduceSub, Int32.reduceMul, Int32.reduceToNatClampNeg, Int32.reduceOfNat, Int32.reduceOfInt, Int64.reduceLT, Int64.reduceAdd, Int64.reduceSub, Int64.reduceMul, String.reduceEq, reduceCtorEq, room_c, room_s]
    refine kf0_222 (con2 _ 5 _ _ _ _ rfl (by decide)) ?_
    simp only [↓B0, ↓idx_c, ↓setN_c, ↓idxN_c, ↓reduceIte, B1, List.length_cons, List.length_nil, List.mem_cons, List.not_mem_nil, or_false, true_or, or_true, true_and, and_true, and_self, not_true_eq_false, not_false_eq_true, eq_self, ne_eq, Nat.zero_le, Nat.le_refl, Nat.reduceAdd, Nat.reduceSub, Nat.reduceEqDiff, Nat.reduceLeDiff, Int32.reduceLT, Int32.reduceLE, Int32.reduceAdd, Int32.reduceSub, Int32.reduceMul, Int32.reduceToNatClampNeg, Int32.reduceOfNat, Int32.reduceOfInt, Int64.reduceLT, Int64.reduceAdd, Int64.reduceSub, Int64.reduceMul, String.reduceEq, reduceCtorEq, room_c, room_s, kp]
    refine r0 300 ?_
    simp only [↓S0, ↓B0, ↓idx_c, ↓setN_c, ↓idxN_c, ↓reduceIte, B1, List.length_cons, List.length_nil, List.mem_cons, List.not_mem_nil, or_false, true_or, or_true, true_and, and_true, and_self, not_true_eq_false, not_false_eq_true, eq_self, ne_eq, Nat.zero_le, Nat.le_refl, Nat.reduceAdd, Nat.reduceSub, Nat.reduceEqDiff, Nat.reduceLeDiff, Int32.reduceLT, Int32.reduceLE, Int32.reduceAdd, Int32.reduceSub, Int32.reduceMul, Int32.reduceToNatClampNeg, Int32.reduceOfNat, Int32.reduceOfInt, Int64.reduceLT, Int64.reduceAdd, Int64.reduceSub, Int64.reduceMul, String.reduceEq, reduceCtorEq, room_c, room_s]
    refine kf0_238 (con2 _ 6 _ _ _ _ rfl (by decide)) ?_
    simp only [↓B0, ↓idx_c, ↓setN_c, ↓idxN_c, ↓reduceIte, B1, List.length_cons, List.length_nil, List.mem_cons, List.not_mem_nil, or_false, true_or, or_true, true_and, and_true, and_self, not_true_eq_false, not_false_eq_true, eq_self, ne_eq, Nat.zero_le, Nat.le_refl, Nat.reduceAdd, Nat.reduceSub, Nat.reduceEqDiff, Nat.reduceLeDiff, Int32.reduceLT, Int32.reduceLE, Int32.reduceAdd, Int32.reduceSub, Int32.reduceMul, Int32.reduceToNatClampNeg, Int32.reduceOfNat, Int32.reduceOfInt, Int64.reduceLT, Int64.reduceAdd, Int64.reduceSub, Int64.reduceMul, String.reduceEq, reduceCtorEq, room_c, room_s, kp]
    refine r0 300 ?_
    simp only [↓S0, ↓B0, ↓idx_c, ↓setN_c, ↓idxN_c, ↓reduceIte, B1, List.length_cons, List.length_nil, List.mem_cons, List.not_mem_nil, or_false, true_or, or_true, true_and, and_true, and_self, not_true_eq_false, not_false_eq_true, eq_self, ne_eq, Nat.zero_le, Nat.le_refl, Nat.reduceAdd, Nat.reduceSub, Nat.reduceEqDiff, Nat.reduceLeDiff, Int32.reduceLT, Int32.reduceLE, Int32.reduceAdd, Int32.reduceSub, Int32.reduceMul, Int32.reduceToNatClampNeg, Int32.reduceOfNat, Int32.reduceOfInt, Int64.reduceLT, Int64.reduceAdd, Int64.reduceSub, Int64.reduceMul, String.reduceEq, reduceCtorEq, room_c, room_s]
    refine kf0_254 (con2 _ 7 _ _ _ _ rfl (by decide)) ?_
    simp only [↓B0, ↓idx_c, ↓setN_c, ↓idxN_c, ↓reduceIte, B1, List.length_cons, List.length_nil, List.mem_cons, List.not_mem_nil, or_false, true_or, or_true, true_and, and_true, and_self, not_true_eq_false, not_false_eq_true, eq_self, ne_eq, Nat.zero_le, Nat.le_refl, Nat.reduceAdd, Nat.reduceSub, Nat.reduceEqDiff, Nat.reduceLeDiff, Int32.reduceLT, Int32.reduceLE, Int32.reduceAdd, Int32.reduceSub, Int32.reduceMul, Int32.reduceToNatClampNeg, Int32.reduceOfNat, Int32.reduceOfInt, Int64.reduceLT, Int64.reduceAdd, Int64.reduceSub, Int64.reduceMul, String.reduceEq, reduceCtorEq, room_c, room_s, kp]
    refine r0 300 ?_
    simp only [↓S0, ↓B0, ↓idx_c, ↓setN_c, ↓idxN_c, ↓reduceIte, B1, List.length_cons, List.length_nil, List.mem_cons, List.not_mem_nil, or_false, true_or, or_true, true_and, and_true, and_self, not_true_eq_false, not_false_eq_true, eq_self, ne_eq, Nat.zero_le, Nat.le_refl, Nat.reduceAdd, Nat.reduceSub, Nat.reduceEqDiff, Nat.reduceLeDiff, Int32.reduceLT, Int32.reduceLE, Int32.reduceAdd, Int32.reduceSub, Int32.reduceMul, Int32.reduceToNatClampNeg, Int32.reduceOfNat, Int32.reduceOfInt, Int64.reduceLT, Int64.reduceAdd, Int64.reduceSub, Int64.reduceMul, String.reduceEq, reduceCtorEq, room_c, room_s, t0, t1, l0, l1, fin]
    refine kf0_366 (con3 _) ?_
    simp only [c1]
    refine r0 300 ?_
    simp only [↓S0, ↓B0, ↓idx_c, ↓setN_c, ↓idxN_c, ↓reduceIte, B1, List.length_cons, List.length_nil, List.mem_cons, List.not_mem_nil, or_false, true_or, or_true, true_and, and_true, and_self, not_true_eq_false, not_false_eq_true, eq_self, ne_eq, Nat.zero_le, Nat.le_refl, Nat.reduceAdd, Nat.reduceSub, Nat.reduceEqDiff, Nat.reduceLeDiff, Int32.reduceLT, Int32.reduceLE, Int32.reduceAdd, Int32.reduceSub, Int32.reduceMul, Int32.reduceToNatClampNeg, Int32.reduceOfNat, Int32.reduceOfInt, Int64.reduceLT, Int64.reduceAdd, Int64.reduceSub, Int64.reduceMul, String.reduceEq, reduceCtorEq, room_c, room_s, t0, t1, l0, l1, fin]
  · have h1 : ¬ c < 128 := by rw [Int32.lt_iff_toInt_lt]; omega
    have h2 : ¬ c < 2048 := by rw [Int32.lt_iff_toInt_lt]; omega
    have h3 : c < 65536 := by rw [Int32.lt_iff_toInt_lt]; omega
    obtain ⟨x0, x1, x2, t0, t1, t2, l0, l1, c1, c2, fin⟩ := facts_3 c (by omega) (by omega)
    simp only [↓S0, ↓B0, ↓idx_c, ↓setN_c, ↓idxN_c, ↓reduceIte, B1, List.length_cons, List.length_nil, List.mem_cons, List.not_mem_nil, or_false, true_or, or_true, true_and, and_true, and_self, not_true_eq_false, not_false_eq_true, eq_self, ne_eq, Nat.zero_le, Nat.le_refl, Nat.reduceAdd, Nat.reduceSub, Nat.reduceEqDiff, Nat.reduceLeDiff, Int32.reduceLT, Int32.reduceLE, Int32.reduceAdd, Int32.reduceSub, Int32.reduceMul, Int32.reduceToNatClampNeg, Int32.reduceOfNat, Int32.reduceOfInt, Int64.reduceLT, Int64.reduceAdd, Int64.reduceSub, Int64.reduceMul, String.reduceEq, reduceCtorEq, room_c, room_s, hv]
    refine kf0_82 (con1_0_3 (nar .byte i2) c h1 h2 h3) (r0 300 ?_)
    simp only [↓S0, ↓B0, ↓idx_c, ↓setN_c, ↓idxN_c, ↓reduceIte, B1, List.length_cons, List.length_nil, List.mem_cons, List.not_mem_nil, or_false, true_or, or_true, true_and, and_true, and_self, not_true_eq_false, not_false_eq_true, eq_self, ne_eq, Nat.zero_le, Nat.le_refl, Nat.reduceAdd, Nat.reduceSub, Nat.reduceEqDiff, Nat.reduceLeDiff, Int32.reduceLT, Int32.reduceLE, Int32.reduceAdd, Int32.reduceSub, Int32.reduceMul, Int32.reduceToNatClampNeg, Int32.reduceOfNat, Int32.reduceOfInt, Int64.reduceLT, Int64.reduceAdd, Int64.reduceSub, Int64.reduceMul, String.reduceEq, reduceCtorEq, room_c, room_s, h1, h2, h3]
    refine kf0_147 (con2 _ 0 _ _ _ _ rfl (by decide)) ?_
    simp only [↓B0, ↓idx_c, ↓setN_c, ↓idxN_c, ↓reduceIte, B1, List.length_cons, List.length_nil, List.mem_cons, List.not_mem_nil, or_false, true_or, or_true, true_and, and_true, and_self, not_true_eq_false, not_false_eq_true, eq_self, ne_eq, Nat.zero_le, Nat.le_refl, Nat.reduceAdd, Nat.reduceSub, Nat.reduceEqDiff, Nat.reduceLeDiff, Int32.reduceLT, Int32.reduceLE, Int32.reduceAdd, Int32.reduceSub, Int32.reduceMul, Int32.reduceToNatClampNeg, Int32.reduceOfNat, Int32.reduceOfInt, Int64.reduceLT, Int64.reduceAdd, Int64.reduceSub, Int64.reduceMul, String.reduceEq, reduceCtorEq, room_c, room_s, kp]
    refine r0 300 ?_
    simp only [↓S0, ↓B0, ↓idx_c, ↓setN_c, ↓idxN_c, ↓reduceIte, B1, List.length_cons, List.length_nil, List.mem_cons, List.not_mem_nil, or_false, true_or, or_true, true_and, and_true, and_self, not_true_eq_false, not_false_eq_true, eq_self, ne_eq, Nat.zero_le, Nat.le_refl, Nat.reduceAdd, Nat.reduceSub, Nat.reduceEqDiff, Nat.reduceLeDiff, Int32.reduceLT, Int32.reduceLE, Int32.reduceAdd, Int32.reduceSub, Int32.reduceMul, Int32.reduceToNatClampNeg, Int32.reduceOfNat, Int32.reduceOfInt, Int64.reduceLT, Int64.reduceAdd, Int64.reduceSub, Int64.reduceMul, String.reduceEq, reduceCtorEq, room_c, room_s]
    refine kf0_162 (con2 _ 1 _ _ _ _ rfl (by decide)) ?_
    simp only [↓B0, ↓idx_c, ↓setN_c, ↓idxN_c, ↓reduceIte, B1, List.length_cons, List.length_nil, List.mem_cons, List.not_mem_nil, or_false, true_or, or_true, true_and, and_true, and_self, not_true_eq_false, not_false_eq_true, eq_self, ne_eq, Nat.zero_le, Nat.le_refl, Nat.reduceAdd, Nat.reduceSub, Nat.reduceEqDiff, Nat.reduceLeDiff, Int32.reduceLT, Int32.reduceLE, Int32.reduceAdd, Int32.reduceSub, Int32.reduceMul, Int32.reduceToNatClampNeg, Int32.reduceOfNat, Int32.reduceOfInt, Int64.reduceLT, Int64.reduceAdd, Int64.reduceSub, Int64.reduceMul, String.reduceEq, reduceCtorEq, room_c, room_s, kp]
    refine r0 300 ?_
    simp only [↓S0, ↓B0, ↓idx_c, ↓setN_c, ↓idxN_c, ↓reduceIte, B1, List.length_cons, List.length_nil, List.mem_cons, List.not_mem_nil, or_false, true_or, or_true, true_and, and_true, and_self, not_true_eq_false, not_false_eq_true, eq_self, ne_eq, Nat.zero_le, Nat.le_refl, Nat.reduceAdd, Nat.reduceSub, Nat.reduceEqDiff, Nat.reduceLeDiff, Int32.reduceLT, Int32.reduceLE, Int32.reduceAdd, Int32.reduceSub, Int32.reduceMul, Int32.reduceToNatClampNeg, Int32.reduceOfNat, Int32.reduceOfInt, Int64.reduceLT, Int64.reduceAdd, Int64.reduceSub, Int64.reduceMul, String.reduceEq, reduceCtorEq, room_c, room_s]
    refine kf0_177 (con2 _ 2 _ _ _ _ rfl (by decide)) ?_
    simp only [↓B0, ↓idx_c, ↓setN_c, ↓idxN_c, ↓reduceIte, B1, List.length_cons, List.length_nil, List.mem_cons, List.not_mem_nil, or_false, true_or, or_true, true_and, and_true, and_self, not_true_eq_false, not_false_eq_true, eq_self, ne_eq, Nat.zero_le, Nat.le_refl, Nat.reduceAdd, Nat.reduceSub, Nat.reduceEqDiff, Nat.reduceLeDiff, Int32.reduceLT, Int32.reduceLE, Int32.reduceAdd, Int32.reduceSub, Int32.reduceMul, Int32.reduceToNatClampNeg, Int32.reduceOfNat, Int32.reduceOfInt, Int64.reduceLT, Int64.reduceAdd, Int64.reduceSub, Int64.reduceMul, String.reduceEq, reduceCtorEq, room_c, room_s, kp]
    refine r0 300 ?_
    simp only [↓S0, ↓B0, ↓idx_c, ↓setN_c, ↓idxN_c, ↓reduceIte, B1, List.length_cons, List.length_nil, List.mem_cons, List.not_mem_nil, or_false, true_or, or_true, true_and, and_true, and_self, not_true_eq_false, not_false_eq_true, eq_self, ne_eq, Nat.zero_le, Nat.le_refl, Nat.reduceAdd, Nat.reduceSub, Nat.reduceEqDiff, Nat.reduceLeDiff, Int32.reduceLT, Int32.reduceLE, Int32.reduceAdd, Int32.reduceSub, Int32.reduceMul, Int32.reduceToNatClampNeg, Int32.reduceOfNat, Int32.reduceOfInt, Int64.reduceLT, Int64.reduceAdd, Int64.reduceSub, Int64.reduceMul, String.reduceEq, reduceCtorEq, room_c, room_s]
    refine kf0_192 (con2 _ 3 _ _ _ _ rfl (by decide)) ?_
    simp only [↓B0, ↓idx_c, ↓setN_c, ↓idxN_c, ↓reduceIte, B1, List.length_cons, List.length_nil, List.mem_cons, List.not_mem_nil, or_false, true_or, or_true, true_and, and_true, and_self, not_true_eq_false, not_false_eq_true, eq_self, ne_eq, Nat.zero_le, Nat.le_refl, Nat.reduceAdd, Nat.reduceSub, Nat.reduceEqDiff, Nat.reduceLeDiff, Int32.reduceLT, Int32.reduceLE, Int32.reduceAdd, Int32.reduceSub, Int32.reduceMul, Int32.reduceToNatClampNeg, Int32.reduceOfNat, Int32.reduceOfInt, Int64.reduceLT, Int64.reduceAdd, Int64.reduceSub, Int64.reduceMul, String.reduceEq, reduceCtorEq, room_c, room_s, kp]
    refine r0 300 ?_
    simp only [↓S0, ↓B0, ↓idx_c, ↓setN_c, ↓idxN_c, ↓reduceIte, B1, List.length_cons, List.length_nil, List.mem_cons, List.not_mem_nil, or_false, true_or, or_true, true_and, and_true, and_self, not_true_eq_false, not_false_eq_true, eq_self, ne_eq, Nat.zero_le, Nat.le_refl, Nat.reduceAdd, Nat.reduceSub, Nat.reduceEqDiff, Nat.reduceLeDiff, Int32.reduceLT, Int32.reduceLE, Int32.reduceAdd, Int32.reduceSub, Int32.reduceMul, Int32.reduceToNatClampNeg, Int32.reduceOfNat, Int32.reduceOfInt, Int64.reduceLT, Int64.reduceAdd, Int64.reduceSub, Int64.reduceMul, String.reduceEq, reduceCtorEq, room_c, room_s]
    refine kf0_207 (con2 _ 4 _ _ _ _ rfl (by decide)) ?_
    simp only [↓B0, ↓idx_c, ↓setN_c, ↓idxN_c, ↓reduceIte, B1, List.length_cons, List.length_nil, List.mem_cons, List.not_mem_nil, or_false, true_or, or_true, true_and, and_true, and_self, not_true_eq_false, not_false_eq_true, eq_self, ne_eq, Nat.zero_le, Nat.le_refl, Nat.reduceAdd, Nat.reduceSub, Nat.reduceEqDiff, Nat.reduceLeDiff, Int32.reduceLT, Int32.reduceLE, Int32.reduceAdd, Int32.reduceSub, Int32.reduceMul, Int32.reduceToNatClampNeg, Int32.reduceOfNat, Int32.reduceOfInt, Int64.reduceLT, Int64.reduceAdd, Int64.reduceSub, Int64.reduceMul, String.reduceEq, reduceCtorEq, room_c, room_s, kp]
    refine r0 300 ?_
    simp only [↓S0, ↓B0, ↓idx_c, ↓setN_c, ↓idxN_c, ↓reduceIte, B1, List.length_cons, List.length_nil, List.mem_cons, List.not_mem_nil, or_false, true_or, or_true, true_and, and_true, and_self, not_true_eq_false, not_false_eq_true, eq_self, ne_eq, Nat.zero_le, Nat.le_refl, Nat.reduceAdd, Nat.reduceSub, Nat.reduceEqDiff, Nat.reduceLeDiff, Int32.reduceLT, Int32.reduceLE, Int32.reduceAdd, Int32.reduceSub, Int32.reduceMul, Int32.reduceToNatClampNeg, Int32.reduceOfNat, Int32.reduceOfInt, Int64.reduceLT, Int64.reduceAdd, Int64.reduceSub, Int64.reduceMul, String.reduceEq, reduceCtorEq, room_c, room_s]
    refine kf0_222 (con2 _ 5 _ _ _ _ rfl (by decide)) ?_
    simp only [↓B0, ↓idx_c, ↓setN_c, ↓idxN_c, ↓reduceIte, B1, List.length_cons, List.length_nil, List.mem_cons, List.not_mem_nil, or_false, true_or, or_true, true_and, and_true, and_self, not_true_eq_false, not_false_eq_true, eq_self, ne_eq, Nat.zero_le, Nat.le_refl, Nat.reduceAdd, Nat.reduceSub, Nat.reduceEqDiff, Nat.reduceLeDiff, Int32.reduceLT, Int32.reduceLE, Int32.reduceAdd, Int32.reduceSub, Int32.reduceMul, Int32.reduceToNatClampNeg, Int32.reduceOfNat, Int32.reduceOfInt, Int64.reduceLT, Int64.reduceAdd, Int64.reduceSub, Int64.reduceMul, String.reduceEq, reduceCtorEq, room_c, room_s, kp]
    refine r0 300 ?_
    simp only [↓S0, ↓B0, ↓idx_c, ↓setN_c, ↓idxN_c, ↓reduceIte, B1, List.length_cons, List.length_nil, List.mem_cons, List.not_mem_nil, or_false, true_or, or_true, true_and, and_true, and_self, not_true_eq_false, not_false_eq_true, eq_self, ne_eq, Nat.zero_le, Nat.le_refl, Nat.reduceAdd, Nat.reduceSub, Nat.reduceEqDiff, Nat.reduceLeDiff, Int32.reduceLT, Int32.reduceLE, Int32.reduceAdd, Int32.reduceSub, Int32.reduceMul, Int32.reduceToNatClampNeg, Int32.reduceOfNat, Int32.reduceOfInt, Int64.reduceLT, Int64.reduceAdd, Int64.reduceSub, Int64.reduceMul, String.reduceEq, reduceCtorEq, room_c, room_s]
    refine kf0_238 (con2 _ 6 _ _ _ _ rfl (by decide)) ?_
    simp only [↓B0, ↓idx_c, ↓setN_c, ↓idxN_c, ↓reduceIte, B1, List.length_cons, List.length_nil, List.mem_cons, List.not_mem_nil, or_false, true_or, or_true, true_and, and_true, and_self, not_true_eq_false, not_false_eq_true, eq_self, ne_eq, Nat.zero_le, Nat.le_refl, Nat.reduceAdd, Nat.reduceSub, Nat.reduceEqDiff, Nat.reduceLeDiff, Int32.reduceLT, Int32.reduceLE, Int32.reduceAdd, Int32.reduceSub, Int32.reduceMul, Int32.reduceToNatClampNeg, Int32.reduceOfNat, Int32.reduceOfInt, Int64.reduceLT, Int64.reduceAdd, Int64.reduceSub, Int64.reduceMul, String.reduceEq, reduceCtorEq, room_c, room_s, kp]
    refine r0 300 ?_
    simp only [↓S0, ↓B0, ↓idx_c, ↓setN_c, ↓idxN_c, ↓reduceIte, B1, List.length_cons, List.length_nil, List.mem_cons, List.not_mem_nil, or_false, true_or, or_true, true_and, and_true, and_self, not_true_eq_false, not_false_eq_true, eq_self, ne_eq, Nat.zero_le, Nat.le_refl, Nat.reduceAdd, Nat.reduceSub, Nat.reduceEqDiff, Nat.reduceLeDiff, Int32.reduceLT, Int32.reduceLE, Int32.reduceAdd, Int32.reduceSub, Int32.reduceMul, Int32.reduceToNatClampNeg, Int32.reduceOfNat, Int32.reduceOfInt, Int64.reduceLT, Int64.reduceAdd, Int64.reduceSub, Int64.reduceMul, String.reduceEq, reduceCtorEq, room_c, room_s]
    refine kf0_254 (con2 _ 7 _ _ _ _ rfl (by decide)) ?_
    simp only [↓B0, ↓idx_c, ↓setN_c, ↓idxN_c, ↓reduceIte, B1, List.length_cons, List.length_nil, List.mem_cons, List.not_mem_nil, or_false, true_or, or_true, true_and, and_true, and_self, not_true_eq_false, not_false_eq_true, eq_self, ne_eq, Nat.zero_le, Nat.le_refl, Nat.reduceAdd, Nat.reduceSub, Nat.reduceEqDiff, Nat.reduceLeDiff, Int32.reduceLT, Int32.reduceLE, Int32.reduceAdd, Int32.reduceSub, Int32.reduceMul, Int32.reduceToNatClampNeg, Int32.reduceOfNat, Int32.reduceOfInt, Int64.reduceLT, Int64.reduceAdd, Int64.reduceSub, Int64.reduceMul, String.reduceEq, reduceCtorEq, room_c, room_s, kp]
    refine r0 300 ?_
    simp only [↓S0, ↓B0, ↓idx_c, ↓setN_c, ↓idxN_c, ↓reduceIte, B1, List.length_cons, List.length_nil, List.mem_cons, List.not_mem_nil, or_false, true_or, or_true, true_and, and_true, and_self, not_true_eq_false, not_false_eq_true, eq_self, ne_eq, Nat.zero_le, Nat.le_refl, Nat.reduceAdd, Nat.reduceSub, Nat.reduceEqDiff, Nat.reduceLeDiff, Int32.reduceLT, Int32.reduceLE, Int32.reduceAdd, Int32.reduceSub, Int32.reduceMul, Int32.reduceToNatClampNeg, Int32.reduceOfNat, Int32.reduceOfInt, Int64.reduceLT, Int64.reduceAdd, Int64.reduceSub, Int64.reduceMul, String.reduceEq, reduceCtorEq, room_c, room_s, t0, t1, t2, l0, l1, fin]
    refine kf0_422 (con3 _) ?_
    simp only [c1]
    refine r0 300 ?_
    simp only [↓S0, ↓B0, ↓idx_c, ↓setN_c, ↓idxN_c, ↓reduceIte, B1, List.length_cons, List.length_nil, List.mem_cons, List.not_mem_nil, or_false, true_or, or_true, true_and, and_true, and_self, not_true_eq_false, not_false_eq_true, eq_self, ne_eq, Nat.zero_le, Nat.le_refl, Nat.reduceAdd, Nat.reduceSub, Nat.reduceEqDiff, Nat.reduceLeDiff, Int32.reduceLT, Int32.reduceLE, Int32.reduceAdd, Int32.reduceSub, Int32.reduceMul, Int32.reduceToNatClampNeg, Int32.reduceOfNat, Int32.reduceOfInt, Int64.reduceLT, Int64.reduceAdd, Int64.reduceSub, Int64.reduceMul, String.reduceEq, reduceCtorEq, room_c, room_s, t0, t1, t2, l0, l1, fin]
    refine kf0_430 (con3 _) ?_
    simp only [c2]
    refine r0 300 ?_
    simp only [↓S0, ↓B0, ↓idx_c, ↓setN_c, ↓idxN_c, ↓reduceIte, B1, List.length_cons, List.length_nil, List.mem_cons, List.not_mem_nil, or_false, true_or, or_true, true_and, and_true, and_self, not_true_eq_false, not_false_eq_true, eq_self, ne_eq, Nat.zero_le, Nat.le_refl, Nat.reduceAdd, Nat.reduceSub, Nat.reduceEqDiff, Nat.reduceLeDiff, Int32.reduceLT, Int32.reduceLE, Int32.reduceAdd, Int32.reduceSub, Int32.reduceMul, Int32.reduceToNatClampNeg, Int32.reduceOfNat, Int32.reduceOfInt, Int64.reduceLT, Int64.reduceAdd, Int64.reduceSub, Int64.reduceMul, String.reduceEq, reduceCtorEq, room_c, room_s, t0, t1, t2, l0, l1, fin]
  · have h1 : ¬ c < 128 := by rw [Int32.lt_iff_toInt_lt]; omega
    have h2 : ¬ c < 2048 := by rw [Int32.lt_iff_toInt_lt]; omega
    have h3 : ¬ c < 65536 := by rw [Int32.lt_iff_toInt_lt]; omega
    obtain ⟨x0, x1, x2, x3, t0, t1, t2, t3, l0, l1, c1, c2, c3, fin⟩ := facts_4 c (by omega) (by omega)
    simp only [↓S0, ↓B0, ↓idx_c, ↓setN_c, ↓idxN_c, ↓reduceIte, B1, List.length_cons, List.length_nil, List.mem_cons, List.not_mem_nil, or_false, true_or, or_true, true_and, and_true, and_self, not_true_eq_false, not_false_eq_true, eq_self, ne_eq, Nat.zero_le, Nat.le_refl, Nat.reduceAdd, Nat.reduceSub, Nat.reduceEqDiff, Nat.reduceLeDiff, Int32.reduceLT, Int32.reduceLE, Int32.reduceAdd, Int32.reduceSub, Int32.reduceMul, Int32.reduceToNatClampNeg, Int32.reduceOfNat, Int32.reduceOfInt, Int64.reduceLT, Int64.reduceAdd, Int64.reduceSub, Int64.reduceMul, String.reduceEq, reduceCtorEq, room_c, room_s, hv]
    refine kf0_82 (con1_0_4 (nar .byte i2) c h1 h2 h3) (r0 300 ?_)
    simp only [↓S0, ↓B0, ↓idx_c, ↓setN_c, ↓idxN_c, ↓reduceIte, B1, List.length_cons, List.length_nil, List.mem_cons, List.not_mem_nil, or_false, true_or, or_true, true_and, and_true, and_self, not_true_eq_false, not_false_eq_true, eq_self, ne_eq, Nat.zero_le, Nat.le_refl, Nat.reduceAdd, Nat.reduceSub, Nat.reduceEqDiff, Nat.reduceLeDiff, Int32.reduceLT, Int32.reduceLE, Int32.reduceAdd, Int32.reduceSub, Int32.reduceMul, Int32.reduceToNatClampNeg, Int32.reduceOfNat, Int32.reduceOfInt, Int64.reduceLT, Int64.reduceAdd, Int64.reduceSub, Int64.reduceMul, String.reduceEq, reduceCtorEq, room_c, room_s, h1, h2, h3]
    refine kf0_147 (con2 _ 0 _ _ _ _ rfl (by decide)) ?_
    simp only [↓B0, ↓idx_c, ↓setN_c, ↓idxN_c, ↓reduceIte, B1, List.length_cons, List.length_nil, List.mem_cons, List.not_mem_nil, or_false, true_or, or_true, true_and, and_true, and_self, not_true_eq_false, not_false_eq_true, eq_self, ne_eq, Nat.zero_le, Nat.le_refl, Nat.reduceAdd, Nat.reduceSub, Nat.reduceEqDiff, Nat.reduceLeDiff, Int32.reduceLT, Int32.reduceLE, Int32.reduceAdd, Int32.reduceSub, Int32.reduceMul, Int32.reduceToNatClampNeg, Int32.reduceOfNat, Int32.reduceOfInt, Int64.reduceLT, Int64.reduceAdd, Int64.reduceSub, Int64.reduceMul, String.reduceEq, reduceCtorEq, room_c, room_s, kp]
    refine r0 300 ?_
    simp only [↓S0, ↓B0, ↓idx_c, ↓setN_c, ↓idxN_c, ↓reduceIte, B1, List.length_cons, List.length_nil, List.mem_cons, List.not_mem_nil, or_false, true_or, or_true, true_and, and_true, and_self, not_true_eq_false, not_false_eq_true, eq_self, ne_eq, Nat.zero_le, Nat.le_refl, Nat.reduceAdd, Nat.reduceSub, Nat.reduceEqDiff, Nat.reduceLeDiff, Int32.reduceLT, Int32.reduceLE, Int32.reduceAdd, Int32.reduceSub, Int32.reduceMul, Int32.reduceToNatClampNeg, Int32.reduceOfNat, Int32.reduceOfInt, Int64.reduceLT, Int64.reduceAdd, Int64.reduceSub, Int64.reduceMul, String.reduceEq, reduceCtorEq, room_c, room_s]
    refine kf0_162 (con2 _ 1 _ _ _ _ rfl (by decide)) ?_
    simp only [↓B0, ↓idx_c, ↓setN_c, ↓idxN_c, ↓reduceIte, B1, List.length_cons, List.length_nil, List.mem_cons, List.not_mem_nil, or_false, true_or, or_true, true_and, and_true, and_self, not_true_eq_false, not_false_eq_true, eq_self, ne_eq, Nat.zero_le, Nat.le_refl, Nat.reduceAdd, Nat.reduceSub, Nat.reduceEqDiff, Nat.reduceLeDiff, Int32.reduceLT, Int32.reduceLE, Int32.reduceAdd, Int32.reduceSub, Int32.reduceMul, Int32.reduceToNatClampNeg, Int32.reduceOfNat, Int32.reduceOfInt, Int64.reduceLT, Int64.reduceAdd, Int64.reduceSub, Int64.reduceMul, String.reduceEq, reduceCtorEq, room_c, room_s, kp]
    refine r0 300 ?_
    simp only [↓S0, ↓B0, ↓idx_c, ↓setN_c, ↓idxN_c, ↓reduceIte, B1, List.length_cons, List.length_nil, List.mem_cons, List.not_mem_nil, or_false, true_or, or_true, true_and, and_true, and_self, not_true_eq_false, not_false_eq_true, eq_self, ne_eq, Nat.zero_le, Nat.le_refl, Nat.reduceAdd, Nat.reduceSub, Nat.reduceEqDiff, Nat.reduceLeDiff, Int32.reduceLT, Int32.reduceLE, Int32.reduceAdd, Int32.reduceSub, Int32.reduceMul, Int32.reduceToNatClampNeg, Int32.reduceOfNat, Int32.reduceOfInt, Int64.reduceLT, Int64.reduceAdd, Int64.reduceSub, Int64.reduceMul, String.reduceEq, reduceCtorEq, room_c, room_s]
    refine kf0_177 (con2 _ 2 _ _ _ _ rfl (by decide)) ?_
    simp only [↓B0, ↓idx_c, ↓setN_c, ↓idxN_c, ↓reduceIte, B1, List.length_cons, List.length_nil, List.mem_cons, List.not_mem_nil, or_false, true_or, or_true, true_and, and_true, and_self, not_true_eq_false, not_false_eq_true, eq_self, ne_eq, Nat.zero_le, Nat.le_refl, Nat.reduceAdd, Nat.reduceSub, Nat.reduceEqDiff, Nat.reduceLeDiff, Int32.reduceLT, Int32.reduceLE, Int32.reduceAdd, Int32.reduceSub, Int32.reduceMul, Int32.reduceToNatClampNeg, Int32.reduceOfNat, Int32.reduceOfInt, Int64.reduceLT, Int64.reduceAdd, Int64.reduceSub, Int64.reduceMul, String.reduceEq, reduceCtorEq, room_c, room_s, kp]
    refine r0 300 ?_
    simp only [↓S0, ↓B0, ↓idx_c, ↓setN_c, ↓idxN_c, ↓reduceIte, B1, List.length_cons, List.length_nil, List.mem_cons, List.not_mem_nil, or_false, true_or, or_true, true_and, and_true, and_self, not_true_eq_false, not_false_eq_true, eq_self, ne_eq, Nat.zero_le, Nat.le_refl, Nat.reduceAdd, Nat.reduceSub, Nat.reduceEqDiff, Nat.reduceLeDiff, Int32.reduceLT, Int32.reduceLE, Int32.reduceAdd, Int32.reduceSub, Int32.reduceMul, Int32.reduceToNatClampNeg, Int32.reduceOfNat, Int32.reduceOfInt, Int64.reduceLT, Int64.reduceAdd, Int64.reduceSub, Int64.reduceMul, String.reduceEq, reduceCtorEq, room_c, room_s]
    refine kf0_192 (con2 _ 3 _ _ _ _ rfl (by decide)) ?_
    simp only [↓B0, ↓idx_c, ↓setN_c, ↓idxN_c, ↓reduceIte, B1, List.length_cons, List.length_nil, List.mem_cons, List.not_mem_nil, or_false, true_or, or_true, true_and, and_true, and_self, not_true_eq_false, not_false_eq_true, eq_self, ne_eq, Nat.zero_le, Nat.le_refl, Nat.reduceAdd, Nat.reduceSub, Nat.reduceEqDiff, Nat.reduceLeDiff, Int32.reduceLT, Int32.reduceLE, Int32.reduceAdd, Int32.reduceSub, Int32.reduceMul, Int32.reduceToNatClampNeg, Int32.reduceOfNat, Int32.reduceOfInt, Int64.reduceLT, Int64.reduceAdd, Int64.reduceSub, Int64.reduceMul, String.reduceEq, reduceCtorEq, room_c, room_s, kp]
    refine r0 300 ?_
    simp only [↓S0, ↓B0, ↓idx_c, ↓setN_c, ↓idxN_c, ↓reduceIte, B1, List.length_cons, List.length_nil, List.mem_cons, List.not_mem_nil, or_false, true_or, or_true, true_and, and_true, and_self, not_true_eq_false, not_false_eq_true, eq_self, ne_eq, Nat.zero_le, Nat.le_refl, Nat.reduceAdd, Nat.reduceSub, Nat.reduceEqDiff, Nat.reduceLeDiff, Int32.reduceLT, Int32.reduceLE, Int32.reduceAdd, Int32.reduceSub, Int32.reduceMul, Int32.reduceToNatClampNeg, Int32.reduceOfNat, Int32.reduceOfInt, Int64.reduceLT, Int64.reduceAdd, Int64.reduceSub, Int64.reduceMul, String.reduceEq, reduceCtorEq, room_c, room_s]
    refine kf0_207 (con2 _ 4 _ _ _ _ rfl (by decide)) ?_
    simp only [↓B0, ↓idx_c, ↓setN_c, ↓idxN_c, ↓reduceIte, B1, List.length_cons, List.length_nil, List.mem_cons, List.not_mem_nil, or_false, true_or, or_true, true_and, and_true, and_self, not_true_eq_false, not_false_eq_true, eq_self, ne_eq, Nat.zero_le, Nat.le_refl, Nat.reduceAdd, Nat.reduceSub, Nat.reduceEqDiff, Nat.reduceLeDiff, Int32.reduceLT, Int32.reduceLE, Int32.reduceAdd, Int32.reduceSub, Int32.reduceMul, Int32.reduceToNatClampNeg, Int32.reduceOfNat, Int32.reduceOfInt, Int64.reduceLT, Int64.reduceAdd, Int64.reduceSub, Int64.reduceMul, String.reduceEq, reduceCtorEq, room_c, room_s, kp]
    refine r0 300 ?_
    simp only [↓S0, ↓B0, ↓idx_c, ↓setN_c, ↓idxN_c, ↓reduceIte, B1, List.length_cons, List.length_nil, List.mem_cons, List.not_mem_nil, or_false, true_or, or_true, true_and, and_true, and_self, not_true_eq_false, not_false_eq_true, eq_self, ne_eq, Nat.zero_le, Nat.le_refl, Nat.reduceAdd, Nat.reduceSub, Nat.reduceEqDiff, Nat.reduceLeDiff, Int32.reduceLT, Int32.reduceLE, Int32.reduceAdd, Int32.reduceSub, Int32.reduceMul, Int32.reduceToNatClampNeg, Int32.reduceOfNat, Int32.reduceOfInt, Int64.reduceLT, Int64.reduceAdd, Int64.reduceSub, Int64.reduceMul, String.reduceEq, reduceCtorEq, room_c, room_s]
    refine kf0_222 (con2 _ 5 _ _ _ _ rfl (by decide)) ?_
    simp only [↓B0, ↓idx_c, ↓setN_c, ↓idxN_c, ↓reduceIte, B1, List.length_cons, List.length_nil, List.mem_cons, List.not_mem_nil, or_false, true_or, or_true, true_and, and_true, and_self, not_true_eq_false, not_false_eq_true, eq_self, ne_eq, Nat.zero_le, Nat.le_refl, Nat.reduceAdd, Nat.reduceSub, Nat.reduceEqDiff, Nat.reduceLeDiff, Int32.reduceLT, Int32.reduceLE, Int32.reduceAdd, Int32.reduceSub, Int32.reduceMul, Int32.reduceToNatClampNeg, Int32.reduceOfNat, Int32.reduceOfInt, Int64.reduceLT, Int64.reduceAdd, Int64.reduceSub, Int64.reduceMul, String.reduceEq, reduceCtorEq, room_c, room_s, kp]
    refine r0 300 ?_
    simp only [↓S0, ↓B0, ↓idx_c, ↓setN_c, ↓idxN_c, ↓reduceIte, B1, List.length_cons, List.length_nil, List.mem_cons, List.not_mem_nil, or_false, true_or, or_true, true_and, and_true, and_self, not_true_eq_false, not_false_eq_true, eq_self, ne_eq, Nat.zero_le, Nat.le_refl, Nat.reduceAdd, Nat.reduceSub, Nat.reduceEqDiff, Nat.reduceLeDiff, Int32.reduceLT, Int32.reduceLE, Int32.reduceAdd, Int32.reduceSub, Int32.reduceMul, Int32.reduceToNatClampNeg, Int32.reduceOfNat, Int32.reduceOfInt, Int64.reduceLT, Int64.reduceAdd, Int64.reduceSub, Int64.reduceMul, String.reduceEq, reduceCtorEq, room_c, room_s]
    refine kf0_238 (con2 _ 6 _ _ _ _ rfl (by decide)) ?_
    simp only [↓B0, ↓idx_c, ↓setN_c, ↓idxN_c, ↓reduceIte, B1, List.length_cons, List.length_nil, List.mem_cons, List.not_mem_nil, or_false, true_or, or_true, true_and, and_true, and_self, not_true_eq_false, not_false_eq_true, eq_self, ne_eq, Nat.zero_le, Nat.le_refl, Nat.reduceAdd, Nat.reduceSub, Nat.reduceEqDiff, Nat.reduceLeDiff, Int32.reduceLT, Int32.reduceLE, Int32.reduceAdd, Int32.reduceSub, Int32.reduceMul, Int32.reduceToNatClampNeg, Int32.reduceOfNat, Int32.reduceOfInt, Int64.reduceLT, Int64.reduceAdd, Int64.reduceSub, Int64.reduceMul, String.reduceEq, reduceCtorEq, room_c, room_s, kp]
    refine r0 300 ?_
    simp only [↓S0, ↓B0, ↓idx_c, ↓setN_c, ↓idxN_c, ↓reduceIte, B1, List.length_cons, List.length_nil, List.mem_cons, List.not_mem_nil, or_false, true_or, or_true, true_and, and_true, and_self, not_true_eq_false, not_false_eq_true, eq_self, ne_eq, Nat.zero_le, Nat.le_refl, Nat.reduceAdd, Nat.reduceSub, Nat.reduceEqDiff, Nat.reduceLeDiff, Int32.reduceLT, Int32.reduceLE, Int32.reduceAdd, Int32.reduceSub, Int32.reduceMul, Int32.reduceToNatClampNeg, Int32.reduceOfNat, Int32.reduceOfInt, Int64.reduceLT, Int64.reduceAdd, Int64.reduceSub, Int64.reduceMul, String.reduceEq, reduceCtorEq, room_c, room_s]
    refine kf0_254 (con2 _ 7 _ _ _ _ rfl (by decide)) ?_
    simp only [↓B0, ↓idx_c, ↓setN_c, ↓idxN_c, ↓reduceIte, B1, List.length_cons, List.length_nil, List.mem_cons, List.not_mem_nil, or_false, true_or, or_true, true_and, and_true, and_self, not_true_eq_false, not_false_eq_true, eq_self, ne_eq, Nat.zero_le, Nat.le_refl, Nat.reduceAdd, Nat.reduceSub, Nat.reduceEqDiff, Nat.reduceLeDiff, Int32.reduceLT, Int32.reduceLE, Int32.reduceAdd, Int32.reduceSub, Int32.reduceMul, Int32.reduceToNatClampNeg, Int32.reduceOfNat, Int32.reduceOfInt, Int64.reduceLT, Int64.reduceAdd, Int64.reduceSub, Int64.reduceMul, String.reduceEq, reduceCtorEq, room_c, room_s, kp]
    refine r0 300 ?_
    simp only [↓S0, ↓B0, ↓idx_c, ↓setN_c, ↓idxN_c, ↓reduceIte, B1, List.length_cons, List.length_nil, List.mem_cons, List.not_mem_nil, or_false, true_or, or_true, true_and, and_true, and_self, not_true_eq_false, not_false_eq_true, eq_self, ne_eq, Nat.zero_le, Nat.le_refl, Nat.reduceAdd, Nat.reduceSub, Nat.reduceEqDiff, Nat.reduceLeDiff, Int32.reduceLT, Int32.reduceLE, Int32.reduceAdd, Int32.reduceSub, Int32.reduceMul, Int32.reduceToNatClampNeg, Int32.reduceOfNat, Int32.reduceOfInt, Int64.reduceLT, Int64.reduceAdd, Int64.reduceSub, Int64.reduceMul, String.reduceEq, reduceCtorEq, room_c, room_s, t0, t1, t2, t3, l0, l1, fin]
    refine kf0_491 (con3 _) ?_
    simp only [c1]
    refine r0 300 ?_
    simp only [↓S0, ↓B0, ↓idx_c, ↓setN_c, ↓idxN_c, ↓reduceIte, B1, List.length_cons, List.length_nil, List.mem_cons, List.not_mem_nil, or_false, true_or, or_true, true_and, and_true, and_self, not_true_eq_false, not_false_eq_true, eq_self, ne_eq, Nat.zero_le, Nat.le_refl, Nat.reduceAdd, Nat.reduceSub, Nat.reduceEqDiff, Nat.reduceLeDiff, Int32.reduceLT, Int32.reduceLE, Int32.reduceAdd, Int32.reduceSub, Int32.reduceMul, Int32.reduceToNatClampNeg, Int32.reduceOfNat, Int32.reduceOfInt, Int64.reduceLT, Int64.reduceAdd, Int64.reduceSub, Int64.reduceMul, String.reduceEq, reduceCtorEq, room_c, room_s, t0, t1, t2, t3, l0, l1, fin]
    refine kf0_499 (con3 _) ?_
    simp only [c2]
    refine r0 300 ?_
    simp only [↓S0, ↓B0, ↓idx_c, ↓setN_c, ↓idxN_c, ↓reduceIte, B1, List.length_cons, List.length_nil, List.mem_cons, List.not_mem_nil, or_false, true_or, or_true, true_and, and_true, and_self, not_true_eq_false, not_false_eq_true, eq_self, ne_eq, Nat.zero_le, Nat.le_refl, Nat.reduceAdd, Nat.reduceSub, Nat.reduceEqDiff, Nat.reduceLeDiff, Int32.reduceLT, Int32.reduceLE, Int32.reduceAdd, Int32.reduceSub, Int32.reduceMul, Int32.reduceToNatClampNeg, Int32.reduceOfNat, Int32.reduceOfInt, Int64.reduceLT, Int64.reduceAdd, Int64.reduceSub, Int64.reduceMul, String.reduceEq, reduceCtorEq, room_c, room_s, t0, t1, t2, t3, l0, l1, fin]
    refine kf0_507 (con3 _) ?_
    simp only [c3]
    refine r0 300 ?_
    simp only [↓S0, ↓B0, ↓idx_c, ↓setN_c, ↓idxN_c, ↓reduceIte, B1, List.length_cons, List.length_nil, List.mem_cons, List.not_mem_nil, or_false, true_or, or_true, true_and, and_true, and_self, not_true_eq_false, not_false_eq_true, eq_self, ne_eq, Nat.zero_le, Nat.le_refl, Nat.reduceAdd, Nat.reduceSub, Nat.reduceEqDiff, Nat.reduceLeDiff, Int32.reduceLT, Int32.reduceLE, Int32.reduceAdd, Int32.reduceSub, Int32.reduceMul, Int32.reduceToNatClampNeg, Int32.reduceOfNat, Int32.reduceOfInt, Int64.reduceLT, Int64.reduceAdd, Int64.reduceSub, Int64.reduceMul, String.reduceEq, reduceCtorEq, room_c, room_s, t0, t1, t2, t3, l0, l1, fin]
  · have h1 : c < 128 := by rw [Int32.lt_iff_toInt_lt]; omega
    have t0 := facts_1 c (by omega) (by omega)
    simp only [↓S0, ↓B0, ↓idx_c, ↓setN_c, ↓idxN_c, ↓reduceIte, B1, List.length_cons, List.length_nil, List.mem_cons, List.not_mem_nil, or_false, true_or, or_true, true_and, and_true, and_self, not_true_eq_false, not_false_eq_true, eq_self, ne_eq, Nat.zero_le, Nat.le_refl, Nat.reduceAdd, Nat.reduceSub, Nat.reduceEqDiff, Nat.reduceLeDiff, Int32.reduceLT, Int32.reduceLE, Int32.reduceAdd, Int32.reduceSub, Int32.reduceMul, Int32.reduceToNatClampNeg, Int32.reduceOfNat, Int32.reduceOfInt, Int64.reduceLT, Int64.reduceAdd, Int64.reduceSub, Int64.reduceMul, String.reduceEq, reduceCtorEq, room_c, room_s, hv]
    refine kf0_82 (con1_1_1 (nar .byte i2) c h1) (r0 300 ?_)
    simp only [↓S0, ↓B0, ↓idx_c, ↓setN_c, ↓idxN_c, ↓reduceIte, B1, List.length_cons, List.length_nil, List.mem_cons, List.not_mem_nil, or_false, true_or, or_true, true_and, and_true, and_self, not_true_eq_false, not_false_eq_true, eq_self, ne_eq, Nat.zero_le, Nat.le_refl, Nat.reduceAdd, Nat.reduceSub, Nat.reduceEqDiff, Nat.reduceLeDiff, Int32.reduceLT, Int32.reduceLE, Int32.reduceAdd, Int32.reduceSub, Int32.reduceMul, Int32.reduceToNatClampNeg, Int32.reduceOfNat, Int32.reduceOfInt, Int64.reduceLT, Int64.reduceAdd, Int64.reduceSub, Int64.reduceMul, String.reduceEq, reduceCtorEq, room_c, room_s, h1]
    refine kf0_147 (con2 _ 0 _ _ _ _ rfl (by decide)) ?_
    simp only [↓B0, ↓idx_c, ↓setN_c, ↓idxN_c, ↓reduceIte, B1, List.length_cons, List.length_nil, List.mem_cons, List.not_mem_nil, or_false, true_or, or_true, true_and, and_true, and_self, not_true_eq_false, not_false_eq_true, eq_self, ne_eq, Nat.zero_le, Nat.le_refl, Nat.reduceAdd, Nat.reduceSub, Nat.reduceEqDiff, Nat.reduceLeDiff, Int32.reduceLT, Int32.reduceLE, Int32.reduceAdd, Int32.reduceSub, Int32.reduceMul, Int32.reduceToNatClampNeg, Int32.reduceOfNat, Int32.reduceOfInt, Int64.reduceLT, Int64.reduceAdd, Int64.reduceSub, Int64.reduceMul, String.reduceEq, reduceCtorEq, room_c, room_s, kp]
    refine r0 300 ?_
    simp only [↓S0, ↓B0, ↓idx_c, ↓setN_c, ↓idxN_c, ↓reduceIte, B1, List.length_cons, List.length_nil, List.mem_cons, List.not_mem_nil, or_false, true_or, or_true, true_and, and_true, and_self, not_true_eq_false, not_false_eq_true, eq_self, ne_eq, Nat.zero_le, Nat.le_refl, Nat.reduceAdd, Nat.reduceSub, Nat.reduceEqDiff, Nat.reduceLeDiff, Int32.reduceLT, Int32.reduceLE, Int32.reduceAdd, Int32.reduceSub, Int32.reduceMul, Int32.reduceToNatClampNeg, Int32.reduceOfNat, Int32.reduceOfInt, Int64.reduceLT, Int64.reduceAdd, Int64.reduceSub, Int64.reduceMul, String.reduceEq, reduceCtorEq, room_c, room_s]
    refine kf0_162 (con2 _ 1 _ _ _ _ rfl (by decide)) ?_
    simp only [↓B0, ↓idx_c, ↓setN_c, ↓idxN_c, ↓reduceIte, B1, List.length_cons, List.length_nil, List.mem_cons, List.not_mem_nil, or_false, true_or, or_true, true_and, and_true, and_self, not_true_eq_false, not_false_eq_true, eq_self, ne_eq, Nat.zero_le, Nat.le_refl, Nat.reduceAdd, Nat.reduceSub, Nat.reduceEqDiff, Nat.reduceLeDiff, Int32.reduceLT, Int32.reduceLE, Int32.reduceAdd, Int32.reduceSub, Int32.reduceMul, Int32.reduceToNatClampNeg, Int32.reduceOfNat, Int32.reduceOfInt, Int64.reduceLT, Int64.reduceAdd, Int64.reduceSub, Int64.reduceMul, String.reduceEq, reduceCtorEq, room_c, room_s, kp]
    refine r0 300 ?_
    simp only [↓S0, ↓B0, ↓idx_c, ↓setN_c, ↓idxN_c, ↓reduceIte, B1, List.length_cons, List.length_nil, List.mem_cons, List.not_mem_nil, or_false, true_or, or_true, true_and, and_true, and_self, not_true_eq_false, not_false_eq_true, eq_self, ne_eq, Nat.zero_le, Nat.le_refl, Nat.reduceAdd, Nat.reduceSub, Nat.reduceEqDiff, Nat.reduceLeDiff, Int32.reduceLT, Int32.reduceLE, Int32.reduceAdd, Int32.reduceSub, Int32.reduceMul, Int32.reduceToNatClampNeg, Int32.reduceOfNat, Int32.reduceOfInt, Int64.reduceLT, Int64.reduceAdd, Int64.reduceSub, Int64.reduceMul, String.reduceEq, reduceCtorEq, room_c, room_s]
    refine kf0_177 (con2 _ 2 _ _ _ _ rfl (by decide)) ?_
    simp only [↓B0, ↓idx_c, ↓setN_c, ↓idxN_c, ↓reduceIte, B1, List.length_cons, List.length_nil, List.mem_cons, List.not_mem_nil, or_false, true_or, or_true, true_and, and_true, and_self, not_true_eq_false, not_false_eq_true, eq_self, ne_eq, Nat.zero_le, Nat.le_refl, Nat.reduceAdd, Nat.reduceSub, Nat.reduceEqDiff, Nat.reduceLeDiff, Int32.reduceLT, Int32.reduceLE, Int32.reduceAdd, Int32.reduceSub, Int32.reduceMul, Int32.reduceToNatClampNeg, Int32.reduceOfNat, Int32.reduceOfInt, Int64.reduceLT, Int64.reduceAdd, Int64.reduceSub, Int64.reduceMul, String.reduceEq, reduceCtorEq, room_c, room_s, kp]
    refine r0 300 ?_
    simp only [↓S0, ↓B0, ↓idx_c, ↓setN_c, ↓idxN_c, ↓reduceIte, B1, List.length_cons, List.length_nil, List.mem_cons, List.not_mem_nil, or_false, true_or, or_true, true_and, and_true, and_self, not_true_eq_false, not_false_eq_true, eq_self, ne_eq, Nat.zero_le, Nat.le_refl, Nat.reduceAdd, Nat.reduceSub, Nat.reduceEqDiff, Nat.reduceLeDiff, Int32.reduceLT, Int32.reduceLE, Int32.reduceAdd, Int32.reduceSub, Int32.reduceMul, Int32.reduceToNatClampNeg, Int32.reduceOfNat, Int32.reduceOfInt, Int64.reduceLT, Int64.reduceAdd, Int64.reduceSub, Int64.reduceMul, String.reduceEq, reduceCtorEq, room_c, room_s]
    refine kf0_192 (con2 _ 3 _ _ _ _ rfl (by decide)) ?_
    simp only [↓B0, ↓idx_c, ↓setN_c, ↓idxN_c, ↓reduceIte, B1, List.length_cons, List.length_nil, List.mem_cons, List.not_mem_nil, or_false, true_or, or_true, true_and, and_true, and_self, not_true_eq_false, not_false_eq_true, eq_self, ne_eq, Nat.zero_le, Nat.le_refl, Nat.reduceAdd, Nat.reduceSub, Nat.reduceEqDiff, Nat.reduceLeDiff, Int32.reduceLT, Int32.reduceLE, Int32.reduceAdd, Int32.reduceSub, Int32.reduceMul, Int32.reduceToNatClampNeg, Int32.reduceOfNat, Int32.reduceOfInt, Int64.reduceLT, Int64.reduceAdd, Int64.reduceSub, Int64.reduceMul, String.reduceEq, reduceCtorEq, room_c, room_s, kp]
    refine r0 300 ?_
    simp only [↓S0, ↓B0, ↓idx_c, ↓setN_c, ↓idxN_c, ↓reduceIte, B1, List.length_cons, List.length_nil, List.mem_cons, List.not_mem_nil, or_false, true_or, or_true, true_and, and_true, and_self, not_true_eq_false, not_false_eq_true, eq_self, ne_eq, Nat.zero_le, Nat.le_refl, Nat.reduceAdd, Nat.reduceSub, Nat.reduceEqDiff, Nat.reduceLeDiff, Int32.reduceLT, Int32.reduceLE, Int32.reduceAdd, Int32.reduceSub, Int32.reduceMul, Int32.reduceToNatClampNeg, Int32.reduceOfNat, Int32.reduceOfInt, Int64.reduceLT, Int64.reduceAdd, Int64.reduceSub, Int64.reduceMul, String.reduceEq, reduceCtorEq, room_c, room_s]
    refine kf0_207 (con2 _ 4 _ _ _ _ rfl (by decide)) ?_
    simp only [↓B0, ↓idx_c, ↓setN_c, ↓idxN_c, ↓reduceIte, B1, List.length_cons, List.length_nil, List.mem_cons, List.not_mem_nil, or_false, true_or, or_true, true_and, and_true, and_self, not_true_eq_false, not_false_eq_true, eq_self, ne_eq, Nat.zero_le, Nat.le_refl, Nat.reduceAdd, Nat.reduceSub, Nat.reduceEqDiff, Nat.reduceLeDiff, Int32.reduceLT, Int32.reduceLE, Int32.reduceAdd, Int32.reduceSub, Int32.reduceMul, Int32.reduceToNatClampNeg, Int32.reduceOfNat, Int32.reduceOfInt, Int64.reduceLT, Int64.reduceAdd, Int64.reduceSub, Int64.reduceMul, String.reduceEq, reduceCtorEq, room_c, room_s, kp]
    refine r0 300 ?_
    simp only [↓S0, ↓B0, ↓idx_c, ↓setN_c, ↓idxN_c, ↓reduceIte, B1, List.length_cons, List.length_nil, List.mem_cons, List.not_mem_nil, or_false, true_or, or_true, true_and, and_true, and_self, not_true_eq_false, not_false_eq_true, eq_self, ne_eq, Nat.zero_le, Nat.le_refl, Nat.reduceAdd, Nat.reduceSub, Nat.reduceEqDiff, Nat.reduceLeDiff, Int32.reduceLT, Int32.reduceLE, Int32.reduceAdd, Int32.reduceSub, Int32.reduceMul, Int32.reduceToNatClampNeg, Int32.reduceOfNat, Int32.reduceOfInt, Int64.reduceLT, Int64.reduceAdd, Int64.reduceSub, Int64.reduceMul, String.reduceEq, reduceCtorEq, room_c, room_s]
    refine kf0_222 (con2 _ 5 _ _ _ _ rfl (by decide)) ?_
    simp only [↓B0, ↓idx_c, ↓setN_c, ↓idxN_c, ↓reduceIte, B1, List.length_cons, List.length_nil, List.mem_cons, List.not_mem_nil, or_false, true_or, or_true, true_and, and_true, and_self, not_true_eq_false, not_false_eq_true, eq_self, ne_eq, Nat.zero_le, Nat.le_refl, Nat.reduceAdd, Nat.reduceSub, Nat.reduceEqDiff, Nat.reduceLeDiff, Int32.reduceLT, Int32.reduceLE, Int32.reduceAdd, Int32.reduceSub, Int32.reduceMul, Int32.reduceToNatClampNeg, Int32.reduceOfNat, Int32.reduceOfInt, Int64.reduceLT, Int64.reduceAdd, Int64.reduceSub, Int64.reduceMul, String.reduceEq, reduceCtorEq, room_c, room_s, kp]
    refine r0 300 ?_
    simp only [↓S0, ↓B0, ↓idx_c, ↓setN_c, ↓idxN_c, ↓reduceIte, B1, List.length_cons, List.length_nil, List.mem_cons, List.not_mem_nil, or_false, true_or, or_true, true_and, and_true, and_self, not_true_eq_false, not_false_eq_true, eq_self, ne_eq, Nat.zero_le, Nat.le_refl, Nat.reduceAdd, Nat.reduceSub, Nat.reduceEqDiff, Nat.reduceLeDiff, Int32.reduceLT, Int32.reduceLE, Int32.reduceAdd, Int32.reduceSub, Int32.reduceMul, Int32.reduceToNatClampNeg, Int32.reduceOfNat, Int32.reduceOfInt, Int64.reduceLT, Int64.reduceAdd, Int64.reduceSub, Int64.reduceMul, String.reduceEq, reduceCtorEq, room_c, room_s]
    refine kf0_238 (con2 _ 6 _ _ _ _ rfl (by decide)) ?_
    simp only [↓B0, ↓idx_c, ↓setN_c, ↓idxN_c, ↓reduceIte, B1, List.length_cons, List.length_nil, List.mem_cons, List.not_mem_nil, or_false, true_or, or_true, true_and, and_true, and_self, not_true_eq_false, not_false_eq_true, eq_self, ne_eq, Nat.zero_le, Nat.le_refl, Nat.reduceAdd, Nat.reduceSub, Nat.reduceEqDiff, Nat.reduceLeDiff, Int32.reduceLT, Int32.reduceLE, Int32.reduceAdd, Int32.reduceSub, Int32.reduceMul, Int32.reduceToNatClampNeg, Int32.reduceOfNat, Int32.reduceOfInt, Int64.reduceLT, Int64.reduceAdd, Int64.reduceSub, Int64.reduceMul, String.reduceEq, reduceCtorEq, room_c, room_s, kp]
    refine r0 300 ?_
    simp only [↓S0, ↓B0, ↓idx_c, ↓setN_c, ↓idxN_c, ↓reduceIte, B1, List.length_cons, List.length_nil, List.mem_cons, List.not_mem_nil, or_false, true_or, or_true, true_and, and_true, and_self, not_true_eq_false, not_false_eq_true, eq_self, ne_eq, Nat.zero_le, Nat.le_refl, Nat.reduceAdd, Nat.reduceSub, Nat.reduceEqDiff, Nat.reduceLeDiff, Int32.reduceLT, Int32.reduceLE, Int32.reduceAdd, Int32.reduceSub, Int32.reduceMul, Int32.reduceToNatClampNeg, Int32.reduceOfNat, Int32.reduceOfInt, Int64.reduceLT, Int64.reduceAdd, Int64.reduceSub, Int64.reduceMul, String.reduceEq, reduceCtorEq, room_c, room_s]
    refine kf0_254 (con2 _ 7 _ _ _ _ rfl (by decide)) ?_
    simp only [↓B0, ↓idx_c, ↓setN_c, ↓idxN_c, ↓reduceIte, B1, List.length_cons, List.length_nil, List.mem_cons, List.not_mem_nil, or_false, true_or, or_true, true_and, and_true, and_self, not_true_eq_false, not_false_eq_true, eq_self, ne_eq, Nat.zero_le, Nat.le_refl, Nat.reduceAdd, Nat.reduceSub, Nat.reduceEqDiff, Nat.reduceLeDiff, Int32.reduceLT, Int32.reduceLE, Int32.reduceAdd, Int32.reduceSub, Int32.reduceMul, Int32.reduceToNatClampNeg, Int32.reduceOfNat, Int32.reduceOfInt, Int64.reduceLT, Int64.reduceAdd, Int64.reduceSub, Int64.reduceMul, String.reduceEq, reduceCtorEq, room_c, room_s, kp]
    refine r0 300 ?_
    simp only [↓S0, ↓B0, ↓idx_c, ↓setN_c, ↓idxN_c, ↓reduceIte, B1, List.length_cons, List.length_nil, List.mem_cons, List.not_mem_nil, or_false, true_or, or_true, true_and, and_true, and_self, not_true_eq_false, not_false_eq_true, eq_self, ne_eq, Nat.zero_le, Nat.le_refl, Nat.reduceAdd, Nat.reduceSub, Nat.reduceEqDiff, Nat.reduceLeDiff, Int32.reduceLT, Int32.reduceLE, Int32.reduceAdd, Int32.reduceSub, Int32.reduceMul, Int32.reduceToNatClampNeg, Int32.reduceOfNat, Int32.reduceOfInt, Int64.reduceLT, Int64.reduceAdd, Int64.reduceSub, Int64.reduceMul, String.reduceEq, reduceCtorEq, room_c, room_s, t0]
  · have h1 : ¬ c < 128 := by rw [Int32.lt_iff_toInt_lt]; omega
    have h2 : c < 2048 := by rw [Int32.lt_iff_toInt_lt]; omega
    obtain ⟨x0, x1, t0, t1, l0, l1, c1, fin⟩ := facts_2 c (by omega) (by omega)
    simp only [↓S0, ↓B0, ↓idx_c, ↓setN_c, ↓idxN_c, ↓reduceIte, B1, List.length_cons, List.length_nil, List.mem_cons, List.not_mem_nil, or_false, true_or, or_true, true_and, and_true, and_self, not_true_eq_false, not_false_eq_true, eq_self, ne_eq, Nat.zero_le, Nat.le_refl, Nat.reduceAdd, Nat.reduceSub, Nat.reduceEqDiff, Nat.reduceLeDiff, Int32.reduceLT, Int32.reduceLE, Int32.reduceAdd, Int32.reduceSub, Int32.reduceMul, Int32.reduceToNatClampNeg, Int32.reduceOfNat, Int32.reduceOfInt, Int64.reduceLT, Int64.reduceAdd, Int64.reduceSub, Int64.reduceMul, String.reduceEq, reduceCtorEq, room_c, room_s, hv]
    refine kf0_82 (con1_1_2 (nar .byte i2) c h1 h2) (r0 300 ?_)
    simp only [↓S0, ↓B0, ↓idx_c, ↓setN_c, ↓idxN_c, ↓reduceIte, B1, List.length_cons, List.length_nil, List.mem_cons, List.not_mem_nil, or_false, true_or, or_true, true_and, and_true, and_self, not_true_eq_false, not_false_eq_true, eq_self, ne_eq, Nat.zero_le, Nat.le_refl, Nat.reduceAdd, Nat.reduceSub, Nat.reduceEqDiff, Nat.reduceLeDiff, Int32.reduceLT, Int32.reduceLE, Int32.reduceAdd, Int32.reduceSub, Int32.reduceMul, Int32.reduceToNatClampNeg, Int32.reduceOfNat, Int32.reduceOfInt, Int64.reduceLT, Int64.reduceAdd, Int64.reduceSub, Int64.reduceMul, String.reduceEq, reduceCtorEq, room_c, room_s, h1, h2]
    refine kf0_147 (con2 _ 0 _ _ _ _ rfl (by decide)) ?_
    simp only [↓B0, ↓idx_c, ↓setN_c, ↓idxN_c, ↓reduceIte, B1, List.length_cons, List.length_nil, List.mem_cons, List.not_mem_nil, or_false, true_or, or_true, true_and, and_true, and_self, not_true_eq_false, not_false_eq_true, eq_self, ne_eq, Nat.zero_le, Nat.le_refl, Nat.reduceAdd, Nat.reduceSub, Nat.reduceEqDiff, Nat.reduceLeDiff, Int32.reduceLT, Int32.reduceLE, Int32.reduceAdd, Int32.reduceSub, Int32.reduceMul, Int32.reduceToNatClampNeg, Int32.reduceOfNat, Int32.reduceOfInt, Int64.reduceLT, Int64.reduceAdd, Int64.reduceSub, Int64.reduceMul, String.reduceEq, reduceCtorEq, room_c, room_s, kp]
    refine r0 300 ?_
    simp only [↓S0, ↓B0, ↓idx_c, ↓setN_c, ↓idxN_c, ↓reduceIte, B1, List.length_cons, List.length_nil, List.mem_cons, List.not_mem_nil, or_false, true_or, or_true, true_and, and_true, and_self, not_true_eq_false, not_false_eq_true, eq_self, ne_eq, Nat.zero_le, Nat.le_refl, Nat.reduceAdd, Nat.reduceSub, Nat.reduceEqDiff, Nat.reduceLeDiff, Int32.reduceLT, Int32.reduceLE, Int32.reduceAdd, Int32.reduceSub, Int32.reduceMul, Int32.reduceToNatClampNeg, Int32.reduceOfNat, Int32.reduceOfInt, Int64.reduceLT, Int64.reduceAdd, Int64.reduceSub, Int64.reduceMul, String.reduceEq, reduceCtorEq, room_c, room_s]
    refine kf0_162 (con2 _ 1 _ _ _ _ rfl (by decide)) ?_
    simp only [↓B0, ↓idx_c, ↓setN_c, ↓idxN_c, ↓reduceIte, B1, List.length_cons, List.length_nil, List.mem_cons, List.not_mem_nil, or_false, true_or, or_true, true_and, and_true, and_self, not_true_eq_false, not_false_eq_true, eq_self, ne_eq, Nat.zero_le, Nat.le_refl, Nat.reduceAdd, Nat.reduceSub, Nat.reduceEqDiff, Nat.reduceLeDiff, Int32.reduceLT, Int32.reduceLE, Int32.reduceAdd, Int32.reduceSub, Int32.reduceMul, Int32.reduceToNatClampNeg, Int32.reduceOfNat, Int32.reduceOfInt, Int64.reduceLT, Int64.reduceAdd, Int64.reduceSub, Int64.reduceMul, String.reduceEq, reduceCtorEq, room_c, room_s, kp]
    refine r0 300 ?_
    simp only [↓S0, ↓B0, ↓idx_c, ↓setN_c, ↓idxN_c, ↓reduceIte, B1, List.length_cons, List.length_nil, List.mem_cons, List.not_mem_nil, or_false, true_or, or_true, true_and, and_true, and_self, not_true_eq_false, not_false_eq_true, eq_self, ne_eq, Nat.zero_le, Nat.le_refl, Nat.reduceAdd, Nat.reduceSub, Nat.reduceEqDiff, Nat.reduceLeDiff, Int32.reduceLT, Int32.reduceLE, Int32.reduceAdd, Int32.reduceSub, Int32.reduceMul, Int32.reduceToNatClampNeg, Int32.reduceOfNat, Int32.reduceOfInt, Int64.reduceLT, Int64.reduceAdd, Int64.reduceSub, Int64.reduceMul, String.reduceEq, reduceCtorEq, room_c, room_s]
    refine kf0_177 (con2 _ 2 _ _ _ _ rfl (by decide)) ?_
    simp only [↓B0, ↓idx_c, ↓setN_c, ↓idxN_c, ↓reduceIte, B1, List.length_cons, List.length_nil, List.mem_cons, List.not_mem_nil, or_false, true_or, or_true, true_and, and_true, and_self, not_true_eq_false, not_false_eq_true, eq_self, ne_eq, Nat.zero_le, Nat.le_refl, Nat.reduceAdd, Nat.reduceSub, Nat.reduceEqDiff, Nat.reduceLeDiff, Int32.reduceLT, Int32.reduceLE, Int32.reduceAdd, Int32.reduceSub, Int32.reduceMul, Int32.reduceToNatClampNeg, Int32.reduceOfNat, Int32.reduceOfInt, Int64.reduceLT, Int64.reduceAdd, Int64.reduceSub, Int64.reduceMul, String.reduceEq, reduceCtorEq, room_c, room_s, kp]
    refine r0 300 ?_
    simp only [↓S0, ↓B0, ↓idx_c, ↓setN_c, ↓idxN_c, ↓reduceIte, B1, List.length_cons, List.length_nil, List.mem_cons, List.not_mem_nil, or_false, true_or, or_true, true_and, and_true, and_self, not_true_eq_false, not_false_eq_true, eq_self, ne_eq, Nat.zero_le, Nat.le_refl, Nat.reduceAdd, Nat.reduceSub, Nat.reduceEqDiff, Nat.reduceLeDiff, Int32.reduceLT, Int32.reduceLE, Int32.reduceAdd, Int32.reduceSub, Int32.reduceMul, Int32.reduceToNatClampNeg, Int32.reduceOfNat, Int32.reduceOfInt, Int64.reduceLT, Int64.reduceAdd, Int64.reduceSub, Int64.reduceMul, String.reduceEq, reduceCtorEq, room_c, room_s]
    refine kf0_192 (con2 _ 3 _ _ _ _ rfl (by decide)) ?_
    simp only [↓B0, ↓idx_c, ↓setN_c, ↓idxN_c, ↓reduceIte, B1, List.length_cons, List.length_nil, List.mem_cons, List.not_mem_nil, or_false, true_or, or_true, true_and, and_true, and_self, not_true_eq_false, not_false_eq_true, eq_self, ne_eq, Nat.zero_le, Nat.le_refl, Nat.reduceAdd, Nat.reduceSub, Nat.reduceEqDiff, Nat.reduceLeDiff, Int32.reduceLT, Int32.reduceLE, Int32.reduceAdd, Int32.reduceSub, Int32.reduceMul, Int32.reduceToNatClampNeg, Int32.reduceOfNat, Int32.reduceOfInt, Int64.reduceLT, Int64.reduceAdd, Int64.reduceSub, Int64.reduceMul, String.reduceEq, reduceCtorEq, room_c, room_s, kp]
    refine r0 300 ?_
    simp only [↓S0, ↓B0, ↓idx_c, ↓setN_c, ↓idxN_c, ↓reduceIte, B1, List.length_cons, List.length_nil, List.mem_cons, List.not_mem_nil, or_false, true_or, or_true, true_and, and_true, and_self, not_true_eq_false, not_false_eq_true, eq_self, ne_eq, Nat.zero_le, Nat.le_refl, Nat.reduceAdd, Nat.reduceSub, Nat.reduceEqDiff, Nat.reduceLeDiff, Int32.reduceLT, Int32.reduceLE, Int32.reduceAdd, Int32.reduceSub, Int32.reduceMul, Int32.reduceToNatClampNeg, Int32.reduceOfNat, Int32.reduceOfInt, Int64.reduceLT, Int64.reduceAdd, Int64.reduceSub, Int64.reduceMul, String.reduceEq, reduceCtorEq, room_c, room_s]
    refine kf0_207 (con2 _ 4 _ _ _ _ rfl (by decide)) ?_
    simp only [↓B0, ↓idx_c, ↓setN_c, ↓idxN_c, ↓reduceIte, B1, List.length_cons, List.length_nil, List.mem_cons, List.not_mem_nil, or_false, true_or, or_true, true_and, and_true, and_self, not_true_eq_false, not_false_eq_true, eq_self, ne_eq, Nat.zero_le, Nat.le_refl, Nat.reduceAdd, Nat.reduceSub, Nat.reduceEqDiff, Nat.reduceLeDiff, Int32.reduceLT, Int32.reduceLE, Int32.reduceAdd, Int32.reduceSub, Int32.reduceMul, Int32.reduceToNatClampNeg, Int32.reduceOfNat, Int32.reduceOfInt, Int64.reduceLT, Int64.reduceAdd, Int64.reduceSub, Int64.reduceMul, String.reduceEq, reduceCtorEq, room_c, room_s, kp]
    refine r0 300 ?_
    simp only [↓S0, ↓B0, ↓idx_c, ↓setN_c, ↓idxN_c, ↓reduceIte, B1, List.length_cons, List.length_nil, List.mem_cons, List.not_mem_nil, or_false, true_or, or_true, true_and, and_true, and_self, not_true_eq_false, not_false_eq_true, eq_self, ne_eq, Nat.zero_le, Nat.le_refl, Nat.reduceAdd, Nat.reduceSub, Nat.reduceEqDiff, Nat.reduceLeDiff, Int32.reduceLT, Int32.reduceLE, Int32.reduceAdd, Int32.reduceSub, Int32.reduceMul, Int32.reduceToNatClampNeg, Int32.reduceOfNat, Int32.reduceOfInt, Int64.reduceLT, Int64.reduceAdd, Int64.reduceSub, Int64.reduceMul, String.reduceEq, reduceCtorEq, room_c, room_s]
    refine kf0_222 (con2 _ 5 _ _ _ _ rfl (by decide)) ?_
    simp only [↓B0, ↓idx_c, ↓setN_c, ↓idxN_c, ↓reduceIte, B1, List.length_cons, List.length_nil, List.mem_cons, List.not_mem_nil, or_false, true_or, or_true, true_and, and_true, and_self, not_true_eq_false, not_false_eq_true, eq_self, ne_eq, Nat.zero_le, Nat.le_refl, Nat.reduceAdd, Nat.reduceSub, Nat.reduceEqDiff, Nat.reduceLeDiff, Int32.reduceLT, Int32.reduceLE, Int32.reduceAdd, Int32.reduceSub, Int32.reduceMul, Int32.reduceToNatClampNeg, Int32.reduceOfNat, Int32.reduceOfInt, Int64.reduceLT, Int64.reduceAdd, Int64.reduceSub, Int64.reduceMul, String.reduceEq, reduceCtorEq, room_c, room_s, kp]
    refine r0 300 ?_
    simp only [↓S0, ↓B0, ↓idx_c, ↓setN_c, ↓idxN_c, ↓reduceIte, B1, List.length_cons, List.length_nil, List.mem_cons, List.not_mem_nil, or_false, true_or, or_true, true_and, and_true, and_self, not_true_eq_false, not_false_eq_true, eq_self, ne_eq, Nat.zero_le, Nat.le_refl, Nat.reduceAdd, Nat.reduceSub, Nat.reduceEqDiff, Nat.reduceLeDiff, Int32.reduceLT, Int32.reduceLE, Int32.reduceAdd, Int32.reduceSub, Int32.reduceMul, Int32.reduceToNatClampNeg, Int32.reduceOfNat, Int32.reduceOfInt, Int64.reduceLT, Int64.reduceAdd, Int64.reduceSub, Int64.reduceMul, String.reduceEq, reduceCtorEq, room_c, room_s]
    refine kf0_238 (con2 _ 6 _ _ _ _ rfl (by decide)) ?_
    simp only [↓B0, ↓idx_c, ↓setN_c, ↓idxN_c, ↓reduceIte, B1, List.length_cons, List.length_nil, List.mem_cons, List.not_mem_nil, or_false, true_or, or_true, true_and, and_true, and_self, not_true_eq_false, not_false_eq_true, eq_self, ne_eq, Nat.zero_le, Nat.le_refl, Nat.reduceAdd, Nat.reduceSub, Nat.reduceEqDiff, Nat.reduceLeDiff, Int32.reduceLT, Int32.reduceLE, Int32.reduceAdd, Int32.reduceSub, Int32.reduceMul, Int32.reduceToNatClampNeg, Int32.reduceOfNat, Int32.reduceOfInt, Int64.reduceLT, Int64.reduceAdd, Int64.reduceSub, Int64.reduceMul, String.reduceEq, reduceCtorEq, room_c, room_s, kp]
    refine r0 300 ?_
    simp only [↓S0, ↓B0, ↓idx_c, ↓setN_c, ↓idxN_c, ↓reduceIte, B1, List.length_cons, List.length_nil, List.mem_cons, List.not_mem_nil, or_false, true_or, or_true, true_and, and_true, and_self, not_true_eq_false, not_false_eq_true, eq_self, ne_eq, Nat.zero_le, Nat.le_refl, Nat.reduceAdd, Nat.reduceSub, Nat.reduceEqDiff, Nat.reduceLeDiff, Int32.reduceLT, Int32.reduceLE, Int32.reduceAdd, Int32.reduceSub, Int32.reduceMul, Int32.reduceToNatClampNeg, Int32.reduceOfNat, Int32.reduceOfInt, Int64.reduceLT, Int64.reduceAdd, Int64.reduceSub, Int64.reduceMul, String.reduceEq, reduceCtorEq, room_c, room_s]
    refine kf0_254 (con2 _ 7 _ _ _ _ rfl (by decide)) ?_
    simp only [↓B0, ↓idx_c, ↓setN_c, ↓idxN_c, ↓reduceIte, B1, List.length_cons, List.length_nil, List.mem_cons, List.not_mem_nil, or_false, true_or, or_true, true_and, and_true, and_self, not_true_eq_false, not_false_eq_true, eq_self, ne_eq, Nat.zero_le, Nat.le_refl, Nat.reduceAdd, Nat.reduceSub, Nat.reduceEqDiff, Nat.reduceLeDiff, Int32.reduceLT, Int32.reduceLE, Int32.reduceAdd, Int32.reduceSub, Int32.reduceMul, Int32.reduceToNatClampNeg, Int32.reduceOfNat, Int32.reduceOfInt, Int64.reduceLT, Int64.reduceAdd, Int64.reduceSub, Int64.reduceMul, String.reduceEq, reduceCtorEq, room_c, room_s, kp]
    refine r0 300 ?_
    simp only [↓S0, ↓B0, ↓idx_c, ↓setN_c, ↓idxN_c, ↓reduceIte, B1, List.length_cons, List.length_nil, List.mem_cons, List.not_mem_nil, or_false, true_or, or_true, true_and, and_true, and_self, not_true_eq_false, not_false_eq_true, eq_self, ne_eq, Nat.zero_le, Nat.le_refl, Nat.reduceAdd, Nat.reduceSub, Nat.reduceEqDiff, Nat.reduceLeDiff, Int32.reduceLT, Int32.reduceLE, Int32.reduceAdd, Int32.reduceSub, Int32.reduceMul, Int32.reduceToNatClampNeg, Int32.reduceOfNat, Int32.reduceOfInt, Int64.reduceLT, Int64.reduceAdd, Int64.reduceSub, Int64.reduceMul, String.reduceEq, reduceCtorEq, room_c, room_s, t0, t1, l0, l1, fin]
    refine kf0_366 (con3 _) ?_
    simp only [c1]
    refine r0 300 ?_
    simp only [↓S0, ↓B0, ↓idx_c, ↓setN_c, ↓idxN_c, ↓reduceIte, B1, List.length_cons, List.length_nil, List.mem_cons, List.not_mem_nil, or_false, true_or, or_true, true_and, and_true, and_self, not_true_eq_false, not_false_eq_true, eq_self, ne_eq, Nat.zero_le, Nat.le_refl, Nat.reduceAdd, Nat.reduceSub, Nat.reduceEqDiff, Nat.reduceLeDiff, Int32.reduceLT, Int32.reduceLE, Int32.reduceAdd, Int32.reduceSub, Int32.reduceMul, Int32.reduceToNatClampNeg, Int32.reduceOfNat, Int32.reduceOfInt, Int64.reduceLT, Int64.reduceAdd, Int64.reduceSub, Int64.reduceMul, String.reduceEq, reduceCtorEq, room_c, room_s, t0, t1, l0, l1, fin]
  · have h1 : ¬ c < 128 := by rw [Int32.lt_iff_toInt_lt]; omega
    have h2 : ¬ c < 2048 := by rw [Int32.lt_iff_toInt_lt]; omega
    have h3 : c < 65536 := by rw [Int32.lt_iff_toInt_lt]; omega
    obtain ⟨x0, x1, x2, t0, t1, t2, l0, l1, c1, c2, fin⟩ := facts_3 c (by omega) (by omega)
    simp only [↓S0, ↓B0, ↓idx_c, ↓setN_c, ↓idxN_c, ↓reduceIte, B1, List.length_cons, List.length_nil, List.mem_cons, List.not_mem_nil, or_false, true_or, or_true, true_and, and_true, and_self, not_true_eq_false, not_false_eq_true, eq_self, ne_eq, Nat.zero_le, Nat.le_refl, Nat.reduceAdd, Nat.reduceSub, Nat.reduceEqDiff, Nat.reduceLeDiff, Int32.reduceLT, Int32.reduceLE, Int32.reduceAdd, Int32.reduceSub, Int32.reduceMul, Int32.reduceToNatClampNeg, Int32.reduceOfNat, Int32.reduceOfInt, Int64.reduceLT, Int64.reduceAdd, Int64.reduceSub, Int64.reduceMul, String.reduceEq, reduceCtorEq, room_c, room_s, hv]
    refine kf0_82 (con1_1_3 (nar .byte i2) c h1 h2 h3) (r0 300 ?_)
    simp only [↓S0, ↓B0, ↓idx_c, ↓setN_c, ↓idxN_c, ↓reduceIte, B1, List.length_cons, List.length_nil, List.mem_cons, List.not_mem_nil, or_false, true_or, or_true, true_and, and_true, and_self, not_true_eq_false, not_false_eq_true, eq_self, ne_eq, Nat.zero_le, Nat.le_refl, Nat.reduceAdd, Nat.reduceSub, Nat.reduceEqDiff, Nat.reduceLeDiff, Int32.reduceLT, Int32.reduceLE, Int32.reduceAdd, Int32.reduceSub, Int32.reduceMul, Int32.reduceToNatClampNeg, Int32.reduceOfNat, Int32.reduceOfInt, Int64.reduceLT, Int64.reduceAdd, Int64.reduceSub, Int64.reduceMul, String.reduceEq, reduceCtorEq, room_c, room_s, h1, h2, h3]
    refine kf0_147 (con2 _ 0 _ _ _ _ rfl (by decide)) ?_
    simp only [↓B0, ↓idx_c, ↓setN_c, ↓idxN_c, ↓reduceIte, B1, List.length_cons, List.length_nil, List.mem_cons, List.not_mem_nil, or_false, true_or, or_true, true_and, and_true, and_self, not_true_eq_false, not_false_eq_true, eq_self, ne_eq, Nat.zero_le, Nat.le_refl, Nat.reduceAdd, Nat.reduceSub, Nat.reduceEqDiff, Nat.reduceLeDiff, Int32.reduceLT, Int32.reduceLE, Int32.reduceAdd, Int32.reduceSub, Int32.reduceMul, Int32.reduceToNatClampNeg, Int32.reduceOfNat, Int32.reduceOfInt, Int64.reduceLT, Int64.reduceAdd, Int64.reduceSub, Int64.reduceMul, String.reduceEq, reduceCtorEq, room_c, room_s, kp]
    refine r0 300 ?_
    simp only [↓S0, ↓B0, ↓idx_c, ↓setN_c, ↓idxN_c, ↓reduceIte, B1, List.length_cons, List.length_nil, List.mem_cons, List.not_mem_nil, or_false, true_or, or_true, true_and, and_true, and_self, not_true_eq_false, not_false_eq_true, eq_self, ne_eq, Nat.zero_le, Nat.le_refl, Nat.reduceAdd, Nat.reduceSub, Nat.reduceEqDiff, Nat.reduceLeDiff, Int32.reduceLT, Int32.reduceLE, Int32.reduceAdd, Int32.reduceSub, Int32.reduceMul, Int32.reduceToNatClampNeg, Int32.reduceOfNat, Int32.reduceOfInt, Int64.reduceLT, Int64.reduceAdd, Int64.reduceSub, Int64.reduceMul, String.reduceEq, reduceCtorEq, room_c, room_s]
    refine kf0_162 (con2 _ 1 _ _ _ _ rfl (by decide)) ?_
    simp only [↓B0, ↓idx_c, ↓setN_c, ↓idxN_c, ↓reduceIte, B1, List.length_cons, List.length_nil, List.mem_cons, List.not_mem_nil, or_false, true_or, or_true, true_and, and_true, and_self, not_true_eq_false, not_false_eq_true, eq_self, ne_eq, Nat.zero_le, Nat.le_refl, Nat.reduceAdd, Nat.reduceSub, Nat.reduceEqDiff, Nat.reduceLeDiff, Int32.reduceLT, Int32.reduceLE, Int32.reduceAdd, Int32.reduceSub, Int32.reduceMul, Int32.reduceToNatClampNeg, Int32.reduceOfNat, Int32.reduceOfInt, Int64.reduceLT, Int64.reduceAdd, Int64.reduceSub, Int64.reduceMul, String.reduceEq, reduceCtorEq, room_c, room_s, kp]
    refine r0 300 ?_
    simp only [↓S0, ↓B0, ↓idx_c, ↓setN_c, ↓idxN_c, ↓reduceIte, B1, List.length_cons, List.length_nil, List.mem_cons, List.not_mem_nil, or_false, true_or, or_true, true_and, and_true, and_self, not_true_eq_false, not_false_eq_true, eq_self, ne_eq, Nat.zero_le, Nat.le_refl, Nat.reduceAdd, Nat.reduceSub, Nat.reduceEqDiff, Nat.reduceLeDiff, Int32.reduceLT, Int32.reduceLE, Int32.reduceAdd, Int32.reduceSub, Int32.reduceMul, Int32.reduceToNatClampNeg, Int32.reduceOfNat, Int32.reduceOfInt, Int64.reduceLT, Int64.reduceAdd, Int64.reduceSub, Int64.reduceMul, String.reduceEq, reduceCtorEq, room_c, room_s]
    refine kf0_177 (con2 _ 2 _ _ _ _ rfl (by decide)) ?_
    simp only [↓B0, ↓idx_c, ↓setN_c, ↓idxN_c, ↓reduceIte, B1, List.length_cons, List.length_nil, List.mem_cons, List.not_mem_nil, or_false, true_or, or_true, true_and, and_true, and_self, not_true_eq_false, not_false_eq_true, eq_self, ne_eq, Nat.zero_le, Nat.le_refl, Nat.reduceAdd, Nat.reduceSub, Nat.reduceEqDiff, Nat.reduceLeDiff, Int32.reduceLT, Int32.reduceLE, Int32.reduceAdd, Int32.reduceSub, Int32.reduceMul, Int32.reduceToNatClampNeg, Int32.reduceOfNat, Int32.reduceOfInt, Int64.reduceLT, Int64.reduceAdd, Int64.reduceSub, Int64.reduceMul, String.reduceEq, reduceCtorEq, room_c, room_s, kp]
    refine r0 300 ?_
    simp only [↓S0, ↓B0, ↓idx_c, ↓setN_c, ↓idxN_c, ↓reduceIte, B1, List.length_cons, List.length_nil, List.mem_cons, List.not_mem_nil, or_false, true_or, or_true, true_and, and_true, and_self, not_true_eq_false, not_false_eq_true, eq_self, ne_eq, Nat.zero_le, Nat.le_refl, Nat.reduceAdd, Nat.reduceSub, Nat.reduceEqDiff, Nat.reduceLeDiff, Int32.reduceLT, Int32.reduceLE, Int32.reduceAdd, Int32.reduceSub, Int32.reduceMul, Int32.reduceToNatClampNeg, Int32.reduceOfNat, Int32.reduceOfInt, Int64.reduceLT, Int64.reduceAdd, Int64.reduceSub, Int64.reduceMul, String.reduceEq, reduceCtorEq, room_c, room_s]
    refine kf0_192 (con2 _ 3 _ _ _ _ rfl (by decide)) ?_
    simp only [↓B0, ↓idx_c, ↓setN_c, ↓idxN_c, ↓reduceIte, B1, List.length_cons, List.length_nil, List.mem_cons, List.not_mem_nil, or_false, true_or, or_true, true_and, and_true, and_self, not_true_eq_false, not_false_eq_true, eq_self, ne_eq, Nat.zero_le, Nat.le_refl, Nat.reduceAdd, Nat.reduceSub, Nat.reduceEqDiff, Nat.reduceLeDiff, Int32.reduceLT, Int32.reduceLE, Int32.reduceAdd, Int32.reduceSub, Int32.reduceMul, Int32.reduceToNatClampNeg, Int32.reduceOfNat, Int32.reduceOfInt, Int64.reduceLT, Int64.reduceAdd, Int64.reduceSub, Int64.reduceMul, String.reduceEq, reduceCtorEq, room_c, room_s, kp]
    refine r0 300 ?_
    simp only [↓S0, ↓B0, ↓idx_c, ↓setN_c, ↓idxN_c, ↓reduceIte, B1, List.length_cons, List.length_nil, List.mem_cons, List.not_mem_nil, or_false, true_or, or_true, true_and, and_true, and_self, not_true_eq_false, not_false_eq_true, eq_self, ne_eq, Nat.zero_le, Nat.le_refl, Nat.reduceAdd, Nat.reduceSub, Nat.reduceEqDiff, Nat.reduceLeDiff, Int32.reduceLT, Int32.reduceLE, Int32.reduceAdd, Int32.reduceSub, Int32.reduceMul, Int32.reduceToNatClampNeg, Int32.reduceOfNat, Int32.reduceOfInt, Int64.reduceLT, Int64.reduceAdd, Int64.reduceSub, Int64.reduceMul, String.reduceEq, reduceCtorEq, room_c, room_s]
    refine kf0_207 (con2 _ 4 _ _ _ _ rfl (by decide)) ?_
    simp only [↓B0, ↓idx_c, ↓setN_c, ↓idxN_c, ↓reduceIte, B1, List.length_cons, List.length_nil, List.mem_cons, List.not_mem_nil, or_false, true_or, or_true, true_and, and_true, and_self, not_true_eq_false, not_false_eq_true, eq_self, ne_eq, Nat.zero_le, Nat.le_refl, Nat.reduceAdd, Nat.reduceSub, Nat.reduceEqDiff, Nat.reduceLeDiff, Int32.reduceLT, Int32.reduceLE, Int32.reduceAdd, Int32.reduceSub, Int32.reduceMul, Int32.reduceToNatClampNeg, Int32.reduceOfNat, Int32.reduceOfInt, Int64.reduceLT, Int64.reduceAdd, Int64.reduceSub, Int64.reduceMul, String.reduceEq, reduceCtorEq, room_c, room_s, kp]
    refine r0 300 ?_
    simp only [↓S0, ↓B0, ↓idx_c, ↓setN_c, ↓idxN_c, ↓reduceIte, B1, List.length_cons, List.length_nil, List.mem_cons, List.not_mem_nil, or_false, true_or, or_true, true_and, and_true, and_self, not_true_eq_false, not_false_eq_true, eq_self, ne_eq, Nat.zero_le, Nat.le_refl, Nat.reduceAdd, Nat.reduceSub, Nat.reduceEqDiff, Nat.reduceLeDiff, Int32.reduceLT, Int32.reduceLE, Int32.reduceAdd, Int32.reduceSub, Int32.reduceMul, Int32.reduceToNatClampNeg, Int32.reduceOfNat, Int32.reduceOfInt, Int64.reduceLT, Int64.reduceAdd, Int64.reduceSub, Int64.reduceMul, String.reduceEq, reduceCtorEq, room_c, room_s]
    refine kf0_222 (con2 _ 5 _ _ _ _ rfl (by decide)) ?_
    simp only [↓B0, ↓idx_c, ↓setN_c, ↓idxN_c, ↓reduceIte, B1, List.length_cons, List.length_nil, List.mem_cons, List.not_mem_nil, or_false, true_or, or_true, true_and, and_true, and_self, not_true_eq_false, not_false_eq_true, eq_self, ne_eq, Nat.zero_le, Nat.le_refl, Nat.reduceAdd, Nat.reduceSub, Nat.reduceEqDiff, Nat.reduceLeDiff, Int32.reduceLT, Int32.reduceLE, Int32.reduceAdd, Int32.reduceSub, Int32.reduceMul, Int32.reduceToNatClampNeg, Int32.reduceOfNat, Int32.reduceOfInt, Int64.reduceLT, Int64.reduceAdd, Int64.reduceSub, Int64.reduceMul, String.reduceEq, reduceCtorEq, room_c, room_s, kp]
    refine r0 300 ?_
    simp only [↓S0, ↓B0, ↓idx_c, ↓setN_c, ↓idxN_c, ↓reduceIte, B1, List.length_cons, List.length_nil, List.mem_cons, List.not_mem_nil, or_false, true_or, or_true, true_and, and_true, and_self, not_true_eq_false, not_false_eq_true, eq_self, ne_eq, Nat.zero_le, Nat.le_refl, Nat.reduceAdd, Nat.reduceSub, Nat.reduceEqDiff, Nat.reduceLeDiff, Int32.reduceLT, Int32.reduceLE, Int32.reduceAdd, Int32.reduceSub, Int32.reduceMul, Int32.reduceToNatClampNeg, Int32.reduceOfNat, Int32.reduceOfInt, Int64.reduceLT, Int64.reduceAdd, Int64.reduceSub, Int64.reduceMul, String.reduceEq, reduceCtorEq, room_c, room_s]
    refine kf0_238 (con2 _ 6 _ _ _ _ rfl (by decide)) ?_
    simp only [↓B0, ↓idx_c, ↓setN_c, ↓idxN_c, ↓reduceIte, B1, List.length_cons, List.length_nil, List.mem_cons, List.not_mem_nil, or_false, true_or, or_true, true_and, and_true, and_self, not_true_eq_false, not_false_eq_true, eq_self, ne_eq, Nat.zero_le, Nat.le_refl, Nat.reduceAdd, Nat.reduceSub, Nat.reduceEqDiff, Nat.reduceLeDiff, Int32.reduceLT, Int32.reduceLE, Int32.reduceAdd, Int32.reduceSub, Int32.reduceMul, Int32.reduceToNatClampNeg, Int32.reduceOfNat, Int32.reduceOfInt, Int64.reduceLT, Int64.reduceAdd, Int64.reduceSub, Int64.reduceMul, String.reduceEq, reduceCtorEq, room_c, room_s, kp]
    refine r0 300 ?_
    simp only [↓S0, ↓B0, ↓idx_c, ↓setN_c, ↓idxN_c, ↓reduceIte, B1, List.length_cons, List.length_nil, List.mem_cons, List.not_mem_nil, or_false, true_or, or_true, true_and, and_true, and_self, not_true_eq_false, not_false_eq_true, eq_self, ne_eq, Nat.zero_le, Nat.le_refl, Nat.reduceAdd, Nat.reduceSub, Nat.reduceEqDiff, Nat.reduceLeDiff, Int32.reduceLT, Int32.reduceLE, Int32.reduceAdd, Int32.reduceSub, Int32.reduceMul, Int32.reduceToNatClampNeg, Int32.reduceOfNat, Int32.reduceOfInt, Int64.reduceLT, Int64.reduceAdd, Int64.reduceSub, Int64.reduceMul, String.reduceEq, reduceCtorEq, room_c, room_s]
    refine kf0_254 (con2 _ 7 _ _ _ _ rfl (by decide)) ?_
    simp only [↓B0, ↓idx_c, ↓setN_c, ↓idxN_c, ↓reduceIte, B1, List.length_cons, List.length_nil, List.mem_cons, List.not_mem_nil, or_false, true_or, or_true, true_and, and_true, and_self, not_true_eq_false, not_false_eq_true, eq_self, ne_eq, Nat.zero_le, Nat.le_refl, Nat.reduceAdd, Nat.reduceSub, Nat.reduceEqDiff, Nat.reduceLeDiff, Int32.reduceLT, Int32.reduceLE, Int32.reduceAdd, Int32.reduceSub, Int32.reduceMul, Int32.reduceToNatClampNeg, Int32.reduceOfNat, Int32.reduceOfInt, Int64.reduceLT, Int64.reduceAdd, Int64.reduceSub, Int64.reduceMul, String.reduceEq, reduceCtorEq, room_c, room_s, kp]
    refine r0 300 ?_
    simp only [↓S0, ↓B0, ↓idx_c, ↓setN_c, ↓idxN_c, ↓reduceIte, B1, List.length_cons, List.length_nil, List.mem_cons, List.not_mem_nil, or_false, true_or, or_true, true_and, and_true, and_self, not_true_eq_false, not_false_eq_true, eq_self, ne_eq, Nat.zero_le, Nat.le_refl, Nat.reduceAdd, Nat.reduceSub, Nat.reduceEqDiff, Nat.reduceLeDiff, Int32.reduceLT, Int32.reduceLE, Int32.reduceAdd, Int32.reduceSub, Int32.reduceMul, Int32.reduceToNatClampNeg, Int32.reduceOfNat, Int32.reduceOfInt, Int64.reduceLT, Int64.reduceAdd, Int64.reduceSub, Int64.reduceMul, String.reduceEq, reduceCtorEq, room_c, room_s, t0, t1, t2, l0, l1, fin]
    refine kf0_422 (con3 _) ?_
    simp only [c1]
    refine r0 300 ?_
    simp only [↓S0, ↓B0, ↓idx_c, ↓setN_c, ↓idxN_c, ↓reduceIte, B1, List.length_cons, List.length_nil, List.mem_cons, List.not_mem_nil, or_false, true_or, or_true, true_and, and_true, and_self, not_true_eq_false, not_false_eq_true, eq_self, ne_eq, Nat.zero_le, Nat.le_refl, Nat.reduceAdd, Nat.reduceSub, Nat.reduceEqDiff, Nat.reduceLeDiff, Int32.reduceLT, Int32.reduceLE, Int32.reduceAdd, Int32.reduceSub, Int32.reduceMul, Int32.reduceToNatClampNeg, Int32.reduceOfNat, Int32.reduceOfInt, Int64.reduceLT, Int64.reduceAdd, Int64.reduceSub, Int64.reduceMul, String.reduceEq, reduceCtorEq, room_c, room_s, t0, t1, t2, l0, l1, fin]
    refine kf0_430 (con3 _) ?_
    simp only [c2]
    refine r0 300 ?_
    simp only [↓S0, ↓B0, ↓idx_c, ↓setN_c, ↓idxN_c, ↓reduceIte, B1, List.length_cons, List.length_nil, List.mem_cons, List.not_mem_nil, or_false, true_or, or_true, true_and, and_true, and_self, not_true_eq_false, not_false_eq_true, eq_self, ne_eq, Nat.zero_le, Nat.le_refl, Nat.reduceAdd, Nat.reduceSub, Nat.reduceEqDiff, Nat.reduceLeDiff, Int32.reduceLT, Int32.reduceLE, Int32.reduceAdd, Int32.reduceSub, Int32.reduceMul, Int32.reduceToNatClampNeg, Int32.reduceOfNat, Int32.reduceOfInt, Int64.reduceLT, Int64.reduceAdd, Int64.reduceSub, Int64.reduceMul, String.reduceEq, reduceCtorEq, room_c, room_s, t0, t1, t2, l0, l1, fin]
  · have h1 : ¬ c < 128 := by rw [Int32.lt_iff_toInt_lt]; omega
    have h2 : ¬ c < 2048 := by rw [Int32.lt_iff_toInt_lt]; omega
    have h3 : ¬ c < 65536 := by rw [Int32.lt_iff_toInt_lt]; omega
    obtain ⟨x0, x1, x2, x3, t0, t1, t2, t3, l0, l1, c1, c2, c3, fin⟩ := facts_4 c (by omega) (by omega)
    simp only [↓S0, ↓B0, ↓idx_c, ↓setN_c, ↓idxN_c, ↓reduceIte, B1, List.length_cons, List.length_nil, List.mem_cons, List.not_mem_nil, or_false, true_or, or_true, true_and, and_true, and_self, not_true_eq_false, not_false_eq_true, eq_self, ne_eq, Nat.zero_le, Nat.le_refl, Nat.reduceAdd, Nat.reduceSub, Nat.reduceEqDiff, Nat.reduceLeDiff, Int32.reduceLT, Int32.reduceLE, Int32.reduceAdd, Int32.reduceSub, Int32.reduceMul, Int32.reduceToNatClampNeg, Int32.reduceOfNat, Int32.reduceOfInt, Int64.reduceLT, Int64.reduceAdd, Int64.reduceSub, Int64.reduceMul, String.reduceEq, reduceCtorEq, room_c, room_s, hv]
    refine kf0_82 (con1_1_4 (nar .byte i2) c h1 h2 h3) (r0 300 ?_)
    simp only [↓S0, ↓B0, ↓idx_c, ↓setN_c, ↓idxN_c, ↓reduceIte, B1, List.length_cons, List.length_nil, List.mem_cons, List.not_mem_nil, or_false, true_or, or_true, true_and, and_true, and_self, not_true_eq_false, not_false_eq_true, eq_self, ne_eq, Nat.zero_le, Nat.le_refl, Nat.reduceAdd, Nat.reduceSub, Nat.reduceEqDiff, Nat.reduceLeDiff, Int32.reduceLT, Int32.reduceLE, Int32.reduceAdd, Int32.reduceSub, Int32.reduceMul, Int32.reduceToNatClampNeg, Int32.reduceOfNat, Int32.reduceOfInt, Int64.reduceLT, Int64.reduceAdd, Int64.reduceSub, Int64.reduceMul, String.reduceEq, reduceCtorEq, room_c, room_s, h1, h2, h3]
    refine kf0_147 (con2 _ 0 _ _ _ _ rfl (by decide)) ?_
    simp only [↓B0, ↓idx_c, ↓setN_c, ↓idxN_c, ↓reduceIte, B1, List.length_cons, List.length_nil, List.mem_cons, List.not_mem_nil, or_false, true_or, or_true, true_and, and_true, and_self, not_true_eq_false, not_false_eq_true, eq_self, ne_eq, Nat.zero_le, Nat.le_refl, Nat.reduceAdd, Nat.reduceSub, Nat.reduceEqDiff, Nat.reduceLeDiff, Int32.reduceLT, Int32.reduceLE, Int32.reduceAdd, Int32.reduceSub, Int32.reduceMul, Int32.reduceToNatClampNeg, Int32.reduceOfNat, Int32.reduceOfInt, Int64.reduceLT, Int64.reduceAdd, Int64.reduceSub, Int64.reduceMul, String.reduceEq, reduceCtorEq, room_c, room_s, kp]
    refine r0 300 ?_
    simp only [↓S0, ↓B0, ↓idx_c, ↓setN_c, ↓idxN_c, ↓reduceIte, B1, List.length_cons, List.length_nil, List.mem_cons, List.not_mem_nil, or_false, true_or, or_true, true_and, and_true, and_self, not_true_eq_false, not_false_eq_true, eq_self, ne_eq, Nat.zero_le, Nat.le_refl, Nat.reduceAdd, Nat.reduceSub, Nat.reduceEqDiff, Nat.reduceLeDiff, Int32.reduceLT, Int32.reduceLE, Int32.reduceAdd, Int32.reduceSub, Int32.reduceMul, Int32.reduceToNatClampNeg, Int32.reduceOfNat, Int32.reduceOfInt, Int64.reduceLT, Int64.reduceAdd, Int64.reduceSub, Int64.reduceMul, String.reduceEq, reduceCtorEq, room_c, room_s]
    refine kf0_162 (con2 _ 1 _ _ _ _ rfl (by decide)) ?_
    simp only [↓B0, ↓idx_c, ↓setN_c, ↓idxN_c, ↓reduceIte, B1, List.length_cons, List.length_nil, List.mem_cons, List.not_mem_nil, or_false, true_or, or_true, true_and, and_true, and_self, not_true_eq_false, not_false_eq_true, eq_self, ne_eq, Nat.zero_le, Nat.le_refl, Nat.reduceAdd, Nat.reduceSub, Nat.reduceEqDiff, Nat.reduceLeDiff, Int32.reduceLT, Int32.reduceLE, Int32.reduceAdd, Int32.reduceSub, Int32.reduceMul, Int32.reduceToNatClampNeg, Int32.reduceOfNat, Int32.reduceOfInt, Int64.reduceLT, Int64.reduceAdd, Int64.reduceSub, Int64.reduceMul, String.reduceEq, reduceCtorEq, room_c, room_s, kp]
    refine r0 300 ?_
    simp only [↓S0, ↓B0, ↓idx_c, ↓setN_c, ↓idxN_c, ↓reduceIte, B1, List.length_cons, List.length_nil, List.mem_cons, List.not_mem_nil, or_false, true_or, or_true, true_and, and_true, and_self, not_true_eq_false, not_false_eq_true, eq_self, ne_eq, Nat.zero_le, Nat.le_refl, Nat.reduceAdd, Nat.reduceSub, Nat.reduceEqDiff, Nat.reduceLeDiff, Int32.reduceLT, Int32.reduceLE, Int32.reduceAdd, Int32.reduceSub, Int32.reduceMul, Int32.reduceToNatClampNeg, Int32.reduceOfNat, Int32.reduceOfInt, Int64.reduceLT, Int64.reduceAdd, Int64.reduceSub, Int64.reduceMul, String.reduceEq, reduceCtorEq, room_c, room_s]
    refine kf0_177 (con2 _ 2 _ _ _ _ rfl (by decide)) ?_
    simp only [↓B0, ↓idx_c, ↓setN_c, ↓idxN_c, ↓reduceIte, B1, List.length_cons, List.length_nil, List.mem_cons, List.not_mem_nil, or_false, true_or, or_true, true_and, and_true, and_self, not_true_eq_false, not_false_eq_true, eq_self, ne_eq, Nat.zero_le, Nat.le_refl, Nat.reduceAdd, Nat.reduceSub, Nat.reduceEqDiff, Nat.reduceLeDiff, Int32.reduceLT, Int32.reduceLE, Int32.reduceAdd, Int32.reduceSub, Int32.reduceMul, Int32.reduceToNatClampNeg, Int32.reduceOfNat, Int32.reduceOfInt, Int64.reduceLT, Int64.reduceAdd, Int64.reduceSub, Int64.reduceMul, String.reduceEq, reduceCtorEq, room_c, room_s, kp]
    refine r0 300 ?_
    simp only [↓S0, ↓B0, ↓idx_c, ↓setN_c, ↓idxN_c, ↓reduceIte, B1, List.length_cons, List.length_nil, List.mem_cons, List.not_mem_nil, or_false, true_or, or_true, true_and, and_true, and_self, not_true_eq_false, not_false_eq_true, eq_self, ne_eq, Nat.zero_le, Nat.le_refl, Nat.reduceAdd, Nat.reduceSub, Nat.reduceEqDiff, Nat.reduceLeDiff, Int32.reduceLT, Int32.reduceLE, Int32.reduceAdd, Int32.reduceSub, Int32.reduceMul, Int32.reduceToNatClampNeg, Int32.reduceOfNat, Int32.reduceOfInt, Int64.reduceLT, Int64.reduceAdd, Int64.reduceSub, Int64.reduceMul, String.reduceEq, reduceCtorEq, room_c, room_s]
    refine kf0_192 (con2 _ 3 _ _ _ _ rfl (by decide)) ?_
    simp only [↓B0, ↓idx_c, ↓setN_c, ↓idxN_c, ↓reduceIte, B1, List.length_cons, List.length_nil, List.mem_cons, List.not_mem_nil, or_false, true_or, or_true, true_and, and_true, and_self, not_true_eq_false, not_false_eq_true, eq_self, ne_eq, Nat.zero_le, Nat.le_refl, Nat.reduceAdd, Nat.reduceSub, Nat.reduceEqDiff, Nat.reduceLeDiff, Int32.reduceLT, Int32.reduceLE, Int32.reduceAdd, Int32.reduceSub, Int32.reduceMul, Int32.reduceToNatClampNeg, Int32.reduceOfNat, Int32.reduceOfInt, Int64.reduceLT, Int64.reduceAdd, Int64.reduceSub, Int64.reduceMul, String.reduceEq, reduceCtorEq, room_c, room_s, kp]
    refine r0 300 ?_
    simp only [↓S0, ↓B0, ↓idx_c, ↓setN_c, ↓idxN_c, ↓reduceIte, B1, List.length_cons, List.length_nil, List.mem_cons, List.not_mem_nil, or_false, true_or, or_true, true_and, and_true, and_self, not_true_eq_false, not_false_eq_true, eq_self, ne_eq, Nat.zero_le, Nat.le_refl, Nat.reduceAdd, Nat.reduceSub, Nat.reduceEqDiff, Nat.reduceLeDiff, Int32.reduceLT, Int32.reduceLE, Int32.reduceAdd, Int32.reduceSub, Int32.reduceMul, Int32.reduceToNatClampNeg, Int32.reduceOfNat, Int32.reduceOfInt, Int64.reduceLT, Int64.reduceAdd, Int64.reduceSub, Int64.reduceMul, String.reduceEq, reduceCtorEq, room_c, room_s]
    refine kf0_207 (con2 _ 4 _ _ _ _ rfl (by decide)) ?_
    simp only [↓B0, ↓idx_c, ↓setN_c, ↓idxN_c, ↓reduceIte, B1, List.length_cons, List.length_nil, List.mem_cons, List.not_mem_nil, or_false, true_or, or_true, true_and, and_true, and_self, not_true_eq_false, not_false_eq_true, eq_self, ne_eq, Nat.zero_le, Nat.le_refl, Nat.reduceAdd, Nat.reduceSub, Nat.reduceEqDiff, Nat.reduceLeDiff, Int32.reduceLT, Int32.reduceLE, Int32.reduceAdd, Int32.reduceSub, Int32.reduceMul, Int32.reduceToNatClampNeg, Int32.reduceOfNat, Int32.reduceOfInt, Int64.reduceLT, Int64.reduceAdd, Int64.reduceSub, Int64.reduceMul, String.reduceEq, reduceCtorEq, room_c, room_s, kp]
    refine r0 300 ?_
    simp only [↓S0, ↓B0, ↓idx_c, ↓setN_c, ↓idxN_c, ↓reduceIte, B1, List.length_cons, List.length_nil, List.mem_cons, List.not_mem_nil, or_false, true_or, or_true, true_and, and_true, and_self, not_true_eq_false, not_false_eq_true, eq_self, ne_eq, Nat.zero_le, Nat.le_refl, Nat.reduceAdd, Nat.reduceSub, Nat.reduceEqDiff, Nat.reduceLeDiff, Int32.reduceLT, Int32.reduceLE, Int32.reduceAdd, Int32.reduceSub, Int32.reduceMul, Int32.reduceToNatClampNeg, Int32.reduceOfNat, Int32.reduceOfInt, Int64.reduceLT, Int64.reduceAdd, Int64.reduceSub, Int64.reduceMul, String.reduceEq, reduceCtorEq, room_c, room_s]
    refine kf0_222 (con2 _ 5 _ _ _ _ rfl (by decide)) ?_
    simp only [↓B0, ↓idx_c, ↓setN_c, ↓idxN_c, ↓reduceIte, B1, List.length_cons, List.length_nil, List.mem_cons, List.not_mem_nil, or_false, true_or, or_true, true_and, and_true, and_self, not_true_eq_false, not_false_eq_true, eq_self, ne_eq, Nat.zero_le, Nat.le_refl, Nat.reduceAdd, Nat.reduceSub, Nat.reduceEqDiff, Nat.reduceLeDiff, Int32.reduceLT, Int32.reduceLE, Int32.reduceAdd, Int32.reduceSub, Int32.reduceMul, Int32.reduceToNatClampNeg, Int32.reduceOfNat, Int32.reduceOfInt, Int64.reduceLT, Int64.reduceAdd, Int64.reduceSub, Int64.reduceMul, String.reduceEq, reduceCtorEq, room_c, room_s, kp]
    refine r0 300 ?_
    simp only [↓S0, ↓B0, ↓idx_c, ↓setN_c, ↓idxN_c, ↓reduceIte, B1, List.length_cons, List.length_nil, List.mem_cons, List.not_mem_nil, or_false, true_or, or_true, true_and, and_true, and_self, not_true_eq_false, not_false_eq_true, eq_self, ne_eq, Nat.zero_le, Nat.le_refl, Nat.reduceAdd, Nat.reduceSub, Nat.reduceEqDiff, Nat.reduceLeDiff, Int32.reduceLT, Int32.reduceLE, Int32.reduceAdd, Int32.reduceSub, Int32.reduceMul, Int32.reduceToNatClampNeg, Int32.reduceOfNat, Int32.reduceOfInt, Int64.reduceLT, Int64.reduceAdd, Int64.reduceSub, Int64.reduceMul, String.reduceEq, reduceCtorEq, room_c, room_s]
    refine kf0_238 (con2 _ 6 _ _ _ _ rfl (by decide)) ?_
    simp only [↓B0, ↓idx_c, ↓setN_c, ↓idxN_c, ↓reduceIte, B1, List.length_cons, List.length_nil, List.mem_cons, List.not_mem_nil, or_false, true_or, or_true, true_and, and_true, and_self, not_true_eq_false, not_false_eq_true, eq_self, ne_eq, Nat.zero_le, Nat.le_refl, Nat.reduceAdd, Nat.reduceSub, Nat.reduceEqDiff, Nat.reduceLeDiff, Int32.reduceLT, Int32.reduceLE, Int32.reduceAdd, Int32.reduceSub, Int32.reduceMul, Int32.reduceToNatClampNeg, Int32.reduceOfNat, Int32.reduceOfInt, Int64.reduceLT, Int64.reduceAdd, Int64.reduceSub, Int64.reduceMul, String.reduceEq, reduceCtorEq, room_c, room_s, kp]
    refine r0 300 ?_
    simp only [↓S0, ↓B0, ↓idx_c, ↓setN_c, ↓idxN_c, ↓reduceIte, B1, List.length_cons, List.length_nil, List.mem_cons, List.not_mem_nil, or_false, true_or, or_true, true_and, and_true, and_self, not_true_eq_false, not_false_eq_true, eq_self, ne_eq, Nat.zero_le, Nat.le_refl, Nat.reduceAdd, Nat.reduceSub, Nat.reduceEqDiff, Nat.reduceLeDiff, Int32.reduceLT, Int32.reduceLE, Int32.reduceAdd, Int32.reduceSub, Int32.reduceMul, Int32.reduceToNatClampNeg, Int32.reduceOfNat, Int32.reduceOfInt, Int64.reduceLT, Int64.reduceAdd, Int64.reduceSub, Int64.reduceMul, String.reduceEq, reduceCtorEq, room_c, room_s]
    refine kf0_254 (con2 _ 7 _ _ _ _ rfl (by decide)) ?_
    simp only [↓B0, ↓idx_c, ↓setN_c, ↓idxN_c, ↓reduceIte, B1, List.length_cons, List.length_nil, List.mem_cons, List.not_mem_nil, or_false, true_or, or_true, true_and, and_true, and_self, not_true_eq_false, not_false_eq_true, eq_self, ne_eq, Nat.zero_le, Nat.le_refl, Nat.reduceAdd, Nat.reduceSub, Nat.reduceEqDiff, Nat.reduceLeDiff, Int32.reduceLT, Int32.reduceLE, Int32.reduceAdd, Int32.reduceSub, Int32.reduceMul, Int32.reduceToNatClampNeg, Int32.reduceOfNat, Int32.reduceOfInt, Int64.reduceLT, Int64.reduceAdd, Int64.reduceSub, Int64.reduceMul, String.reduceEq, reduceCtorEq, room_c, room_s, kp]
    refine r0 300 ?_
    simp only [↓S0, ↓B0, ↓idx_c, ↓setN_c, ↓idxN_c, ↓reduceIte, B1, List.length_cons, List.length_nil, List.mem_cons, List.not_mem_nil, or_false, true_or, or_true, true_and, and_true, and_self, not_true_eq_false, not_false_eq_true, eq_self, ne_eq, Nat.zero_le, Nat.le_refl, Nat.reduceAdd, Nat.reduceSub, Nat.reduceEqDiff, Nat.reduceLeDiff, Int32.reduceLT, Int32.reduceLE, Int32.reduceAdd, Int32.reduceSub, Int32.reduceMul, Int32.reduceToNatClampNeg, Int32.reduceOfNat, Int32.reduceOfInt, Int64.reduceLT, Int64.reduceAdd, Int64.reduceSub, Int64.reduceMul, String.reduceEq, reduceCtorEq, room_c, room_s, t0, t1, t2, t3, l0, l1, fin]
    refine kf0_491 (con3 _) ?_
    simp only [c1]
    refine r0 300 ?_
    simp only [↓S0, ↓B0, ↓idx_c, ↓setN_c, ↓idxN_c, ↓reduceIte, B1, List.length_cons, List.length_nil, List.mem_cons, List.not_mem_nil, or_false, true_or, or_true, true_and, and_true, and_self, not_true_eq_false, not_false_eq_true, eq_self, ne_eq, Nat.zero_le, Nat.le_refl, Nat.reduceAdd, Nat.reduceSub, Nat.reduceEqDiff, Nat.reduceLeDiff, Int32.reduceLT, Int32.reduceLE, Int32.reduceAdd, Int32.reduceSub, Int32.reduceMul, Int32.reduceToNatClampNeg, Int32.reduceOfNat, Int32.reduceOfInt, Int64.reduceLT, Int64.reduceAdd, Int64.reduceSub, Int64.reduceMul, String.reduceEq, reduceCtorEq, room_c, room_s, t0, t1, t2, t3, l0, l1, fin]
    refine kf0_499 (con3 _) ?_
    simp only [c2]
    refine r0 300 ?_
    simp only [↓S0, ↓B0, ↓idx_c, ↓setN_c, ↓idxN_c, ↓reduceIte, B1, List.length_cons, List.length_nil, List.mem_cons, List.not_mem_nil, or_false, true_or, or_true, true_and, and_true, and_self, not_true_eq_false, not_false_eq_true, eq_self, ne_eq, Nat.zero_le, Nat.le_refl, Nat.reduceAdd, Nat.reduceSub, Nat.reduceEqDiff, Nat.reduceLeDiff, Int32.reduceLT, Int32.reduceLE, Int32.reduceAdd, Int32.reduceSub, Int32.reduceMul, Int32.reduceToNatClampNeg, Int32.reduceOfNat, Int32.reduceOfInt, Int64.reduceLT, Int64.reduceAdd, Int64.reduceSub, Int64.reduceMul, String.reduceEq, reduceCtorEq, room_c, room_s, t0, t1, t2, t3, l0, l1, fin]
    refine kf0_507 (con3 _) ?_
    simp only [c3]
    refine r0 300 ?_
    simp only [↓S0, ↓B0, ↓idx_c, ↓setN_c, ↓idxN_c, ↓reduceIte, B1, List.length_cons, List.length_nil, List.mem_cons, List.not_mem_nil, or_false, true_or, or_true, true_and, and_true, and_self, not_true_eq_false, not_false_eq_true, eq_self, ne_eq, Nat.zero_le, Nat.le_refl, Nat.reduceAdd, Nat.reduceSub, Nat.reduceEqDiff, Nat.reduceLeDiff, Int32.reduceLT, Int32.reduceLE, Int32.reduceAdd, Int32.reduceSub, Int32.reduceMul, Int32.reduceToNatClampNeg, Int32.reduceOfNat, Int32.reduceOfInt, Int64.reduceLT, Int64.reduceAdd, Int64.reduceSub, Int64.reduceMul, String.reduceEq, reduceCtorEq, room_c, room_s, t0, t1, t2, t3, l0, l1, fin]
  · have h1 : c < 128 := by rw [Int32.lt_iff_toInt_lt]; omega
    have t0 := facts_1 c (by omega) (by omega)
    simp only [↓S0, ↓B0, ↓idx_c, ↓setN_c, ↓idxN_c, ↓reduceIte, B1, List.length_cons, List.length_nil, List.mem_cons, List.not_mem_nil, or_false, true_or, or_true, true_and, and_true, and_self, not_true_eq_false, not_false_eq_true, eq_self, ne_eq, Nat.zero_le, Nat.le_refl, Nat.reduceAdd, Nat.reduceSub, Nat.reduceEqDiff, Nat.reduceLeDiff, Int32.reduceLT, Int32.reduceLE, Int32.reduceAdd, Int32.reduceSub, Int32.reduceMul, Int32.reduceToNatClampNeg, Int32.reduceOfNat, Int32.reduceOfInt, Int64.reduceLT, Int64.reduceAdd, Int64.reduceSub, Int64.reduceMul, String.reduceEq, reduceCtorEq, room_c, room_s, hv]
    refine kf0_82 (con1_2_1 (nar .byte i2) c h1) (r0 300 ?_)
    simp only [↓S0, ↓B0, ↓idx_c, ↓setN_c, ↓idxN_c, ↓reduceIte, B1, List.length_cons, List.length_nil, List.mem_cons, List.not_mem_nil, or_false, true_or, or_true, true_and, and_true, and_self, not_true_eq_false, not_false_eq_true, eq_self, ne_eq, Nat.zero_le, Nat.le_refl, Nat.reduceAdd, Nat.reduceSub, Nat.reduceEqDiff, Nat.reduceLeDiff, Int32.reduceLT, Int32.reduceLE, Int32.reduceAdd, Int32.reduceSub, Int32.reduceMul, Int32.reduceToNatClampNeg, Int32.reduceOfNat, Int32.reduceOfInt, Int64.reduceLT, Int64.reduceAdd, Int64.reduceSub, Int64.reduceMul, String.reduceEq, reduceCtorEq, room_c, room_s, h1]
    refine kf0_147 (con2 _ 0 _ _ _ _ rfl (by decide)) ?_
    simp only [↓B0, ↓idx_c, ↓setN_c, ↓idxN_c, ↓reduceIte, B1, List.length_cons, List.length_nil, List.mem_cons, List.not_mem_nil, or_false, true_or, or_true, true_and, and_true, and_self, not_true_eq_false, not_false_eq_true, eq_self, ne_eq, Nat.zero_le, Nat.le_refl, Nat.reduceAdd, Nat.reduceSub, Nat.reduceEqDiff, Nat.reduceLeDiff, Int32.reduceLT, Int32.reduceLE, Int32.reduceAdd, Int32.reduceSub, Int32.reduceMul, Int32.reduceToNatClampNeg, Int32.reduceOfNat, Int32.reduceOfInt, Int64.reduceLT, Int64.reduceAdd, Int64.reduceSub, Int64.reduceMul, String.reduceEq, reduceCtorEq, room_c, room_s, kp]
    refine r0 300 ?_
    simp only [↓S0, ↓B0, ↓idx_c, ↓setN_c, ↓idxN_c, ↓reduceIte, B1, List.length_cons, List.length_nil, List.mem_cons, List.not_mem_nil, or_false, true_or, or_true, true_and, and_true, and_self, not_true_eq_false, not_false_eq_true, eq_self, ne_eq, Nat.zero_le, Nat.le_refl, Nat.reduceAdd, Nat.reduceSub, Nat.reduceEqDiff, Nat.reduceLeDiff, Int32.reduceLT, Int32.reduceLE, Int32.reduceAdd, Int32.reduceSub, Int32.reduceMul, Int32.reduceToNatClampNeg, Int32.reduceOfNat, Int32.reduceOfInt, Int64.reduceLT, Int64.reduceAdd, Int64.reduceSub, Int64.reduceMul, String.reduceEq, reduceCtorEq, room_c, room_s]
    refine kf0_162 (con2 _ 1 _ _ _ _ rfl (by decide)) ?_
    simp only [↓B0, ↓idx_c, ↓setN_c, ↓idxN_c, ↓reduceIte, B1, List.length_cons, List.length_nil, List.mem_cons, List.not_mem_nil, or_false, true_or, or_true, true_and, and_true, and_self, not_true_eq_false, not_false_eq_true, eq_self, ne_eq, Nat.zero_le, Nat.le_refl, Nat.reduceAdd, Nat.reduceSub, Nat.reduceEqDiff, Nat.reduceLeDiff, Int32.reduceLT, Int32.reduceLE, Int32.reduceAdd, Int32.reduceSub, Int32.reduceMul, Int32.reduceToNatClampNeg, Int32.reduceOfNat, Int32.reduceOfInt, Int64.reduceLT, Int64.reduceAdd, Int64.reduceSub, Int64.reduceMul, String.reduceEq, reduceCtorEq, room_c, room_s, kp]
    refine r0 300 ?_
    simp only [↓S0, ↓B0, ↓idx_c, ↓setN_c, ↓idxN_c, ↓reduceIte, B1, List.length_cons, List.length_nil, List.mem_cons, List.not_mem_nil, or_false, true_or, or_true, true_and, and_true, and_self, not_true_eq_false, not_false_eq_true, eq_self, ne_eq, Nat.zero_le, Nat.le_refl, Nat.reduceAdd, Nat.reduceSub, Nat.reduceEqDiff, Nat.reduceLeDiff, Int32.reduceLT, Int32.reduceLE, Int32.reduceAdd, Int32.reduceSub, Int32.reduceMul, Int32.reduceToNatClampNeg, Int32.reduceOfNat, Int32.reduceOfInt, Int64.reduceLT, Int64.reduceAdd, Int64.reduceSub, Int64.reduceMul, String.reduceEq, reduceCtorEq, room_c, room_s]
    refine kf0_177 (con2 _ 2 _ _ _ _ rfl (by decide)) ?_
    simp only [↓B0, ↓idx_c, ↓setN_c, ↓idxN_c, ↓reduceIte, B1, List.length_cons, List.length_nil, List.mem_cons, List.not_mem_nil, or_false, true_or, or_true, true_and, and_true, and_self, not_true_eq_false, not_false_eq_true, eq_self, ne_eq, Nat.zero_le, Nat.le_refl, Nat.reduceAdd, Nat.reduceSub, Nat.reduceEqDiff, Nat.reduceLeDiff, Int32.reduceLT, Int32.reduceLE, Int32.reduceAdd, Int32.reduceSub, Int32.reduceMul, Int32.reduceToNatClampNeg, Int32.reduceOfNat, Int32.reduceOfInt, Int64.reduceLT, Int64.reduceAdd, Int64.reduceSub, Int64.reduceMul, String.reduceEq, reduceCtorEq, room_c, room_s, kp]
    refine r0 300 ?_
    simp only [↓S0, ↓B0, ↓idx_c, ↓setN_c, ↓idxN_c, ↓reduceIte, B1, List.length_cons, List.length_nil, List.mem_cons, List.not_mem_nil, or_false, true_or, or_true, true_and, and_true, and_self, not_true_eq_false, not_false_eq_true, eq_self, ne_eq, Nat.zero_le, Nat.le_refl, Nat.reduceAdd, Nat.reduceSub, Nat.reduceEqDiff, Nat.reduceLeDiff, Int32.reduceLT, Int32.reduceLE, Int32.reduceAdd, Int32.reduceSub, Int32.reduceMul, Int32.reduceToNatClampNeg, Int32.reduceOfNat, Int32.reduceOfInt, Int64.reduceLT, Int64.reduceAdd, Int64.reduceSub, Int64.reduceMul, String.reduceEq, reduceCtorEq, room_c, room_s]
    refine kf0_192 (con2 _ 3 _ _ _ _ rfl (by decide)) ?_
    simp only [↓B0, ↓idx_c, ↓setN_c, ↓idxN_c, ↓reduceIte, B1, List.length_cons, List.length_nil, List.mem_cons, List.not_mem_nil, or_false, true_or, or_true, true_and, and_true, and_self, not_true_eq_false, not_false_eq_true, eq_self, ne_eq, Nat.zero_le, Nat.le_refl, Nat.reduceAdd, Nat.reduceSub, Nat.reduceEqDiff, Nat.reduceLeDiff, Int32.reduceLT, Int32.reduceLE, Int32.reduceAdd, Int32.reduceSub, Int32.reduceMul, Int32.reduceToNatClampNeg, Int32.reduceOfNat, Int32.reduceOfInt, Int64.reduceLT, Int64.reduceAdd, Int64.reduceSub, Int64.reduceMul, String.reduceEq, reduceCtorEq, room_c, room_s, kp]
    refine r0 300 ?_
    simp only [↓S0, ↓B0, ↓idx_c, ↓setN_c, ↓idxN_c, ↓reduceIte, B1, List.length_cons, List.length_nil, List.mem_cons, List.not_mem_nil, or_false, true_or, or_true, true_and, and_true, and_self, not_true_eq_false, not_false_eq_true, eq_self, ne_eq, Nat.zero_le, Nat.le_refl, Nat.reduceAdd, Nat.reduceSub, Nat.reduceEqDiff, Nat.reduceLeDiff, Int32.reduceLT, Int32.reduceLE, Int32.reduceAdd, Int32.reduceSub, Int32.reduceMul, Int32.reduceToNatClampNeg, Int32.reduceOfNat, Int32.reduceOfInt, Int64.reduceLT, Int64.reduceAdd, Int64.reduceSub, Int64.reduceMul, String.reduceEq, reduceCtorEq, room_c, room_s]
    refine kf0_207 (con2 _ 4 _ _ _ _ rfl (by decide)) ?_
    simp only [↓B0, ↓idx_c, ↓setN_c, ↓idxN_c, ↓reduceIte, B1, List.length_cons, List.length_nil, List.mem_cons, List.not_mem_nil, or_false, true_or, or_true, true_and, and_true, and_self, not_true_eq_false, not_false_eq_true, eq_self, ne_eq, Nat.zero_le, Nat.le_refl, Nat.reduceAdd, Nat.reduceSub, Nat.reduceEqDiff, Nat.reduceLeDiff, Int32.reduceLT, Int32.reduceLE, Int32.reduceAdd, Int32.reduceSub, Int32.reduceMul, Int32.reduceToNatClampNeg, Int32.reduceOfNat, Int32.reduceOfInt, Int64.reduceLT, Int64.reduceAdd, Int64.reduceSub, Int64.reduceMul, String.reduceEq, reduceCtorEq, room_c, room_s, kp]
    refine r0 300 ?_
    simp only [↓S0, ↓B0, ↓idx_c, ↓setN_c, ↓idxN_c, ↓reduceIte, B1, List.length_cons, List.length_nil, List.mem_cons, List.not_mem_nil, or_false, true_or, or_true, true_and, and_true, and_self, not_true_eq_false, not_false_eq_true, eq_self, ne_eq, Nat.zero_le, Nat.le_refl, Nat.reduceAdd, Nat.reduceSub, Nat.reduceEqDiff, Nat.reduceLeDiff, Int32.reduceLT, Int32.reduceLE, Int32.reduceAdd, Int32.reduceSub, Int32.reduceMul, Int32.reduceToNatClampNeg, Int32.reduceOfNat, Int32.reduceOfInt, Int64.reduceLT, Int64.reduceAdd, Int64.reduceSub, Int64.reduceMul, String.reduceEq, reduceCtorEq, room_c, room_s]
    refine kf0_222 (con2 _ 5 _ _ _ _ rfl (by decide)) ?_
    simp only [↓B0, ↓idx_c, ↓setN_c, ↓idxN_c, ↓reduceIte, B1, List.length_cons, List.length_nil, List.mem_cons, List.not_mem_nil, or_false, true_or, or_true, true_and, and_true, and_self, not_true_eq_false, not_false_eq_true, eq_self, ne_eq, Nat.zero_le, Nat.le_refl, Nat.reduceAdd, Nat.reduceSub, Nat.reduceEqDiff, Nat.reduceLeDiff, Int32.reduceLT, Int32.reduceLE, Int32.reduceAdd, Int32.reduceSub, Int32.reduceMul, Int32.reduceToNatClampNeg, Int32.reduceOfNat, Int32.reduceOfInt, Int64.reduceLT, Int64.reduceAdd, Int64.reduceSub, Int64.reduceMul, String.reduceEq, reduceCtorEq, room_c, room_s, kp]
    refine r0 300 ?_
    simp only [↓S0, ↓B0, ↓idx_c, ↓setN_c, ↓idxN_c, ↓reduceIte, B1, List.length_cons, List.length_nil, List.mem_cons, List.not_mem_nil, or_false, true_or, or_true, true_and, and_true, and_self, not_true_eq_false, not_false_eq_true, eq_self, ne_eq, Nat.zero_le, Nat.le_refl, Nat.reduceAdd, Nat.reduceSub, Nat.reduceEqDiff, Nat.reduceLeDiff, Int32.reduceLT, Int32.reduceLE, Int32.reduceAdd, Int32.reduceSub, Int32.reduceMul, Int32.reduceToNatClampNeg, Int32.reduceOfNat, Int32.reduceOfInt, Int64.reduceLT, Int64.reduceAdd, Int64.reduceSub, Int64.reduceMul, String.reduceEq, reduceCtorEq, room_c, room_s]
    refine kf0_238 (con2 _ 6 _ _ _ _ rfl (by decide)) ?_
    simp only [↓B0, ↓idx_c, ↓setN_c, ↓idxN_c, ↓reduceIte, B1, List.length_cons, List.length_nil, List.mem_cons, List.not_mem_nil, or_false, true_or, or_true, true_and, and_true, and_self, not_true_eq_false, not_false_eq_true, eq_self, ne_eq, Nat.zero_le, Nat.le_refl, Nat.reduceAdd, Nat.reduceSub, Nat.reduceEqDiff, Nat.reduceLeDiff, Int32.reduceLT, Int32.reduceLE, Int32.reduceAdd, Int32.reduceSub, Int32.reduceMul, Int32.reduceToNatClampNeg, Int32.reduceOfNat, Int32.reduceOfInt, Int64.reduceLT, Int64.reduceAdd, Int64.reduceSub, Int64.reduceMul, String.reduceEq, reduceCtorEq, room_c, room_s, kp]
    refine r0 300 ?_
    simp only [↓S0, ↓B0, ↓idx_c, ↓setN_c, ↓idxN_c, ↓reduceIte, B1, List.length_cons, List.length_nil, List.mem_cons, List.not_mem_nil, or_false, true_or, or_true, true_and, and_true, and_self, not_true_eq_false, not_false_eq_true, eq_self, ne_eq, Nat.zero_le, Nat.le_refl, Nat.reduceAdd, Nat.reduceSub, Nat.reduceEqDiff, Nat.reduceLeDiff, Int32.reduceLT, Int32.reduceLE, Int32.reduceAdd, Int32.reduceSub, Int32.reduceMul, Int32.reduceToNatClampNeg, Int32.reduceOfNat, Int32.reduceOfInt, Int64.reduceLT, Int64.reduceAdd, Int64.reduceSub, Int64.reduceMul, String.reduceEq, reduceCtorEq, room_c, room_s]
    refine kf0_254 (con2 _ 7 _ _ _ _ rfl (by decide)) ?_
    simp only [↓B0, ↓idx_c, ↓setN_c, ↓idxN_c, ↓reduceIte, B1, List.length_cons, List.length_nil, List.mem_cons, List.not_mem_nil, or_false, true_or, or_true, true_and, and_true, and_self, not_true_eq_false, not_false_eq_true, eq_self, ne_eq, Nat.zero_le, Nat.le_refl, Nat.reduceAdd, Nat.reduceSub, Nat.reduceEqDiff, Nat.reduceLeDiff, Int32.reduceLT, Int32.reduceLE, Int32.reduceAdd, Int32.reduceSub, Int32.reduceMul, Int32.reduceToNatClampNeg, Int32.reduceOfNat, Int32.reduceOfInt, Int64.reduceLT, Int64.reduceAdd, Int64.reduceSub, Int64.reduceMul, String.reduceEq, reduceCtorEq, room_c, room_s, kp]
    refine r0 300 ?_
    simp only [↓S0, ↓B0, ↓idx_c, ↓setN_c, ↓idxN_c, ↓reduceIte, B1, List.length_cons, List.length_nil, List.mem_cons, List.not_mem_nil, or_false, true_or, or_true, true_and, and_true, and_self, not_true_eq_false, not_false_eq_true, eq_self, ne_eq, Nat.zero_le, Nat.le_refl, Nat.reduceAdd, Nat.reduceSub, Nat.reduceEqDiff, Nat.reduceLeDiff, Int32.reduceLT, Int32.reduceLE, Int32.reduceAdd, Int32.reduceSub, Int32.reduceMul, Int32.reduceToNatClampNeg, Int32.reduceOfNat, Int32.reduceOfInt, Int64.reduceLT, Int64.reduceAdd, Int64.reduceSub, Int64.reduceMul, String.reduceEq, reduceCtorEq, room_c, room_s, t0]
  · have h1 : ¬ c < 128 := by rw [Int32.lt_iff_toInt_lt]; omega
    have h2 : c < 2048 := by rw [Int32.lt_iff_toInt_lt]; omega
    obtain ⟨x0, x1, t0, t1, l0, l1, c1, fin⟩ := facts_2 c (by omega) (by omega)
    simp only [↓S0, ↓B0, ↓idx_c, ↓setN_c, ↓idxN_c, ↓reduceIte, B1, List.length_cons, List.length_nil, List.mem_cons, List.not_mem_nil, or_false, true_or, or_true, true_and, and_true, and_self, not_true_eq_false, not_false_eq_true, eq_self, ne_eq, Nat.zero_le, Nat.le_refl, Nat.reduceAdd, Nat.reduceSub, Nat.reduceEqDiff, Nat.reduceLeDiff, Int32.reduceLT, Int32.reduceLE, Int32.reduceAdd, Int32.reduceSub, Int32.reduceMul, Int32.reduceToNatClampNeg, Int32.reduceOfNat, Int32.reduceOfInt, Int64.reduceLT, Int64.reduceAdd, Int64.reduceSub, Int64.reduceMul, String.reduceEq, reduceCtorEq, room_c, room_s, hv]
    refine kf0_82 (con1_2_2 (nar .byte i2) c h1 h2) (r0 300 ?_)
    simp only [↓S0, ↓B0, ↓idx_c, ↓setN_c, ↓idxN_c, ↓reduceIte, B1, List.length_cons, List.length_nil, List.mem_cons, List.not_mem_nil, or_false, true_or, or_true, true_and, and_true, and_self, not_true_eq_false, not_false_eq_true, eq_self, ne_eq, Nat.zero_le, Nat.le_refl, Nat.reduceAdd, Nat.reduceSub, Nat.reduceEqDiff, Nat.reduceLeDiff, Int32.reduceLT, Int32.reduceLE, Int32.reduceAdd, Int32.reduceSub, Int32.reduceMul, Int32.reduceToNatClampNeg, Int32.reduceOfNat, Int32.reduceOfInt, Int64.reduceLT, Int64.reduceAdd, Int64.reduceSub, Int64.reduceMul, String.reduceEq, reduceCtorEq, room_c, room_s, h1, h2]
    refine kf0_147 (con2 _ 0 _ _ _ _ rfl (by decide)) ?_
    simp only [↓B0, ↓idx_c, ↓setN_c, ↓idxN_c, ↓reduceIte, B1, List.length_cons, List.length_nil, List.mem_cons, List.not_mem_nil, or_false, true_or, or_true, true_and, and_true, and_self, not_true_eq_false, not_false_eq_true, eq_self, ne_eq, Nat.zero_le, Nat.le_refl, Nat.reduceAdd, Nat.reduceSub, Nat.reduceEqDiff, Nat.reduceLeDiff, Int32.reduceLT, Int32.reduceLE, Int32.reduceAdd, Int32.reduceSub, Int32.reduceMul, Int32.reduceToNatClampNeg, Int32.reduceOfNat, Int32.reduceOfInt, Int64.reduceLT, Int64.reduceAdd, Int64.reduceSub, Int64.reduceMul, String.reduceEq, reduceCtorEq, room_c, room_s, kp]
    refine r0 300 ?_
    simp only [↓S0, ↓B0, ↓idx_c, ↓setN_c, ↓idxN_c, ↓reduceIte, B1, List.length_cons, List.length_nil, List.mem_cons, List.not_mem_nil, or_false, true_or, or_true, true_and, and_true, and_self, not_true_eq_false, not_false_eq_true, eq_self, ne_eq, Nat.zero_le, Nat.le_refl, Nat.reduceAdd, Nat.reduceSub, Nat.reduceEqDiff, Nat.reduceLeDiff, Int32.reduceLT, Int32.reduceLE, Int32.reduceAdd, Int32.reduceSub, Int32.reduceMul, Int32.reduceToNatClampNeg, Int32.reduceOfNat, Int32.reduceOfInt, Int64.reduceLT, Int64.reduceAdd, Int64.reduceSub, Int64.reduceMul, String.reduceEq, reduceCtorEq, room_c, room_s]
    refine kf0_162 (con2 _ 1 _ _ _ _ rfl (by decide)) ?_
    simp only [↓B0, ↓idx_c, ↓setN_c, ↓idxN_c, ↓reduceIte, B1, List.length_cons, List.length_nil, List.mem_cons, List.not_mem_nil, or_false, true_or, or_true, true_and, and_true, and_self, not_true_eq_false, not_false_eq_true, eq_self, ne_eq, Nat.zero_le, Nat.le_refl, Nat.reduceAdd, Nat.reduceSub, Nat.reduceEqDiff, Nat.reduceLeDiff, Int32.reduceLT, Int32.reduceLE, Int32.reduceAdd, Int32.reduceSub, Int32.reduceMul, Int32.reduceToNatClampNeg, Int32.reduceOfNat, Int32.reduceOfInt, Int64.reduceLT, Int64.reduceAdd, Int64.reduceSub, Int64.reduceMul, String.reduceEq, reduceCtorEq, room_c, room_s, kp]
    refine r0 300 ?_
    simp only [↓S0, ↓B0, ↓idx_c, ↓setN_c, ↓idxN_c, ↓reduceIte, B1, List.length_cons, List.length_nil, List.mem_cons, List.not_mem_nil, or_false, true_or, or_true, true_and, and_true, and_self, not_true_eq_false, not_false_eq_true, eq_self, ne_eq, Nat.zero_le, Nat.le_refl, Nat.reduceAdd, Nat.reduceSub, Nat.reduceEqDiff, Nat.reduceLeDiff, Int32.reduceLT, Int32.reduceLE, Int32.reduceAdd, Int32.reduceSub, Int32.reduceMul, Int32.reduceToNatClampNeg, Int32.reduceOfNat, Int32.reduceOfInt, Int64.reduceLT, Int64.reduceAdd, Int64.reduceSub, Int64.reduceMul, String.reduceEq, reduceCtorEq, room_c, room_s]
    refine kf0_177 (con2 _ 2 _ _ _ _ rfl (by decide)) ?_
    simp only [↓B0, ↓idx_c, ↓setN_c, ↓idxN_c, ↓reduceIte, B1, List.length_cons, List.length_nil, List.mem_cons, List.not_mem_nil, or_false, true_or, or_true, true_and, and_true, and_self, not_true_eq_false, not_false_eq_true, eq_self, ne_eq, Nat.zero_le, Nat.le_refl, Nat.reduceAdd, Nat.reduceSub, Nat.reduceEqDiff, Nat.reduceLeDiff, Int32.reduceLT, Int32.reduceLE, Int32.reduceAdd, Int32.reduceSub, Int32.reduceMul, Int32.reduceToNatClampNeg, Int32.reduceOfNat, Int32.reduceOfInt, Int64.reduceLT, Int64.reduceAdd, Int64.reduceSub, Int64.reduceMul, String.reduceEq, reduceCtorEq, room_c, room_s, kp]
    refine r0 300 ?_
    simp only [↓S0, ↓B0, ↓idx_c, ↓setN_c, ↓idxN_c, ↓reduceIte, B1, List.length_cons, List.length_nil, List.mem_cons, List.not_mem_nil, or_false, true_or, or_true, true_and, and_true, and_self, not_true_eq_false, not_false_eq_true, eq_self, ne_eq, Nat.zero_le, Nat.le_refl, Nat.reduceAdd, Nat.reduceSub, Nat.reduceEqDiff, Nat.reduceLeDiff, Int32.reduceLT, Int32.reduceLE, Int32.reduceAdd, Int32.reduceSub, Int32.reduceMul, Int32.reduceToNatClampNeg, Int32.reduceOfNat, Int32.reduceOfInt, Int64.reduceLT, Int64.reduceAdd, Int64.reduceSub, Int64.reduceMul, String.reduceEq, reduceCtorEq, room_c, room_s]
    refine kf0_192 (con2 _ 3 _ _ _ _ rfl (by decide)) ?_
    simp only [↓B0, ↓idx_c, ↓setN_c, ↓idxN_c, ↓reduceIte, B1, List.length_cons, List.length_nil, List.mem_cons, List.not_mem_nil, or_false, true_or, or_true, true_and, and_true, and_self, not_true_eq_false, not_false_eq_true, eq_self, ne_eq, Nat.zero_le, Nat.le_refl, Nat.reduceAdd, Nat.reduceSub, Nat.reduceEqDiff, Nat.reduceLeDiff, Int32.reduceLT, Int32.reduceLE, Int32.reduceAdd, Int32.reduceSub, Int32.reduceMul, Int32.reduceToNatClampNeg, Int32.reduceOfNat, Int32.reduceOfInt, Int64.reduceLT, Int64.reduceAdd, Int64.reduceSub, Int64.reduceMul, String.reduceEq, reduceCtorEq, room_c, room_s, kp]
    refine r0 300 ?_
    simp only [↓S0, ↓B0, ↓idx_c, ↓setN_c, ↓idxN_c, ↓reduceIte, B1, List.length_cons, List.length_nil, List.mem_cons, List.not_mem_nil, or_false, true_or, or_true, true_and, and_true, and_self, not_true_eq_false, not_false_eq_true, eq_self, ne_eq, Nat.zero_le, Nat.le_refl, Nat.reduceAdd, Nat.reduceSub, Nat.reduceEqDiff, Nat.reduceLeDiff, Int32.reduceLT, Int32.reduceLE, Int32.reduceAdd, Int32.reduceSub, Int32.reduceMul, Int32.reduceToNatClampNeg, Int32.reduceOfNat, Int32.reduceOfInt, Int64.reduceLT, Int64.reduceAdd, Int64.reduceSub, Int64.reduceMul, String.reduceEq, reduceCtorEq, room_c, room_s]
    refine kf0_207 (con2 _ 4 _ _ _ _ rfl (by decide)) ?_
    simp only [↓B0, ↓idx_c, ↓setN_c, ↓idxN_c, ↓reduceIte, B1, List.length_cons, List.length_nil, List.mem_cons, List.not_mem_nil, or_false, true_or, or_true, true_and, and_true, and_self, not_true_eq_false, not_false_eq_true, eq_self, ne_eq, Nat.zero_le, Nat.le_refl, Nat.reduceAdd, Nat.reduceSub, Nat.reduceEqDiff, Nat.reduceLeDiff, Int32.reduceLT, Int32.reduceLE, Int32.reduceAdd, Int32.reduceSub, Int32.reduceMul, Int32.reduceToNatClampNeg, Int32.reduceOfNat, Int32.reduceOfInt, Int64.reduceLT, Int64.reduceAdd, Int64.reduceSub, Int64.reduceMul, String.reduceEq, reduceCtorEq, room_c, room_s, kp]
    refine r0 300 ?_
    simp only [↓S0, ↓B0, ↓idx_c, ↓setN_c, ↓idxN_c, ↓reduceIte, B1, List.length_cons, List.length_nil, List.mem_cons, List.not_mem_nil, or_false, true_or, or_true, true_and, and_true, and_self, not_true_eq_false, not_false_eq_true, eq_self, ne_eq, Nat.zero_le, Nat.le_refl, Nat.reduceAdd, Nat.reduceSub, Nat.reduceEqDiff, Nat.reduceLeDiff, Int32.reduceLT, Int32.reduceLE, Int32.reduceAdd, Int32.reduceSub, Int32.reduceMul, Int32.reduceToNatClampNeg, Int32.reduceOfNat, Int32.reduceOfInt, Int64.reduceLT, Int64.reduceAdd, Int64.reduceSub, Int64.reduceMul, String.reduceEq, reduceCtorEq, room_c, room_s]
    refine kf0_222 (con2 _ 5 _ _ _ _ rfl (by decide)) ?_
    simp only [↓B0, ↓idx_c, ↓setN_c, ↓idxN_c, ↓reduceIte, B1, List.length_cons, List.length_nil, List.mem_cons, List.not_mem_nil, or_false, true_or, or_true, true_and, and_true, and_self, not_true_eq_false, not_false_eq_true, eq_self, ne_eq, Nat.zero_le, Nat.le_refl, Nat.reduceAdd, Nat.reduceSub, Nat.reduceEqDiff, Nat.reduceLeDiff, Int32.reduceLT, Int32.reduceLE, Int32.reduceAdd, Int32.reduceSub, Int32.reduceMul, Int32.reduceToNatClampNeg, Int32.reduceOfNat, Int32.reduceOfInt, Int64.reduceLT, Int64.reduceAdd, Int64.reduceSub, Int64.reduceMul, String.reduceEq, reduceCtorEq, room_c, room_s, kp]
    refine r0 300 ?_
    simp only [↓S0, ↓B0, ↓idx_c, ↓setN_c, ↓idxN_c, ↓reduceIte, B1, List.length_cons, List.length_nil, List.mem_cons, List.not_mem_nil, or_false, true_or, or_true, true_and, and_true, and_self, not_true_eq_false, not_false_eq_true, eq_self, ne_eq, Nat.zero_le, Nat.le_refl, Nat.reduceAdd, Nat.reduceSub, Nat.reduceEqDiff, Nat.reduceLeDiff, Int32.reduceLT, Int32.reduceLE, Int32.reduceAdd, Int32.reduceSub, Int32.reduceMul, Int32.reduceToNatClampNeg, Int32.reduceOfNat, Int32.reduceOfInt, Int64.reduceLT, Int64.reduceAdd, Int64.reduceSub, Int64.reduceMul, String.reduceEq, reduceCtorEq, room_c, room_s]
    refine kf0_238 (con2 _ 6 _ _ _ _ rfl (by decide)) ?_
    simp only [↓B0, ↓idx_c, ↓setN_c, ↓idxN_c, ↓reduceIte, B1, List.length_cons, List.length_nil, List.mem_cons, List.not_mem_nil, or_false, true_or, or_true, true_and, and_true, and_self, not_true_eq_false, not_false_eq_true, eq_self, ne_eq, Nat.zero_le, Nat.le_refl, Nat.reduceAdd, Nat.reduceSub, Nat.reduceEqDiff, Nat.reduceLeDiff, Int32.reduceLT, Int32.reduceLE, Int32.reduceAdd, Int32.reduceSub, Int32.reduceMul, Int32.reduceToNatClampNeg, Int32.reduceOfNat, Int32.reduceOfInt, Int64.reduceLT, Int64.reduceAdd, Int64.reduceSub, Int64.reduceMul, String.reduceEq, reduceCtorEq, room_c, room_s, kp]
    refine r0 300 ?_
    simp only [↓S0, ↓B0, ↓idx_c, ↓setN_c, ↓idxN_c, ↓reduceIte, B1, List.length_cons, List.length_nil, List.mem_cons, List.not_mem_nil, or_false, true_or, or_true, true_and, and_true, and_self, not_true_eq_false, not_false_eq_true, eq_self, ne_eq, Nat.zero_le, Nat.le_refl, Nat.reduceAdd, Nat.reduceSub, Nat.reduceEqDiff, Nat.reduceLeDiff, Int32.reduceLT, Int32.reduceLE, Int32.reduceAdd, Int32.reduceSub, Int32.reduceMul, Int32.reduceToNatClampNeg, Int32.reduceOfNat, Int32.reduceOfInt, Int64.reduceLT, Int64.reduceAdd, Int64.reduceSub, Int64.reduceMul, String.reduceEq, reduceCtorEq, room_c, room_s]
    refine kf0_254 (con2 _ 7 _ _ _ _ rfl (by decide)) ?_
    simp only [↓B0, ↓idx_c, ↓setN_c, ↓idxN_c, ↓reduceIte, B1, List.length_cons, List.length_nil, List.mem_cons, List.not_mem_nil, or_false, true_or, or_true, true_and, and_true, and_self, not_true_eq_false, not_false_eq_true, eq_self, ne_eq, Nat.zero_le, Nat.le_refl, Nat.reduceAdd, Nat.reduceSub, Nat.reduceEqDiff, Nat.reduceLeDiff, Int32.reduceLT, Int32.reduceLE, Int32.reduceAdd, Int32.reduceSub, Int32.reduceMul, Int32.reduceToNatClampNeg, Int32.reduceOfNat, Int32.reduceOfInt, Int64.reduceLT, Int64.reduceAdd, Int64.reduceSub, Int64.reduceMul, String.reduceEq, reduceCtorEq, room_c, room_s, kp]
    refine r0 300 ?_
    simp only [↓S0, ↓B0, ↓idx_c, ↓setN_c, ↓idxN_c, ↓reduceIte, B1, List.length_cons, List.length_nil, List.mem_cons, List.not_mem_nil, or_false, true_or, or_true, true_and, and_true, and_self, not_true_eq_false, not_false_eq_true, eq_self, ne_eq, Nat.zero_le, Nat.le_refl, Nat.reduceAdd, Nat.reduceSub, Nat.reduceEqDiff, Nat.reduceLeDiff, Int32.reduceLT, Int32.reduceLE, Int32.reduceAdd, Int32.reduceSub, Int32.reduceMul, Int32.reduceToNatClampNeg, Int32.reduceOfNat, Int32.reduceOfInt, Int64.reduceLT, Int64.reduceAdd, Int64.reduceSub, Int64.reduceMul, String.reduceEq, reduceCtorEq, room_c, room_s, t0, t1, l0, l1, fin]
    refine kf0_366 (con3 _) ?_
    simp only [c1]
    refine r0 300 ?_
    simp only [↓S0, ↓B0, ↓idx_c, ↓setN_c, ↓idxN_c, ↓reduceIte, B1, List.length_cons, List.length_nil, List.mem_cons, List.not_mem_nil, or_false, true_or, or_true, true_and, and_true, and_self, not_true_eq_false, not_false_eq_true, eq_self, ne_eq, Nat.zero_le, Nat.le_refl, Nat.reduceAdd, Nat.reduceSub, Nat.reduceEqDiff, Nat.reduceLeDiff, Int32.reduceLT, Int32.reduceLE, Int32.reduceAdd, Int32.reduceSub, Int32.reduceMul, Int32.reduceToNatClampNeg, Int32.reduceOfNat, Int32.reduceOfInt, Int64.reduceLT, Int64.reduceAdd, Int64.reduceSub, Int64.reduceMul, String.reduceEq, reduceCtorEq, room_c, room_s, t0, t1, l0, l1, fin]
  · have h1 : ¬ c < 128 := by rw [Int32.lt_iff_toInt_lt]; omega
    have h2 : ¬ c < 2048 := by rw [Int32.lt_iff_toInt_lt]; omega
    have h3 : c < 65536 := by rw [Int32.lt_iff_toInt_lt]; omega
    obtain ⟨x0, x1, x2, t0, t1, t2, l0, l1, c1, c2, fin⟩ := facts_3 c (by omega) (by omega)
    simp only [↓S0, ↓B0, ↓idx_c, ↓setN_c, ↓idxN_c, ↓reduceIte, B1, List.length_cons, List.length_nil, List.mem_cons, List.not_mem_nil, or_false, true_or, or_true, true_and, and_true, and_self, not_true_eq_false, not_false_eq_true, eq_self, ne_eq, Nat.zero_le, Nat.le_refl, Nat.reduceAdd, Nat.reduceSub, Nat.reduceEqDiff, Nat.reduceLeDiff, Int32.reduceLT, Int32.reduceLE, Int32.reduceAdd, Int32.reduceSub, Int32.reduceMul, Int32.reduceToNatClampNeg, Int32.reduceOfNat, Int32.reduceOfInt, Int64.reduceLT, Int64.reduceAdd, Int64.reduceSub, Int64.reduceMul, String.reduceEq, reduceCtorEq, room_c, room_s, hv]
    refine kf0_82 (con1_2_3 (nar .byte i2) c h1 h2 h3) (r0 300 ?_)
    simp only [↓S0, ↓B0, ↓idx_c, ↓setN_c, ↓idxN_c, ↓reduceIte, B1, List.length_cons, List.length_nil, List.mem_cons, List.not_mem_nil, or_false, true_or, or_true, true_and, and_true, and_self, not_true_eq_false, not_false_eq_true, eq_self, ne_eq, Nat.zero_le, Nat.le_refl, Nat.reduceAdd, Nat.reduceSub, Nat.reduceEqDiff, Nat.reduceLeDiff, Int32.reduceLT, Int32.reduceLE, Int32.reduceAdd, Int32.reduceSub, Int32.reduceMul, Int32.reduceToNatClampNeg, Int32.reduceOfNat, Int32.reduceOfInt, Int64.reduceLT, Int64.reduceAdd, Int64.reduceSub, Int64.reduceMul, String.reduceEq, reduceCtorEq, room_c, room_s, h1, h2, h3]
    refine kf0_147 (con2 _ 0 _ _ _ _ rfl (by decide)) ?_
    simp only [↓B0, ↓idx_c, ↓setN_c, ↓idxN_c, ↓reduceIte, B1, List.length_cons, List.length_nil, List.mem_cons, List.not_mem_nil, or_false, true_or, or_true, true_and, and_true, and_self, not_true_eq_false, not_false_eq_true, eq_self, ne_eq, Nat.zero_le, Nat.le_refl, Nat.reduceAdd, Nat.reduceSub, Nat.reduceEqDiff, Nat.reduceLeDiff, Int32.reduceLT, Int32.reduceLE, Int32.reduceAdd, Int32.reduceSub, Int32.reduceMul, Int32.reduceToNatClampNeg, Int32.reduceOfNat, Int32.reduceOfInt, Int64.reduceLT, Int64.reduceAdd, Int64.reduceSub, Int64.reduceMul, String.reduceEq, reduceCtorEq, room_c, room_s, kp]
    refine r0 300 ?_
    simp only [↓S0, ↓B0, ↓idx_c, ↓setN_c, ↓idxN_c, ↓reduceIte, B1, List.length_cons, List.length_nil, List.mem_cons, List.not_mem_nil, or_false, true_or, or_true, true_and, and_true, and_self, not_true_eq_false, not_false_eq_true, eq_self, ne_eq, Nat.zero_le, Nat.le_refl, Nat.reduceAdd, Nat.reduceSub, Nat.reduceEqDiff, Nat.reduceLeDiff, Int32.reduceLT, Int32.reduceLE, Int32.reduceAdd, Int32.reduceSub, Int32.reduceMul, Int32.reduceToNatClampNeg, Int32.reduceOfNat, Int32.reduceOfInt, Int64.reduceLT, Int64.reduceAdd, Int64.reduceSub, Int64.reduceMul, String.reduceEq, reduceCtorEq, room_c, room_s]
    refine kf0_162 (con2 _ 1 _ _ _ _ rfl (by decide)) ?_
    simp only [↓B0, ↓idx_c, ↓setN_c, ↓idxN_c, ↓reduceIte, B1, List.length_cons, List.length_nil, List.mem_cons, List.not_mem_nil, or_false, true_or, or_true, true_and, and_true, and_self, not_true_eq_false, not_false_eq_true, eq_self, ne_eq, Nat.zero_le, Nat.le_refl, Nat.reduceAdd, Nat.reduceSub, Nat.reduceEqDiff, Nat.reduceLeDiff, Int32.reduceLT, Int32.reduceLE, Int32.reduceAdd, Int32.reduceSub, Int32.reduceMul, Int32.reduceToNatClampNeg, Int32.reduceOfNat, Int32.reduceOfInt, Int64.reduceLT, Int64.reduceAdd, Int64.reduceSub, Int64.reduceMul, String.reduceEq, reduceCtorEq, room_c, room_s, kp]
    refine r0 300 ?_
    simp only [↓S0, ↓B0, ↓idx_c, ↓setN_c, ↓idxN_c, ↓reduceIte, B1, List.length_cons, List.length_nil, List.mem_cons, List.not_mem_nil, or_false, true_or, or_true, true_and, and_true, and_self, not_true_eq_false, not_false_eq_true, eq_self, ne_eq, Nat.zero_le, Nat.le_refl, Nat.reduceAdd, Nat.reduceSub, Nat.reduceEqDiff, Nat.reduceLeDiff, Int32.reduceLT, Int32.reduceLE, Int32.reduceAdd, Int32.reduceSub, Int32.reduceMul, Int32.reduceToNatClampNeg, Int32.reduceOfNat, Int32.reduceOfInt, Int64.reduceLT, Int64.reduceAdd, Int64.reduceSub, Int64.reduceMul, String.reduceEq, reduceCtorEq, room_c, room_s]
    refine kf0_177 (con2 _ 2 _ _ _ _ rfl (by decide)) ?_
    simp only [↓B0, ↓idx_c, ↓setN_c, ↓idxN_c, ↓reduceIte, B1, List.length_cons, List.length_nil, List.mem_cons, List.not_mem_nil, or_false, true_or, or_true, true_and, and_true, and_self, not_true_eq_false, not_false_eq_true, eq_self, ne_eq, Nat.zero_le, Nat.le_refl, Nat.reduceAdd, Nat.reduceSub, Nat.reduceEqDiff, Nat.reduceLeDiff, Int32.reduceLT, Int32.reduceLE, Int32.reduceAdd, Int32.reduceSub, Int32.reduceMul, Int32.reduceToNatClampNeg, Int32.reduceOfNat, Int32.reduceOfInt, Int64.reduceLT, Int64.reduceAdd, Int64.reduceSub, Int64.reduceMul, String.reduceEq, reduceCtorEq, room_c, room_s, kp]
    refine r0 300 ?_
    simp only [↓S0, ↓B0, ↓idx_c, ↓setN_c, ↓idxN_c, ↓reduceIte, B1, List.length_cons, List.length_nil, List.mem_cons, List.not_mem_nil, or_false, true_or, or_true, true_and, and_true, and_self, not_true_eq_false, not_false_eq_true, eq_self, ne_eq, Nat.zero_le, Nat.le_refl, Nat.reduceAdd, Nat.reduceSub, Nat.reduceEqDiff, Nat.reduceLeDiff, Int32.reduceLT, Int32.reduceLE, Int32.reduceAdd, Int32.reduceSub, Int32.reduceMul, Int32.reduceToNatClampNeg, Int32.reduceOfNat, Int32.reduceOfInt, Int64.reduceLT, Int64.reduceAdd, Int64.reduceSub, Int64.reduceMul, String.reduceEq, reduceCtorEq, room_c, room_s]
    refine kf0_192 (con2 _ 3 _ _ _ _ rfl (by decide)) ?_
    simp only [↓B0, ↓idx_c, ↓setN_c, ↓idxN_c, ↓reduceIte, B1, List.length_cons, List.length_nil, List.mem_cons, List.not_mem_nil, or_false, true_or, or_true, true_and, and_true, and_self, not_true_eq_false, not_false_eq_true, eq_self, ne_eq, Nat.zero_le, Nat.le_refl, Nat.reduceAdd, Nat.reduceSub, Nat.reduceEqDiff, Nat.reduceLeDiff, Int32.reduceLT, Int32.reduceLE, Int32.reduceAdd, Int32.reduceSub, Int32.reduceMul, Int32.reduceToNatClampNeg, Int32.reduceOfNat, Int32.reduceOfInt, Int64.reduceLT, Int64.reduceAdd, Int64.reduceSub, Int64.reduceMul, String.reduceEq, reduceCtorEq, room_c, room_s, kp]
    refine r0 300 ?_
    simp only [↓S0, ↓B0, ↓idx_c, ↓setN_c, ↓idxN_c, ↓reduceIte, B1, List.length_cons, List.length_nil, List.mem_cons, List.not_mem_nil, or_false, true_or, or_true, true_and, and_true, and_self, not_true_eq_false, not_false_eq_true, eq_self, ne_eq, Nat.zero_le, Nat.le_refl, Nat.reduceAdd, Nat.reduceSub, Nat.reduceEqDiff, Nat.reduceLeDiff, Int32.reduceLT, Int32.reduceLE, Int32.reduceAdd, Int32.reduceSub, Int32.reduceMul, Int32.reduceToNatClampNeg, Int32.reduceOfNat, Int32.reduceOfInt, Int64.reduceLT, Int64.reduceAdd, Int64.reduceSub, Int64.reduceMul, String.reduceEq, reduceCtorEq, room_c, room_s]
    refine kf0_207 (con2 _ 4 _ _ _ _ rfl (by decide)) ?_
    simp only [↓B0, ↓idx_c, ↓setN_c, ↓idxN_c, ↓reduceIte, B1, List.length_cons, List.length_nil, List.mem_cons, List.not_mem_nil, or_false, true_or, or_true, true_and, and_true, and_self, not_true_eq_false, not_false_eq_true, eq_self, ne_eq, Nat.zero_le, Nat.le_refl, Nat.reduceAdd, Nat.reduceSub, Nat.reduceEqDiff, Nat.reduceLeDiff, Int32.reduceLT, Int32.reduceLE, Int32.reduceAdd, Int32.reduceSub, Int32.reduceMul, Int32.reduceToNatClampNeg, Int32.reduceOfNat, Int32.reduceOfInt, Int64.reduceLT, Int64.reduceAdd, Int64.reduceSub, Int64.reduceMul, String.reduceEq, reduceCtorEq, room_c, room_s, kp]
    refine r0 300 ?_
    simp only [↓S0, ↓B0, ↓idx_c, ↓setN_c, ↓idxN_c, ↓reduceIte, B1, List.length_cons, List.length_nil, List.mem_cons, List.not_mem_nil, or_false, true_or, or_true, true_and, and_true, and_self, not_true_eq_false, not_false_eq_true, eq_self, ne_eq, Nat.zero_le, Nat.le_refl, Nat.reduceAdd, Nat.reduceSub, Nat.reduceEqDiff, Nat.reduceLeDiff, Int32.reduceLT, Int32.reduceLE, Int32.reduceAdd, Int32.reduceSub, Int32.reduceMul, Int32.reduceToNatClampNeg, Int32.reduceOfNat, Int32.reduceOfInt, Int64.reduceLT, Int64.reduceAdd, Int64.reduceSub, Int64.reduceMul, String.reduceEq, reduceCtorEq, room_c, room_s]
    refine kf0_222 (con2 _ 5 _ _ _ _ rfl (by decide)) ?_
    simp only [↓B0, ↓idx_c, ↓setN_c, ↓idxN_c, ↓reduceIte, B1, List.length_cons, List.length_nil, List.mem_cons, List.not_mem_nil, or_false, true_or, or_true, true_and, and_true, and_self, not_true_eq_false, not_false_eq_true, eq_self, ne_eq, Nat.zero_le, Nat.le_refl, Nat.reduceAdd, Nat.reduceSub, Nat.reduceEqDiff, Nat.reduceLeDiff, Int32.reduceLT, Int32.reduceLE, Int32.reduceAdd, Int32.reduceSub, Int32.reduceMul, Int32.reduceToNatClampNeg, Int32.reduceOfNat, Int32.reduceOfInt, Int64.reduceLT, Int64.reduceAdd, Int64.reduceSub, Int64.reduceMul, String.reduceEq, reduceCtorEq, room_c, room_s, kp]
    refine r0 300 ?_
    simp only [↓S0, ↓B0, ↓idx_c, ↓setN_c, ↓idxN_c, ↓reduceIte, B1, List.length_cons, List.length_nil, List.mem_cons, List.not_mem_nil, or_false, true_or, or_true, true_and, and_true, and_self, not_true_eq_false, not_false_eq_true, eq_self, ne_eq, Nat.zero_le, Nat.le_refl, Nat.reduceAdd, Nat.reduceSub, Nat.reduceEqDiff, Nat.reduceLeDiff, Int32.reduceLT, Int32.reduceLE, Int32.reduceAdd, Int32.reduceSub, Int32.reduceMul, Int32.reduceToNatClampNeg, Int32.reduceOfNat, Int32.reduceOfInt, Int64.reduceLT, Int64.reduceAdd, Int64.reduceSub, Int64.reduceMul, String.reduceEq, reduceCtorEq, room_c, room_s]
    refine kf0_238 (con2 _ 6 _ _ _ _ rfl (by decide)) ?_
    simp only [↓B0, ↓idx_c, ↓setN_c, ↓idxN_c, ↓reduceIte, B1, List.length_cons, List.length_nil, List.mem_cons, List.not_mem_nil, or_false, true_or, or_true, true_and, and_true, and_self, not_true_eq_false, not_false_eq_true, eq_self, ne_eq, Nat.zero_le, Nat.le_refl, Nat.reduceAdd, Nat.reduceSub, Nat.reduceEqDiff, Nat.reduceLeDiff, Int32.reduceLT, Int32.reduceLE, Int32.reduceAdd, Int32.reduceSub, Int32.reduceMul, Int32.reduceToNatClampNeg, Int32.reduceOfNat, Int32.reduceOfInt, Int64.reduceLT, Int64.reduceAdd, Int64.reduceSub, Int64.reduceMul, String.reduceEq, reduceCtorEq, room_c, room_s, kp]
    refine r0 300 ?_
    simp only [↓S0, ↓B0, ↓idx_c, ↓setN_c, ↓idxN_c, ↓reduceIte, B1, List.length_cons, List.length_nil, List.mem_cons, List.not_mem_nil, or_false, true_or, or_true, true_and, and_true, and_self, not_true_eq_false, not_false_eq_true, eq_self, ne_eq, Nat.zero_le, Nat.le_refl, Nat.reduceAdd, Nat.reduceSub, Nat.reduceEqDiff, Nat.reduceLeDiff, Int32.reduceLT, Int32.reduceLE, Int32.reduceAdd, Int32.reduceSub, Int32.reduceMul, Int32.reduceToNatClampNeg, Int32.reduceOfNat, Int32.reduceOfInt, Int64.reduceLT, Int64.reduceAdd, Int64.reduceSub, Int64.reduceMul, String.reduceEq, reduceCtorEq, room_c, room_s]
    refine kf0_254 (con2 _ 7 _ _ _ _ rfl (by decide)) ?_
    simp only [↓B0, ↓idx_c, ↓setN_c, ↓idxN_c, ↓reduceIte, B1, List.length_cons, List.length_nil, List.mem_cons, List.not_mem_nil, or_false, true_or, or_true, true_and, and_true, and_self, not_true_eq_false, not_false_eq_true, eq_self, ne_eq, Nat.zero_le, Nat.le_refl, Nat.reduceAdd, Nat.reduceSub, Nat.reduceEqDiff, Nat.reduceLeDiff, Int32.reduceLT, Int32.reduceLE, Int32.reduceAdd, Int32.reduceSub, Int32.reduceMul, Int32.reduceToNatClampNeg, Int32.reduceOfNat, Int32.reduceOfInt, Int64.reduceLT, Int64.reduceAdd, Int64.reduceSub, Int64.reduceMul, String.reduceEq, reduceCtorEq, room_c, room_s, kp]
    refine r0 300 ?_
    simp only [↓S0, ↓B0, ↓idx_c, ↓setN_c, ↓idxN_c, ↓reduceIte, B1, List.length_cons, List.length_nil, List.mem_cons, List.not_mem_nil, or_false, true_or, or_true, true_and, and_true, and_self, not_true_eq_false, not_false_eq_true, eq_self, ne_eq, Nat.zero_le, Nat.le_refl, Nat.reduceAdd, Nat.reduceSub, Nat.reduceEqDiff, Nat.reduceLeDiff, Int32.reduceLT, Int32.reduceLE, Int32.reduceAdd, Int32.reduceSub, Int32.reduceMul, Int32.reduceToNatClampNeg, Int32.reduceOfNat, Int32.reduceOfInt, Int64.reduceLT, Int64.reduceAdd, Int64.reduceSub, Int64.reduceMul, String.reduceEq, reduceCtorEq, room_c, room_s, t0, t1, t2, l0, l1, fin]
    refine kf0_422 (con3 _) ?_
    simp only [c1]
    refine r0 300 ?_
    simp only [↓S0, ↓B0, ↓idx_c, ↓setN_c, ↓idxN_c, ↓reduceIte, B1, List.length_cons, List.length_nil, List.mem_cons, List.not_mem_nil, or_false, true_or, or_true, true_and, and_true, and_self, not_true_eq_false, not_false_eq_true, eq_self, ne_eq, Nat.zero_le, Nat.le_refl, Nat.reduceAdd, Nat.reduceSub, Nat.reduceEqDiff, Nat.reduceLeDiff, Int32.reduceLT, Int32.reduceLE, Int32.reduceAdd, Int32.reduceSub, Int32.reduceMul, Int32.reduceToNatClampNeg, Int32.reduceOfNat, Int32.reduceOfInt, Int64.reduceLT, Int64.reduceAdd, Int64.reduceSub, Int64.reduceMul, String.reduceEq, reduceCtorEq, room_c, room_s, t0, t1, t2, l0, l1, fin]
    refine kf0_430 (con3 _) ?_
    simp only [c2]
    refine r0 300 ?_
    simp only [↓S0, ↓B0, ↓idx_c, ↓setN_c, ↓idxN_c, ↓reduceIte, B1, List.length_cons, List.length_nil, List.mem_cons, List.not_mem_nil, or_false, true_or, or_true, true_and, and_true, and_self, not_true_eq_false, not_false_eq_true, eq_self, ne_eq, Nat.zero_le, Nat.le_refl, Nat.reduceAdd, Nat.reduceSub, Nat.reduceEqDiff, Nat.reduceLeDiff, Int32.reduceLT, Int32.reduceLE, Int32.reduceAdd, Int32.reduceSub, Int32.reduceMul, Int32.reduceToNatClampNeg, Int32.reduceOfNat, Int32.reduceOfInt, Int64.reduceLT, Int64.reduceAdd, Int64.reduceSub, Int64.reduceMul, String.reduceEq, reduceCtorEq, room_c, room_s, t0, t1, t2, l0, l1, fin]
  · have h1 : ¬ c < 128 := by rw [Int32.lt_iff_toInt_lt]; omega
    have h2 : ¬ c < 2048 := by rw [Int32.lt_iff_toInt_lt]; omega
    have h3 : ¬ c < 65536 := by rw [Int32.lt_iff_toInt_lt]; omega
    obtain ⟨x0, x1, x2, x3, t0, t1, t2, t3, l0, l1, c1, c2, c3, fin⟩ := facts_4 c (by omega) (by omega)
    simp only [↓S0, ↓B0, ↓idx_c, ↓setN_c, ↓idxN_c, ↓reduceIte, B1, List.length_cons, List.length_nil, List.mem_cons, List.not_mem_nil, or_false, true_or, or_true, true_and, and_true, and_self, not_true_eq_false, not_false_eq_true, eq_self, ne_eq, Nat.zero_le, Nat.le_refl, Nat.reduceAdd, Nat.reduceSub, Nat.reduceEqDiff, Nat.reduceLeDiff, Int32.reduceLT, Int32.reduceLE, Int32.reduceAdd, Int32.reduceSub, Int32.reduceMul, Int32.reduceToNatClampNeg, Int32.reduceOfNat, Int32.reduceOfInt, Int64.reduceLT, Int64.reduceAdd, Int64.reduceSub, Int64.reduceMul, String.reduceEq, reduceCtorEq, room_c, room_s, hv]
    refine kf0_82 (con1_2_4 (nar .byte i2) c h1 h2 h3) (r0 300 ?_)
    simp only [↓S0, ↓B0, ↓idx_c, ↓setN_c, ↓idxN_c, ↓reduceIte, B1, List.length_cons, List.length_nil, List.mem_cons, List.not_mem_nil, or_false, true_or, or_true, true_and, and_true, and_self, not_true_eq_false, not_false_eq_true, eq_self, ne_eq, Nat.zero_le, Nat.le_refl, Nat.reduceAdd, Nat.reduceSub, Nat.reduceEqDiff, Nat.reduceLeDiff, Int32.reduceLT, Int32.reduceLE, Int32.reduceAdd, Int32.reduceSub, Int32.reduceMul, Int32.reduceToNatClampNeg, Int32.reduceOfNat, Int32.reduceOfInt, Int64.reduceLT, Int64.reduceAdd, Int64.reduceSub, Int64.reduceMul, String.reduceEq, reduceCtorEq, room_c, room_s, h1, h2, h3]
    refine kf0_147 (con2 _ 0 _ _ _ _ rfl (by decide)) ?_
    simp only [↓B0, ↓idx_c, ↓setN_c, ↓idxN_c, ↓reduceIte, B1, List.length_cons, List.length_nil, List.mem_cons, List.not_mem_nil, or_false, true_or, or_true, true_and, and_true, and_self, not_true_eq_false, not_false_eq_true, eq_self, ne_eq, Nat.zero_le, Nat.le_refl, Nat.reduceAdd, Nat.reduceSub, Nat.reduceEqDiff, Nat.reduceLeDiff, Int32.reduceLT, Int32.reduceLE, Int32.reduceAdd, Int32.reduceSub, Int32.reduceMul, Int32.reduceToNatClampNeg, Int32.reduceOfNat, Int32.reduceOfInt, Int64.reduceLT, Int64.reduceAdd, Int64.reduceSub, Int64.reduceMul, String.reduceEq, reduceCtorEq, room_c, room_s, kp]
    refine r0 300 ?_
    simp only [↓S0, ↓B0, ↓idx_c, ↓setN_c, ↓idxN_c, ↓reduceIte, B1, List.length_cons, List.length_nil, List.mem_cons, List.not_mem_nil, or_false, true_or, or_true, true_and, and_true, and_self, not_true_eq_false, not_false_eq_true, eq_self, ne_eq, Nat.zero_le, Nat.le_refl, Nat.reduceAdd, Nat.reduceSub, Nat.reduceEqDiff, Nat.reduceLeDiff, Int32.reduceLT, Int32.reduceLE, Int32.reduceAdd, Int32.reduceSub, Int32.reduceMul, Int32.reduceToNatClampNeg, Int32.reduceOfNat, Int32.reduceOfInt, Int64.reduceLT, Int64.reduceAdd, Int64.reduceSub, Int64.reduceMul, String.reduceEq, reduceCtorEq, room_c, room_s]
    refine kf0_162 (con2 _ 1 _ _ _ _ rfl (by decide)) ?_
    simp only [↓B0, ↓idx_c, ↓setN_c, ↓idxN_c, ↓reduceIte, B1, List.length_cons, List.length_nil, List.mem_cons, List.not_mem_nil, or_false, true_or, or_true, true_and, and_true, and_self, not_true_eq_false, not_false_eq_true, eq_self, ne_eq, Nat.zero_le, Nat.le_refl, Nat.reduceAdd, Nat.reduceSub, Nat.reduceEqDiff, Nat.reduceLeDiff, Int32.reduceLT, Int32.reduceLE, Int32.reduceAdd, Int32.reduceSub, Int32.reduceMul, Int32.reduceToNatClampNeg, Int32.reduceOfNat, Int32.reduceOfInt, Int64.reduceLT, Int64.reduceAdd, Int64.reduceSub, Int64.reduceMul, String.reduceEq, reduceCtorEq, room_c, room_s, kp]
    refine r0 300 ?_
    simp only [↓S0, ↓B0, ↓idx_c, ↓setN_c, ↓idxN_c, ↓reduceIte, B1, List.length_cons, List.length_nil, List.mem_cons, List.not_mem_nil, or_false, true_or, or_true, true_and, and_true, and_self, not_true_eq_false, not_false_eq_true, eq_self, ne_eq, Nat.zero_le, Nat.le_refl, Nat.reduceAdd, Nat.reduceSub, Nat.reduceEqDiff, Nat.reduceLeDiff, Int32.reduceLT, Int32.reduceLE, Int32.reduceAdd, Int32.reduceSub, Int32.reduceMul, Int32.reduceToNatClampNeg, Int32.reduceOfNat, Int32.reduceOfInt, Int64.reduceLT, Int64.reduceAdd, Int64.reduceSub, Int64.reduceMul, String.reduceEq, reduceCtorEq, room_c, room_s]
    refine kf0_177 (con2 _ 2 _ _ _ _ rfl (by decide)) ?_
    simp only [↓B0, ↓idx_c, ↓setN_c, ↓idxN_c, ↓reduceIte, B1, List.length_cons, List.length_nil, List.mem_cons, List.not_mem_nil, or_false, true_or, or_true, true_and, and_true, and_self, not_true_eq_false, not_false_eq_true, eq_self, ne_eq, Nat.zero_le, Nat.le_refl, Nat.reduceAdd, Nat.reduceSub, Nat.reduceEqDiff, Nat.reduceLeDiff, Int32.reduceLT, Int32.reduceLE, Int32.reduceAdd, Int32.reduceSub, Int32.reduceMul, Int32.reduceToNatClampNeg, Int32.reduceOfNat, Int32.reduceOfInt, Int64.reduceLT, Int64.reduceAdd, Int64.reduceSub, Int64.reduceMul, String.reduceEq, reduceCtorEq, room_c, room_s, kp]
    refine r0 300 ?_
    simp only [↓S0, ↓B0, ↓idx_c, ↓setN_c, ↓idxN_c, ↓reduceIte, B1, List.length_cons, List.length_nil, List.mem_cons, List.not_mem_nil, or_false, true_or, or_true, true_and, and_true, and_self, not_true_eq_false, not_false_eq_true, eq_self, ne_eq, Nat.zero_le, Nat.le_refl, Nat.reduceAdd, Nat.reduceSub, Nat.reduceEqDiff, Nat.reduceLeDiff, Int32.reduceLT, Int32.reduceLE, Int32.reduceAdd, Int32.reduceSub, Int32.reduceMul, Int32.reduceToNatClampNeg, Int32.reduceOfNat, Int32.reduceOfInt, Int64.reduceLT, Int64.reduceAdd, Int64.reduceSub, Int64.reduceMul, String.reduceEq, reduceCtorEq, room_c, room_s]
    refine kf0_192 (con2 _ 3 _ _ _ _ rfl (by decide)) ?_
    simp only [↓B0, ↓idx_c, ↓setN_c, ↓idxN_c, ↓reduceIte, B1, List.length_cons, List.length_nil, List.mem_cons, List.not_mem_nil, or_false, true_or, or_true, true_and, and_true, and_self, not_true_eq_false, not_false_eq_true, eq_self, ne_eq, Nat.zero_le, Nat.le_refl, Nat.reduceAdd, Nat.reduceSub, Nat.reduceEqDiff, Nat.reduceLeDiff, Int32.reduceLT, Int32.reduceLE, Int32.reduceAdd, Int32.reduceSub, Int32.reduceMul, Int32.reduceToNatClampNeg, Int32.reduceOfNat, Int32.reduceOfInt, Int64.reduceLT, Int64.reduceAdd, Int64.reduceSub, Int64.reduceMul, String.reduceEq, reduceCtorEq, room_c, room_s, kp]
    refine r0 300 ?_
    simp only [↓S0, ↓B0, ↓idx_c, ↓setN_c, ↓idxN_c, ↓reduceIte, B1, List.length_cons, List.length_nil, List.mem_cons, List.not_mem_nil, or_false, true_or, or_true, true_and, and_true, and_self, not_true_eq_false, not_false_eq_true, eq_self, ne_eq, Nat.zero_le, Nat.le_refl, Nat.reduceAdd, Nat.reduceSub, Nat.reduceEqDiff, Nat.reduceLeDiff, Int32.reduceLT, Int32.reduceLE, Int32.reduceAdd, Int32.reduceSub, Int32.reduceMul, Int32.reduceToNatClampNeg, Int32.reduceOfNat, Int32.reduceOfInt, Int64.reduceLT, Int64.reduceAdd, Int64.reduceSub, Int64.reduceMul, String.reduceEq, reduceCtorEq, room_c, room_s]
    refine kf0_207 (con2 _ 4 _ _ _ _ rfl (by decide)) ?_
    simp only [↓B0, ↓idx_c, ↓setN_c, ↓idxN_c, ↓reduceIte, B1, List.length_cons, List.length_nil, List.mem_cons, List.not_mem_nil, or_false, true_or, or_true, true_and, and_true, and_self, not_true_eq_false, not_false_eq_true, eq_self, ne_eq, Nat.zero_le, Nat.le_refl, Nat.reduceAdd, Nat.reduceSub, Nat.reduceEqDiff, Nat.reduceLeDiff, Int32.reduceLT, Int32.reduceLE, Int32.reduceAdd, Int32.reduceSub, Int32.reduceMul, Int32.reduceToNatClampNeg, Int32.reduceOfNat, Int32.reduceOfInt, Int64.reduceLT, Int64.reduceAdd, Int64.reduceSub, Int64.reduceMul, String.reduceEq, reduceCtorEq, room_c, room_s, kp]
    refine r0 300 ?_
    simp only [↓S0, ↓B0, ↓idx_c, ↓setN_c, ↓idxN_c, ↓reduceIte, B1, List.length_cons, List.length_nil, List.mem_cons, List.not_mem_nil, or_false, true_or, or_true, true_and, and_true, and_self, not_true_eq_false, not_false_eq_true, eq_self, ne_eq, Nat.zero_le, Nat.le_refl, Nat.reduceAdd, Nat.reduceSub, Nat.reduceEqDiff, Nat.reduceLeDiff, Int32.reduceLT, Int32.reduceLE, Int32.reduceAdd, Int32.reduceSub, Int32.reduceMul, Int32.reduceToNatClampNeg, Int32.reduceOfNat, Int32.reduceOfInt, Int64.reduceLT, Int64.reduceAdd, Int64.reduceSub, Int64.reduceMul, String.reduceEq, reduceCtorEq, room_c, room_s]
    refine kf0_222 (con2 _ 5 _ _ _ _ rfl (by decide)) ?_
    simp only [↓B0, ↓idx_c, ↓setN_c, ↓idxN_c, ↓reduceIte, B1, List.length_cons, List.length_nil, List.mem_cons, List.not_mem_nil, or_false, true_or, or_true, true_and, and_true, and_self, not_true_eq_false, not_false_eq_true, eq_self, ne_eq, Nat.zero_le, Nat.le_refl, Nat.reduceAdd, Nat.reduceSub, Nat.reduceEqDiff, Nat.reduceLeDiff, Int32.reduceLT, Int32.reduceLE, Int32.reduceAdd, Int32.reduceSub, Int32.reduceMul, Int32.reduceToNatClampNeg, Int32.reduceOfNat, Int32.reduceOfInt, Int64.reduceLT, Int64.reduceAdd, Int64.reduceSub, Int64.reduceMul, String.reduceEq, reduceCtorEq, room_c, room_s, kp]
    refine r0 300 ?_
    simp only [↓S0, ↓B0, ↓idx_c, ↓setN_c, ↓idxN_c, ↓reduceIte, B1, List.length_cons, List.length_nil, List.mem_cons, List.not_mem_nil, or_false, true_or, or_true, true_and, and_true, and_self, not_true_eq_false, not_false_eq_true, eq_self, ne_eq, Nat.zero_le, Nat.le_refl, Nat.reduceAdd, Nat.reduceSub, Nat.reduceEqDiff, Nat.reduceLeDiff, Int32.reduceLT, Int32.reduceLE, Int32.reduceAdd, Int32.reduceSub, Int32.reduceMul, Int32.reduceToNatClampNeg, Int32.reduceOfNat, Int32.reduceOfInt, Int64.reduceLT, Int64.reduceAdd, Int64.reduceSub, Int64.reduceMul, String.reduceEq, reduceCtorEq, room_c, room_s]
    refine kf0_238 (con2 _ 6 _ _ _ _ rfl (by decide)) ?_
    simp only [↓B0, ↓idx_c, ↓setN_c, ↓idxN_c, ↓reduceIte, B1, List.length_cons, List.length_nil, List.mem_cons, List.not_mem_nil, or_false, true_or, or_true, true_and, and_true, and_self, not_true_eq_false, not_false_eq_true, eq_self, ne_eq, Nat.zero_le, Nat.le_refl, Nat.reduceAdd, Nat.reduceSub, Nat.reduceEqDiff, Nat.reduceLeDiff, Int32.reduceLT, Int32.reduceLE, Int32.reduceAdd, Int32.reduceSub, Int32.reduceMul, Int32.reduceToNatClampNeg, Int32.reduceOfNat, Int32.reduceOfInt, Int64.reduceLT, Int64.reduceAdd, Int64.reduceSub, Int64.reduceMul, String.reduceEq, reduceCtorEq, room_c, room_s, kp]
    refine r0 300 ?_
    simp only [↓S0, ↓B0, ↓idx_c, ↓setN_c, ↓idxN_c, ↓reduceIte, B1, List.length_cons, List.length_nil, List.mem_cons, List.not_mem_nil, or_false, true_or, or_true, true_and, and_true, and_self, not_true_eq_false, not_false_eq_true, eq_self, ne_eq, Nat.zero_le, Nat.le_refl, Nat.reduceAdd, Nat.reduceSub, Nat.reduceEqDiff, Nat.reduceLeDiff, Int32.reduceLT, Int32.reduceLE, Int32.reduceAdd, Int32.reduceSub, Int32.reduceMul, Int32.reduceToNatClampNeg, Int32.reduceOfNat, Int32.reduceOfInt, Int64.reduceLT, Int64.reduceAdd, Int64.reduceSub, Int64.reduceMul, String.reduceEq, reduceCtorEq, room_c, room_s]
    refine kf0_254 (con2 _ 7 _ _ _ _ rfl (by decide)) ?_
    simp only [↓B0, ↓idx_c, ↓setN_c, ↓idxN_c, ↓reduceIte, B1, List.length_cons, List.length_nil, List.mem_cons, List.not_mem_nil, or_false, true_or, or_true, true_and, and_true, and_self, not_true_eq_false, not_false_eq_true, eq_self, ne_eq, Nat.zero_le, Nat.le_refl, Nat.reduceAdd, Nat.reduceSub, Nat.reduceEqDiff, Nat.reduceLeDiff, Int32.reduceLT, Int32.reduceLE, Int32.reduceAdd, Int32.reduceSub, Int32.reduceMul, Int32.reduceToNatClampNeg, Int32.reduceOfNat, Int32.reduceOfInt, Int64.reduceLT, Int64.reduceAdd, Int64.reduceSub, Int64.reduceMul, String.reduceEq, reduceCtorEq, room_c, room_s, kp]
    refine r0 300 ?_
    simp only [↓S0, ↓B0, ↓idx_c, ↓setN_c, ↓idxN_c, ↓reduceIte, B1, List.length_cons, List.length_nil, List.mem_cons, List.not_mem_nil, or_false, true_or, or_true, true_and, and_true, and_self, not_true_eq_false, not_false_eq_true, eq_self, ne_eq, Nat.zero_le, Nat.le_refl, Nat.reduceAdd, Nat.reduceSub, Nat.reduceEqDiff, Nat.reduceLeDiff, Int32.reduceLT, Int32.reduceLE, Int32.reduceAdd, Int32.reduceSub, Int32.reduceMul, Int32.reduceToNatClampNeg, Int32.reduceOfNat, Int32.reduceOfInt, Int64.reduceLT, Int64.reduceAdd, Int64.reduceSub, Int64.reduceMul, String.reduceEq, reduceCtorEq, room_c, room_s, t0, t1, t2, t3, l0, l1, fin]
    refine kf0_491 (con3 _) ?_
    simp only [c1]
    refine r0 300 ?_
    simp only [↓S0, ↓B0, ↓idx_c, ↓setN_c, ↓idxN_c, ↓reduceIte, B1, List.length_cons, List.length_nil, List.mem_cons, List.not_mem_nil, or_false, true_or, or_true, true_and, and_true, and_self, not_true_eq_false, not_false_eq_true, eq_self, ne_eq, Nat.zero_le, Nat.le_refl, Nat.reduceAdd, Nat.reduceSub, Nat.reduceEqDiff, Nat.reduceLeDiff, Int32.reduceLT, Int32.reduceLE, Int32.reduceAdd, Int32.reduceSub, Int32.reduceMul, Int32.reduceToNatClampNeg, Int32.reduceOfNat, Int32.reduceOfInt, Int64.reduceLT, Int64.reduceAdd, Int64.reduceSub, Int64.reduceMul, String.reduceEq, reduceCtorEq, room_c, room_s, t0, t1, t2, t3, l0, l1, fin]
    refine kf0_499 (con3 _) ?_
    simp only [c2]
    refine r0 300 ?_
    simp only [↓S0, ↓B0, ↓idx_c, ↓setN_c, ↓idxN_c, ↓reduceIte, B1, List.length_cons, List.length_nil, List.mem_cons, List.not_mem_nil, or_false, true_or, or_true, true_and, and_true, and_self, not_true_eq_false, not_false_eq_true, eq_self, ne_eq, Nat.zero_le, Nat.le_refl, Nat.reduceAdd, Nat.reduceSub, Nat.reduceEqDiff, Nat.reduceLeDiff, Int32.reduceLT, Int32.reduceLE, Int32.reduceAdd, Int32.reduceSub, Int32.reduceMul, Int32.reduceToNatClampNeg, Int32.reduceOfNat, Int32.reduceOfInt, Int64.reduceLT, Int64.reduceAdd, Int64.reduceSub, Int64.reduceMul, String.reduceEq, reduceCtorEq, room_c, room_s, t0, t1, t2, t3, l0, l1, fin]
    refine kf0_507 (con3 _) ?_
    simp only [c3]
    refine r0 300 ?_
    simp only [↓S0, ↓B0, ↓idx_c, ↓setN_c, ↓idxN_c, ↓reduceIte, B1, List.length_cons, List.length_nil, List.mem_cons, List.not_mem_nil, or_false, true_or, or_true, true_and, and_true, and_self, not_true_eq_false, not_false_eq_true, eq_self, ne_eq, Nat.zero_le, Nat.le_refl, Nat.reduceAdd, Nat.reduceSub, Nat.reduceEqDiff, Nat.reduceLeDiff, Int32.reduceLT, Int32.reduceLE, Int32.reduceAdd, Int32.reduceSub, Int32.reduceMul, Int32.reduceToNatClampNeg, Int32.reduceOfNat, Int32.reduceOfInt, Int64.reduceLT, Int64.reduceAdd, Int64.reduceSub, Int64.reduceMul, String.reduceEq, reduceCtorEq, room_c, room_s, t0, t1, t2, t3, l0, l1, fin]
  · have h1 : c < 128 := by rw [Int32.lt_iff_toInt_lt]; omega
    have t0 := facts_1 c (by omega) (by omega)
    simp only [↓S0, ↓B0, ↓idx_c, ↓setN_c, ↓idxN_c, ↓reduceIte, B1, List.length_cons, List.length_nil, List.mem_cons, List.not_mem_nil, or_false, true_or, or_true, true_and, and_true, and_self, not_true_eq_false, not_false_eq_true, eq_self, ne_eq, Nat.zero_le, Nat.le_refl, Nat.reduceAdd, Nat.reduceSub, Nat.reduceEqDiff, Nat.reduceLeDiff, Int32.reduceLT, Int32.reduceLE, Int32.reduceAdd, Int32.reduceSub, Int32.reduceMul, Int32.reduceToNatClampNeg, Int32.reduceOfNat, Int32.reduceOfInt, Int64.reduceLT, Int64.reduceAdd, Int64.reduceSub, Int64.reduceMul, String.reduceEq, reduceCtorEq, room_c, room_s, hv]
    refine kf0_82 (con1_3_1 (nar .byte i2) c h1) (r0 300 ?_)
    simp only [↓S0, ↓B0, ↓idx_c, ↓setN_c, ↓idxN_c, ↓reduceIte, B1, List.length_cons, List.length_nil, List.mem_cons, List.not_mem_nil, or_false, true_or, or_true, true_and, and_true, and_self, not_true_eq_false, not_false_eq_true, eq_self, ne_eq, Nat.zero_le, Nat.le_refl, Nat.reduceAdd, Nat.reduceSub, Nat.reduceEqDiff, Nat.reduceLeDiff, Int32.reduceLT, Int32.reduceLE, Int32.reduceAdd, Int32.reduceSub, Int32.reduceMul, Int32.reduceToNatClampNeg, Int32.reduceOfNat, Int32.reduceOfInt, Int64.reduceLT, Int64.reduceAdd, Int64.reduceSub, Int64.reduceMul, String.reduceEq, reduceCtorEq, room_c, room_s, h1]
    refine kf0_147 (con2 _ 0 _ _ _ _ rfl (by decide)) ?_
    simp only [↓B0, ↓idx_c, ↓setN_c, ↓idxN_c, ↓reduceIte, B1, List.length_cons, List.length_nil, List.mem_cons, List.not_mem_nil, or_false, true_or, or_true, true_and, and_true, and_self, not_true_eq_false, not_false_eq_true, eq_self, ne_eq, Nat.zero_le, Nat.le_refl, Nat.reduceAdd, Nat.reduceSub, Nat.reduceEqDiff, Nat.reduceLeDiff, Int32.reduceLT, Int32.reduceLE, Int32.reduceAdd, Int32.reduceSub, Int32.reduceMul, Int32.reduceToNatClampNeg, Int32.reduceOfNat, Int32.reduceOfInt, Int64.reduceLT, Int64.reduceAdd, Int64.reduceSub, Int64.reduceMul, String.reduceEq, reduceCtorEq, room_c, room_s, kp]
    refine r0 300 ?_
    simp only [↓S0, ↓B0, ↓idx_c, ↓setN_c, ↓idxN_c, ↓reduceIte, B1, List.length_cons, List.length_nil, List.mem_cons, List.not_mem_nil, or_false, true_or, or_true, true_and, and_true, and_self, not_true_eq_false, not_false_eq_true, eq_self, ne_eq, Nat.zero_le, Nat.le_refl, Nat.reduceAdd, Nat.reduceSub, Nat.reduceEqDiff, Nat.reduceLeDiff, Int32.reduceLT, Int32.reduceLE, Int32.reduceAdd, Int32.reduceSub, Int32.reduceMul, Int32.reduceToNatClampNeg, Int32.reduceOfNat, Int32.reduceOfInt, Int64.reduceLT, Int64.reduceAdd, Int64.reduceSub, Int64.reduceMul, String.reduceEq, reduceCtorEq, room_c, room_s]
    refine kf0_162 (con2 _ 1 _ _ _ _ rfl (by decide)) ?_
    simp only [↓B0, ↓idx_c, ↓setN_c, ↓idxN_c, ↓reduceIte, B1, List.length_cons, List.length_nil, List.mem_cons, List.not_mem_nil, or_false, true_or, or_true, true_and, and_true, and_self, not_true_eq_false, not_false_eq_true, eq_self, ne_eq, Nat.zero_le, Nat.le_refl, Nat.reduceAdd, Nat.reduceSub, Nat.reduceEqDiff, Nat.reduceLeDiff, Int32.reduceLT, Int32.reduceLE, Int32.reduceAdd, Int32.reduceSub, Int32.reduceMul, Int32.reduceToNatClampNeg, Int32.reduceOfNat, Int32.reduceOfInt, Int64.reduceLT, Int64.reduceAdd, Int64.reduceSub, Int64.reduceMul, String.reduceEq, reduceCtorEq, room_c, room_s, kp]
    refine r0 300 ?_
    simp only [↓S0, ↓B0, ↓idx_c, ↓setN_c, ↓idxN_c, ↓reduceIte, B1, List.length_cons, List.length_nil, List.mem_cons, List.not_mem_nil, or_false, true_or, or_true, true_and, and_true, and_self, not_true_eq_false, not_false_eq_true, eq_self, ne_eq, Nat.zero_le, Nat.le_refl, Nat.reduceAdd, Nat.reduceSub, Nat.reduceEqDiff, Nat.reduceLeDiff, Int32.reduceLT, Int32.reduceLE, Int32.reduceAdd, Int32.reduceSub, Int32.reduceMul, Int32.reduceToNatClampNeg, Int32.reduceOfNat, Int32.reduceOfInt, Int64.reduceLT, Int64.reduceAdd, Int64.reduceSub, Int64.reduceMul, String.reduceEq, reduceCtorEq, room_c, room_s]
    refine kf0_177 (con2 _ 2 _ _ _ _ rfl (by decide)) ?_
    simp only [↓B0, ↓idx_c, ↓setN_c, ↓idxN_c, ↓reduceIte, B1, List.length_cons, List.length_nil, List.mem_cons, List.not_mem_nil, or_false, true_or, or_true, true_and, and_true, and_self, not_true_eq_false, not_false_eq_true, eq_self, ne_eq, Nat.zero_le, Nat.le_refl, Nat.reduceAdd, Nat.reduceSub, Nat.reduceEqDiff, Nat.reduceLeDiff, Int32.reduceLT, Int32.reduceLE, Int32.reduceAdd, Int32.reduceSub, Int32.reduceMul, Int32.reduceToNatClampNeg, Int32.reduceOfNat, Int32.reduceOfInt, Int64.reduceLT, Int64.reduceAdd, Int64.reduceSub, Int64.reduceMul, String.reduceEq, reduceCtorEq, room_c, room_s, kp]
    refine r0 300 ?_
    simp only [↓S0, ↓B0, ↓idx_c, ↓setN_c, ↓idxN_c, ↓reduceIte, B1, List.length_cons, List.length_nil, List.mem_cons, List.not_mem_nil, or_false, true_or, or_true, true_and, and_true, and_self, not_true_eq_false, not_false_eq_true, eq_self, ne_eq, Nat.zero_le, Nat.le_refl, Nat.reduceAdd, Nat.reduceSub, Nat.reduceEqDiff, Nat.reduceLeDiff, Int32.reduceLT, Int32.reduceLE, Int32.reduceAdd, Int32.reduceSub, Int32.reduceMul, Int32.reduceToNatClampNeg, Int32.reduceOfNat, Int32.reduceOfInt, Int64.reduceLT, Int64.reduceAdd, Int64.reduceSub, Int64.reduceMul, String.reduceEq, reduceCtorEq, room_c, room_s]
    refine kf0_192 (con2 _ 3 _ _ _ _ rfl (by decide)) ?_
    simp only [↓B0, ↓idx_c, ↓setN_c, ↓idxN_c, ↓reduceIte, B1, List.length_cons, List.length_nil, List.mem_cons, List.not_mem_nil, or_false, true_or, or_true, true_and, and_true, and_self, not_true_eq_false, not_false_eq_true, eq_self, ne_eq, Nat.zero_le, Nat.le_refl, Nat.reduceAdd, Nat.reduceSub, Nat.reduceEqDiff, Nat.reduceLeDiff, Int32.reduceLT, Int32.reduceLE, Int32.reduceAdd, Int32.reduceSub, Int32.reduceMul, Int32.reduceToNatClampNeg, Int32.reduceOfNat, Int32.reduceOfInt, Int64.reduceLT, Int64.reduceAdd, Int64.reduceSub, Int64.reduceMul, String.reduceEq, reduceCtorEq, room_c, room_s, kp]
    refine r0 300 ?_
    simp only [↓S0, ↓B0, ↓idx_c, ↓setN_c, ↓idxN_c, ↓reduceIte, B1, List.length_cons, List.length_nil, List.mem_cons, List.not_mem_nil, or_false, true_or, or_true, true_and, and_true, and_self, not_true_eq_false, not_false_eq_true, eq_self, ne_eq, Nat.zero_le, Nat.le_refl, Nat.reduceAdd, Nat.reduceSub, Nat.reduceEqDiff, Nat.reduceLeDiff, Int32.reduceLT, Int32.reduceLE, Int32.reduceAdd, Int32.reduceSub, Int32.reduceMul, Int32.reduceToNatClampNeg, Int32.reduceOfNat, Int32.reduceOfInt, Int64.reduceLT, Int64.reduceAdd, Int64.reduceSub, Int64.reduceMul, String.reduceEq, reduceCtorEq, room_c, room_s]
    refine kf0_207 (con2 _ 4 _ _ _ _ rfl (by decide)) ?_
    simp only [↓B0, ↓idx_c, ↓setN_c, ↓idxN_c, ↓reduceIte, B1, List.length_cons, List.length_nil, List.mem_cons, List.not_mem_nil, or_false, true_or, or_true, true_and, and_true, and_self, not_true_eq_false, not_false_eq_true, eq_self, ne_eq, Nat.zero_le, Nat.le_refl, Nat.reduceAdd, Nat.reduceSub, Nat.reduceEqDiff, Nat.reduceLeDiff, Int32.reduceLT, Int32.reduceLE, Int32.reduceAdd, Int32.reduceSub, Int32.reduceMul, Int32.reduceToNatClampNeg, Int32.reduceOfNat, Int32.reduceOfInt, Int64.reduceLT, Int64.reduceAdd, Int64.reduceSub, Int64.reduceMul, String.reduceEq, reduceCtorEq, room_c, room_s, kp]
    refine r0 300 ?_
    simp only [↓S0, ↓B0, ↓idx_c, ↓setN_c, ↓idxN_c, ↓reduceIte, B1, List.length_cons, List.length_nil, List.mem_cons, List.not_mem_nil, or_false, true_or, or_true, true_and, and_true, and_self, not_true_eq_false, not_false_eq_true, eq_self, ne_eq, Nat.zero_le, Nat.le_refl, Nat.reduceAdd, Nat.reduceSub, Nat.reduceEqDiff, Nat.reduceLeDiff, Int32.reduceLT, Int32.reduceLE, Int32.reduceAdd, Int32.reduceSub, Int32.reduceMul, Int32.reduceToNatClampNeg, Int32.reduceOfNat, Int32.reduceOfInt, Int64.reduceLT, Int64.reduceAdd, Int64.reduceSub, Int64.reduceMul, String.reduceEq, reduceCtorEq, room_c, room_s]
    refine kf0_222 (con2 _ 5 _ _ _ _ rfl (by decide)) ?_
    simp only [↓B0, ↓idx_c, ↓setN_c, ↓idxN_c, ↓reduceIte, B1, List.length_cons, List.length_nil, List.mem_cons, List.not_mem_nil, or_false, true_or, or_true, true_and, and_true, and_self, not_true_eq_false, not_false_eq_true, eq_self, ne_eq, Nat.zero_le, Nat.le_refl, Nat.reduceAdd, Nat.reduceSub, Nat.reduceEqDiff, Nat.reduceLeDiff, Int32.reduceLT, Int32.reduceLE, Int32.reduceAdd, Int32.reduceSub, Int32.reduceMul, Int32.reduceToNatClampNeg, Int32.reduceOfNat, Int32.reduceOfInt, Int64.reduceLT, Int64.reduceAdd, Int64.reduceSub, Int64.reduceMul, String.reduceEq, reduceCtorEq, room_c, room_s, kp]
    refine r0 300 ?_
    simp only [↓S0, ↓B0, ↓idx_c, ↓setN_c, ↓idxN_c, ↓reduceIte, B1, List.length_cons, List.length_nil, List.mem_cons, List.not_mem_nil, or_false, true_or, or_true, true_and, and_true, and_self, not_true_eq_false, not_false_eq_true, eq_self, ne_eq, Nat.zero_le, Nat.le_refl, Nat.reduceAdd, Nat.reduceSub, Nat.reduceEqDiff, Nat.reduceLeDiff, Int32.reduceLT, Int32.reduceLE, Int32.reduceAdd, Int32.reduceSub, Int32.reduceMul, Int32.reduceToNatClampNeg, Int32.reduceOfNat, Int32.reduceOfInt, Int64.reduceLT, Int64.reduceAdd, Int64.reduceSub, Int64.reduceMul, String.reduceEq, reduceCtorEq, room_c, room_s]
    refine kf0_238 (con2 _ 6 _ _ _ _ rfl (by decide)) ?_
    simp only [↓B0, ↓idx_c, ↓setN_c, ↓idxN_c, ↓reduceIte, B1, List.length_cons, List.length_nil, List.mem_cons, List.not_mem_nil, or_false, true_or, or_true, true_and, and_true, and_self, not_true_eq_false, not_false_eq_true, eq_self, ne_eq, Nat.zero_le, Nat.le_refl, Nat.reduceAdd, Nat.reduceSub, Nat.reduceEqDiff, Nat.reduceLeDiff, Int32.reduceLT, Int32.reduceLE, Int32.reduceAdd, Int32.reduceSub, Int32.reduceMul, Int32.reduceToNatClampNeg, Int32.reduceOfNat, Int32.reduceOfInt, Int64.reduceLT, Int64.reduceAdd, Int64.reduceSub, Int64.reduceMul, String.reduceEq, reduceCtorEq, room_c, room_s, kp]
    refine r0 300 ?_
    simp only [↓S0, ↓B0, ↓idx_c, ↓setN_c, ↓idxN_c, ↓reduceIte, B1, List.length_cons, List.length_nil, List.mem_cons, List.not_mem_nil, or_false, true_or, or_true, true_and, and_true, and_self, not_true_eq_false, not_false_eq_true, eq_self, ne_eq, Nat.zero_le, Nat.le_refl, Nat.reduceAdd, Nat.reduceSub, Nat.reduceEqDiff, Nat.reduceLeDiff, Int32.reduceLT, Int32.reduceLE, Int32.reduceAdd, Int32.reduceSub, Int32.reduceMul, Int32.reduceToNatClampNeg, Int32.reduceOfNat, Int32.reduceOfInt, Int64.reduceLT, Int64.reduceAdd, Int64.reduceSub, Int64.reduceMul, String.reduceEq, reduceCtorEq, room_c, room_s]
    refine kf0_254 (con2 _ 7 _ _ _ _ rfl (by decide)) ?_
    simp only [↓B0, ↓idx_c, ↓setN_c, ↓idxN_c, ↓reduceIte, B1, List.length_cons, List.length_nil, List.mem_cons, List.not_mem_nil, or_false, true_or, or_true, true_and, and_true, and_self, not_true_eq_false, not_false_eq_true, eq_self, ne_eq, Nat.zero_le, Nat.le_refl, Nat.reduceAdd, Nat.reduceSub, Nat.reduceEqDiff, Nat.reduceLeDiff, Int32.reduceLT, Int32.reduceLE, Int32.reduceAdd, Int32.reduceSub, Int32.reduceMul, Int32.reduceToNatClampNeg, Int32.reduceOfNat, Int32.reduceOfInt, Int64.reduceLT, Int64.reduceAdd, Int64.reduceSub, Int64.reduceMul, String.reduceEq, reduceCtorEq, room_c, room_s, kp]
    refine r0 300 ?_
    simp only [↓S0, ↓B0, ↓idx_c, ↓setN_c, ↓idxN_c, ↓reduceIte, B1, List.length_cons, List.length_nil, List.mem_cons, List.not_mem_nil, or_false, true_or, or_true, true_and, and_true, and_self, not_true_eq_false, not_false_eq_true, eq_self, ne_eq, Nat.zero_le, Nat.le_refl, Nat.reduceAdd, Nat.reduceSub, Nat.reduceEqDiff, Nat.reduceLeDiff, Int32.reduceLT, Int32.reduceLE, Int32.reduceAdd, Int32.reduceSub, Int32.reduceMul, Int32.reduceToNatClampNeg, Int32.reduceOfNat, Int32.reduceOfInt, Int64.reduceLT, Int64.reduceAdd, Int64.reduceSub, Int64.reduceMul, String.reduceEq, reduceCtorEq, room_c, room_s, t0]
  · have h1 : ¬ c < 128 := by rw [Int32.lt_iff_toInt_lt]; omega
    have h2 : c < 2048 := by rw [Int32.lt_iff_toInt_lt]; omega
    obtain ⟨x0, x1, t0, t1, l0, l1, c1, fin⟩ := facts_2 c (by omega) (by omega)
    simp only [↓S0, ↓B0, ↓idx_c, ↓setN_c, ↓idxN_c, ↓reduceIte, B1, List.length_cons, List.length_nil, List.mem_cons, List.not_mem_nil, or_false, true_or, or_true, true_and, and_true, and_self, not_true_eq_false, not_false_eq_true, eq_self, ne_eq, Nat.zero_le, Nat.le_refl, Nat.reduceAdd, Nat.reduceSub, Nat.reduceEqDiff, Nat.reduceLeDiff, Int32.reduceLT, Int32.reduceLE, Int32.reduceAdd, Int32.reduceSub, Int32.reduceMul, Int32.reduceToNatClampNeg, Int32.reduceOfNat, Int32.reduceOfInt, Int64.reduceLT, Int64.reduceAdd, Int64.reduceSub, Int64.reduceMul, String.reduceEq, reduceCtorEq, room_c, room_s, hv]
    refine kf0_82 (con1_3_2 (nar .byte i2) c h1 h2) (r0 300 ?_)
    simp only [↓S0, ↓B0, ↓idx_c, ↓setN_c, ↓idxN_c, ↓reduceIte, B1, List.length_cons, List.length_nil, List.mem_cons, List.not_mem_nil, or_false, true_or, or_true, true_and, and_true, and_self, not_true_eq_false, not_false_eq_true, eq_self, ne_eq, Nat.zero_le, Nat.le_refl, Nat.reduceAdd, Nat.reduceSub, Nat.reduceEqDiff, Nat.reduceLeDiff, Int32.reduceLT, Int32.reduceLE, Int32.reduceAdd, Int32.reduceSub, Int32.reduceMul, Int32.reduceToNatClampNeg, Int32.reduceOfNat, Int32.reduceOfInt, Int64.reduceLT, Int64.reduceAdd, Int64.reduceSub, Int64.reduceMul, String.reduceEq, reduceCtorEq, room_c, room_s, h1, h2]
    refine kf0_147 (con2 _ 0 _ _ _ _ rfl (by decide)) ?_
    simp only [↓B0, ↓idx_c, ↓setN_c, ↓idxN_c, ↓reduceIte, B1, List.length_cons, List.length_nil, List.mem_cons, List.not_mem_nil, or_false, true_or, or_true, true_and, and_true, and_self, not_true_eq_false, not_false_eq_true, eq_self, ne_eq, Nat.zero_le, Nat.le_refl, Nat.reduceAdd, Nat.reduceSub, Nat.reduceEqDiff, Nat.reduceLeDiff, Int32.reduceLT, Int32.reduceLE, Int32.reduceAdd, Int32.reduceSub, Int32.reduceMul, Int32.reduceToNatClampNeg, Int32.reduceOfNat, Int32.reduceOfInt, Int64.reduceLT, Int64.reduceAdd, Int64.reduceSub, Int64.reduceMul, String.reduceEq, reduceCtorEq, room_c, room_s, kp]
    refine r0 300 ?_
    simp only [↓S0, ↓B0, ↓idx_c, ↓setN_c, ↓idxN_c, ↓reduceIte, B1, List.length_cons, List.length_nil, List.mem_cons, List.not_mem_nil, or_false, true_or, or_true, true_and, and_true, and_self, not_true_eq_false, not_false_eq_true, eq_self, ne_eq, Nat.zero_le, Nat.le_refl, Nat.reduceAdd, Nat.reduceSub, Nat.reduceEqDiff, Nat.reduceLeDiff, Int32.reduceLT, Int32.reduceLE, Int32.reduceAdd, Int32.reduceSub, Int32.reduceMul, Int32.reduceToNatClampNeg, Int32.reduceOfNat, Int32.reduceOfInt, Int64.reduceLT, Int64.reduceAdd, Int64.reduceSub, Int64.reduceMul, String.reduceEq, reduceCtorEq, room_c, room_s]
    refine kf0_162 (con2 _ 1 _ _ _ _ rfl (by decide)) ?_
    simp only [↓B0, ↓idx_c, ↓setN_c, ↓idxN_c, ↓reduceIte, B1, List.length_cons, List.length_nil, List.mem_cons, List.not_mem_nil, or_false, true_or, or_true, true_and, and_true, and_self, not_true_eq_false, not_false_eq_true, eq_self, ne_eq, Nat.zero_le, Nat.le_refl, Nat.reduceAdd, Nat.reduceSub, Nat.reduceEqDiff, Nat.reduceLeDiff, Int32.reduceLT, Int32.reduceLE, Int32.reduceAdd, Int32.reduceSub, Int32.reduceMul, Int32.reduceToNatClampNeg, Int32.reduceOfNat, Int32.reduceOfInt, Int64.reduceLT, Int64.reduceAdd, Int64.reduceSub, Int64.reduceMul, String.reduceEq, reduceCtorEq, room_c, room_s, kp]
    refine r0 300 ?_
    simp only [↓S0, ↓B0, ↓idx_c, ↓setN_c, ↓idxN_c, ↓reduceIte, B1, List.length_cons, List.length_nil, List.mem_cons, List.not_mem_nil, or_false, true_or, or_true, true_and, and_true, and_self, not_true_eq_false, not_false_eq_true, eq_self, ne_eq, Nat.zero_le, Nat.le_refl, Nat.reduceAdd, Nat.reduceSub, Nat.reduceEqDiff, Nat.reduceLeDiff, Int32.reduceLT, Int32.reduceLE, Int32.reduceAdd, Int32.reduceSub, Int32.reduceMul, Int32.reduceToNatClampNeg, Int32.reduceOfNat, Int32.reduceOfInt, Int64.reduceLT, Int64.reduceAdd, Int64.reduceSub, Int64.reduceMul, String.reduceEq, reduceCtorEq, room_c, room_s]
    refine kf0_177 (con2 _ 2 _ _ _ _ rfl (by decide)) ?_
    simp only [↓B0, ↓idx_c, ↓setN_c, ↓idxN_c, ↓reduceIte, B1, List.length_cons, List.length_nil, List.mem_cons, List.not_mem_nil, or_false, true_or, or_true, true_and, and_true, and_self, not_true_eq_false, not_false_eq_true, eq_self, ne_eq, Nat.zero_le, Nat.le_refl, Nat.reduceAdd, Nat.reduceSub, Nat.reduceEqDiff, Nat.reduceLeDiff, Int32.reduceLT, Int32.reduceLE, Int32.reduceAdd, Int32.reduceSub, Int32.reduceMul, Int32.reduceToNatClampNeg, Int32.reduceOfNat, Int32.reduceOfInt, Int64.reduceLT, Int64.reduceAdd, Int64.reduceSub, Int64.reduceMul, String.reduceEq, reduceCtorEq, room_c, room_s, kp]
    refine r0 300 ?_
    simp only [↓S0, ↓B0, ↓idx_c, ↓setN_c, ↓idxN_c, ↓reduceIte, B1, List.length_cons, List.length_nil, List.mem_cons, List.not_mem_nil, or_false, true_or, or_true, true_and, and_true, and_self, not_true_eq_false, not_false_eq_true, eq_self, ne_eq, Nat.zero_le, Nat.le_refl, Nat.reduceAdd, Nat.reduceSub, Nat.reduceEqDiff, Nat.reduceLeDiff, Int32.reduceLT, Int32.reduceLE, Int32.reduceAdd, Int32.reduceSub, Int32.reduceMul, Int32.reduceToNatClampNeg, Int32.reduceOfNat, Int32.reduceOfInt, Int64.reduceLT, Int64.reduceAdd, Int64.reduceSub, Int64.reduceMul, String.reduceEq, reduceCtorEq, room_c, room_s]
    refine kf0_192 (con2 _ 3 _ _ _ _ rfl (by decide)) ?_
    simp only [↓B0, ↓idx_c, ↓setN_c, ↓idxN_c, ↓reduceIte, B1, List.length_cons, List.length_nil, List.mem_cons, List.not_mem_nil, or_false, true_or, or_true, true_and, and_true, and_self, not_true_eq_false, not_false_eq_true, eq_self, ne_eq, Nat.zero_le, Nat.le_refl, Nat.reduceAdd, Nat.reduceSub, Nat.reduceEqDiff, Nat.reduceLeDiff, Int32.reduceLT, Int32.reduceLE, Int32.reduceAdd, Int32.reduceSub, Int32.reduceMul, Int32.reduceToNatClampNeg, Int32.reduceOfNat, Int32.reduceOfInt, Int64.reduceLT, Int64.reduceAdd, Int64.reduceSub, Int64.reduceMul, String.reduceEq, reduceCtorEq, room_c, room_s, kp]
    refine r0 300 ?_
    simp only [↓S0, ↓B0, ↓idx_c, ↓setN_c, ↓idxN_c, ↓reduceIte, B1, List.length_cons, List.length_nil, List.mem_cons, List.not_mem_nil, or_false, true_or, or_true, true_and, and_true, and_self, not_true_eq_false, not_false_eq_true, eq_self, ne_eq, Nat.zero_le, Nat.le_refl, Nat.reduceAdd, Nat.reduceSub, Nat.reduceEqDiff, Nat.reduceLeDiff, Int32.reduceLT, Int32.reduceLE, Int32.reduceAdd, Int32.reduceSub, Int32.reduceMul, Int32.reduceToNatClampNeg, Int32.reduceOfNat, Int32.reduceOfInt, Int64.reduceLT, Int64.reduceAdd, Int64.reduceSub, Int64.reduceMul, String.reduceEq, reduceCtorEq, room_c, room_s]
    refine kf0_207 (con2 _ 4 _ _ _ _ rfl (by decide)) ?_
    simp only [↓B0, ↓idx_c, ↓setN_c, ↓idxN_c, ↓reduceIte, B1, List.length_cons, List.length_nil, List.mem_cons, List.not_mem_nil, or_false, true_or, or_true, true_and, and_true, and_self, not_true_eq_false, not_false_eq_true, eq_self, ne_eq, Nat.zero_le, Nat.le_refl, Nat.reduceAdd, Nat.reduceSub, Nat.reduceEqDiff, Nat.reduceLeDiff, Int32.reduceLT, Int32.reduceLE, Int32.reduceAdd, Int32.reduceSub, Int32.reduceMul, Int32.reduceToNatClampNeg, Int32.reduceOfNat, Int32.reduceOfInt, Int64.reduceLT, Int64.reduceAdd, Int64.reduceSub, Int64.reduceMul, String.reduceEq, reduceCtorEq, room_c, room_s, kp]
    refine r0 300 ?_
    simp only [↓S0, ↓B0, ↓idx_c, ↓setN_c, ↓idxN_c, ↓reduceIte, B1, List.length_cons, List.length_nil, List.mem_cons, List.not_mem_nil, or_false, true_or, or_true, true_and, and_true, and_self, not_true_eq_false, not_false_eq_true, eq_self, ne_eq, Nat.zero_le, Nat.le_refl, Nat.reduceAdd, Nat.reduceSub, Nat.reduceEqDiff, Nat.reduceLeDiff, Int32.reduceLT, Int32.reduceLE, Int32.reduceAdd, Int32.reduceSub, Int32.reduceMul, Int32.reduceToNatClampNeg, Int32.reduceOfNat, Int32.reduceOfInt, Int64.reduceLT, Int64.reduceAdd, Int64.reduceSub, Int64.reduceMul, String.reduceEq, reduceCtorEq, room_c, room_s]
    refine kf0_222 (con2 _ 5 _ _ _ _ rfl (by decide)) ?_
    simp only [↓B0, ↓idx_c, ↓setN_c, ↓idxN_c, ↓reduceIte, B1, List.length_cons, List.length_nil, List.mem_cons, List.not_mem_nil, or_false, true_or, or_true, true_and, and_true, and_self, not_true_eq_false, not_false_eq_true, eq_self, ne_eq, Nat.zero_le, Nat.le_refl, Nat.reduceAdd, Nat.reduceSub, Nat.reduceEqDiff, Nat.reduceLeDiff, Int32.reduceLT, Int32.reduceLE, Int32.reduceAdd, Int32.reduceSub, Int32.reduceMul, Int32.reduceToNatClampNeg, Int32.reduceOfNat, Int32.reduceOfInt, Int64.reduceLT, Int64.reduceAdd, Int64.reduceSub, Int64.reduceMul, String.reduceEq, reduceCtorEq, room_c, room_s, kp]
    refine r0 300 ?_
    simp only [↓S0, ↓B0, ↓idx_c, ↓setN_c, ↓idxN_c, ↓reduceIte, B1, List.length_cons, List.length_nil, List.mem_cons, List.not_mem_nil, or_false, true_or, or_true, true_and, and_true, and_self, not_true_eq_false, not_false_eq_true, eq_self, ne_eq, Nat.zero_le, Nat.le_refl, Nat.reduceAdd, Nat.reduceSub, Nat.reduceEqDiff, Nat.reduceLeDiff, Int32.reduceLT, Int32.reduceLE, Int32.reduceAdd, Int32.reduceSub, Int32.reduceMul, Int32.reduceToNatClampNeg, Int32.reduceOfNat, Int32.reduceOfInt, Int64.reduceLT, Int64.reduceAdd, Int64.reduceSub, Int64.reduceMul, String.reduceEq, reduceCtorEq, room_c, room_s]
    refine kf0_238 (con2 _ 6 _ _ _ _ rfl (by decide)) ?_
    simp only [↓B0, ↓idx_c, ↓setN_c, ↓idxN_c, ↓reduceIte, B1, List.length_cons, List.length_nil, List.mem_cons, List.not_mem_nil, or_false, true_or, or_true, true_and, and_true, and_self, not_true_eq_false, not_false_eq_true, eq_self, ne_eq, Nat.zero_le, Nat.le_refl, Nat.reduceAdd, Nat.reduceSub, Nat.reduceEqDiff, Nat.reduceLeDiff, Int32.reduceLT, Int32.reduceLE, Int32.reduceAdd, Int32.reduceSub, Int32.reduceMul, Int32.reduceToNatClampNeg, Int32.reduceOfNat, Int32.reduceOfInt, Int64.reduceLT, Int64.reduceAdd, Int64.reduceSub, Int64.reduceMul, String.reduceEq, reduceCtorEq, room_c, room_s, kp]
    refine r0 300 ?_
    simp only [↓S0, ↓B0, ↓idx_c, ↓setN_c, ↓idxN_c, ↓reduceIte, B1, List.length_cons, List.length_nil, List.mem_cons, List.not_mem_nil, or_false, true_or, or_true, true_and, and_true, and_self, not_true_eq_false, not_false_eq_true, eq_self, ne_eq, Nat.zero_le, Nat.le_refl, Nat.reduceAdd, Nat.reduceSub, Nat.reduceEqDiff, Nat.reduceLeDiff, Int32.reduceLT, Int32.reduceLE, Int32.reduceAdd, Int32.reduceSub, Int32.reduceMul, Int32.reduceToNatClampNeg, Int32.reduceOfNat, Int32.reduceOfInt, Int64.reduceLT, Int64.reduceAdd, Int64.reduceSub, Int64.reduceMul, String.reduceEq, reduceCtorEq, room_c, room_s]
    refine kf0_254 (con2 _ 7 _ _ _ _ rfl (by decide)) ?_
    simp only [↓B0, ↓idx_c, ↓setN_c, ↓idxN_c, ↓reduceIte, B1, List.length_cons, List.length_nil, List.mem_cons, List.not_mem_nil, or_false, true_or, or_true, true_and, and_true, and_self, not_true_eq_false, not_false_eq_true, eq_self, ne_eq, Nat.zero_le, Nat.le_refl, Nat.reduceAdd, Nat.reduceSub, Nat.reduceEqDiff, Nat.reduceLeDiff, Int32.reduceLT, Int32.reduceLE, Int32.reduceAdd, Int32.reduceSub, Int32.reduceMul, Int32.reduceToNatClampNeg, Int32.reduceOfNat, Int32.reduceOfInt, Int64.reduceLT, Int64.reduceAdd, Int64.reduceSub, Int64.reduceMul, String.reduceEq, reduceCtorEq, room_c, room_s, kp]
    refine r0 300 ?_
    simp only [↓S0, ↓B0, ↓idx_c, ↓setN_c, ↓idxN_c, ↓reduceIte, B1, List.length_cons, List.length_nil, List.mem_cons, List.not_mem_nil, or_false, true_or, or_true, true_and, and_true, and_self, not_true_eq_false, not_false_eq_true, eq_self, ne_eq, Nat.zero_le, Nat.le_refl, Nat.reduceAdd, Nat.reduceSub, Nat.reduceEqDiff, Nat.reduceLeDiff, Int32.reduceLT, Int32.reduceLE, Int32.reduceAdd, Int32.reduceSub, Int32.reduceMul, Int32.reduceToNatClampNeg, Int32.reduceOfNat, Int32.reduceOfInt, Int64.reduceLT, Int64.reduceAdd, Int64.reduceSub, Int64.reduceMul, String.reduceEq, reduceCtorEq, room_c, room_s, t0, t1, l0, l1, fin]
    refine kf0_366 (con3 _) ?_
    simp only [c1]
    refine r0 300 ?_
    simp only [↓S0, ↓B0, ↓idx_c, ↓setN_c, ↓idxN_c, ↓reduceIte, B1, List.length_cons, List.length_nil, List.mem_cons, List.not_mem_nil, or_false, true_or, or_true, true_and, and_true, and_self, not_true_eq_false, not_false_eq_true, eq_self, ne_eq, Nat.zero_le, Nat.le_refl, Nat.reduceAdd, Nat.reduceSub, Nat.reduceEqDiff, Nat.reduceLeDiff, Int32.reduceLT, Int32.reduceLE, Int32.reduceAdd, Int32.reduceSub, Int32.reduceMul, Int32.reduceToNatClampNeg, Int32.reduceOfNat, Int32.reduceOfInt, Int64.reduceLT, Int64.reduceAdd, Int64.reduceSub, Int64.reduceMul, String.reduceEq, reduceCtorEq, room_c, room_s, t0, t1, l0, l1, fin]
  · have h1 : ¬ c < 128 := by rw [Int32.lt_iff_toInt_lt]; omega
    have h2 : ¬ c < 2048 := by rw [Int32.lt_iff_toInt_lt]; omega
    have h3 : c < 65536 := by rw [Int32.lt_iff_toInt_lt]; omega
    obtain ⟨x0, x1, x2, t0, t1, t2, l0, l1, c1, c2, fin⟩ := facts_3 c (by omega) (by omega)
    simp only [↓S0, ↓B0, ↓idx_c, ↓setN_c, ↓idxN_c, ↓reduceIte, B1, List.length_cons, List.length_nil, List.mem_cons, List.not_mem_nil, or_false, true_or, or_true, true_and, and_true, and_self, not_true_eq_false, not_false_eq_true, eq_self, ne_eq, Nat.zero_le, Nat.le_refl, Nat.reduceAdd, Nat.reduceSub, Nat.reduceEqDiff, Nat.reduceLeDiff, Int32.reduceLT, Int32.reduceLE, Int32.reduceAdd, Int32.reduceSub, Int32.reduceMul, Int32.reduceToNatClampNeg, Int32.reduceOfNat, Int32.reduceOfInt, Int64.reduceLT, Int64.reduceAdd, Int64.reduceSub, Int64.reduceMul, String.reduceEq, reduceCtorEq, room_c, room_s, hv]
    refine kf0_82 (con1_3_3 (nar .byte i2) c h1 h2 h3) (r0 300 ?_)
    simp only [↓S0, ↓B0, ↓idx_c, ↓setN_c, ↓idxN_c, ↓reduceIte, B1, List.length_cons, List.length_nil, List.mem_cons, List.not_mem_nil, or_false, true_or, or_true, true_and, and_true, and_self, not_true_eq_false, not_false_eq_true, eq_self, ne_eq, Nat.zero_le, Nat.le_refl, Nat.reduceAdd, Nat.reduceSub, Nat.reduceEqDiff, Nat.reduceLeDiff, Int32.reduceLT, Int32.reduceLE, Int32.reduceAdd, Int32.reduceSub, Int32.reduceMul, Int32.reduceToNatClampNeg, Int32.reduceOfNat, Int32.reduceOfInt, Int64.reduceLT, Int64.reduceAdd, Int64.reduceSub, Int64.reduceMul, String.reduceEq, reduceCtorEq, room_c, room_s, h1, h2, h3]
    refine kf0_147 (con2 _ 0 _ _ _ _ rfl (by decide)) ?_
    simp only [↓B0, ↓idx_c, ↓setN_c, ↓idxN_c, ↓reduceIte, B1, List.length_cons, List.length_nil, List.mem_cons, List.not_mem_nil, or_false, true_or, or_true, true_and, and_true, and_self, not_true_eq_false, not_false_eq_true, eq_self, ne_eq, Nat.zero_le, Nat.le_refl, Nat.reduceAdd, Nat.reduceSub, Nat.reduceEqDiff, Nat.reduceLeDiff, Int32.reduceLT, Int32.reduceLE, Int32.reduceAdd, Int32.reduceSub, Int32.reduceMul, Int32.reduceToNatClampNeg, Int32.reduceOfNat, Int32.reduceOfInt, Int64.reduceLT, Int64.reduceAdd, Int64.reduceSub, Int64.reduceMul, String.reduceEq, reduceCtorEq, room_c, room_s, kp]
    refine r0 300 ?_
    simp only [↓S0, ↓B0, ↓idx_c, ↓setN_c, ↓idxN_c, ↓reduceIte, B1, List.length_cons, List.length_nil, List.mem_cons, List.not_mem_nil, or_false, true_or, or_true, true_and, and_true, and_self, not_true_eq_false, not_false_eq_true, eq_self, ne_eq, Nat.zero_le, Nat.le_refl, Nat.reduceAdd, Nat.reduceSub, Nat.reduceEqDiff, Nat.reduceLeDiff, Int32.reduceLT, Int32.reduceLE, Int32.reduceAdd, Int32.reduceSub, Int32.reduceMul, Int32.reduceToNatClampNeg, Int32.reduceOfNat, Int32.reduceOfInt, Int64.reduceLT, Int64.reduceAdd, Int64.reduceSub, Int64.reduceMul, String.reduceEq, reduceCtorEq, room_c, room_s]
    refine kf0_162 (con2 _ 1 _ _ _ _ rfl (by decide)) ?_
    simp only [↓B0, ↓idx_c, ↓setN_c, ↓idxN_c, ↓reduceIte, B1, List.length_cons, List.length_nil, List.mem_cons, List.not_mem_nil, or_false, true_or, or_true, true_and, and_true, and_self, not_true_eq_false, not_false_eq_true, eq_self, ne_eq, Nat.zero_le, Nat.le_refl, Nat.reduceAdd, Nat.reduceSub, Nat.reduceEqDiff, Nat.reduceLeDiff, Int32.reduceLT, Int32.reduceLE, Int32.reduceAdd, Int32.reduceSub, Int32.reduceMul, Int32.reduceToNatClampNeg, Int32.reduceOfNat, Int32.reduceOfInt, Int64.reduceLT, Int64.reduceAdd, Int64.reduceSub, Int64.reduceMul, String.reduceEq, reduceCtorEq, room_c, room_s, kp]
    refine r0 300 ?_
    simp only [↓S0, ↓B0, ↓idx_c, ↓setN_c, ↓idxN_c, ↓reduceIte, B1, List.length_cons, List.length_nil, List.mem_cons, List.not_mem_nil, or_false, true_or, or_true, true_and, and_true, and_self, not_true_eq_false, not_false_eq_true, eq_self, ne_eq, Nat.zero_le, Nat.le_refl, Nat.reduceAdd, Nat.reduceSub, Nat.reduceEqDiff, Nat.reduceLeDiff, Int32.reduceLT, Int32.reduceLE, Int32.reduceAdd, Int32.reduceSub, Int32.reduceMul, Int32.reduceToNatClampNeg, Int32.reduceOfNat, Int32.reduceOfInt, Int64.reduceLT, Int64.reduceAdd, Int64.reduceSub, Int64.reduceMul, String.reduceEq, reduceCtorEq, room_c, room_s]
    refine kf0_177 (con2 _ 2 _ _ _ _ rfl (by decide)) ?_
    simp only [↓B0, ↓idx_c, ↓setN_c, ↓idxN_c, ↓reduceIte, B1, List.length_cons, List.length_nil, List.mem_cons, List.not_mem_nil, or_false, true_or, or_true, true_and, and_true, and_self, not_true_eq_false, not_false_eq_true, eq_self, ne_eq, Nat.zero_le, Nat.le_refl, Nat.reduceAdd, Nat.reduceSub, Nat.reduceEqDiff, Nat.reduceLeDiff, Int32.reduceLT, Int32.reduceLE, Int32.reduceAdd, Int32.reduceSub, Int32.reduceMul, Int32.reduceToNatClampNeg, Int32.reduceOfNat, Int32.reduceOfInt, Int64.reduceLT, Int64.reduceAdd, Int64.reduceSub, Int64.reduceMul, String.reduceEq, reduceCtorEq, room_c, room_s, kp]
    refine r0 300 ?_
    simp only [↓S0, ↓B0, ↓idx_c, ↓setN_c, ↓idxN_c, ↓reduceIte, B1, List.length_cons, List.length_nil, List.mem_cons, List.not_mem_nil, or_false, true_or, or_true, true_and, and_true, and_self, not_true_eq_false, not_false_eq_true, eq_self, ne_eq, Nat.zero_le, Nat.le_refl, Nat.reduceAdd, Nat.reduceSub, Nat.reduceEqDiff, Nat.reduceLeDiff, Int32.reduceLT, Int32.reduceLE, Int32.reduceAdd, Int32.reduceSub, Int32.reduceMul, Int32.reduceToNatClampNeg, Int32.reduceOfNat, Int32.reduceOfInt, Int64.reduceLT, Int64.reduceAdd, Int64.reduceSub, Int64.reduceMul, String.reduceEq, reduceCtorEq, room_c, room_s]
    refine kf0_192 (con2 _ 3 _ _ _ _ rfl (by decide)) ?_
    simp only [↓B0, ↓idx_c, ↓setN_c, ↓idxN_c, ↓reduceIte, B1, List.length_cons, List.length_nil, List.mem_cons, List.not_mem_nil, or_false, true_or, or_true, true_and, and_true, and_self, not_true_eq_false, not_false_eq_true, eq_self, ne_eq, Nat.zero_le, Nat.le_refl, Nat.reduceAdd, Nat.reduceSub, Nat.reduceEqDiff, Nat.reduceLeDiff, Int32.reduceLT, Int32.reduceLE, Int32.reduceAdd, Int32.reduceSub, Int32.reduceMul, Int32.reduceToNatClampNeg, Int32.reduceOfNat, Int32.reduceOfInt, Int64.reduceLT, Int64.reduceAdd, Int64.reduceSub, Int64.reduceMul, String.reduceEq, reduceCtorEq, room_c, room_s, kp]
    refine r0 300 ?_
    simp only [↓S0, ↓B0, ↓idx_c, ↓setN_c, ↓idxN_c, ↓reduceIte, B1, List.length_cons, List.length_nil, List.mem_cons, List.not_mem_nil, or_false, true_or, or_true, true_and, and_true, and_self, not_true_eq_false, not_false_eq_true, eq_self, ne_eq, Nat.zero_le, Nat.le_refl, Nat.reduceAdd, Nat.reduceSub, Nat.reduceEqDiff, Nat.reduceLeDiff, Int32.reduceLT, Int32.reduceLE, Int32.reduceAdd, Int32.reduceSub, Int32.reduceMul, Int32.reduceToNatClampNeg, Int32.reduceOfNat, Int32.reduceOfInt, Int64.reduceLT, Int64.reduceAdd, Int64.reduceSub, Int64.reduceMul, String.reduceEq, reduceCtorEq, room_c, room_s]
    refine kf0_207 (con2 _ 4 _ _ _ _ rfl (by decide)) ?_
    simp only [↓B0, ↓idx_c, ↓setN_c, ↓idxN_c, ↓reduceIte, B1, List.length_cons, List.length_nil, List.mem_cons, List.not_mem_nil, or_false, true_or, or_true, true_and, and_true, and_self, not_true_eq_false, not_false_eq_true, eq_self, ne_eq, Nat.zero_le, Nat.le_refl, Nat.reduceAdd, Nat.reduceSub, Nat.reduceEqDiff, Nat.reduceLeDiff, Int32.reduceLT, Int32.reduceLE, Int32.reduceAdd, Int32.reduceSub, Int32.reduceMul, Int32.reduceToNatClampNeg, Int32.reduceOfNat, Int32.reduceOfInt, Int64.reduceLT, Int64.reduceAdd, Int64.reduceSub, Int64.reduceMul, String.reduceEq, reduceCtorEq, room_c, room_s, kp]
    refine r0 300 ?_
    simp only [↓S0, ↓B0, ↓idx_c, ↓setN_c, ↓idxN_c, ↓reduceIte, B1, List.length_cons, List.length_nil, List.mem_cons, List.not_mem_nil, or_false, true_or, or_true, true_and, and_true, and_self, not_true_eq_false, not_false_eq_true, eq_self, ne_eq, Nat.zero_le, Nat.le_refl, Nat.reduceAdd, Nat.reduceSub, Nat.reduceEqDiff, Nat.reduceLeDiff, Int32.reduceLT, Int32.reduceLE, Int32.reduceAdd, Int32.reduceSub, Int32.reduceMul, Int32.reduceToNatClampNeg, Int32.reduceOfNat, Int32.reduceOfInt, Int64.reduceLT, Int64.reduceAdd, Int64.reduceSub, Int64.reduceMul, String.reduceEq, reduceCtorEq, room_c, room_s]
    refine kf0_222 (con2 _ 5 _ _ _ _ rfl (by decide)) ?_
    simp only [↓B0, ↓idx_c, ↓setN_c, ↓idxN_c, ↓reduceIte, B1, List.length_cons, List.length_nil, List.mem_cons, List.not_mem_nil, or_false, true_or, or_true, true_and, and_true, and_self, not_true_eq_false, not_false_eq_true, eq_self, ne_eq, Nat.zero_le, Nat.le_refl, Nat.reduceAdd, Nat.reduceSub, Nat.reduceEqDiff, Nat.reduceLeDiff, Int32.reduceLT, Int32.reduceLE, Int32.reduceAdd, Int32.reduceSub, Int32.reduceMul, Int32.reduceToNatClampNeg, Int32.reduceOfNat, Int32.reduceOfInt, Int64.reduceLT, Int64.reduceAdd, Int64.reduceSub, Int64.reduceMul, String.reduceEq, reduceCtorEq, room_c, room_s, kp]
    refine r0 300 ?_
    simp only [↓S0, ↓B0, ↓idx_c, ↓setN_c, ↓idxN_c, ↓reduceIte, B1, List.length_cons, List.length_nil, List.mem_cons, List.not_mem_nil, or_false, true_or, or_true, true_and, and_true, and_self, not_true_eq_false, not_false_eq_true, eq_self, ne_eq, Nat.zero_le, Nat.le_refl, Nat.reduceAdd, Nat.reduceSub, Nat.reduceEqDiff, Nat.reduceLeDiff, Int32.reduceLT, Int32.reduceLE, Int32.reduceAdd, Int32.reduceSub, Int32.reduceMul, Int32.reduceToNatClampNeg, Int32.reduceOfNat, Int32.reduceOfInt, Int64.reduceLT, Int64.reduceAdd, Int64.reduceSub, Int64.reduceMul, String.reduceEq, reduceCtorEq, room_c, room_s]
    refine kf0_238 (con2 _ 6 _ _ _ _ rfl (by decide)) ?_
    simp only [↓B0, ↓idx_c, ↓setN_c, ↓idxN_c, ↓reduceIte, B1, List.length_cons, List.length_nil, List.mem_cons, List.not_mem_nil, or_false, true_or, or_true, true_and, and_true, and_self, not_true_eq_false, not_false_eq_true, eq_self, ne_eq, Nat.zero_le, Nat.le_refl, Nat.reduceAdd, Nat.reduceSub, Nat.reduceEqDiff, Nat.reduceLeDiff, Int32.reduceLT, Int32.reduceLE, Int32.reduceAdd, Int32.reduceSub, Int32.reduceMul, Int32.reduceToNatClampNeg, Int32.reduceOfNat, Int32.reduceOfInt, Int64.reduceLT, Int64.reduceAdd, Int64.reduceSub, Int64.reduceMul, String.reduceEq, reduceCtorEq, room_c, room_s, kp]
    refine r0 300 ?_
    simp only [↓S0, ↓B0, ↓idx_c, ↓setN_c, ↓idxN_c, ↓reduceIte, B1, List.length_cons, List.length_nil, List.mem_cons, List.not_mem_nil, or_false, true_or, or_true, true_and, and_true, and_self, not_true_eq_false, not_false_eq_true, eq_self, ne_eq, Nat.zero_le, Nat.le_refl, Nat.reduceAdd, Nat.reduceSub, Nat.reduceEqDiff, Nat.reduceLeDiff, Int32.reduceLT, Int32.reduceLE, Int32.reduceAdd, Int32.reduceSub, Int32.reduceMul, Int32.reduceToNatClampNeg, Int32.reduceOfNat, Int32.reduceOfInt, Int64.reduceLT, Int64.reduceAdd, Int64.reduceSub, Int64.reduceMul, String.reduceEq, reduceCtorEq, room_c, room_s]
    refine kf0_254 (con2 _ 7 _ _ _ _ rfl (by decide)) ?_
    simp only [↓B0, ↓idx_c, ↓setN_c, ↓idxN_c, ↓reduceIte, B1, List.length_cons, List.length_nil, List.mem_cons, List.not_mem_nil, or_false, true_or, or_true, true_and, and_true, and_self, not_true_eq_false, not_false_eq_true, eq_self, ne_eq, Nat.zero_le, Nat.le_refl, Nat.reduceAdd, Nat.reduceSub, Nat.reduceEqDiff, Nat.reduceLeDiff, Int32.reduceLT, Int32.reduceLE, Int32.reduceAdd, Int32.reduceSub, Int32.reduceMul, Int32.reduceToNatClampNeg, Int32.reduceOfNat, Int32.reduceOfInt, Int64.reduceLT, Int64.reduceAdd, Int64.reduceSub, Int64.reduceMul, String.reduceEq, reduceCtorEq, room_c, room_s, kp]
    refine r0 300 ?_
    simp only [↓S0, ↓B0, ↓idx_c, ↓setN_c, ↓idxN_c, ↓reduceIte, B1, List.length_cons, List.length_nil, List.mem_cons, List.not_mem_nil, or_false, true_or, or_true, true_and, and_true, and_self, not_true_eq_false, not_false_eq_true, eq_self, ne_eq, Nat.zero_le, Nat.le_refl, Nat.reduceAdd, Nat.reduceSub, Nat.reduceEqDiff, Nat.reduceLeDiff, Int32.reduceLT, Int32.reduceLE, Int32.reduceAdd, Int32.reduceSub, Int32.reduceMul, Int32.reduceToNatClampNeg, Int32.reduceOfNat, Int32.reduceOfInt, Int64.reduceLT, Int64.reduceAdd, Int64.reduceSub, Int64.reduceMul, String.reduceEq, reduceCtorEq, room_c, room_s, t0, t1, t2, l0, l1, fin]
    refine kf0_422 (con3 _) ?_
    simp only [c1]
    refine r0 300 ?_
    simp only [↓S0, ↓B0, ↓idx_c, ↓setN_c, ↓idxN_c, ↓reduceIte, B1, List.length_cons, List.length_nil, List.mem_cons, List.not_mem_nil, or_false, true_or, or_true, true_and, and_true, and_self, not_true_eq_false, not_false_eq_true, eq_self, ne_eq, Nat.zero_le, Nat.le_refl, Nat.reduceAdd, Nat.reduceSub, Nat.reduceEqDiff, Nat.reduceLeDiff, Int32.reduceLT, Int32.reduceLE, Int32.reduceAdd, Int32.reduceSub, Int32.reduceMul, Int32.reduceToNatClampNeg, Int32.reduceOfNat, Int32.reduceOfInt, Int64.reduceLT, Int64.reduceAdd, Int64.reduceSub, Int64.reduceMul, String.reduceEq, reduceCtorEq, room_c, room_s, t0, t1, t2, l0, l1, fin]
    refine kf0_430 (con3 _) ?_
    simp only [c2]
    refine r0 300 ?_
    simp only [↓S0, ↓B0, ↓idx_c, ↓setN_c, ↓idxN_c, ↓reduceIte, B1, List.length_cons, List.length_nil, List.mem_cons, List.not_mem_nil, or_false, true_or, or_true, true_and, and_true, and_self, not_true_eq_false, not_false_eq_true, eq_self, ne_eq, Nat.zero_le, Nat.le_refl, Nat.reduceAdd, Nat.reduceSub, Nat.reduceEqDiff, Nat.reduceLeDiff, Int32.reduceLT, Int32.reduceLE, Int32.reduceAdd, Int32.reduceSub, Int32.reduceMul, Int32.reduceToNatClampNeg, Int32.reduceOfNat, Int32.reduceOfInt, Int64.reduceLT, Int64.reduceAdd, Int64.reduceSub, Int64.reduceMul, String.reduceEq, reduceCtorEq, room_c, room_s, t0, t1, t2, l0, l1, fin]
  · have h1 : ¬ c < 128 := by rw [Int32.lt_iff_toInt_lt]; omega
    have h2 : ¬ c < 2048 := by rw [Int32.lt_iff_toInt_lt]; omega
    have h3 : ¬ c < 65536 := by rw [Int32.lt_iff_toInt_lt]; omega
    obtain ⟨x0, x1, x2, x3, t0, t1, t2, t3, l0, l1, c1, c2, c3, fin⟩ := facts_4 c (by omega) (by omega)
    simp only [↓S0, ↓B0, ↓idx_c, ↓setN_c, ↓idxN_c, ↓reduceIte, B1, List.length_cons, List.length_nil, List.mem_cons, List.not_mem_nil, or_false, true_or, or_true, true_and, and_true, and_self, not_true_eq_false, not_false_eq_true, eq_self, ne_eq, Nat.zero_le, Nat.le_refl, Nat.reduceAdd, Nat.reduceSub, Nat.reduceEqDiff, Nat.reduceLeDiff, Int32.reduceLT, Int32.reduceLE, Int32.reduceAdd, Int32.reduceSub, Int32.reduceMul, Int32.reduceToNatClampNeg, Int32.reduceOfNat, Int32.reduceOfInt, Int64.reduceLT, Int64.reduceAdd, Int64.reduceSub, Int64.reduceMul, String.reduceEq, reduceCtorEq, room_c, room_s, hv]
    refine kf0_82 (con1_3_4 (nar .byte i2) c h1 h2 h3) (r0 300 ?_)
    simp only [↓S0, ↓B0, ↓idx_c, ↓setN_c, ↓idxN_c, ↓reduceIte, B1, List.length_cons, List.length_nil, List.mem_cons, List.not_mem_nil, or_false, true_or, or_true, true_and, and_true, and_self, not_true_eq_false, not_false_eq_true, eq_self, ne_eq, Nat.zero_le, Nat.le_refl, Nat.reduceAdd, Nat.reduceSub, Nat.reduceEqDiff, Nat.reduceLeDiff, Int32.reduceLT, Int32.reduceLE, Int32.reduceAdd, Int32.reduceSub, Int32.reduceMul, Int32.reduceToNatClampNeg, Int32.reduceOfNat, Int32.reduceOfInt, Int64.reduceLT, Int64.reduceAdd, Int64.reduceSub, Int64.reduceMul, String.reduceEq, reduceCtorEq, room_c, room_s, h1, h2, h3]
    refine kf0_147 (con2 _ 0 _ _ _ _ rfl (by decide)) ?_
    simp only [↓B0, ↓idx_c, ↓setN_c, ↓idxN_c, ↓reduceIte, B1, List.length_cons, List.length_nil, List.mem_cons, List.not_mem_nil, or_false, true_or, or_true, true_and, and_true, and_self, not_true_eq_false, not_false_eq_true, eq_self, ne_eq, Nat.zero_le, Nat.le_refl, Nat.reduceAdd, Nat.reduceSub, Nat.reduceEqDiff, Nat.reduceLeDiff, Int32.reduceLT, Int32.reduceLE, Int32.reduceAdd, Int32.reduceSub, Int32.reduceMul, Int32.reduceToNatClampNeg, Int32.reduceOfNat, Int32.reduceOfInt, Int64.reduceLT, Int64.reduceAdd, Int64.reduceSub, Int64.reduceMul, String.reduceEq, reduceCtorEq, room_c, room_s, kp]
    refine r0 300 ?_
    simp only [↓S0, ↓B0, ↓idx_c, ↓setN_c, ↓idxN_c, ↓reduceIte, B1, List.length_cons, List.length_nil, List.mem_cons, List.not_mem_nil, or_false, true_or, or_true, true_and, and_true, and_self, not_true_eq_false, not_false_eq_true, eq_self, ne_eq, Nat.zero_le, Nat.le_refl, Nat.reduceAdd, Nat.reduceSub, Nat.reduceEqDiff, Nat.reduceLeDiff, Int32.reduceLT, Int32.reduceLE, Int32.reduceAdd, Int32.reduceSub, Int32.reduceMul, Int32.reduceToNatClampNeg, Int32.reduceOfNat, Int32.reduceOfInt, Int64.reduceLT, Int64.reduceAdd, Int64.reduceSub, Int64.reduceMul, String.reduceEq, reduceCtorEq, room_c, room_s]
    refine kf0_162 (con2 _ 1 _ _ _ _ rfl (by decide)) ?_
    simp only [↓B0, ↓idx_c, ↓setN_c, ↓idxN_c, ↓reduceIte, B1, List.length_cons, List.length_nil, List.mem_cons, List.not_mem_nil, or_false, true_or, or_true, true_and, and_true, and_self, not_true_eq_false, not_false_eq_true, eq_self, ne_eq, Nat.zero_le, Nat.le_refl, Nat.reduceAdd, Nat.reduceSub, Nat.reduceEqDiff, Nat.reduceLeDiff, Int32.reduceLT, Int32.reduceLE, Int32.reduceAdd, Int32.reduceSub, Int32.reduceMul, Int32.reduceToNatClampNeg, Int32.reduceOfNat, Int32.reduceOfInt, Int64.reduceLT, Int64.reduceAdd, Int64.reduceSub, Int64.reduceMul, String.reduceEq, reduceCtorEq, room_c, room_s, kp]
    refine r0 300 ?_
    simp only [↓S0, ↓B0, ↓idx_c, ↓setN_c, ↓idxN_c, ↓reduceIte, B1, List.length_cons, List.length_nil, List.mem_cons, List.not_mem_nil, or_false, true_or, or_true, true_and, and_true, and_self, not_true_eq_false, not_false_eq_true, eq_self, ne_eq, Nat.zero_le, Nat.le_refl, Nat.reduceAdd, Nat.reduceSub, Nat.reduceEqDiff, Nat.reduceLeDiff, Int32.reduceLT, Int32.reduceLE, Int32.reduceAdd, Int32.reduceSub, Int32.reduceMul, Int32.reduceToNatClampNeg, Int32.reduceOfNat, Int32.reduceOfInt, Int64.reduceLT, Int64.reduceAdd, Int64.reduceSub, Int64.reduceMul, String.reduceEq, reduceCtorEq, room_c, room_s]
    refine kf0_177 (con2 _ 2 _ _ _ _ rfl (by decide)) ?_
    simp only [↓B0, ↓idx_c, ↓setN_c, ↓idxN_c, ↓reduceIte, B1, List.length_cons, List.length_nil, List.mem_cons, List.not_mem_nil, or_false, true_or, or_true, true_and, and_true, and_self, not_true_eq_false, not_false_eq_true, eq_self, ne_eq, Nat.zero_le, Nat.le_refl, Nat.reduceAdd, Nat.reduceSub, Nat.reduceEqDiff, Nat.reduceLeDiff, Int32.reduceLT, Int32.reduceLE, Int32.reduceAdd, Int32.reduceSub, Int32.reduceMul, Int32.reduceToNatClampNeg, Int32.reduceOfNat, Int32.reduceOfInt, Int64.reduceLT, Int64.reduceAdd, Int64.reduceSub, Int64.reduceMul, String.reduceEq, reduceCtorEq, room_c, room_s, kp]
    refine r0 300 ?_
    simp only [↓S0, ↓B0, ↓idx_c, ↓setN_c, ↓idxN_c, ↓reduceIte, B1, List.length_cons, List.length_nil, List.mem_cons, List.not_mem_nil, or_false, true_or, or_true, true_and, and_true, and_self, not_true_eq_false, not_false_eq_true, eq_self, ne_eq, Nat.zero_le, Nat.le_refl, Nat.reduceAdd, Nat.reduceSub, Nat.reduceEqDiff, Nat.reduceLeDiff, Int32.reduceLT, Int32.reduceLE, Int32.reduceAdd, Int32.reduceSub, Int32.reduceMul, Int32.reduceToNatClampNeg, Int32.reduceOfNat, Int32.reduceOfInt, Int64.reduceLT, Int64.reduceAdd, Int64.reduceSub, Int64.reduceMul, String.reduceEq, reduceCtorEq, room_c, room_s]
    refine kf0_192 (con2 _ 3 _ _ _ _ rfl (by decide)) ?_
    simp only [↓B0, ↓idx_c, ↓setN_c, ↓idxN_c, ↓reduceIte, B1, List.length_cons, List.length_nil, List.mem_cons, List.not_mem_nil, or_false, true_or, or_true, true_and, and_true, and_self, not_true_eq_false, not_false_eq_true, eq_self, ne_eq, Nat.zero_le, Nat.le_refl, Nat.reduceAdd, Nat.reduceSub, Nat.reduceEqDiff, Nat.reduceLeDiff, Int32.reduceLT, Int32.reduceLE, Int32.reduceAdd, Int32.reduceSub, Int32.reduceMul, Int32.reduceToNatClampNeg, Int32.reduceOfNat, Int32.reduceOfInt, Int64.reduceLT, Int64.reduceAdd, Int64.reduceSub, Int64.reduceMul, String.reduceEq, reduceCtorEq, room_c, room_s, kp]
    refine r0 300 ?_
    simp only [↓S0, ↓B0, ↓idx_c, ↓setN_c, ↓idxN_c, ↓reduceIte, B1, List.length_cons, List.length_nil, List.mem_cons, List.not_mem_nil, or_false, true_or, or_true, true_and, and_true, and_self, not_true_eq_false, not_false_eq_true, eq_self, ne_eq, Nat.zero_le, Nat.le_refl, Nat.reduceAdd, Nat.reduceSub, Nat.reduceEqDiff, Nat.reduceLeDiff, Int32.reduceLT, Int32.reduceLE, Int32.reduceAdd, Int32.reduceSub, Int32.reduceMul, Int32.reduceToNatClampNeg, Int32.reduceOfNat, Int32.reduceOfInt, Int64.reduceLT, Int64.reduceAdd, Int64.reduceSub, Int64.reduceMul, String.reduceEq, reduceCtorEq, room_c, room_s]
    refine kf0_207 (con2 _ 4 _ _ _ _ rfl (by decide)) ?_
    simp only [↓B0, ↓idx_c, ↓setN_c, ↓idxN_c, ↓reduceIte, B1, List.length_cons, List.length_nil, List.mem_cons, List.not_mem_nil, or_false, true_or, or_true, true_and, and_true, and_self, not_true_eq_false, not_false_eq_true, eq_self, ne_eq, Nat.zero_le, Nat.le_refl, Nat.reduceAdd, Nat.reduceSub, Nat.reduceEqDiff, Nat.reduceLeDiff, Int32.reduceLT, Int32.reduceLE, Int32.reduceAdd, Int32.reduceSub, Int32.reduceMul, Int32.reduceToNatClampNeg, Int32.reduceOfNat, Int32.reduceOfInt, Int64.reduceLT, Int64.reduceAdd, Int64.reduceSub, Int64.reduceMul, String.reduceEq, reduceCtorEq, room_c, room_s, kp]
    refine r0 300 ?_
    simp only [↓S0, ↓B0, ↓idx_c, ↓setN_c, ↓idxN_c, ↓reduceIte, B1, List.length_cons, List.length_nil, List.mem_cons, List.not_mem_nil, or_false, true_or, or_true, true_and, and_true, and_self, not_true_eq_false, not_false_eq_true, eq_self, ne_eq, Nat.zero_le, Nat.le_refl, Nat.reduceAdd, Nat.reduceSub, Nat.reduceEqDiff, Nat.reduceLeDiff, Int32.reduceLT, Int32.reduceLE, Int32.reduceAdd, Int32.reduceSub, Int32.reduceMul, Int32.reduceToNatClampNeg, Int32.reduceOfNat, Int32.reduceOfInt, Int64.reduceLT, Int64.reduceAdd, Int64.reduceSub, Int64.reduceMul, String.reduceEq, reduceCtorEq, room_c, room_s]
    refine kf0_222 (con2 _ 5 _ _ _ _ rfl (by decide)) ?_
    simp only [↓B0, ↓idx_c, ↓setN_c, ↓idxN_c, ↓reduceIte, B1, List.length_cons, List.length_nil, List.mem_cons, List.not_mem_nil, or_false, true_or, or_true, true_and, and_true, and_self, not_true_eq_false, not_false_eq_true, eq_self, ne_eq, Nat.zero_le, Nat.le_refl, Nat.reduceAdd, Nat.reduceSub, Nat.reduceEqDiff, Nat.reduceLeDiff, Int32.reduceLT, Int32.reduceLE, Int32.reduceAdd, Int32.reduceSub, Int32.reduceMul, Int32.reduceToNatClampNeg, Int32.reduceOfNat, Int32.reduceOfInt, Int64.reduceLT, Int64.reduceAdd, Int64.reduceSub, Int64.reduceMul, String.reduceEq, reduceCtorEq, room_c, room_s, kp]
    refine r0 300 ?_
    simp only [↓S0, ↓B0, ↓idx_c, ↓setN_c, ↓idxN_c, ↓reduceIte, B1, List.length_cons, List.length_nil, List.mem_cons, List.not_mem_nil, or_false, true_or, or_true, true_and, and_true, and_self, not_true_eq_false, not_false_eq_true, eq_self, ne_eq, Nat.zero_le, Nat.le_refl, Nat.reduceAdd, Nat.reduceSub, Nat.reduceEqDiff, Nat.reduceLeDiff, Int32.reduceLT, Int32.reduceLE, Int32.reduceAdd, Int32.reduceSub, Int32.reduceMul, Int32.reduceToNatClampNeg, Int32.reduceOfNat, Int32.reduceOfInt, Int64.reduceLT, Int64.reduceAdd, Int64.reduceSub, Int64.reduceMul, String.reduceEq, reduceCtorEq, room_c, room_s]
    refine kf0_238 (con2 _ 6 _ _ _ _ rfl (by decide)) ?_
    simp only [↓B0, ↓idx_c, ↓setN_c, ↓idxN_c, ↓reduceIte, B1, List.length_cons, List.length_nil, List.mem_cons, List.not_mem_nil, or_false, true_or, or_true, true_and, and_true, and_self, not_true_eq_false, not_false_eq_true, eq_self, ne_eq, Nat.zero_le, Nat.le_refl, Nat.reduceAdd, Nat.reduceSub, Nat.reduceEqDiff, Nat.reduceLeDiff, Int32.reduceLT, Int32.reduceLE, Int32.reduceAdd, Int32.reduceSub, Int32.reduceMul, Int32.reduceToNatClampNeg, Int32.reduceOfNat, Int32.reduceOfInt, Int64.reduceLT, Int64.reduceAdd, Int64.reduceSub, Int64.reduceMul, String.reduceEq, reduceCtorEq, room_c, room_s, kp]
    refine r0 300 ?_
    simp only [↓S0, ↓B0, ↓idx_c, ↓setN_c, ↓idxN_c, ↓reduceIte, B1, List.length_cons, List.length_nil, List.mem_cons, List.not_mem_nil, or_false, true_or, or_true, true_and, and_true, and_self, not_true_eq_false, not_false_eq_true, eq_self, ne_eq, Nat.zero_le, Nat.le_refl, Nat.reduceAdd, Nat.reduceSub, Nat.reduceEqDiff, Nat.reduceLeDiff, Int32.reduceLT, Int32.reduceLE, Int32.reduceAdd, Int32.reduceSub, Int32.reduceMul, Int32.reduceToNatClampNeg, Int32.reduceOfNat, Int32.reduceOfInt, Int64.reduceLT, Int64.reduceAdd, Int64.reduceSub, Int64.reduceMul, String.reduceEq, reduceCtorEq, room_c, room_s]
    refine kf0_254 (con2 _ 7 _ _ _ _ rfl (by decide)) ?_
    simp only [↓B0, ↓idx_c, ↓setN_c, ↓idxN_c, ↓reduceIte, B1, List.length_cons, List.length_nil, List.mem_cons, List.not_mem_nil, or_false, true_or, or_true, true_and, and_true, and_self, not_true_eq_false, not_false_eq_true, eq_self, ne_eq, Nat.zero_le, Nat.le_refl, Nat.reduceAdd, Nat.reduceSub, Nat.reduceEqDiff, Nat.reduceLeDiff, Int32.reduceLT, Int32.reduceLE, Int32.reduceAdd, Int32.reduceSub, Int32.reduceMul, Int32.reduceToNatClampNeg, Int32.reduceOfNat, Int32.reduceOfInt, Int64.reduceLT, Int64.reduceAdd, Int64.reduceSub, Int64.reduceMul, String.reduceEq, reduceCtorEq, room_c, room_s, kp]
    refine r0 300 ?_
    simp only [↓S0, ↓B0, ↓idx_c, ↓setN_c, ↓idxN_c, ↓reduceIte, B1, List.length_cons, List.length_nil, List.mem_cons, List.not_mem_nil, or_false, true_or, or_true, true_and, and_true, and_self, not_true_eq_false, not_false_eq_true, eq_self, ne_eq, Nat.zero_le, Nat.le_refl, Nat.reduceAdd, Nat.reduceSub, Nat.reduceEqDiff, Nat.reduceLeDiff, Int32.reduceLT, Int32.reduceLE, Int32.reduceAdd, Int32.reduceSub, Int32.reduceMul, Int32.reduceToNatClampNeg, Int32.reduceOfNat, Int32.reduceOfInt, Int64.reduceLT, Int64.reduceAdd, Int64.reduceSub, Int64.reduceMul, String.reduceEq, reduceCtorEq, room_c, room_s, t0, t1, t2, t3, l0, l1, fin]
    refine kf0_491 (con3 _) ?_
    simp only [c1]
    refine r0 300 ?_
    simp only [↓S0, ↓B0, ↓idx_c, ↓setN_c, ↓idxN_c, ↓reduceIte, B1, List.length_cons, List.length_nil, List.mem_cons, List.not_mem_nil, or_false, true_or, or_true, true_and, and_true, and_self, not_true_eq_false, not_false_eq_true, eq_self, ne_eq, Nat.zero_le, Nat.le_refl, Nat.reduceAdd, Nat.reduceSub, Nat.reduceEqDiff, Nat.reduceLeDiff, Int32.reduceLT, Int32.reduceLE, Int32.reduceAdd, Int32.reduceSub, Int32.reduceMul, Int32.reduceToNatClampNeg, Int32.reduceOfNat, Int32.reduceOfInt, Int64.reduceLT, Int64.reduceAdd, Int64.reduceSub, Int64.reduceMul, String.reduceEq, reduceCtorEq, room_c, room_s, t0, t1, t2, t3, l0, l1, fin]
    refine kf0_499 (con3 _) ?_
    simp only [c2]
    refine r0 300 ?_
    simp only [↓S0, ↓B0, ↓idx_c, ↓setN_c, ↓idxN_c, ↓reduceIte, B1, List.length_cons, List.length_nil, List.mem_cons, List.not_mem_nil, or_false, true_or, or_true, true_and, and_true, and_self, not_true_eq_false, not_false_eq_true, eq_self, ne_eq, Nat.zero_le, Nat.le_refl, Nat.reduceAdd, Nat.reduceSub, Nat.reduceEqDiff, Nat.reduceLeDiff, Int32.reduceLT, Int32.reduceLE, Int32.reduceAdd, Int32.reduceSub, Int32.reduceMul, Int32.reduceToNatClampNeg, Int32.reduceOfNat, Int32.reduceOfInt, Int64.reduceLT, Int64.reduceAdd, Int64.reduceSub, Int64.reduceMul, String.reduceEq, reduceCtorEq, room_c, room_s, t0, t1, t2, t3, l0, l1, fin]
    refine kf0_507 (con3 _) ?_
    simp only [c3]
    refine r0 300 ?_
    simp only [↓S0, ↓B0, ↓idx_c, ↓setN_c, ↓idxN_c, ↓reduceIte, B1, List.length_cons, List.length_nil, List.mem_cons, List.not_mem_nil, or_false, true_or, or_true, true_and, and_true, and_self, not_true_eq_false, not_false_eq_true, eq_self, ne_eq, Nat.zero_le, Nat.le_refl, Nat.reduceAdd, Nat.reduceSub, Nat.reduceEqDiff, Nat.reduceLeDiff, Int32.reduceLT, Int32.reduceLE, Int32.reduceAdd, Int32.reduceSub, Int32.reduceMul, Int32.reduceToNatClampNeg, Int32.reduceOfNat, Int32.reduceOfInt, Int64.reduceLT, Int64.reduceAdd, Int64.reduceSub, Int64.reduceMul, String.reduceEq, reduceCtorEq, room_c, room_s, t0, t1, t2, t3, l0, l1, fin]
end Own
theorem law (l : Launch) (Z : State) (b : Heap) (i0 i1 i2 : Int32) : G0 l Z b (fun v _ => v = some (.int 1)) 0 [.val (.int i0), .val (.int i1), .val (.int i2), .unset, .unset, .unset, .unset, .unset, .unset, .unset, .unset, .unset, .unset, .unset, .unset] [] [] 0 0 := by
  have e1 : (i0 &&& 2147483647).toInt = i0.toInt % 2 ^ 31 := Jvm.Kit.i32_mask _ _ (k := 31) (by decide) (by decide)
  have e2 : (remI (i0 &&& 2147483647) 1112064).toInt = (i0 &&& 2147483647).toInt % 1112064 := rem_nn (by omega)
  refine r0 100 ?_
  by_cases h : remI (i0 &&& 2147483647) 1112064 < 55296
  · simp only [↓S0, ↓B0, ↓idx_c, ↓setN_c, ↓idxN_c, ↓reduceIte, B1, List.length_cons, List.length_nil, List.mem_cons, List.not_mem_nil, or_false, true_or, or_true, true_and, and_true, and_self, not_true_eq_false, not_false_eq_true, eq_self, ne_eq, Nat.zero_le, Nat.le_refl, Nat.reduceAdd, Nat.reduceSub, Nat.reduceEqDiff, Nat.reduceLeDiff, Int32.reduceLT, Int32.reduceLE, Int32.reduceAdd, Int32.reduceSub, Int32.reduceMul, Int32.reduceToNatClampNeg, Int32.reduceOfNat, Int32.reduceOfInt, Int64.reduceLT, Int64.reduceAdd, Int64.reduceSub, Int64.reduceMul, String.reduceEq, reduceCtorEq, room_c, room_s, h]
    exact st20 _ _ _ _ (by omega) (by rw [Int32.lt_iff_toInt_lt] at h; omega)
  · simp only [↓S0, ↓B0, ↓idx_c, ↓setN_c, ↓idxN_c, ↓reduceIte, B1, List.length_cons, List.length_nil, List.mem_cons, List.not_mem_nil, or_false, true_or, or_true, true_and, and_true, and_self, not_true_eq_false, not_false_eq_true, eq_self, ne_eq, Nat.zero_le, Nat.le_refl, Nat.reduceAdd, Nat.reduceSub, Nat.reduceEqDiff, Nat.reduceLeDiff, Int32.reduceLT, Int32.reduceLE, Int32.reduceAdd, Int32.reduceSub, Int32.reduceMul, Int32.reduceToNatClampNeg, Int32.reduceOfNat, Int32.reduceOfInt, Int64.reduceLT, Int64.reduceAdd, Int64.reduceSub, Int64.reduceMul, String.reduceEq, reduceCtorEq, room_c, room_s, h]
    refine e0_14 100 ?_
    simp only [↓S0, ↓B0, ↓idx_c, ↓setN_c, ↓idxN_c, ↓reduceIte, B1, List.length_cons, List.length_nil, List.mem_cons, List.not_mem_nil, or_false, true_or, or_true, true_and, and_true, and_self, not_true_eq_false, not_false_eq_true, eq_self, ne_eq, Nat.zero_le, Nat.le_refl, Nat.reduceAdd, Nat.reduceSub, Nat.reduceEqDiff, Nat.reduceLeDiff, Int32.reduceLT, Int32.reduceLE, Int32.reduceAdd, Int32.reduceSub, Int32.reduceMul, Int32.reduceToNatClampNeg, Int32.reduceOfNat, Int32.reduceOfInt, Int64.reduceLT, Int64.reduceAdd, Int64.reduceSub, Int64.reduceMul, String.reduceEq, reduceCtorEq, room_c, room_s]
    have d := a32 (x := remI (i0 &&& 2147483647) 1112064) (q := 2048) (c := 2048) rfl (by omega) (by omega)
    exact st20 _ _ _ _ (by omega) (by omega)
theorem comes_1 {Post : Tables → Env → Array Value → State → Outcome → State → Prop} (hpost : ∀ tb e args s v u, (limb_1_1.after args s (.returned v) u = true ∧ limb_1_2.after args s (.returned v) u = true ∧ True) → FrameEnd s (.returned v) u (Jvm.fieldLocs frame_1_writes args s ++ Jvm.arrayLocs frame_1_arrays args s ++ Jvm.staticLocs frame_1_statics s) 16 128 → Post tb e args s (.returned v) u) :
    ArmFor flags0 classFile x code maxLocals ret World_1 tables_1 room_1 Calls_1 rest_1 Pre_1 Post := by
  intro l hfl _ _ p e ha hc hk s m args below hf hA hF happ hP
  obtain ⟨hcalls, hrest, hpre⟩ := hP
  obtain ⟨-, -, -, hnamed, -, -, -, hat⟩ := (Spec.applies_iff hf).mp happ
  obtain ⟨hg, hn⟩ := and_e (Cond.before_iff.mp (show (Jvm.Cond.and given_1 narrow_1).before args s = true from hpre))
  obtain ⟨hcount, g0⟩ := and_e hg
  obtain ⟨q0, g1⟩ := and_e g0
  obtain ⟨q1, g2⟩ := and_e g1
  obtain ⟨w0, w1, w2, rfl⟩ : ∃ w0 w1 w2 : Value, args = #[w0, w1, w2] := by
    have hs : args.size = 3 := by simpa [Cond.value, given_1] using hcount
    obtain ⟨L⟩ := args
    match L, hs with
    | [w0, w1, w2], _ => exact ⟨w0, w1, w2, rfl⟩
  have hw := fun d (hd : d ∈ tables_1) => atoms_spec (ws := Jvm.Cond.code x code maxLocals ret :: tables_1) hat d (List.mem_cons_of_mem _ hd)
  obtain ⟨i0, ei0⟩ := is_v q0
  obtain rfl : w0 = (.int i0) := Option.some.inj ei0
  obtain ⟨i1, ei1⟩ := is_v q1
  obtain rfl : w1 = (.int i1) := Option.some.inj ei1
  obtain ⟨i2, ei2⟩ := is_v g2
  obtain rfl : w2 = (.int i2) := Option.some.inj ei2
  obtain ⟨n, o, h1, h2, h3, v, L, rfl, ⟨N, H', -, hv⟩, hq⟩ := G.met (ws := tables_1) (y := x) (by first | decide +kernel | exact plainFor_of_name (by simp [x, plainName, overriddenIn])) (fun m => ef0 m i0 i1 i2) (show G code x.cls x.name maxLocals ret room_1 tables_1 l s s.heap 16 128 _ 0 _ [] [] 0 0 from law l s s.heap i0 i1 i2) _ s.heap hw ⟨rfl, fun i c hc => by cases hc⟩ p e ha hc hk s m _ below hf ((Spec.applies_iff_loose hf).mp happ).1 ⟨rfl, State.Warmed39.refl s, rfl⟩ trivial
  cases hv
  refine ⟨n, _, h1, h2, h3, hpost _ _ _ _ _ _ ⟨Cond.after_iff.mpr rfl, Cond.after_iff.mpr (eq_i res_at (Term.int_eval (1)) rfl), trivial⟩ ⟨hq.1, hq.2.1, hq.2.2.sift fun y hy => Or.inr (N y hy)⟩⟩
theorem main_1_1 : Claimed_1_1 := comes_1 fun _ _ _ _ _ _ h hF => ⟨h.1, hF⟩
theorem main_1_2 : Claimed_1_2 := comes_1 fun _ _ _ _ _ _ h hF => ⟨h.2.1, hF⟩
end Jvm.Pilot.@@N@@
namespace Jvm.Pilot.@@N@@
open Jvm Jvm.ClassFile Sem Op Lib Jvm.Free Jvm.Stand Jvm.Pilot.@@N@@.Jvm.D
/-! MADE BY PROGRAM (witnessworld.py) out of the Statement's table words and the real class files: 9 classes; the members and pool entries that the words name. The judged class is class 1, her method 1. -/
namespace start1
open Jvm.ClassFile
def u (s : String) : CpInfo := .utf8 (stringToUtf16 s)
/-- a pool by its gaps: so many unusable entries, then the entry; so many at the end -/
def gap : Nat → List CpInfo → List CpInfo
  | 0, r => r
  | n + 1, r => .unusable :: gap n r
def poolList (es : List (Nat × CpInfo)) (last : Nat) : List CpInfo := es.foldr (fun e r => gap e.1 (e.2 :: r)) (gap last [])
def pool (es : List (Nat × CpInfo)) (last : Nat) : Array CpInfo := ⟨poolList es last⟩
def fileOf (pool : Array CpInfo) (this : Nat) (attrs : Array Attribute := #[]) (ms : Array MethodInfo := #[]) (fl : Nat := 33) (sup : Nat := 0) (ifs : Array Nat := #[]) (fds : Array FieldInfo := #[]) : ClassFile where
  minorVersion := 0
  majorVersion := 65
  constantPool := pool
  accessFlags := fl
  thisClass := this
  superClass := sup
  interfaces := ifs
  fields := fds
  methods := ms
  attributes := attrs
def plain (name : String) (sup : Option ClassId) : Class where
  name := name
  kind := .ordinary
  loader := none
  accessFlags := 33
  super := sup
  interfaces := #[]
  cf := none
  fields := #[]
  methods := #[]
  instanceTypes := #[]
  staticTypes := #[]
  resolved := #[]
  callSites := []
  init := .initialized
  statics := none
  mirror := none

def pool0 : Array CpInfo := pool [(5, u "<init>"), (0, u "()V"), (1, .class_ 10), (1, u "java/lang/Object")] 113

def k0m0 : Method := { name := "<init>", desc := "()V", sig := { parameters := [], returnType := none }, accessFlags := 1, code := none }
/-- java/lang/Object -/
def k0 : Class := { plain "java/lang/Object" none with
  accessFlags := 33
  interfaces := #[]
  cf := some (fileOf pool0 8 #[] #[{ accessFlags := 1, nameIndex := 5, descriptorIndex := 6, attributes := #[] }] 33 0 #[] #[])
  fields := #[]
  methods := #[k0m0]
  instanceTypes := #[]
  staticTypes := #[]
  resolved := Array.replicate 124 none
  statics := none }

def pool1 : Array CpInfo := pool [(2, .class_ 4), (1, u "java/lang/Object"), (0, u "<init>"), (0, u "()V"), (0, .integer 2147483647), (0, .integer 1112064), (0, .integer 55296), (0, .methodref 11 12), (0, .class_ 13), (0, .nameAndType 14 15), (0, u "com/example/bagscope/bagscope/Utf8"), (0, u "put"), (0, u "([BII)I"), (0, .integer 65536), (0, .methodref 18 19), (0, .class_ 20), (0, .nameAndType 21 22), (0, u "com/example/bagscope/bagscope/Utf8PutPinLaw"), (0, u "kept"), (0, u "([BIIIB)Z"), (0, .methodref 18 24), (0, .nameAndType 25 26), (0, u "cont"), (0, u "(I)Z"), (0, .integer 262144), (2, u "law"), (0, u "(III)Z")] 5

def k1m0 : Method := { name := "<init>", desc := "()V", sig := { parameters := [], returnType := none }, accessFlags := 1, code := none }
def k1c1 : Code := { maxStack := 5, maxLocals := 15, code := code, exceptionTable := #[], attributes := #[] }
def k1m1 : Method := { name := "law", desc := "(III)Z", sig := { parameters := [.int, .int, .int], returnType := some .boolean }, accessFlags := 9, code := some k1c1 }
def k1c2 : Code := { maxStack := 3, maxLocals := 5, code := method_3_code, exceptionTable := #[], attributes := #[] }
def k1m2 : Method := { name := "kept", desc := "([BIIIB)Z", sig := { parameters := [(.array .byte), .int, .int, .int, .byte], returnType := some .boolean }, accessFlags := 10, code := some k1c2 }
def k1c3 : Code := { maxStack := 2, maxLocals := 1, code := method_4_code, exceptionTable := #[], attributes := #[] }
def k1m3 : Method := { name := "cont", desc := "(I)Z", sig := { parameters := [.int], returnType := some .boolean }, accessFlags := 10, code := some k1c3 }
/-- com/example/bagscope/bagscope/Utf8PutPinLaw -/
def k1 : Class := { plain "com/example/bagscope/bagscope/Utf8PutPinLaw" (some 0) with
  accessFlags := 49
  interfaces := #[]
  cf := some (fileOf pool1 18 #[] #[{ accessFlags := 1, nameIndex := 5, descriptorIndex := 6, attributes := #[] }, { accessFlags := 9, nameIndex := 30, descriptorIndex := 31, attributes := #[] }, { accessFlags := 10, nameIndex := 21, descriptorIndex := 22, attributes := #[] }, { accessFlags := 10, nameIndex := 25, descriptorIndex := 26, attributes := #[] }] 49 2 #[] #[])
  fields := #[]
  methods := #[k1m0, k1m1, k1m2, k1m3]
  instanceTypes := #[]
  staticTypes := #[]
  resolved := Array.replicate 37 none
  statics := none }

def pool2 : Array CpInfo := pool [(2, .class_ 4), (1, u "java/lang/Object"), (0, u "<init>"), (0, u "()V"), (1, .class_ 10), (1, u "com/example/bagscope/bagscope/Utf8"), (12, u "EIGHT_BYTES"), (0, u "Ljava/lang/invoke/VarHandle;"), (15, .integer 65536), (67, u "HIGH_BITS"), (0, u "J"), (1, u "LOW_BITS"), (7, u "put"), (0, u "([BII)I")] 7

def k2m0 : Method := { name := "<init>", desc := "()V", sig := { parameters := [], returnType := none }, accessFlags := 2, code := none }
def k2c1 : Code := { maxStack := 5, maxLocals := 3, code := prog_60_method_10_code, exceptionTable := #[], attributes := #[] }
def k2m1 : Method := { name := "put", desc := "([BII)I", sig := { parameters := [(.array .byte), .int, .int], returnType := some .int }, accessFlags := 8, code := some k2c1 }
/-- com/example/bagscope/bagscope/Utf8 -/
def k2 : Class := { plain "com/example/bagscope/bagscope/Utf8" (some 0) with
  accessFlags := 48
  interfaces := #[]
  cf := some (fileOf pool2 8 #[] #[{ accessFlags := 2, nameIndex := 5, descriptorIndex := 6, attributes := #[] }, { accessFlags := 8, nameIndex := 119, descriptorIndex := 120, attributes := #[] }] 48 2 #[] #[{ accessFlags := 26, nameIndex := 23, descriptorIndex := 24, attributes := #[] }, { accessFlags := 26, nameIndex := 108, descriptorIndex := 109, attributes := #[] }, { accessFlags := 26, nameIndex := 111, descriptorIndex := 109, attributes := #[] }])
  fields := #[{ name := "EIGHT_BYTES", type := (.object "java/lang/invoke/VarHandle"), accessFlags := 26, slot := 0, constantValue := 0 }, { name := "HIGH_BITS", type := .long, accessFlags := 26, slot := 1, constantValue := 0 }, { name := "LOW_BITS", type := .long, accessFlags := 26, slot := 2, constantValue := 0 }]
  methods := #[k2m0, k2m1]
  instanceTypes := #[]
  staticTypes := #[(.object "java/lang/invoke/VarHandle"), .long, .long]
  resolved := Array.replicate 128 none
  statics := none }

def pool3 : Array CpInfo := pool [(1, u "java/lang/Cloneable"), (0, .class_ 1), (0, u "java/lang/Object"), (0, .class_ 3)] 3

/-- java/lang/Cloneable -/
def k3 : Class := { plain "java/lang/Cloneable" (some 0) with
  accessFlags := 1537
  interfaces := #[]
  cf := some (fileOf pool3 2 #[] #[] 1537 4 #[] #[])
  fields := #[]
  methods := #[]
  instanceTypes := #[]
  staticTypes := #[]
  resolved := Array.replicate 8 none
  statics := none }

def pool4 : Array CpInfo := pool [(1, u "java/io/Serializable"), (0, .class_ 1), (0, u "java/lang/Object"), (0, .class_ 3)] 3

/-- java/io/Serializable -/
def k4 : Class := { plain "java/io/Serializable" (some 0) with
  accessFlags := 1537
  interfaces := #[]
  cf := some (fileOf pool4 2 #[] #[] 1537 4 #[] #[])
  fields := #[]
  methods := #[]
  instanceTypes := #[]
  staticTypes := #[]
  resolved := Array.replicate 8 none
  statics := none }

/-- the primitive byte -/
def k5 : Class := { plain "byte" none with kind := .primitive 'B', accessFlags := 0x411 }
/-- [B -/
def k6 : Class := { plain "[B" (some 0) with kind := .array 5 .byte, interfaces := #[3, 4], accessFlags := 1041 }

/-- the primitive int -/
def k7 : Class := { plain "int" none with kind := .primitive 'I', accessFlags := 0x411 }
/-- [I -/
def k8 : Class := { plain "[I" (some 0) with kind := .array 7 .int, interfaces := #[3, 4], accessFlags := 1041 }

def heap : Heap := #[]
def classes : Array Class := #[k0, k1, k2, k3, k4, k5, k6, k7, k8]
def interned : List (Array UInt16 × Addr) := []
def slotsUsed : Nat := 0
def theMethod : MethodId := ⟨1, 1⟩
def args0 : Array Value := #[.int 164, .int 74, .int 79]
def aboutOver (below : List Frame) : State where
  vm := { classes := classes, interned := interned.toArray }
  heap := heap
  slotsUsed := slotsUsed
  threads := #[{ frames := .invoking theMethod args0 :: below }]
def below0 : List Frame := [.native { method := ⟨0, 0⟩, args := #[] }]
def about1 : State := aboutOver below0
def p0 : Program := .bare "" "" ""
def e0 : Env := launch0.env 0 0 0
theorem w_frames : about1.frames = Frame.invoking theMethod args0 :: below0 := rfl
set_option maxRecDepth 65536 in
theorem w_args : argsFit about1.vm theMethod args0 = true := by decide +kernel
set_option maxRecDepth 65536 in
theorem w_heap : heapFits about1 = true := by decide +kernel
set_option maxRecDepth 65536 in
theorem w_runnable : about1.curStatus? = some .runnable := by decide +kernel
set_option maxRecDepth 65536 in
theorem w_alone : about1.alone = true := by decide +kernel
set_option maxRecDepth 65536 in
theorem w_named : about1.methodNamed? x = some theMethod := by decide +kernel
set_option maxRecDepth 65536 in
theorem w_hears : about1.hears theMethod below0 = true := by decide +kernel
set_option maxRecDepth 65536 in
theorem w_ripe : about1.ripe theMethod args0 below0 = true := by decide +kernel
theorem w_running : about1.status = .running := rfl
set_option maxRecDepth 65536 in
theorem w_room : about1.hasRoom e0.platform room_1 = true :=
  launch0.hasRoom_least _ room_1 (by decide +kernel) (by decide +kernel) (by decide +kernel) (by decide +kernel) (by decide +kernel) (by decide +kernel)
theorem allAtoms_all (ts : List Jvm.Cond) (a : Array Jvm.Value) (st : Jvm.State) : (allAtoms ts).before a st = ts.all (fun c => c.before a st) := by
  induction ts with
  | nil => rfl
  | cons c t ih =>
    show (Jvm.Cond.and c (allAtoms t)).before a st = _
    rw [Jvm.Cond.before_and, ih, List.all_cons]
def words1 : List Jvm.Cond := Jvm.Cond.code x code maxLocals ret :: tables_1
/-- a 'code' word, met by the world's own term for the bytes: nothing is compared byte by byte -/
theorem code_word {y : MethodName} {bytes : ByteArray} {mx : Nat} {rt : Option FieldType} {a : Array Value} {s : State} {m : MethodId} {meth : Method} {c : Code} (h1 : s.methodNamed? y = some m) (h2 : s.vm.method? m = some meth) (h3 : meth.code = some c) (h4 : c.code = bytes)
    (h5 : (c.maxLocals == mx && c.exceptionTable.isEmpty && decide (c.maxStack ≤ mostOperands) && decide (meth.sig.returnType = rt) && !meth.locks && decide (parseMethodDescriptor y.desc = some meth.sig)) = true) : (Jvm.Cond.code y bytes mx rt).before a s = true := by
  simp only [Bool.and_eq_true, beq_iff_eq, Bool.not_eq_true', decide_eq_true_eq] at h5
  obtain ⟨⟨⟨⟨⟨g1, g2⟩, g3⟩, g4⟩, g5⟩, g6⟩ := h5
  simp [Cond.before, Cond.holds, Cond.value, h1, h2, h3, h4, g1, g2, g3, g4, g5, g6]
def isCode : Jvm.Cond → Bool
  | .code _ _ _ _ => true
  | _ => false
theorem all_split {L : List Jvm.Cond} {P : Jvm.Cond → Bool} (h1 : L.all (fun c => isCode c || P c) = true) (h2 : ∀ c ∈ L.filter isCode, P c = true) : L.all P = true := by
  refine List.all_eq_true.mpr fun c hc => ?_
  have h := List.all_eq_true.mp h1 c hc
  rcases Bool.eq_false_or_eq_true (isCode c) with hi | hi
  · exact h2 c (List.mem_filter.mpr ⟨hc, hi⟩)
  · simpa [hi] using h
set_option maxRecDepth 65536 in
theorem w_c0 : (Jvm.Cond.code x code maxLocals ret).before args0 about1 = true := code_word (m := ⟨1, 1⟩) (meth := k1m1) (c := k1c1) (by decide +kernel) rfl rfl rfl (by decide +kernel)
set_option maxRecDepth 65536 in
theorem w_c1 : (Jvm.Cond.code ({ cls := "com/example/bagscope/bagscope/Utf8", name := "put", desc := "([BII)I" } : Jvm.MethodName) prog_60_method_10_code (3 : Nat) (Option.some Jvm.ClassFile.FieldType.int)).before args0 about1 = true := code_word (m := ⟨2, 1⟩) (meth := k2m1) (c := k2c1) (by decide +kernel) rfl rfl rfl (by decide +kernel)
set_option maxRecDepth 65536 in
theorem w_c2 : (Jvm.Cond.code ({ cls := "com/example/bagscope/bagscope/Utf8PutPinLaw", name := "kept", desc := "([BIIIB)Z" } : Jvm.MethodName) method_3_code (5 : Nat) (Option.some Jvm.ClassFile.FieldType.boolean)).before args0 about1 = true := code_word (m := ⟨1, 2⟩) (meth := k1m2) (c := k1c2) (by decide +kernel) rfl rfl rfl (by decide +kernel)
set_option maxRecDepth 65536 in
theorem w_c3 : (Jvm.Cond.code ({ cls := "com/example/bagscope/bagscope/Utf8PutPinLaw", name := "cont", desc := "(I)Z" } : Jvm.MethodName) method_4_code (1 : Nat) (Option.some Jvm.ClassFile.FieldType.boolean)).before args0 about1 = true := code_word (m := ⟨1, 3⟩) (meth := k1m3) (c := k1c3) (by decide +kernel) rfl rfl rfl (by decide +kernel)
def codes1 : List Jvm.Cond := [Jvm.Cond.code x code maxLocals ret, Jvm.Cond.code ({ cls := "com/example/bagscope/bagscope/Utf8", name := "put", desc := "([BII)I" } : Jvm.MethodName) prog_60_method_10_code (3 : Nat) (Option.some Jvm.ClassFile.FieldType.int), Jvm.Cond.code ({ cls := "com/example/bagscope/bagscope/Utf8PutPinLaw", name := "kept", desc := "([BIIIB)Z" } : Jvm.MethodName) method_3_code (5 : Nat) (Option.some Jvm.ClassFile.FieldType.boolean), Jvm.Cond.code ({ cls := "com/example/bagscope/bagscope/Utf8PutPinLaw", name := "cont", desc := "(I)Z" } : Jvm.MethodName) method_4_code (1 : Nat) (Option.some Jvm.ClassFile.FieldType.boolean)]
set_option maxRecDepth 65536 in
theorem codes_eq : words1.filter isCode = codes1 := rfl
theorem w_codes : ∀ c ∈ words1.filter isCode, c.before args0 about1 = true := by
  rw [codes_eq]
  intro c hc
  simp only [codes1, List.mem_cons, List.not_mem_nil, or_false] at hc
  rcases hc with rfl | rfl | rfl | rfl
  · exact w_c0
  · exact w_c1
  · exact w_c2
  · exact w_c3
set_option maxRecDepth 65536 in
theorem w_t1 : words1.all (fun c => isCode c || c.before args0 about1) = true := by decide +kernel
theorem w_tables : (allAtoms (Jvm.Cond.code x code maxLocals ret :: tables_1)).before args0 about1 = true := by
  rw [allAtoms_all]
  show words1.all (fun c => c.before args0 about1) = true
  refine all_split ?_ w_codes
  rw [w_t1]
set_option maxRecDepth 65536 in
theorem w_case : (Jvm.Cond.and given_1 narrow_1).before args0 about1 = true := by decide +kernel
theorem w_applies : (headSpec (Jvm.Cond.code x code maxLocals ret :: tables_1) room_1).applies x e0.platform about1 = true :=
  (Spec.applies_iff w_frames).mpr ⟨w_running, w_runnable, w_alone, w_named, w_hears, w_ripe, w_room, w_tables⟩
theorem atStart : AtStart classFile x code maxLocals ret World_1 tables_1 room_1 Calls_1 rest_1 Pre_1 launch0 p0 e0 about1 theMethod args0 below0 :=
  ⟨lists_1, trivial, launch0.admits_env _ _ _, launch0.least_env, fairChoices_fair.cas, fairChoices_fair.clock, w_frames, w_args, w_heap, w_applies, trivial, trivial, w_case⟩
end start1
theorem witness_1 : WitnessClaimed_1 := ⟨start1.p0, start1.e0, start1.about1, start1.theMethod, start1.args0, start1.below0, start1.atStart⟩
end Jvm.Pilot.@@N@@
