import JvmDerived
import JvmDerived.Pilot.@@N@@Statement
import JvmDerived.Pilot.@@N@@Code
set_option linter.unusedVariables false
set_option linter.unusedSimpArgs false
namespace Jvm.WK
open Sem ClassFile Op Lib Jvm.Stand Jvm.Free Jvm.LawKit Jvm.RoadKit
/-! ## 1. the context of one law's run, and what is known of its heap -/
/-- program, launch, environment, start, the law's arguments, the frames below, the law's own method, its String constants, no constant may be interned, room, the law's local variables -/
abbrev Cx := Program × Launch × Env × State × Array Value × List Frame × MethodId × List (String × Nat) × Bool × Room × Nat
def kp (κ : Cx) : Program := κ.1
def kl (κ : Cx) : Launch := κ.2.1
def ke (κ : Cx) : Env := κ.2.2.1
def kZ (κ : Cx) : State := κ.2.2.2.1
def ka (κ : Cx) : Array Value := κ.2.2.2.2.1
def kb (κ : Cx) : List Frame := κ.2.2.2.2.2.1
def km (κ : Cx) : MethodId := κ.2.2.2.2.2.2.1
def kE (κ : Cx) : List (String × Nat) := κ.2.2.2.2.2.2.2.1
def kS (κ : Cx) : Bool := κ.2.2.2.2.2.2.2.2.1
def kR (κ : Cx) : Room := κ.2.2.2.2.2.2.2.2.2.1
def kx (κ : Cx) : Nat := κ.2.2.2.2.2.2.2.2.2.2
/-- a word of the tables -/
def Wd (κ : Cx) (d : Jvm.Cond) : Prop := d.before (ka κ) (kZ κ) = true
/-- the method called y has these bytes -/
def Meth (κ : Cx) (y : MethodName) (bytes : ByteArray) (mx : Nat) (rt : Option FieldType) : Prop := plainFor y = true ∧ Wd κ (.code y bytes mx rt)
def mid (κ : Cx) (y : MethodName) : MethodId := ((kZ κ).methodNamed? y).getD ⟨0, 0⟩
def fr (κ : Cx) (y : MethodName) (pc : Nat) (L : List Slot) (S : List Value) : Frame := .java (mkF (mid κ y) pc L.toArray S)
def cats (S : List Value) : Nat := (S.map fun v => v.category).sum
def wt (F : List Frame) : Nat := stackWeight F
/-- a frame that waits for a callee's answer -/
def Waits (κ : Cx) (f : Frame) : Prop := ∃ (y : MethodName) (bytes : ByteArray) (rt : Option FieldType) (pc : Nat) (L : List Slot) (S : List Value) (i : Instr) (len : Nat), f = fr κ y pc L S ∧ Meth κ y bytes L.length rt ∧ decode bytes pc = .ok (i, len)
/-- room for so many frames more and so many words, over the frames F (which lie above the law's invoker's) -/
def Rm (κ : Cx) (F : List Frame) (d w : Nat) : Prop := F.length + d ≤ (kR κ).frames + 1 ∧ wt F + w ≤ (kR κ).locals + (kx κ + 11)
def Under (κ : Cx) (F : List Frame) : Prop := ∀ f ∈ F, Waits κ f
/-- address; may be written; an object (its class; its fields: declarer, name, descriptor, value) or an array (its components) -/
abbrev Chunk := Addr × Bool × (String × List (String × String × String × Value) ⊕ FieldType × List Value)
def fslot (κ : Cx) (f : String × String × String × Value) : Nat := RoadKit.slotOf (kZ κ) f.1 f.2.1 f.2.2.1
def Holds (κ : Cx) (h : Heap) : Chunk → Prop
  | (a, _, .inl (C, fs)) => Exa (kZ κ) h a C ∧ (∀ f ∈ fs, Fld (kZ κ) h a f.1 f.2.1 f.2.2.1 f.2.2.2) ∧ (fs.map (fslot κ)).Nodup
  | (a, _, .inr (ty, vs)) => ∃ c : Cell, Arr (kZ κ) h a c ty ∧ c.slots.toList = vs ∧ ∀ C, ty = .object C → Ovr (kZ κ) c.cls C
def key (x : Chunk) : Addr × Bool := (x.1, x.2.1)
def Apart (x y : Addr × Bool) : Prop := (x.2 = true ∨ y.2 = true) → x.1 ≠ y.1
def Hp (κ : Cx) (vm : Vm) (h : Heap) (l : List Chunk) : Prop :=
  (∀ x ∈ l, Holds κ h x) ∧ (l.map key).Pairwise Apart ∧ (∀ x ∈ l, x.2.1 = true → (kZ κ).heap.size ≤ x.1 ∧ Safe (kZ κ) (kE κ) vm h x.1)
/-- what is the same all along -/
def Ok (κ : Cx) : Prop :=
  (kl κ).admits (ke κ) ∧ FairCas (ke κ).choices ∧ FairClock (ke κ).choices ∧ (kp κ).tables.exec = Jvm.exec ∧ (kZ κ).frames = .invoking (km κ) (ka κ) :: kb κ ∧ (kZ κ).hasRoom (ke κ).platform (kR κ) = true ∧
    (kZ κ).hears (km κ) (kb κ) = true ∧ (kZ κ).status = .running ∧ (kZ κ).curStatus? = some .runnable ∧ (kZ κ).alone = true ∧ EW (kZ κ) (ka κ) (kE κ) ∧ ∃ (x : MethodName) (bytes : ByteArray), Meth κ x bytes (kx κ) (some .boolean) ∧ mid κ x = km κ
def Good (κ : Cx) (T : State) (y : MethodName) (pc : Nat) (L : List Slot) (S : List Value) (F : List Frame) (l : List Chunk) (k n : Nat) : Prop :=
  T.frames = fr κ y pc L S :: (F ++ kb κ) ∧ (kZ κ).sameButNew (T.setVm (kZ κ).vm) [] k n ∧ (kZ κ).Since T.vm T.heap.size ∧ (kS κ = true → (kZ κ).WarmedH T.vm) ∧ CHv (kZ κ) (kE κ) T.vm T.heap ∧ Hp κ T.vm T.heap l ∧
    k ≤ (kR κ).cells ∧ n ≤ (kR κ).slots ∧ Under κ F ∧ Rm κ F 1 (L.length + 11) ∧ ∃ bytes rt, Meth κ y bytes L.length rt
/-- the end that the law owes -/
def Ends (κ : Cx) (t : State) : Prop :=
  t.status = .running ∧ Ended t (kb κ) (.returned (some (.int 1))) ∧ (kZ κ).Since t.vm t.heap.size ∧ (kS κ = true → (kZ κ).WarmedH t.vm) ∧ (kZ κ).sameButNew { t with vm := (kZ κ).vm } [] (kR κ).cells (kR κ).slots
def Done (κ : Cx) (T : State) : Prop := ∃ t, Steps (kp κ).tables (ke κ) (kb κ) T t ∧ Ends κ t
/-- **from every state that looks like this the law comes to its end** -/
def WP (κ : Cx) (y : MethodName) (pc : Nat) (L : List Slot) (S : List Value) (F : List Frame) (l : List Chunk) (k n : Nat) : Prop := ∀ T, Good κ T y pc L S F l k n → Done κ T
/-! ## 2. small facts -/
theorem steps_weaken {tb : Tables} {e : Env} {mid below : List Frame} {a b : State} (h : Steps tb e (mid ++ below) a b) : Steps tb e below a b := by
  obtain ⟨n, hn, hw⟩ := h
  refine ⟨n, hn, fun k hk => ?_⟩
  obtain ⟨above, h1, h2, h3⟩ := hw k hk
  refine ⟨above ++ mid, by rw [h1, List.append_assoc], by simp [h2], fun x hx => ?_⟩
  cases above with
  | nil => exact h2 rfl
  | cons y r =>
    cases r with
    | nil => cases mid with
      | nil => exact h3 x (by simpa using hx)
      | cons _ _ => simp at hx
    | cons _ _ => simp at hx
theorem wt_nil : wt [] = 0 := rfl
theorem wt_cons (f : Frame) (F : List Frame) : wt (f :: F) = f.weight + wt F := by simp [wt, stackWeight]
theorem wt_append (F G : List Frame) : wt (F ++ G) = wt F + wt G := by simp [wt, stackWeight]
theorem fr_weight (κ : Cx) (y : MethodName) (pc : Nat) (L : List Slot) (S : List Value) : (fr κ y pc L S).weight = 11 + L.length + cats S := by simp [fr, Frame.weight, cats]
theorem Rm.mono {κ : Cx} {F : List Frame} {d w d' w' : Nat} (h : Rm κ F d w) (h1 : d' ≤ d) (h2 : w' ≤ w) : Rm κ F d' w' := ⟨by have := h.1; omega, by have := h.2; omega⟩
theorem Rm.push {κ : Cx} {F : List Frame} {d w d' w' : Nat} {y : MethodName} {pc : Nat} {L : List Slot} {S : List Value} (h : Rm κ F d w) (h1 : d' + 1 ≤ d) (h2 : w' + (11 + L.length + cats S) ≤ w) : Rm κ (fr κ y pc L S :: F) d' w' :=
  ⟨by have := h.1; simp only [List.length_cons]; omega, by have := h.2; rw [wt_cons, fr_weight]; omega⟩
theorem Meth.get {κ : Cx} {y : MethodName} {bytes : ByteArray} {mx : Nat} {rt : Option FieldType} (M : Meth κ y bytes mx rt) :
    ∃ (meth : Method) (c : Code), (kZ κ).methodNamed? y = some (mid κ y) ∧ (kZ κ).vm.method? (mid κ y) = some meth ∧ meth.code = some c ∧ c.code = bytes ∧ c.maxLocals = mx ∧ meth.sig.returnType = rt ∧ meth.locks = false ∧ c.exceptionTable.isEmpty = true ∧ parseMethodDescriptor y.desc = some meth.sig := by
  obtain ⟨m, hn⟩ := Cond.code_named M.2
  obtain ⟨meth, c, h1, h2, h3, h4, h5, h6, h7, h8⟩ := Cond.code_spec hn M.2
  have e : mid κ y = m := by simp [mid, hn]
  rw [e]
  exact ⟨meth, c, hn, h1, h2, h3, h4, h5, h6, h7, h8⟩
theorem Meth.cls {κ : Cx} {y : MethodName} {bytes : ByteArray} {mx : Nat} {rt : Option FieldType} (M : Meth κ y bytes mx rt) : (kZ κ).vm.findClass y.cls = some (mid κ y).cls := by
  obtain ⟨_, _, h, _⟩ := M.get
  exact findClass_of_methodNamed h
section G
variable {κ : Cx} {T : State} {y : MethodName} {pc : Nat} {L : List Slot} {S : List Value} {F : List Frame} {l : List Chunk} {k n : Nat} {bytes : ByteArray} {mx : Nat} {rt : Option FieldType}
theorem Good.alike (G : Good κ T y pc L S F l k n) : (kZ κ).vm.Alike T.vm := G.2.2.1.1.alike
theorem Good.warm (G : Good κ T y pc L S F l k n) : (kZ κ).Warmed39 T.vm := G.2.2.1.1
theorem Good.eqT (G : Good κ T y pc L S F l k n) : T.setVm (kZ κ).vm = { (kZ κ).setFrames T.frames with heap := T.heap, slotsUsed := T.slotsUsed } := G.2.1.1
theorem Good.status (G : Good κ T y pc L S F l k n) : T.status = (kZ κ).status := by
  have q := congrArg State.status G.eqT
  exact q
theorem Good.threads (G : Good κ T y pc L S F l k n) : T.threads = ((kZ κ).setFrames T.frames).threads := by
  have q := congrArg State.threads G.eqT
  exact q
theorem Good.curEq (G : Good κ T y pc L S F l k n) : T.cur = (kZ κ).cur := by
  have q := congrArg State.cur G.eqT
  exact q
theorem Good.curStatus (G : Good κ T y pc L S F l k n) : T.curStatus? = (kZ κ).curStatus? := by
  rw [← State.curStatus?_setFrames (kZ κ) T.frames]
  show (T.threads[T.cur]?).map _ = (((kZ κ).setFrames T.frames).threads[(kZ κ).cur]?).map _
  rw [G.threads, G.curEq]
theorem Good.alone (G : Good κ T y pc L S F l k n) : T.alone = (kZ κ).alone := by
  rw [← State.alone_setFrames (kZ κ) T.frames]
  show State.alone T = State.alone ((kZ κ).setFrames T.frames)
  unfold State.alone
  rw [G.threads, G.curEq]
  rfl
theorem Good.me (G : Good κ T y pc L S F l k n) : T.me = ((kZ κ).setFrames T.frames).me := by
  unfold State.me
  rw [G.threads, G.curEq]
  rfl
theorem Good.limits (G : Good κ T y pc L S F l k n) (pl : Platform) : pl.stackLimits T.me = pl.stackLimits (kZ κ).me := by rw [G.me, State.stackLimits_setFrames]
theorem Good.sbytes (G : Good κ T y pc L S F l k n) : T.me.stackBytes = (kZ κ).me.stackBytes := by rw [G.me, State.stackBytes_setFrames]
theorem Good.len (G : Good κ T y pc L S F l k n) (M : Meth κ y bytes mx rt) : L.length = mx := by
  obtain ⟨b', rt', M'⟩ := G.2.2.2.2.2.2.2.2.2.2
  obtain ⟨m1, c1, -, h1, h2, -, h3, -⟩ := M.get
  obtain ⟨m2, c2, -, g1, g2, -, g3, -⟩ := M'.get
  cases h1.symm.trans g1
  cases h2.symm.trans g2
  exact g3.symm.trans h3
theorem Good.hears (C : Ok κ) (G : Good κ T y pc L S F l k n) (m : MethodId) : T.hears m (F ++ kb κ) = true := by
  obtain ⟨-, -, -, -, -, -, hh, -, -, -, -, x, bx, Mx, hmx⟩ := C
  obtain ⟨m0, c0, -, q1, -, -, -, q5, -⟩ := Mx.get
  rw [hmx] at q1
  cases F with
  | cons f F' =>
    obtain ⟨yc, bc, rc, pcc, Lc, Sc, i, len, rfl, Mc, hd⟩ := G.2.2.2.2.2.2.2.2.1 f (by simp)
    obtain ⟨mc, cc, -, n2, n3, n4, -⟩ := Mc.get
    have hm : T.vm.method? (mid κ yc) = some mc := by rw [G.alike.method?]; exact n2
    show ((T.code? (mid κ yc)).bind fun c => (decode c.code pcc).toOption).isSome = true
    rw [State.code?_eq, hm]
    simp [n3, n4, hd, Except.toOption]
  | nil =>
    show T.hears m (kb κ) = true
    cases hb : kb κ with
    | nil => rw [hb] at hh; simp [State.hears, q1, q5] at hh
    | cons f r =>
      rw [hb] at hh
      cases f
      case java g =>
        have e : T.code? g.method = (kZ κ).code? g.method := by rw [State.code?_eq, State.code?_eq, G.alike.method?]
        show ((T.code? g.method).bind fun c => (decode c.code g.pc).toOption).isSome = true
        rw [e]; exact hh
      case native g => rfl
      case proc g => rfl
      all_goals (simp [State.hears, q1, q5] at hh)
abbrev base (κ : Cx) (T : State) (y : MethodName) (F : List Frame) : State := T.setFrames (.invoking (mid κ y) (ka κ) :: (F ++ kb κ))
theorem Good.stand (C : Ok κ) (G : Good κ T y pc L S F l k n) (M : Meth κ y bytes mx rt) {d w : Nat} (hR : Rm κ F (d + 1) (L.length + 11 + w)) :
    ∃ meth c, Stand (kp κ) (kl κ) (ke κ) ⟨d, (kR κ).cells - k, (kR κ).slots - n, w⟩ (base κ T y F) (mid κ y) (ka κ) (F ++ kb κ) meth c T [] 0 0 ∧ c.code = bytes ∧ c.maxLocals = L.length ∧ meth.sig.returnType = rt ∧ meth.locks = false ∧ parseMethodDescriptor y.desc = some meth.sig := by
  have eL := G.len M
  obtain ⟨meth, c, h1, h2, h3, h4, h5, h6, h7, -, h8⟩ := M.get
  have hf := G.1
  have hcur := State.cur_lt_of_frames hf
  have hal := G.alike
  have hm : T.vm.method? (mid κ y) = some meth := by rw [hal.method?]; exact h2
  have hH := G.hears C (mid κ y)
  obtain ⟨c1, c2, c3, c4, c5, c6, c7, c8, c9, c10, c11, x, bx, Mx, hmx⟩ := C
  obtain ⟨m0, c0, -, q1, q2, -, q4, q5, -⟩ := Mx.get
  rw [hmx] at q1
  have hname : T.methodNamed? y = some (mid κ y) := by
    have q : ((kZ κ).setVm T.vm).methodNamed? y = some (mid κ y) := by rw [State.methodNamed?_setVm hal]; exact h1
    exact q
  have hfs : (base κ T y F).frames = .invoking (mid κ y) (ka κ) :: (F ++ kb κ) := State.frames_setFrames _ hcur
  obtain ⟨t, ht, -⟩ := State.frames_cons hfs
  refine ⟨meth, c, ⟨c1, c2, c3, hfs, ?_, ?_, hm, h3, ⟨?_, ⟨[], by rw [hf]; rfl⟩, G.status.trans c8, G.curStatus.trans c9, G.alone.trans c10, ?_, ?_⟩, by rw [hf]; rfl, State.WarmedH.refl (base κ T y F), ?_, ?_, ?_⟩, h4, by rw [h5, eL], h6, h7, h8⟩
  · have r := c6
    have e1 := State.localsInUse_invoking c5 q1 q2
    have e2 := State.localsInUse_invoking (s := base κ T y F) hfs hm h3
    have e3 : stackWeight (F ++ kb κ) = wt F + stackWeight (kb κ) := wt_append F (kb κ)
    have b1 : (ke κ).platform.stackLimits (base κ T y F).me = (ke κ).platform.stackLimits (kZ κ).me := by rw [State.stackLimits_setFrames]; exact G.limits _
    have b2 : (base κ T y F).me.stackBytes = (kZ κ).me.stackBytes := by rw [State.stackBytes_setFrames]; exact G.sbytes
    have b3 : (base κ T y F).slotsTrue = true := by
      simp only [State.hasRoom, Bool.and_eq_true] at r
      have q := State.slotsTrue_of_sameButNew r.2 G.2.1
      exact q
    have b4 : (base κ T y F).heap.size ≤ (kZ κ).heap.size + k := G.2.1.2.2.1
    have b5 : (base κ T y F).slotsUsed ≤ (kZ κ).slotsUsed + n := by
      have u1 : T.slotsUsed = (kZ κ).slotsUsed + _ := G.2.1.2.2.2.1
      have u2 := G.2.1.2.2.2.2.1
      show T.slotsUsed ≤ _
      rw [u1]; exact Nat.add_le_add_left u2 _
    have b6 := G.2.2.2.2.2.2.1
    have b7 := G.2.2.2.2.2.2.2.1
    have b8 : (base κ T y F).frames.length = F.length + (kb κ).length + 1 := by rw [hfs]; simp
    have b9 : (kZ κ).frames.length = (kb κ).length + 1 := by rw [c5]; simp
    have r1 := hR.1
    have r2 := hR.2
    simp only [State.hasRoom, Bool.and_eq_true, decide_eq_true_eq] at r ⊢
    rw [e1, b9] at r
    rw [e2, e3, b8, b1, b2]
    rw [h5, ← eL]
    rw [q4] at r
    refine ⟨⟨⟨⟨?_, ⟨?_, ?_, ?_, ?_, r.1.1.1.2.2.2.2.2⟩⟩, ?_⟩, ?_⟩, b3⟩
    · have := r.1.1.1.1; omega
    · have := r.1.1.1.2.1; omega
    · have := r.1.1.1.2.2.1; omega
    · have := r.1.1.1.2.2.2.1; omega
    · have := r.1.1.1.2.2.2.2.1; omega
    · have := r.1.1.2; omega
    · have := r.1.2; omega
  · have e : (base κ T y F).hears (mid κ y) (F ++ kb κ) = T.hears (mid κ y) (F ++ kb κ) := by
      cases F ++ kb κ with
      | nil => rfl
      | cons f r => cases f <;> rfl
    rw [e]; exact hH
  · rw [State.topJava?_of_frames hf]; rfl
  · rw [State.code?_eq, hm]; simp [h3]
  · exact State.plainMethod.of_named M.1 hname hm
  · rw [State.stackLimits_setFrames]
  · rw [State.stackBytes_setFrames]
  · have q := (State.sameButNew.refl (base κ T y F) ht).setFrames T.frames (State.cur_lt_of_frames hfs)
    have e : (base κ T y F).setFrames T.frames = T := by
      show (T.setFrames _).setFrames T.frames = T
      rw [State.setFrames_setFrames, hf]
      have e2 := State.setTop_of_frames (mkF (mid κ y) pc L.toArray S) hf
      rw [State.setTop_self (State.topJava?_of_frames hf)] at e2
      exact e2.symm
    rw [e] at q
    exact q
end G
end Jvm.WK
namespace Jvm.WK
open Sem ClassFile Op Lib Jvm.Stand Jvm.Free Jvm.LawKit Jvm.RoadKit
/-! ## 3. the instructions that touch the frame alone, by evaluation -/
abbrev Pr := Option (Nat × List Slot × List Value)
def pK (len w pc : Nat) (L : List Slot) (S : List Value) (v : Value) : Pr := if len = w then some (pc + w, L, v :: S) else none
def kindOf : Value → Nat
  | .int _ => 0
  | .long _ => 1
  | .null => 2
  | .ref _ => 2
  | _ => 9
def pLd (len w pc : Nat) (L : List Slot) (S : List Value) (k kd : Nat) : Pr := match L[k]? with
  | some (.val v) => if len = w ∧ kindOf v = kd then some (pc + w, L, v :: S) else none
  | _ => none
def pSt (len w pc : Nat) (L : List Slot) (S : List Value) (k kd : Nat) : Pr := match S with
  | v :: r => if len = w ∧ kindOf v = kd then (match storeLocals L.toArray k v with
    | some l' => if l'.size = L.length then some (pc + w, l'.toList, r) else none
    | none => none) else none
  | [] => none
def pInc (len pc : Nat) (L : List Slot) (S : List Value) (k : Nat) (cst : Int) : Pr := match L[k]? with
  | some (.val (.int x)) => if len = 3 then (match storeLocals L.toArray k (.int (x + Int32.ofInt cst)) with
    | some l' => if l'.size = L.length then some (pc + 3, l'.toList, S) else none
    | none => none) else none
  | _ => none
def pI2 (len pc : Nat) (L : List Slot) (S : List Value) (f : Int32 → Int32 → Int32) : Pr := match S with
  | .int y :: .int x :: r => if len = 1 then some (pc + 1, L, .int (f x y) :: r) else none
  | _ => none
def pL2 (len pc : Nat) (L : List Slot) (S : List Value) (f : Int64 → Int64 → Value) : Pr := match S with
  | .long y :: .long x :: r => if len = 1 then some (pc + 1, L, f x y :: r) else none
  | _ => none
def pLI (len pc : Nat) (L : List Slot) (S : List Value) (f : Int64 → Int32 → Int64) : Pr := match S with
  | .int y :: .long x :: r => if len = 1 then some (pc + 1, L, .long (f x y) :: r) else none
  | _ => none
def pI1 (len pc : Nat) (L : List Slot) (S : List Value) (f : Int32 → Value) : Pr := match S with
  | .int x :: r => if len = 1 then some (pc + 1, L, f x :: r) else none
  | _ => none
def pL1 (len pc : Nat) (L : List Slot) (S : List Value) (f : Int64 → Value) : Pr := match S with
  | .long x :: r => if len = 1 then some (pc + 1, L, f x :: r) else none
  | _ => none
def pPop (len pc : Nat) (L : List Slot) (S : List Value) : Pr := match S with
  | x :: r => if len = 1 ∧ x.category = 1 then some (pc + 1, L, r) else none
  | _ => none
def pDup (len pc : Nat) (L : List Slot) (S : List Value) : Pr := match S with
  | x :: r => if len = 1 ∧ x.category = 1 then some (pc + 1, L, x :: x :: r) else none
  | _ => none
def pDupX1 (len pc : Nat) (L : List Slot) (S : List Value) : Pr := match S with
  | x :: y :: r => if len = 1 ∧ x.category = 1 ∧ y.category = 1 then some (pc + 1, L, x :: y :: x :: r) else none
  | _ => none
def pDup2 (len pc : Nat) (L : List Slot) (S : List Value) : Pr := match S with
  | .long x :: r => if len = 1 then some (pc + 1, L, .long x :: .long x :: r) else none
  | x :: y :: r => if len = 1 ∧ x.category = 1 ∧ y.category = 1 then some (pc + 1, L, x :: y :: x :: y :: r) else none
  | _ => none
def pGo (len pc : Nat) (L : List Slot) (S : List Value) (o : Int) : Pr := if len = 3 ∧ 0 ≤ (pc : Int) + o then some (((pc : Int) + o).toNat, L, S) else none
/-- one instruction of the frame's own -/
def ps (i : Instr) (len pc : Nat) (L : List Slot) (S : List Value) : Pr := match i with
  | .iconst v => pK len 1 pc L S (.int (Int32.ofInt v))
  | .bipush v => pK len 2 pc L S (.int (Int8.ofInt v).toInt32)
  | .sipush v => pK len 3 pc L S (.int (Int16.ofInt v).toInt32)
  | .lconst k => pK len 1 pc L S (.long (Int64.ofNat k))
  | .aconst_null => pK len 1 pc L S .null
  | .iload_n k => pLd len 1 pc L S k.val 0
  | .iload k => pLd len 2 pc L S k 0
  | .lload_n k => pLd len 1 pc L S k.val 1
  | .lload k => pLd len 2 pc L S k 1
  | .aload_n k => pLd len 1 pc L S k.val 2
  | .aload k => pLd len 2 pc L S k 2
  | .istore_n k => pSt len 1 pc L S k.val 0
  | .istore k => pSt len 2 pc L S k 0
  | .lstore_n k => pSt len 1 pc L S k.val 1
  | .lstore k => pSt len 2 pc L S k 1
  | .astore_n k => pSt len 1 pc L S k.val 2
  | .astore k => pSt len 2 pc L S k 2
  | .iinc k cst => pInc len pc L S k cst
  | .iadd => pI2 len pc L S (fun x y => x + y)
  | .isub => pI2 len pc L S (fun x y => x - y)
  | .imul => pI2 len pc L S (fun x y => x * y)
  | .iand => pI2 len pc L S (fun x y => x &&& y)
  | .ior => pI2 len pc L S (fun x y => x ||| y)
  | .ixor => pI2 len pc L S (fun x y => x ^^^ y)
  | .ishl => pI2 len pc L S (fun x y => x <<< (y &&& 31))
  | .ishr => pI2 len pc L S (fun x y => x >>> (y &&& 31))
  | .iushr => pI2 len pc L S (fun x y => XT.ushr x y)
  | .ladd => pL2 len pc L S (fun x y => .long (x + y))
  | .lsub => pL2 len pc L S (fun x y => .long (x - y))
  | .lmul => pL2 len pc L S (fun x y => .long (x * y))
  | .land => pL2 len pc L S (fun x y => .long (x &&& y))
  | .lor => pL2 len pc L S (fun x y => .long (x ||| y))
  | .lxor => pL2 len pc L S (fun x y => .long (x ^^^ y))
  | .lcmp => pL2 len pc L S (fun x y => .int (XT.cmpL x y))
  | .lshl => pLI len pc L S (fun x y => x <<< (y.toInt64 &&& 63))
  | .lshr => pLI len pc L S (fun x y => x >>> (y.toInt64 &&& 63))
  | .lushr => pLI len pc L S (fun x y => XT.ushrL x y)
  | .i2l => pI1 len pc L S (fun x => .long x.toInt64)
  | .i2b => pI1 len pc L S (fun x => .int x.toInt8.toInt32)
  | .i2c => pI1 len pc L S (fun x => .int x.toUInt32.toUInt16.toUInt32.toInt32)
  | .i2s => pI1 len pc L S (fun x => .int x.toInt16.toInt32)
  | .ineg => pI1 len pc L S (fun x => .int (-x))
  | .l2i => pL1 len pc L S (fun x => .int x.toInt32)
  | .lneg => pL1 len pc L S (fun x => .long (-x))
  | .pop => pPop len pc L S
  | .dup => pDup len pc L S
  | .dup_x1 => pDupX1 len pc L S
  | .dup2 => pDup2 len pc L S
  | .goto o => pGo len pc L S o
  | _ => none
/-- a stretch of them -/
def runs : List (Instr × Nat) → Nat → List Slot → List Value → Pr
  | [], pc, L, S => some (pc, L, S)
  | (i, len) :: r, pc, L, S => match ps i len pc L S with
    | some (pc', L', S') => runs r pc' L' S'
    | none => none
/-- where it goes on -/
def npc (i : Instr) (len pc : Nat) : Nat := match i with
  | .goto o => ((pc : Int) + o).toNat
  | _ => pc + len
/-- the bytes hold that stretch from pc on -/
def seg (bytes : ByteArray) : List (Instr × Nat) → Nat → Bool
  | [], _ => true
  | (i, len) :: r, pc => (match decode bytes pc with
    | .ok (j, n) => decide (j = i ∧ n = len)
    | _ => false) && seg bytes r (npc i len pc)
section P
variable {tb : Tables} [Ours tb] {e : Env} {below : List Frame} {T : State} {m : MethodId} {c : Code} {pc len : Nat} {L L' : List Slot} {S S' : List Value} {pc' : Nat}
theorem kind0 {v : Value} (h : kindOf v = 0) : ∃ x, v = .int x := by cases v <;> simp [kindOf] at h ⊢
theorem kind1 {v : Value} (h : kindOf v = 1) : ∃ x, v = .long x := by cases v <;> simp [kindOf] at h ⊢
theorem kind2 {v : Value} (h : kindOf v = 2) : v.isRef = true := by cases v <;> simp [kindOf, Value.isRef] at h ⊢
theorem toA {k : Nat} {o : Option Slot} (h : L[k]? = o) : L.toArray[k]? = o := by simpa using h
theorem s_nop1 (h : At T m c below) (hx : tb.exec = Jvm.exec) {v : Int} (hd : decode c.code pc = .ok (.iconst v, len)) (hp : ps (.iconst v) len pc L S = some (pc', L', S')) : Steps tb e below (T.setTop (mkF m pc L.toArray S)) (T.setTop (mkF m pc' L'.toArray S')) ∧ L'.length = L.length ∧ npc (.iconst v) len pc = pc' := by
  simp only [ps, pK] at hp
  split at hp
  · rename_i hc
    subst hc
    cases hp
    exact ⟨XS.iconst h hx rfl hd (Steps.refl _), rfl, rfl⟩
  · cases hp
theorem s_bipush (h : At T m c below) (hx : tb.exec = Jvm.exec) {v : Int} (hd : decode c.code pc = .ok (.bipush v, len)) (hp : ps (.bipush v) len pc L S = some (pc', L', S')) : Steps tb e below (T.setTop (mkF m pc L.toArray S)) (T.setTop (mkF m pc' L'.toArray S')) ∧ L'.length = L.length ∧ npc (.bipush v) len pc = pc' := by
  simp only [ps, pK] at hp
  split at hp
  · rename_i hc
    subst hc
    cases hp
    exact ⟨XS.bipush h hx rfl hd (Steps.refl _), rfl, rfl⟩
  · cases hp
theorem s_sipush (h : At T m c below) (hx : tb.exec = Jvm.exec) {v : Int} (hd : decode c.code pc = .ok (.sipush v, len)) (hp : ps (.sipush v) len pc L S = some (pc', L', S')) : Steps tb e below (T.setTop (mkF m pc L.toArray S)) (T.setTop (mkF m pc' L'.toArray S')) ∧ L'.length = L.length ∧ npc (.sipush v) len pc = pc' := by
  simp only [ps, pK] at hp
  split at hp
  · rename_i hc
    subst hc
    cases hp
    exact ⟨XS.sipush h hx rfl hd (Steps.refl _), rfl, rfl⟩
  · cases hp
theorem s_lconst (h : At T m c below) (hx : tb.exec = Jvm.exec) {k : Fin 2} (hd : decode c.code pc = .ok (.lconst k, len)) (hp : ps (.lconst k) len pc L S = some (pc', L', S')) : Steps tb e below (T.setTop (mkF m pc L.toArray S)) (T.setTop (mkF m pc' L'.toArray S')) ∧ L'.length = L.length ∧ npc (.lconst k) len pc = pc' := by
  simp only [ps, pK] at hp
  split at hp
  · rename_i hc
    subst hc
    cases hp
    exact ⟨XT.lconst h hx rfl hd (Steps.refl _), rfl, rfl⟩
  · cases hp
theorem s_anull (h : At T m c below) (hx : tb.exec = Jvm.exec) (hd : decode c.code pc = .ok (.aconst_null, len)) (hp : ps (.aconst_null) len pc L S = some (pc', L', S')) : Steps tb e below (T.setTop (mkF m pc L.toArray S)) (T.setTop (mkF m pc' L'.toArray S')) ∧ L'.length = L.length ∧ npc (.aconst_null) len pc = pc' := by
  simp only [ps, pK] at hp
  split at hp
  · rename_i hc
    subst hc
    cases hp
    exact ⟨XS.aconstNull h hx rfl hd (Steps.refl _), rfl, rfl⟩
  · cases hp
theorem s_iloadN (h : At T m c below) (hx : tb.exec = Jvm.exec) {k : Fin 4} (hd : decode c.code pc = .ok (.iload_n k, len)) (hp : ps (.iload_n k) len pc L S = some (pc', L', S')) : Steps tb e below (T.setTop (mkF m pc L.toArray S)) (T.setTop (mkF m pc' L'.toArray S')) ∧ L'.length = L.length ∧ npc (.iload_n k) len pc = pc' := by
  simp only [ps, pLd] at hp
  split at hp
  · rename_i v hv
    split at hp
    · rename_i hc
      obtain ⟨rfl, hk⟩ := hc
      cases hp
      obtain ⟨x, rfl⟩ := kind0 hk
      exact ⟨XS.iloadN h hx rfl hd (toA hv) (Steps.refl _), rfl, rfl⟩
    · cases hp
  · cases hp
theorem s_iload (h : At T m c below) (hx : tb.exec = Jvm.exec) {k : Nat} (hd : decode c.code pc = .ok (.iload k, len)) (hp : ps (.iload k) len pc L S = some (pc', L', S')) : Steps tb e below (T.setTop (mkF m pc L.toArray S)) (T.setTop (mkF m pc' L'.toArray S')) ∧ L'.length = L.length ∧ npc (.iload k) len pc = pc' := by
  simp only [ps, pLd] at hp
  split at hp
  · rename_i v hv
    split at hp
    · rename_i hc
      obtain ⟨rfl, hk⟩ := hc
      cases hp
      obtain ⟨x, rfl⟩ := kind0 hk
      exact ⟨XS.iload h hx rfl hd (toA hv) (Steps.refl _), rfl, rfl⟩
    · cases hp
  · cases hp
theorem s_lloadN (h : At T m c below) (hx : tb.exec = Jvm.exec) {k : Fin 4} (hd : decode c.code pc = .ok (.lload_n k, len)) (hp : ps (.lload_n k) len pc L S = some (pc', L', S')) : Steps tb e below (T.setTop (mkF m pc L.toArray S)) (T.setTop (mkF m pc' L'.toArray S')) ∧ L'.length = L.length ∧ npc (.lload_n k) len pc = pc' := by
  simp only [ps, pLd] at hp
  split at hp
  · rename_i v hv
    split at hp
    · rename_i hc
      obtain ⟨rfl, hk⟩ := hc
      cases hp
      obtain ⟨x, rfl⟩ := kind1 hk
      exact ⟨XT.lloadN h hx rfl hd (toA hv) (Steps.refl _), rfl, rfl⟩
    · cases hp
  · cases hp
theorem s_lload (h : At T m c below) (hx : tb.exec = Jvm.exec) {k : Nat} (hd : decode c.code pc = .ok (.lload k, len)) (hp : ps (.lload k) len pc L S = some (pc', L', S')) : Steps tb e below (T.setTop (mkF m pc L.toArray S)) (T.setTop (mkF m pc' L'.toArray S')) ∧ L'.length = L.length ∧ npc (.lload k) len pc = pc' := by
  simp only [ps, pLd] at hp
  split at hp
  · rename_i v hv
    split at hp
    · rename_i hc
      obtain ⟨rfl, hk⟩ := hc
      cases hp
      obtain ⟨x, rfl⟩ := kind1 hk
      exact ⟨XT.lload h hx rfl hd (toA hv) (Steps.refl _), rfl, rfl⟩
    · cases hp
  · cases hp
theorem s_aloadN (h : At T m c below) (hx : tb.exec = Jvm.exec) {k : Fin 4} (hd : decode c.code pc = .ok (.aload_n k, len)) (hp : ps (.aload_n k) len pc L S = some (pc', L', S')) : Steps tb e below (T.setTop (mkF m pc L.toArray S)) (T.setTop (mkF m pc' L'.toArray S')) ∧ L'.length = L.length ∧ npc (.aload_n k) len pc = pc' := by
  simp only [ps, pLd] at hp
  split at hp
  · rename_i v hv
    split at hp
    · rename_i hc
      obtain ⟨rfl, hk⟩ := hc
      cases hp
      exact ⟨XS.aloadN h hx rfl hd (toA hv) (kind2 hk) (Steps.refl _), rfl, rfl⟩
    · cases hp
  · cases hp
theorem s_aload (h : At T m c below) (hx : tb.exec = Jvm.exec) {k : Nat} (hd : decode c.code pc = .ok (.aload k, len)) (hp : ps (.aload k) len pc L S = some (pc', L', S')) : Steps tb e below (T.setTop (mkF m pc L.toArray S)) (T.setTop (mkF m pc' L'.toArray S')) ∧ L'.length = L.length ∧ npc (.aload k) len pc = pc' := by
  simp only [ps, pLd] at hp
  split at hp
  · rename_i v hv
    split at hp
    · rename_i hc
      obtain ⟨rfl, hk⟩ := hc
      cases hp
      exact ⟨XS.aload h hx rfl hd (toA hv) (kind2 hk) (Steps.refl _), rfl, rfl⟩
    · cases hp
  · cases hp
theorem s_istoreN (h : At T m c below) (hx : tb.exec = Jvm.exec) {k : Fin 4} (hd : decode c.code pc = .ok (.istore_n k, len)) (hp : ps (.istore_n k) len pc L S = some (pc', L', S')) : Steps tb e below (T.setTop (mkF m pc L.toArray S)) (T.setTop (mkF m pc' L'.toArray S')) ∧ L'.length = L.length ∧ npc (.istore_n k) len pc = pc' := by
  simp only [ps, pSt] at hp
  split at hp
  · split at hp
    · rename_i hc
      obtain ⟨rfl, hk⟩ := hc
      split at hp
      · rename_i l' hl
        split at hp
        · rename_i hs
          cases hp
          obtain ⟨x, rfl⟩ := kind0 hk
          exact ⟨XS.istoreN h hx rfl hd rfl hl (Steps.refl _), by simpa using hs, rfl⟩
        · cases hp
      · cases hp
    · cases hp
  · cases hp
theorem s_istore (h : At T m c below) (hx : tb.exec = Jvm.exec) {k : Nat} (hd : decode c.code pc = .ok (.istore k, len)) (hp : ps (.istore k) len pc L S = some (pc', L', S')) : Steps tb e below (T.setTop (mkF m pc L.toArray S)) (T.setTop (mkF m pc' L'.toArray S')) ∧ L'.length = L.length ∧ npc (.istore k) len pc = pc' := by
  simp only [ps, pSt] at hp
  split at hp
  · split at hp
    · rename_i hc
      obtain ⟨rfl, hk⟩ := hc
      split at hp
      · rename_i l' hl
        split at hp
        · rename_i hs
          cases hp
          obtain ⟨x, rfl⟩ := kind0 hk
          exact ⟨XS.istore h hx rfl hd rfl hl (Steps.refl _), by simpa using hs, rfl⟩
        · cases hp
      · cases hp
    · cases hp
  · cases hp
theorem s_lstoreN (h : At T m c below) (hx : tb.exec = Jvm.exec) {k : Fin 4} (hd : decode c.code pc = .ok (.lstore_n k, len)) (hp : ps (.lstore_n k) len pc L S = some (pc', L', S')) : Steps tb e below (T.setTop (mkF m pc L.toArray S)) (T.setTop (mkF m pc' L'.toArray S')) ∧ L'.length = L.length ∧ npc (.lstore_n k) len pc = pc' := by
  simp only [ps, pSt] at hp
  split at hp
  · split at hp
    · rename_i hc
      obtain ⟨rfl, hk⟩ := hc
      split at hp
      · rename_i l' hl
        split at hp
        · rename_i hs
          cases hp
          obtain ⟨x, rfl⟩ := kind1 hk
          exact ⟨XT.lstoreN h hx rfl hd rfl hl (Steps.refl _), by simpa using hs, rfl⟩
        · cases hp
      · cases hp
    · cases hp
  · cases hp
theorem s_lstore (h : At T m c below) (hx : tb.exec = Jvm.exec) {k : Nat} (hd : decode c.code pc = .ok (.lstore k, len)) (hp : ps (.lstore k) len pc L S = some (pc', L', S')) : Steps tb e below (T.setTop (mkF m pc L.toArray S)) (T.setTop (mkF m pc' L'.toArray S')) ∧ L'.length = L.length ∧ npc (.lstore k) len pc = pc' := by
  simp only [ps, pSt] at hp
  split at hp
  · split at hp
    · rename_i hc
      obtain ⟨rfl, hk⟩ := hc
      split at hp
      · rename_i l' hl
        split at hp
        · rename_i hs
          cases hp
          obtain ⟨x, rfl⟩ := kind1 hk
          exact ⟨XT.lstore h hx rfl hd rfl hl (Steps.refl _), by simpa using hs, rfl⟩
        · cases hp
      · cases hp
    · cases hp
  · cases hp
theorem s_astoreN (h : At T m c below) (hx : tb.exec = Jvm.exec) {k : Fin 4} (hd : decode c.code pc = .ok (.astore_n k, len)) (hp : ps (.astore_n k) len pc L S = some (pc', L', S')) : Steps tb e below (T.setTop (mkF m pc L.toArray S)) (T.setTop (mkF m pc' L'.toArray S')) ∧ L'.length = L.length ∧ npc (.astore_n k) len pc = pc' := by
  simp only [ps, pSt] at hp
  split at hp
  · split at hp
    · rename_i hc
      obtain ⟨rfl, hk⟩ := hc
      split at hp
      · rename_i l' hl
        split at hp
        · rename_i hs
          cases hp
          exact ⟨XS.astoreN h hx rfl hd rfl (kind2 hk) hl (Steps.refl _), by simpa using hs, rfl⟩
        · cases hp
      · cases hp
    · cases hp
  · cases hp
theorem s_astore (h : At T m c below) (hx : tb.exec = Jvm.exec) {k : Nat} (hd : decode c.code pc = .ok (.astore k, len)) (hp : ps (.astore k) len pc L S = some (pc', L', S')) : Steps tb e below (T.setTop (mkF m pc L.toArray S)) (T.setTop (mkF m pc' L'.toArray S')) ∧ L'.length = L.length ∧ npc (.astore k) len pc = pc' := by
  simp only [ps, pSt] at hp
  split at hp
  · split at hp
    · rename_i hc
      obtain ⟨rfl, hk⟩ := hc
      split at hp
      · rename_i l' hl
        split at hp
        · rename_i hs
          cases hp
          exact ⟨XS.astore h hx rfl hd rfl (kind2 hk) hl (Steps.refl _), by simpa using hs, rfl⟩
        · cases hp
      · cases hp
    · cases hp
  · cases hp
theorem s_iinc (h : At T m c below) (hx : tb.exec = Jvm.exec) {k : Nat} {cst : Int} (hd : decode c.code pc = .ok (.iinc k cst, len)) (hp : ps (.iinc k cst) len pc L S = some (pc', L', S')) : Steps tb e below (T.setTop (mkF m pc L.toArray S)) (T.setTop (mkF m pc' L'.toArray S')) ∧ L'.length = L.length ∧ npc (.iinc k cst) len pc = pc' := by
  simp only [ps, pInc] at hp
  split at hp
  · rename_i x hv
    split at hp
    · rename_i hc
      subst hc
      split at hp
      · rename_i l' hl
        split at hp
        · rename_i hs
          cases hp
          exact ⟨XS.iinc h hx rfl hd (toA hv) hl (Steps.refl _), by simpa using hs, rfl⟩
        · cases hp
      · cases hp
    · cases hp
  · cases hp
theorem s_iadd (h : At T m c below) (hx : tb.exec = Jvm.exec) (hd : decode c.code pc = .ok (.iadd, len)) (hp : ps (.iadd) len pc L S = some (pc', L', S')) : Steps tb e below (T.setTop (mkF m pc L.toArray S)) (T.setTop (mkF m pc' L'.toArray S')) ∧ L'.length = L.length ∧ npc (.iadd) len pc = pc' := by
  simp only [ps, pI2] at hp
  split at hp
  · split at hp
    · rename_i hc
      subst hc
      cases hp
      exact ⟨XS.iadd h hx rfl hd rfl (Steps.refl _), rfl, rfl⟩
    · cases hp
  · cases hp
theorem s_isub (h : At T m c below) (hx : tb.exec = Jvm.exec) (hd : decode c.code pc = .ok (.isub, len)) (hp : ps (.isub) len pc L S = some (pc', L', S')) : Steps tb e below (T.setTop (mkF m pc L.toArray S)) (T.setTop (mkF m pc' L'.toArray S')) ∧ L'.length = L.length ∧ npc (.isub) len pc = pc' := by
  simp only [ps, pI2] at hp
  split at hp
  · split at hp
    · rename_i hc
      subst hc
      cases hp
      exact ⟨XS.isub h hx rfl hd rfl (Steps.refl _), rfl, rfl⟩
    · cases hp
  · cases hp
theorem s_imul (h : At T m c below) (hx : tb.exec = Jvm.exec) (hd : decode c.code pc = .ok (.imul, len)) (hp : ps (.imul) len pc L S = some (pc', L', S')) : Steps tb e below (T.setTop (mkF m pc L.toArray S)) (T.setTop (mkF m pc' L'.toArray S')) ∧ L'.length = L.length ∧ npc (.imul) len pc = pc' := by
  simp only [ps, pI2] at hp
  split at hp
  · split at hp
    · rename_i hc
      subst hc
      cases hp
      exact ⟨XS.imul h hx rfl hd rfl (Steps.refl _), rfl, rfl⟩
    · cases hp
  · cases hp
theorem s_iand (h : At T m c below) (hx : tb.exec = Jvm.exec) (hd : decode c.code pc = .ok (.iand, len)) (hp : ps (.iand) len pc L S = some (pc', L', S')) : Steps tb e below (T.setTop (mkF m pc L.toArray S)) (T.setTop (mkF m pc' L'.toArray S')) ∧ L'.length = L.length ∧ npc (.iand) len pc = pc' := by
  simp only [ps, pI2] at hp
  split at hp
  · split at hp
    · rename_i hc
      subst hc
      cases hp
      exact ⟨XS.iand h hx rfl hd rfl (Steps.refl _), rfl, rfl⟩
    · cases hp
  · cases hp
theorem s_ior (h : At T m c below) (hx : tb.exec = Jvm.exec) (hd : decode c.code pc = .ok (.ior, len)) (hp : ps (.ior) len pc L S = some (pc', L', S')) : Steps tb e below (T.setTop (mkF m pc L.toArray S)) (T.setTop (mkF m pc' L'.toArray S')) ∧ L'.length = L.length ∧ npc (.ior) len pc = pc' := by
  simp only [ps, pI2] at hp
  split at hp
  · split at hp
    · rename_i hc
      subst hc
      cases hp
      exact ⟨XT.ior h hx rfl hd rfl (Steps.refl _), rfl, rfl⟩
    · cases hp
  · cases hp
theorem s_ixor (h : At T m c below) (hx : tb.exec = Jvm.exec) (hd : decode c.code pc = .ok (.ixor, len)) (hp : ps (.ixor) len pc L S = some (pc', L', S')) : Steps tb e below (T.setTop (mkF m pc L.toArray S)) (T.setTop (mkF m pc' L'.toArray S')) ∧ L'.length = L.length ∧ npc (.ixor) len pc = pc' := by
  simp only [ps, pI2] at hp
  split at hp
  · split at hp
    · rename_i hc
      subst hc
      cases hp
      exact ⟨XT.ixor h hx rfl hd rfl (Steps.refl _), rfl, rfl⟩
    · cases hp
  · cases hp
theorem s_ishl (h : At T m c below) (hx : tb.exec = Jvm.exec) (hd : decode c.code pc = .ok (.ishl, len)) (hp : ps (.ishl) len pc L S = some (pc', L', S')) : Steps tb e below (T.setTop (mkF m pc L.toArray S)) (T.setTop (mkF m pc' L'.toArray S')) ∧ L'.length = L.length ∧ npc (.ishl) len pc = pc' := by
  simp only [ps, pI2] at hp
  split at hp
  · split at hp
    · rename_i hc
      subst hc
      cases hp
      exact ⟨XT.ishl h hx rfl hd rfl (Steps.refl _), rfl, rfl⟩
    · cases hp
  · cases hp
theorem s_ishr (h : At T m c below) (hx : tb.exec = Jvm.exec) (hd : decode c.code pc = .ok (.ishr, len)) (hp : ps (.ishr) len pc L S = some (pc', L', S')) : Steps tb e below (T.setTop (mkF m pc L.toArray S)) (T.setTop (mkF m pc' L'.toArray S')) ∧ L'.length = L.length ∧ npc (.ishr) len pc = pc' := by
  simp only [ps, pI2] at hp
  split at hp
  · split at hp
    · rename_i hc
      subst hc
      cases hp
      exact ⟨XT.ishr h hx rfl hd rfl (Steps.refl _), rfl, rfl⟩
    · cases hp
  · cases hp
theorem s_iushr (h : At T m c below) (hx : tb.exec = Jvm.exec) (hd : decode c.code pc = .ok (.iushr, len)) (hp : ps (.iushr) len pc L S = some (pc', L', S')) : Steps tb e below (T.setTop (mkF m pc L.toArray S)) (T.setTop (mkF m pc' L'.toArray S')) ∧ L'.length = L.length ∧ npc (.iushr) len pc = pc' := by
  simp only [ps, pI2] at hp
  split at hp
  · split at hp
    · rename_i hc
      subst hc
      cases hp
      exact ⟨XT.iushr h hx rfl hd rfl (Steps.refl _), rfl, rfl⟩
    · cases hp
  · cases hp
theorem s_ladd (h : At T m c below) (hx : tb.exec = Jvm.exec) (hd : decode c.code pc = .ok (.ladd, len)) (hp : ps (.ladd) len pc L S = some (pc', L', S')) : Steps tb e below (T.setTop (mkF m pc L.toArray S)) (T.setTop (mkF m pc' L'.toArray S')) ∧ L'.length = L.length ∧ npc (.ladd) len pc = pc' := by
  simp only [ps, pL2] at hp
  split at hp
  · split at hp
    · rename_i hc
      subst hc
      cases hp
      exact ⟨XT.ladd h hx rfl hd rfl (Steps.refl _), rfl, rfl⟩
    · cases hp
  · cases hp
theorem s_lsub (h : At T m c below) (hx : tb.exec = Jvm.exec) (hd : decode c.code pc = .ok (.lsub, len)) (hp : ps (.lsub) len pc L S = some (pc', L', S')) : Steps tb e below (T.setTop (mkF m pc L.toArray S)) (T.setTop (mkF m pc' L'.toArray S')) ∧ L'.length = L.length ∧ npc (.lsub) len pc = pc' := by
  simp only [ps, pL2] at hp
  split at hp
  · split at hp
    · rename_i hc
      subst hc
      cases hp
      exact ⟨XT.lsub h hx rfl hd rfl (Steps.refl _), rfl, rfl⟩
    · cases hp
  · cases hp
theorem s_lmul (h : At T m c below) (hx : tb.exec = Jvm.exec) (hd : decode c.code pc = .ok (.lmul, len)) (hp : ps (.lmul) len pc L S = some (pc', L', S')) : Steps tb e below (T.setTop (mkF m pc L.toArray S)) (T.setTop (mkF m pc' L'.toArray S')) ∧ L'.length = L.length ∧ npc (.lmul) len pc = pc' := by
  simp only [ps, pL2] at hp
  split at hp
  · split at hp
    · rename_i hc
      subst hc
      cases hp
      exact ⟨XT.lmul h hx rfl hd rfl (Steps.refl _), rfl, rfl⟩
    · cases hp
  · cases hp
theorem s_land (h : At T m c below) (hx : tb.exec = Jvm.exec) (hd : decode c.code pc = .ok (.land, len)) (hp : ps (.land) len pc L S = some (pc', L', S')) : Steps tb e below (T.setTop (mkF m pc L.toArray S)) (T.setTop (mkF m pc' L'.toArray S')) ∧ L'.length = L.length ∧ npc (.land) len pc = pc' := by
  simp only [ps, pL2] at hp
  split at hp
  · split at hp
    · rename_i hc
      subst hc
      cases hp
      exact ⟨XT.land h hx rfl hd rfl (Steps.refl _), rfl, rfl⟩
    · cases hp
  · cases hp
theorem s_lor (h : At T m c below) (hx : tb.exec = Jvm.exec) (hd : decode c.code pc = .ok (.lor, len)) (hp : ps (.lor) len pc L S = some (pc', L', S')) : Steps tb e below (T.setTop (mkF m pc L.toArray S)) (T.setTop (mkF m pc' L'.toArray S')) ∧ L'.length = L.length ∧ npc (.lor) len pc = pc' := by
  simp only [ps, pL2] at hp
  split at hp
  · split at hp
    · rename_i hc
      subst hc
      cases hp
      exact ⟨XT.lor h hx rfl hd rfl (Steps.refl _), rfl, rfl⟩
    · cases hp
  · cases hp
theorem s_lxor (h : At T m c below) (hx : tb.exec = Jvm.exec) (hd : decode c.code pc = .ok (.lxor, len)) (hp : ps (.lxor) len pc L S = some (pc', L', S')) : Steps tb e below (T.setTop (mkF m pc L.toArray S)) (T.setTop (mkF m pc' L'.toArray S')) ∧ L'.length = L.length ∧ npc (.lxor) len pc = pc' := by
  simp only [ps, pL2] at hp
  split at hp
  · split at hp
    · rename_i hc
      subst hc
      cases hp
      exact ⟨XT.lxor h hx rfl hd rfl (Steps.refl _), rfl, rfl⟩
    · cases hp
  · cases hp
theorem s_lcmp (h : At T m c below) (hx : tb.exec = Jvm.exec) (hd : decode c.code pc = .ok (.lcmp, len)) (hp : ps (.lcmp) len pc L S = some (pc', L', S')) : Steps tb e below (T.setTop (mkF m pc L.toArray S)) (T.setTop (mkF m pc' L'.toArray S')) ∧ L'.length = L.length ∧ npc (.lcmp) len pc = pc' := by
  simp only [ps, pL2] at hp
  split at hp
  · split at hp
    · rename_i hc
      subst hc
      cases hp
      exact ⟨XT.lcmp h hx rfl hd rfl (Steps.refl _), rfl, rfl⟩
    · cases hp
  · cases hp
theorem s_lshl (h : At T m c below) (hx : tb.exec = Jvm.exec) (hd : decode c.code pc = .ok (.lshl, len)) (hp : ps (.lshl) len pc L S = some (pc', L', S')) : Steps tb e below (T.setTop (mkF m pc L.toArray S)) (T.setTop (mkF m pc' L'.toArray S')) ∧ L'.length = L.length ∧ npc (.lshl) len pc = pc' := by
  simp only [ps, pLI] at hp
  split at hp
  · split at hp
    · rename_i hc
      subst hc
      cases hp
      exact ⟨XT.lshl h hx rfl hd rfl (Steps.refl _), rfl, rfl⟩
    · cases hp
  · cases hp
theorem s_lshr (h : At T m c below) (hx : tb.exec = Jvm.exec) (hd : decode c.code pc = .ok (.lshr, len)) (hp : ps (.lshr) len pc L S = some (pc', L', S')) : Steps tb e below (T.setTop (mkF m pc L.toArray S)) (T.setTop (mkF m pc' L'.toArray S')) ∧ L'.length = L.length ∧ npc (.lshr) len pc = pc' := by
  simp only [ps, pLI] at hp
  split at hp
  · split at hp
    · rename_i hc
      subst hc
      cases hp
      exact ⟨XT.lshr h hx rfl hd rfl (Steps.refl _), rfl, rfl⟩
    · cases hp
  · cases hp
theorem s_lushr (h : At T m c below) (hx : tb.exec = Jvm.exec) (hd : decode c.code pc = .ok (.lushr, len)) (hp : ps (.lushr) len pc L S = some (pc', L', S')) : Steps tb e below (T.setTop (mkF m pc L.toArray S)) (T.setTop (mkF m pc' L'.toArray S')) ∧ L'.length = L.length ∧ npc (.lushr) len pc = pc' := by
  simp only [ps, pLI] at hp
  split at hp
  · split at hp
    · rename_i hc
      subst hc
      cases hp
      exact ⟨XT.lushr h hx rfl hd rfl (Steps.refl _), rfl, rfl⟩
    · cases hp
  · cases hp
theorem s_i2l (h : At T m c below) (hx : tb.exec = Jvm.exec) (hd : decode c.code pc = .ok (.i2l, len)) (hp : ps (.i2l) len pc L S = some (pc', L', S')) : Steps tb e below (T.setTop (mkF m pc L.toArray S)) (T.setTop (mkF m pc' L'.toArray S')) ∧ L'.length = L.length ∧ npc (.i2l) len pc = pc' := by
  simp only [ps, pI1] at hp
  split at hp
  · split at hp
    · rename_i hc
      subst hc
      cases hp
      exact ⟨XT.i2l h hx rfl hd rfl (Steps.refl _), rfl, rfl⟩
    · cases hp
  · cases hp
theorem s_i2b (h : At T m c below) (hx : tb.exec = Jvm.exec) (hd : decode c.code pc = .ok (.i2b, len)) (hp : ps (.i2b) len pc L S = some (pc', L', S')) : Steps tb e below (T.setTop (mkF m pc L.toArray S)) (T.setTop (mkF m pc' L'.toArray S')) ∧ L'.length = L.length ∧ npc (.i2b) len pc = pc' := by
  simp only [ps, pI1] at hp
  split at hp
  · split at hp
    · rename_i hc
      subst hc
      cases hp
      exact ⟨XT.i2b h hx rfl hd rfl (Steps.refl _), rfl, rfl⟩
    · cases hp
  · cases hp
theorem s_i2c (h : At T m c below) (hx : tb.exec = Jvm.exec) (hd : decode c.code pc = .ok (.i2c, len)) (hp : ps (.i2c) len pc L S = some (pc', L', S')) : Steps tb e below (T.setTop (mkF m pc L.toArray S)) (T.setTop (mkF m pc' L'.toArray S')) ∧ L'.length = L.length ∧ npc (.i2c) len pc = pc' := by
  simp only [ps, pI1] at hp
  split at hp
  · split at hp
    · rename_i hc
      subst hc
      cases hp
      exact ⟨XT.i2c h hx rfl hd rfl (Steps.refl _), rfl, rfl⟩
    · cases hp
  · cases hp
theorem s_i2s (h : At T m c below) (hx : tb.exec = Jvm.exec) (hd : decode c.code pc = .ok (.i2s, len)) (hp : ps (.i2s) len pc L S = some (pc', L', S')) : Steps tb e below (T.setTop (mkF m pc L.toArray S)) (T.setTop (mkF m pc' L'.toArray S')) ∧ L'.length = L.length ∧ npc (.i2s) len pc = pc' := by
  simp only [ps, pI1] at hp
  split at hp
  · split at hp
    · rename_i hc
      subst hc
      cases hp
      exact ⟨XT.i2s h hx rfl hd rfl (Steps.refl _), rfl, rfl⟩
    · cases hp
  · cases hp
theorem s_ineg (h : At T m c below) (hx : tb.exec = Jvm.exec) (hd : decode c.code pc = .ok (.ineg, len)) (hp : ps (.ineg) len pc L S = some (pc', L', S')) : Steps tb e below (T.setTop (mkF m pc L.toArray S)) (T.setTop (mkF m pc' L'.toArray S')) ∧ L'.length = L.length ∧ npc (.ineg) len pc = pc' := by
  simp only [ps, pI1] at hp
  split at hp
  · split at hp
    · rename_i hc
      subst hc
      cases hp
      exact ⟨XS.ineg h hx rfl hd rfl (Steps.refl _), rfl, rfl⟩
    · cases hp
  · cases hp
theorem s_l2i (h : At T m c below) (hx : tb.exec = Jvm.exec) (hd : decode c.code pc = .ok (.l2i, len)) (hp : ps (.l2i) len pc L S = some (pc', L', S')) : Steps tb e below (T.setTop (mkF m pc L.toArray S)) (T.setTop (mkF m pc' L'.toArray S')) ∧ L'.length = L.length ∧ npc (.l2i) len pc = pc' := by
  simp only [ps, pL1] at hp
  split at hp
  · split at hp
    · rename_i hc
      subst hc
      cases hp
      exact ⟨XT.l2i h hx rfl hd rfl (Steps.refl _), rfl, rfl⟩
    · cases hp
  · cases hp
theorem s_lneg (h : At T m c below) (hx : tb.exec = Jvm.exec) (hd : decode c.code pc = .ok (.lneg, len)) (hp : ps (.lneg) len pc L S = some (pc', L', S')) : Steps tb e below (T.setTop (mkF m pc L.toArray S)) (T.setTop (mkF m pc' L'.toArray S')) ∧ L'.length = L.length ∧ npc (.lneg) len pc = pc' := by
  simp only [ps, pL1] at hp
  split at hp
  · split at hp
    · rename_i hc
      subst hc
      cases hp
      exact ⟨XT.lneg h hx rfl hd rfl (Steps.refl _), rfl, rfl⟩
    · cases hp
  · cases hp
theorem s_pop (h : At T m c below) (hx : tb.exec = Jvm.exec) (hd : decode c.code pc = .ok (.pop, len)) (hp : ps (.pop) len pc L S = some (pc', L', S')) : Steps tb e below (T.setTop (mkF m pc L.toArray S)) (T.setTop (mkF m pc' L'.toArray S')) ∧ L'.length = L.length ∧ npc (.pop) len pc = pc' := by
  simp only [ps, pPop] at hp
  split at hp
  · split at hp
    · rename_i hc
      obtain ⟨rfl, h1⟩ := hc
      cases hp
      exact ⟨XT.pop h hx rfl hd rfl h1 (Steps.refl _), rfl, rfl⟩
    · cases hp
  · cases hp
theorem s_dup (h : At T m c below) (hx : tb.exec = Jvm.exec) (hd : decode c.code pc = .ok (.dup, len)) (hp : ps (.dup) len pc L S = some (pc', L', S')) : Steps tb e below (T.setTop (mkF m pc L.toArray S)) (T.setTop (mkF m pc' L'.toArray S')) ∧ L'.length = L.length ∧ npc (.dup) len pc = pc' := by
  simp only [ps, pDup] at hp
  split at hp
  · split at hp
    · rename_i hc
      obtain ⟨rfl, h1⟩ := hc
      cases hp
      exact ⟨XS.dup h hx rfl hd rfl h1 (Steps.refl _), rfl, rfl⟩
    · cases hp
  · cases hp
theorem s_dupx1 (h : At T m c below) (hx : tb.exec = Jvm.exec) (hd : decode c.code pc = .ok (.dup_x1, len)) (hp : ps (.dup_x1) len pc L S = some (pc', L', S')) : Steps tb e below (T.setTop (mkF m pc L.toArray S)) (T.setTop (mkF m pc' L'.toArray S')) ∧ L'.length = L.length ∧ npc (.dup_x1) len pc = pc' := by
  simp only [ps, pDupX1] at hp
  split at hp
  · split at hp
    · rename_i hc
      obtain ⟨rfl, h1, h2⟩ := hc
      cases hp
      exact ⟨XT.dupX1 h hx rfl hd rfl h1 h2 (Steps.refl _), rfl, rfl⟩
    · cases hp
  · cases hp
theorem s_dup2 (h : At T m c below) (hx : tb.exec = Jvm.exec) (hd : decode c.code pc = .ok (.dup2, len)) (hp : ps (.dup2) len pc L S = some (pc', L', S')) : Steps tb e below (T.setTop (mkF m pc L.toArray S)) (T.setTop (mkF m pc' L'.toArray S')) ∧ L'.length = L.length ∧ npc (.dup2) len pc = pc' := by
  simp only [ps, pDup2] at hp
  split at hp
  · split at hp
    · rename_i hc
      subst hc
      cases hp
      exact ⟨XT.dup2L h hx rfl hd rfl (Steps.refl _), rfl, rfl⟩
    · cases hp
  · split at hp
    · rename_i hc
      obtain ⟨rfl, h1, h2⟩ := hc
      cases hp
      exact ⟨XT.dup2 h hx rfl hd rfl h1 h2 (Steps.refl _), rfl, rfl⟩
    · cases hp
  · cases hp
theorem s_goto (h : At T m c below) (hx : tb.exec = Jvm.exec) {o : Int} (hd : decode c.code pc = .ok (.goto o, len)) (hp : ps (.goto o) len pc L S = some (pc', L', S')) : Steps tb e below (T.setTop (mkF m pc L.toArray S)) (T.setTop (mkF m pc' L'.toArray S')) ∧ L'.length = L.length ∧ npc (.goto o) len pc = pc' := by
  simp only [ps, pGo] at hp
  split at hp
  · rename_i hc
    obtain ⟨rfl, h1⟩ := hc
    cases hp
    exact ⟨XS.goto h hx rfl (pc0 := pc) rfl hd h1 rfl (Steps.refl _), rfl, rfl⟩
  · cases hp
theorem ps_sound (h : At T m c below) (hx : tb.exec = Jvm.exec) {i : Instr} (hd : decode c.code pc = .ok (i, len)) (hp : ps i len pc L S = some (pc', L', S')) : Steps tb e below (T.setTop (mkF m pc L.toArray S)) (T.setTop (mkF m pc' L'.toArray S')) ∧ L'.length = L.length ∧ npc i len pc = pc' := by
  cases i
  case iconst => exact s_nop1 h hx hd hp
  case bipush => exact s_bipush h hx hd hp
  case sipush => exact s_sipush h hx hd hp
  case lconst => exact s_lconst h hx hd hp
  case aconst_null => exact s_anull h hx hd hp
  case iload_n => exact s_iloadN h hx hd hp
  case iload => exact s_iload h hx hd hp
  case lload_n => exact s_lloadN h hx hd hp
  case lload => exact s_lload h hx hd hp
  case aload_n => exact s_aloadN h hx hd hp
  case aload => exact s_aload h hx hd hp
  case istore_n => exact s_istoreN h hx hd hp
  case istore => exact s_istore h hx hd hp
  case lstore_n => exact s_lstoreN h hx hd hp
  case lstore => exact s_lstore h hx hd hp
  case astore_n => exact s_astoreN h hx hd hp
  case astore => exact s_astore h hx hd hp
  case iinc => exact s_iinc h hx hd hp
  case iadd => exact s_iadd h hx hd hp
  case isub => exact s_isub h hx hd hp
  case imul => exact s_imul h hx hd hp
  case iand => exact s_iand h hx hd hp
  case ior => exact s_ior h hx hd hp
  case ixor => exact s_ixor h hx hd hp
  case ishl => exact s_ishl h hx hd hp
  case ishr => exact s_ishr h hx hd hp
  case iushr => exact s_iushr h hx hd hp
  case ladd => exact s_ladd h hx hd hp
  case lsub => exact s_lsub h hx hd hp
  case lmul => exact s_lmul h hx hd hp
  case land => exact s_land h hx hd hp
  case lor => exact s_lor h hx hd hp
  case lxor => exact s_lxor h hx hd hp
  case lcmp => exact s_lcmp h hx hd hp
  case lshl => exact s_lshl h hx hd hp
  case lshr => exact s_lshr h hx hd hp
  case lushr => exact s_lushr h hx hd hp
  case i2l => exact s_i2l h hx hd hp
  case i2b => exact s_i2b h hx hd hp
  case i2c => exact s_i2c h hx hd hp
  case i2s => exact s_i2s h hx hd hp
  case ineg => exact s_ineg h hx hd hp
  case l2i => exact s_l2i h hx hd hp
  case lneg => exact s_lneg h hx hd hp
  case pop => exact s_pop h hx hd hp
  case dup => exact s_dup h hx hd hp
  case dup_x1 => exact s_dupx1 h hx hd hp
  case dup2 => exact s_dup2 h hx hd hp
  case goto => exact s_goto h hx hd hp
  all_goals (exact absurd hp (by simp [ps]))
end P
theorem runs_sound {tb : Tables} [Ours tb] {e : Env} {below : List Frame} {T : State} {m : MethodId} {c : Code} (h : At T m c below) (hx : tb.exec = Jvm.exec) : ∀ (is : List (Instr × Nat)) {pc : Nat} {L : List Slot} {S : List Value} {pc' : Nat} {L' : List Slot} {S' : List Value},
    seg c.code is pc = true → runs is pc L S = some (pc', L', S') → Steps tb e below (T.setTop (mkF m pc L.toArray S)) (T.setTop (mkF m pc' L'.toArray S')) ∧ L'.length = L.length
  | [], pc, L, S, pc', L', S', _, hr => by cases hr; exact ⟨Steps.refl _, rfl⟩
  | (i, len) :: r, pc, L, S, pc', L', S', hs, hr => by
    simp only [seg, Bool.and_eq_true] at hs
    obtain ⟨h1, h2⟩ := hs
    simp only [runs] at hr
    split at hr
    · rename_i pc1 L1 S1 hp
      split at h1
      · rename_i j n hd
        simp only [decide_eq_true_eq] at h1
        obtain ⟨rfl, rfl⟩ := h1
        obtain ⟨q1, q2, e⟩ := ps_sound h hx hd hp
        rw [e] at h2
        obtain ⟨q3, q4⟩ := runs_sound h hx r h2 hr
        exact ⟨q1.trans q3, q4.trans q2⟩
      · cases h1
    · cases hr
end Jvm.WK
namespace Jvm.WK
open Sem ClassFile Op Lib Jvm.Stand Jvm.Free Jvm.LawKit Jvm.RoadKit
/-! ## 4. the heap's list over a step -/
section H
variable {κ : Cx} {vm vm1 : Vm} {h h' : Heap} {l : List Chunk} {a : Addr} {sl : Nat} {v : Value}
theorem Holds.lt : ∀ {x : Chunk}, Holds κ h x → x.1 < h.size
  | (a, _, .inl (C, fs)), H => H.1.lt
  | (a, _, .inr (ty, vs)), ⟨c, A, _, _⟩ => A.lt
theorem Holds.ext (E : Ext h h') : ∀ {x : Chunk}, Holds κ h x → Holds κ h' x
  | (a, _, .inl (C, fs)), H => ⟨H.1.ext E, fun f hf => (H.2.1 f hf).ext E, H.2.2⟩
  | (a, _, .inr (ty, vs)), ⟨c, A, e, o⟩ => ⟨c, A.ext E, e, o⟩
theorem Holds.other (W : Wr h h' a sl v) : ∀ {x : Chunk}, Holds κ h x → x.1 ≠ a → Holds κ h' x
  | (b, _, .inl (C, fs)), H, hne => ⟨H.1.wr W, fun f hf => (H.2.1 f hf).other W (Or.inl hne), H.2.2⟩
  | (b, _, .inr (ty, vs)), ⟨c, A, e, o⟩, hne => ⟨c, A.other W hne, e, o⟩
theorem Hp.ext (E : Ext h h') (A : CHr (kZ κ) (kE κ) vm h vm1 h') (H : Hp κ vm h l) : Hp κ vm1 h' l :=
  ⟨fun x hx => (H.1 x hx).ext E, H.2.1, fun x hx hm => ⟨(H.2.2 x hx hm).1, A.safe (H.1 x hx).lt (H.2.2 x hx hm).2⟩⟩
theorem Ext.rfl' : Ext h h := ⟨Nat.le_refl _, fun _ _ q => q⟩
theorem Hp.warm (A : CHr (kZ κ) (kE κ) vm h vm1 h) (H : Hp κ vm h l) : Hp κ vm1 h l := H.ext Ext.rfl' A
theorem Hp.add (H : Hp κ vm h l) {x : Chunk} (hx : Holds κ h x) (hne : ∀ z ∈ l, (x.2.1 = true ∨ z.2.1 = true) → x.1 ≠ z.1) (hs : x.2.1 = true → (kZ κ).heap.size ≤ x.1 ∧ Safe (kZ κ) (kE κ) vm h x.1) : Hp κ vm h (x :: l) := by
  refine ⟨fun z hz => ?_, ?_, fun z hz hm => ?_⟩
  · rcases List.mem_cons.mp hz with rfl | hz
    · exact hx
    · exact H.1 z hz
  · rw [List.map_cons, List.pairwise_cons]
    refine ⟨fun q hq => ?_, H.2.1⟩
    obtain ⟨z, hz, rfl⟩ := List.mem_map.mp hq
    exact hne z hz
  · rcases List.mem_cons.mp hz with rfl | hz
    · exact hs hm
    · exact H.2.2 z hz hm
/-- a new cell, at the heap's end -/
theorem Hp.new (E : Ext h h') (A : CHr (kZ κ) (kE κ) vm h vm1 h') (H : Hp κ vm h l) (hn : (kZ κ).heap.size ≤ h.size) {mu : Bool} {c : String × List (String × String × String × Value) ⊕ FieldType × List Value} (hx : Holds κ h' (h.size, mu, c)) (hS : Safe (kZ κ) (kE κ) vm1 h' h.size) : Hp κ vm1 h' ((h.size, mu, c) :: l) :=
  (H.ext E A).add hx (fun z hz _ => Nat.ne_of_gt (H.1 z hz).lt) (fun _ => ⟨hn, hS⟩)
theorem getElem?_set_ne' {α : Type} {l : List α} {i j : Nat} {x : α} (h : i ≠ j) : (l.set i x)[j]? = l[j]? := List.getElem?_set_ne h
theorem Hp.apart (H : Hp κ vm h l) {i j : Nat} {x z : Chunk} (hi : l[i]? = some x) (hj : l[j]? = some z) (hne : i ≠ j) (hm : x.2.1 = true ∨ z.2.1 = true) : x.1 ≠ z.1 := by
  obtain ⟨hi', ei⟩ := List.getElem?_eq_some_iff.mp hi
  obtain ⟨hj', ej⟩ := List.getElem?_eq_some_iff.mp hj
  have P := List.pairwise_iff_getElem.mp H.2.1
  rcases Nat.lt_or_gt_of_ne hne with q | q
  · have := P i j (by simpa using hi') (by simpa using hj') q
    simp only [List.getElem_map, ei, ej] at this
    exact this hm
  · have := P j i (by simpa using hj') (by simpa using hi') q
    simp only [List.getElem_map, ei, ej] at this
    exact Ne.symm (this hm.symm)
/-- one slot of one cell that may be written -/
theorem Hp.wr (H : Hp κ vm h l) (hC : CHv (kZ κ) (kE κ) vm h) {i : Nat} {c c' : String × List (String × String × String × Value) ⊕ FieldType × List Value} (hi : l[i]? = some (a, true, c)) (W : Wr h h' a sl v) (hnew : Holds κ h' (a, true, c')) :
    Hp κ vm h' (l.set i (a, true, c')) ∧ CHv (kZ κ) (kE κ) vm h' := by
  have hS := (H.2.2 _ (List.mem_of_getElem? hi) rfl)
  have hW := hC.wrStep W hS.2
  refine ⟨⟨fun z hz => ?_, ?_, fun z hz hm => ?_⟩, hW.1⟩
  · obtain ⟨j, hj⟩ := List.mem_iff_getElem?.mp hz
    by_cases e : i = j
    · subst e
      have hlt := (List.getElem?_eq_some_iff.mp hi).1
      rw [List.getElem?_set_self hlt] at hj
      cases hj; exact hnew
    · rw [getElem?_set_ne' e] at hj
      exact (H.1 z (List.mem_of_getElem? hj)).other W (Ne.symm (H.apart hi hj e (Or.inl rfl)))
  · have e : (l.set i (a, true, c')).map key = l.map key := by
      apply List.ext_getElem?
      intro j
      simp only [List.getElem?_map]
      by_cases e : i = j
      · subst e
        rw [List.getElem?_set_self (List.getElem?_eq_some_iff.mp hi).1, hi]; rfl
      · rw [getElem?_set_ne' e]
    rw [e]; exact H.2.1
  · obtain ⟨j, hj⟩ := List.mem_iff_getElem?.mp hz
    by_cases e : i = j
    · subst e
      rw [List.getElem?_set_self (List.getElem?_eq_some_iff.mp hi).1] at hj
      cases hj
      exact ⟨hS.1, fun B => hS.2 (hW.2 _ B)⟩
    · rw [getElem?_set_ne' e] at hj
      have q := H.2.2 z (List.mem_of_getElem? hj) hm
      exact ⟨q.1, fun B => q.2 (hW.2 _ B)⟩
/-- chunks forgotten, turned round, no more to be written -/
theorem Hp.perm {l' : List Chunk} (H : Hp κ vm h l) (p : l.Perm l') : Hp κ vm h l' :=
  ⟨fun x hx => H.1 x (p.mem_iff.mpr hx), (List.Perm.pairwise_iff (fun {x y} (q : Apart x y) (m : y.2 = true ∨ x.2 = true) => Ne.symm (q m.symm)) (p.map key)).mp H.2.1, fun x hx => H.2.2 x (p.mem_iff.mpr hx)⟩
theorem Hp.drop {x : Chunk} (H : Hp κ vm h (x :: l)) : Hp κ vm h l :=
  ⟨fun z hz => H.1 z (List.mem_cons_of_mem _ hz), (List.pairwise_cons.mp H.2.1).2, fun z hz => H.2.2 z (List.mem_cons_of_mem _ hz)⟩
theorem Holds.mu {mu mu' : Bool} {c : String × List (String × String × String × Value) ⊕ FieldType × List Value} (H : Holds κ h (a, mu, c)) : Holds κ h (a, mu', c) := by
  rcases c with ⟨C, fs⟩ | ⟨ty, vs⟩ <;> exact H
theorem Hp.freeze {mu : Bool} {c : String × List (String × String × String × Value) ⊕ FieldType × List Value} (H : Hp κ vm h ((a, mu, c) :: l)) : Hp κ vm h ((a, false, c) :: l) := by
  refine Hp.add H.drop (Holds.mu (H.1 _ (List.mem_cons_self ..))) (fun z hz hm => ?_) (fun q => by cases q)
  have P := (List.pairwise_cons.mp H.2.1).1 (key z) (List.mem_map_of_mem hz)
  refine P (Or.inr ?_)
  rcases hm with hm | hm
  · cases hm
  · exact hm
end H
/-! ## 5. from one state to the next -/
section N
variable {κ : Cx} {T : State} {y : MethodName} {pc pc' : Nat} {L L' : List Slot} {S S' : List Value} {F : List Frame} {l l' : List Chunk} {k n : Nat} {bytes : ByteArray} {mx : Nat} {rt : Option FieldType}
theorem Ok.exec (C : Ok κ) : (kp κ).tables.exec = Jvm.exec := C.2.2.2.1
theorem Ok.ew (C : Ok κ) : EW (kZ κ) (ka κ) (kE κ) := C.2.2.2.2.2.2.2.2.2.2.1
theorem Good.hp (G : Good κ T y pc L S F l k n) : Hp κ T.vm T.heap l := G.2.2.2.2.2.1
theorem Good.ch (G : Good κ T y pc L S F l k n) : CHv (kZ κ) (kE κ) T.vm T.heap := G.2.2.2.2.1
theorem Good.room (G : Good κ T y pc L S F l k n) : Rm κ F (0 + 1) (L.length + 11 + 0) := G.2.2.2.2.2.2.2.2.2.1
theorem Good.size (G : Good κ T y pc L S F l k n) : (kZ κ).heap.size ≤ T.heap.size := G.2.1.2.1
theorem Good.cells (G : Good κ T y pc L S F l k n) : k ≤ (kR κ).cells := G.2.2.2.2.2.2.1
theorem Good.slots (G : Good κ T y pc L S F l k n) : n ≤ (kR κ).slots := G.2.2.2.2.2.2.2.1
theorem Good.old (G : Good κ T y pc L S F l k n) : Ext (kZ κ).heap T.heap := ⟨G.size, fun a c h => State.sameButNew.old_cell G.2.1 h⟩
theorem Good.own (G : Good κ T y pc L S F l k n) (M : Meth κ y bytes mx rt) : (base κ T y F).vm.findClass y.cls = some (mid κ y).cls := by
  show T.vm.findClass y.cls = _
  rw [G.alike.findClass]; exact M.cls
theorem Good.go (G : Good κ T y pc L S F l k n) {T' : State} {g' : JFrame} (st : ∀ target, Steps (kp κ).tables (ke κ) (F ++ kb κ) (T'.setTop g') target → Steps (kp κ).tables (ke κ) (F ++ kb κ) (T.setTop (mkF (mid κ y) pc L.toArray S)) target) (D : Done κ (T'.setTop g')) : Done κ T := by
  obtain ⟨t, h1, h2⟩ := D
  have q := st _ (Steps.refl _)
  have e : T.setTop (mkF (mid κ y) pc L.toArray S) = T := State.setTop_self (State.topJava?_of_frames G.1)
  rw [e] at q
  exact ⟨t, (steps_weaken q).trans h1, h2⟩
theorem Good.same' (G : Good κ T y pc L S F l k n) {U : State} {locs : List Loc} {cells slots : Nat} (h : (base κ T y F).sameButNew (U.setVm (base κ T y F).vm) locs cells slots) (hlocs : ∀ x ∈ locs, (kZ κ).heap.size ≤ x.base) : (kZ κ).sameButNew (U.setVm (kZ κ).vm) [] (k + cells) (n + slots) := by
  have q1 : T.sameButNew (U.setVm T.vm) locs cells slots := State.sameButNew.of_setFrames h
  have q2 := G.2.1.trans (q1.setVm (kZ κ).vm)
  have q3 : (kZ κ).sameButNew (U.setVm (kZ κ).vm) ([] ++ locs) (k + cells) (n + slots) := q2
  exact q3.sift fun x hx => Or.inr (hlocs x (by simpa using hx))
theorem Good.since' (G : Good κ T y pc L S F l k n) {vm' : Vm} {n' : Nat} (hW : (base κ T y F).WarmedH vm') (hs : T.heap.size ≤ n') : (kZ κ).Since vm' n' := by
  have q : ((kZ κ).setVm T.vm).WarmedH vm' := State.WarmedH.of_rootvm (s := base κ T y F) rfl hW
  exact G.2.2.1.trans (q.since n') hs
theorem Good.strict' (G : Good κ T y pc L S F l k n) {vm' : Vm} (hW : (base κ T y F).WarmedH vm') (h : kS κ = true) : (kZ κ).WarmedH vm' :=
  State.WarmedH.trans (G.2.2.2.1 h) (State.WarmedH.of_rootvm (s := base κ T y F) (u := T) rfl hW)
theorem Good.next (G : Good κ T y pc L S F l k n) {R' : Room} {meth : Method} {c : Code} {T' : State} {locs : List Loc} {cells slots : Nat} (X' : Stand (kp κ) (kl κ) (ke κ) R' (base κ T y F) (mid κ y) (ka κ) (F ++ kb κ) meth c T' locs cells slots)
    (hlocs : ∀ x ∈ locs, (kZ κ).heap.size ≤ x.base) (hk : k + cells ≤ (kR κ).cells) (hn : n + slots ≤ (kR κ).slots) (hL : L'.length = L.length) (hC : CHv (kZ κ) (kE κ) T'.vm T'.heap) (hH : Hp κ T'.vm T'.heap l') :
    Good κ (T'.setTop (mkF (mid κ y) pc' L'.toArray S')) y pc' L' S' F l' (k + cells) (n + slots) := by
  obtain ⟨g₀, hfr⟩ := X'.frames_eq
  have q4 := G.same' X'.same hlocs
  have hsz : T.heap.size ≤ T'.heap.size := X'.same.2.1
  refine ⟨State.frames_setTop _ hfr, ?_, ?_, fun h => ?_, ?_, ?_, hk, hn, G.2.2.2.2.2.2.2.2.1, by rw [hL]; exact G.2.2.2.2.2.2.2.2.2.1, by rw [hL]; exact G.2.2.2.2.2.2.2.2.2.2⟩
  · have e : (T'.setTop (mkF (mid κ y) pc' L'.toArray S')).setVm (kZ κ).vm = (T'.setVm (kZ κ).vm).setFrames (.java (mkF (mid κ y) pc' L'.toArray S') :: (F ++ kb κ)) := by
      rw [State.setTop_of_frames _ hfr]; rfl
    have hcur : (kZ κ).cur < (kZ κ).threads.size := by
      have q := State.cur_lt_of_frames G.1
      have e1 := G.threads
      have e2 := G.curEq
      rw [e1, e2] at q
      simpa [State.setFrames] using q
    rw [e]
    exact q4.setFrames _ hcur
  · show (kZ κ).Since T'.vm T'.heap.size
    exact G.since' X'.warmed hsz
  · show (kZ κ).WarmedH T'.vm
    exact G.strict' X'.warmed h
  · exact hC
  · exact hH
/-- a step that has only warmed the tables -/
theorem Good.warmed (C : Ok κ) (G : Good κ T y pc L S F l k n) {R' : Room} {meth : Method} {c : Code} {T' : State} {locs : List Loc} {cells slots : Nat} (X' : Stand (kp κ) (kl κ) (ke κ) R' (base κ T y F) (mid κ y) (ka κ) (F ++ kb κ) meth c T' locs cells slots) : CHr (kZ κ) (kE κ) T.vm T.heap T'.vm T.heap :=
  CHv.at (s := base κ T y F) (vm0 := T.vm) X' G.warm C.ew G.ch
theorem nolocs {κ : Cx} : ∀ x ∈ ([] : List Loc), (kZ κ).heap.size ≤ x.base := fun _ h => nomatch h
theorem one_loc {κ : Cx} {a : Addr} {i : Nat} (h : (kZ κ).heap.size ≤ a) : ∀ x ∈ ([] ++ [(⟨a, i⟩ : Loc)]), (kZ κ).heap.size ≤ x.base := fun x hx => by
  simp only [List.nil_append, List.mem_singleton] at hx
  subst hx; exact h
/-- the pure stretch -/
theorem wp_seg (C : Ok κ) (M : Meth κ y bytes mx rt) (is : List (Instr × Nat)) (hs : seg bytes is pc = true) (hr : runs is pc L S = some (pc', L', S')) (K : WP κ y pc' L' S' F l k n) : WP κ y pc L S F l k n := fun T G => by
  obtain ⟨meth, c, X, hb, -⟩ := G.stand C M (d := 0) (w := 0) G.room
  obtain ⟨q1, q2⟩ := runs_sound X.here C.exec is (by rw [hb]; exact hs) hr
  exact G.go (T' := T) (fun target h => q1.trans h) (K _ (G.next X nolocs G.cells G.slots q2 G.ch G.hp))
end N
end Jvm.WK
namespace Jvm.WK
open Sem ClassFile Op Lib Jvm.Stand Jvm.Free Jvm.LawKit Jvm.RoadKit
/-! ## 6. the rules -/
/-- j is the place i of an array -/
def Ix (j : Int32) (i : Nat) : Prop := ¬ j < 0 ∧ j.toNatClampNeg = i
section R
variable {κ : Cx} {y : MethodName} {pc pc' : Nat} {L L' : List Slot} {S S' : List Value} {F : List Frame} {l l' : List Chunk} {k n : Nat} {bytes : ByteArray} {mx : Nat} {rt : Option FieldType}
theorem wp_ift (C : Ok κ) (M : Meth κ y bytes mx rt) {cd : ClassFile.Cond} {x : Int32} {o : Int} (hd : decode bytes pc = .ok (.ifCond cd o, 3)) (hc : ifCond.holds cd x = true) (hp : 0 ≤ (pc : Int) + o ∧ ((pc : Int) + o).toNat = pc') (K : WP κ y pc' L S F l k n) : WP κ y pc L (.int x :: S) F l k n := fun T G => by
  obtain ⟨meth, c, X, hb, -⟩ := G.stand C M (d := 0) (w := 0) G.room
  subst hb
  exact G.go (T' := T) (fun target h => XS.ifYes X.here C.exec rfl (pc0 := pc) rfl hd rfl hc hp.1 hp.2 h) (K _ (G.next X nolocs G.cells G.slots rfl G.ch G.hp))
theorem wp_iff (C : Ok κ) (M : Meth κ y bytes mx rt) {cd : ClassFile.Cond} {x : Int32} {o : Int} (hd : decode bytes pc = .ok (.ifCond cd o, 3)) (hc : ifCond.holds cd x = false) (K : WP κ y (pc + 3) L S F l k n) : WP κ y pc L (.int x :: S) F l k n := fun T G => by
  obtain ⟨meth, c, X, hb, -⟩ := G.stand C M (d := 0) (w := 0) G.room
  subst hb
  exact G.go (T' := T) (fun target h => XS.ifNo X.here C.exec rfl hd rfl hc h) (K _ (G.next X nolocs G.cells G.slots rfl G.ch G.hp))
theorem wp_ict (C : Ok κ) (M : Meth κ y bytes mx rt) {cd : ClassFile.Cond} {x z : Int32} {o : Int} (hd : decode bytes pc = .ok (.if_icmp cd o, 3)) (hc : if_icmp.holds cd x z = true) (hp : 0 ≤ (pc : Int) + o ∧ ((pc : Int) + o).toNat = pc') (K : WP κ y pc' L S F l k n) : WP κ y pc L (.int z :: .int x :: S) F l k n := fun T G => by
  obtain ⟨meth, c, X, hb, -⟩ := G.stand C M (d := 0) (w := 0) G.room
  subst hb
  exact G.go (T' := T) (fun target h => XS.icmpYes X.here C.exec rfl (pc0 := pc) rfl hd rfl hc hp.1 hp.2 h) (K _ (G.next X nolocs G.cells G.slots rfl G.ch G.hp))
theorem wp_icf (C : Ok κ) (M : Meth κ y bytes mx rt) {cd : ClassFile.Cond} {x z : Int32} {o : Int} (hd : decode bytes pc = .ok (.if_icmp cd o, 3)) (hc : if_icmp.holds cd x z = false) (K : WP κ y (pc + 3) L S F l k n) : WP κ y pc L (.int z :: .int x :: S) F l k n := fun T G => by
  obtain ⟨meth, c, X, hb, -⟩ := G.stand C M (d := 0) (w := 0) G.room
  subst hb
  exact G.go (T' := T) (fun target h => XS.icmpNo X.here C.exec rfl hd rfl hc h) (K _ (G.next X nolocs G.cells G.slots rfl G.ch G.hp))
theorem wp_nullt (C : Ok κ) (M : Meth κ y bytes mx rt)  {o : Int} (hd : decode bytes pc = .ok (.ifnull o, 3))  (hp : 0 ≤ (pc : Int) + o ∧ ((pc : Int) + o).toNat = pc') (K : WP κ y pc' L S F l k n) : WP κ y pc L (.null :: S) F l k n := fun T G => by
  obtain ⟨meth, c, X, hb, -⟩ := G.stand C M (d := 0) (w := 0) G.room
  subst hb
  exact G.go (T' := T) (fun target h => XS.ifnullYes X.here C.exec rfl (pc0 := pc) rfl hd rfl hp.1 hp.2 h) (K _ (G.next X nolocs G.cells G.slots rfl G.ch G.hp))
theorem wp_nullf (C : Ok κ) (M : Meth κ y bytes mx rt) {b : Addr} {o : Int} (hd : decode bytes pc = .ok (.ifnull o, 3))  (K : WP κ y (pc + 3) L S F l k n) : WP κ y pc L (.ref b :: S) F l k n := fun T G => by
  obtain ⟨meth, c, X, hb, -⟩ := G.stand C M (d := 0) (w := 0) G.room
  subst hb
  exact G.go (T' := T) (fun target h => XS.ifnullNo X.here C.exec rfl hd rfl h) (K _ (G.next X nolocs G.cells G.slots rfl G.ch G.hp))
theorem wp_nonnullt (C : Ok κ) (M : Meth κ y bytes mx rt) {b : Addr} {o : Int} (hd : decode bytes pc = .ok (.ifnonnull o, 3))  (hp : 0 ≤ (pc : Int) + o ∧ ((pc : Int) + o).toNat = pc') (K : WP κ y pc' L S F l k n) : WP κ y pc L (.ref b :: S) F l k n := fun T G => by
  obtain ⟨meth, c, X, hb, -⟩ := G.stand C M (d := 0) (w := 0) G.room
  subst hb
  exact G.go (T' := T) (fun target h => XT.ifnonnullYes X.here C.exec rfl (pc0 := pc) rfl hd rfl hp.1 hp.2 h) (K _ (G.next X nolocs G.cells G.slots rfl G.ch G.hp))
theorem wp_nonnullf (C : Ok κ) (M : Meth κ y bytes mx rt)  {o : Int} (hd : decode bytes pc = .ok (.ifnonnull o, 3))  (K : WP κ y (pc + 3) L S F l k n) : WP κ y pc L (.null :: S) F l k n := fun T G => by
  obtain ⟨meth, c, X, hb, -⟩ := G.stand C M (d := 0) (w := 0) G.room
  subst hb
  exact G.go (T' := T) (fun target h => XT.ifnonnullNo X.here C.exec rfl hd rfl h) (K _ (G.next X nolocs G.cells G.slots rfl G.ch G.hp))
theorem wp_act (C : Ok κ) (M : Meth κ y bytes mx rt) {cd : ClassFile.ACond} {x z : Value} {o : Int} (hd : decode bytes pc = .ok (.if_acmp cd o, 3)) (h1 : x.isRef = true) (h2 : z.isRef = true) (hc : XT.acmp cd x z = true) (hp : 0 ≤ (pc : Int) + o ∧ ((pc : Int) + o).toNat = pc') (K : WP κ y pc' L S F l k n) : WP κ y pc L (z :: x :: S) F l k n := fun T G => by
  obtain ⟨meth, c, X, hb, -⟩ := G.stand C M (d := 0) (w := 0) G.room
  subst hb
  exact G.go (T' := T) (fun target h => XT.acmpYes X.here C.exec rfl (pc0 := pc) rfl hd rfl h1 h2 hc hp.1 hp.2 h) (K _ (G.next X nolocs G.cells G.slots rfl G.ch G.hp))
theorem wp_acf (C : Ok κ) (M : Meth κ y bytes mx rt) {cd : ClassFile.ACond} {x z : Value} {o : Int} (hd : decode bytes pc = .ok (.if_acmp cd o, 3)) (h1 : x.isRef = true) (h2 : z.isRef = true) (hc : XT.acmp cd x z = false) (K : WP κ y (pc + 3) L S F l k n) : WP κ y pc L (z :: x :: S) F l k n := fun T G => by
  obtain ⟨meth, c, X, hb, -⟩ := G.stand C M (d := 0) (w := 0) G.room
  subst hb
  exact G.go (T' := T) (fun target h => XT.acmpNo X.here C.exec rfl hd rfl h1 h2 hc h) (K _ (G.next X nolocs G.cells G.slots rfl G.ch G.hp))
theorem wp_tsw (C : Ok κ) (M : Meth κ y bytes mx rt) {dflt low high : Int} {offs : Array Int} {len : Nat} {i : Int32} {o : Int} (hd : decode bytes pc = .ok (.tableswitch dflt low high offs, len)) (hin : ¬ (i.toInt < low ∨ i.toInt > high)) (hoff : offs[(i.toInt - low).toNat]? = some o) (hp : 0 ≤ (pc : Int) + o ∧ ((pc : Int) + o).toNat = pc') (K : WP κ y pc' L S F l k n) : WP κ y pc L (.int i :: S) F l k n := fun T G => by
  obtain ⟨meth, c, X, hb, -⟩ := G.stand C M (d := 0) (w := 0) G.room
  subst hb
  exact G.go (T' := T) (fun target h => XS.tswIn X.here C.exec rfl (pc0 := pc) rfl hd rfl hin hoff hp.1 hp.2 h) (K _ (G.next X nolocs G.cells G.slots rfl G.ch G.hp))
theorem wp_tswd (C : Ok κ) (M : Meth κ y bytes mx rt) {dflt low high : Int} {offs : Array Int} {len : Nat} {i : Int32} (hd : decode bytes pc = .ok (.tableswitch dflt low high offs, len)) (hout : i.toInt < low ∨ i.toInt > high) (hp : 0 ≤ (pc : Int) + dflt ∧ ((pc : Int) + dflt).toNat = pc') (K : WP κ y pc' L S F l k n) : WP κ y pc L (.int i :: S) F l k n := fun T G => by
  obtain ⟨meth, c, X, hb, -⟩ := G.stand C M (d := 0) (w := 0) G.room
  subst hb
  exact G.go (T' := T) (fun target h => XS.tswOut X.here C.exec rfl (pc0 := pc) rfl hd rfl hout hp.1 hp.2 h) (K _ (G.next X nolocs G.cells G.slots rfl G.ch G.hp))
theorem wp_irem (C : Ok κ) (M : Meth κ y bytes mx rt) {x z : Int32} (hd : decode bytes pc = .ok (.irem, 1)) (hz : z ≠ 0) (K : WP κ y (pc + 1) L (.int (x % z) :: S) F l k n) : WP κ y pc L (.int z :: .int x :: S) F l k n := fun T G => by
  obtain ⟨meth, c, X, hb, -⟩ := G.stand C M (d := 0) (w := 0) G.room
  subst hb
  exact G.go (T' := T) (fun target h => iremM X C.exec rfl hd rfl hz h) (K _ (G.next X nolocs G.cells G.slots rfl G.ch G.hp))
theorem wp_lrem (C : Ok κ) (M : Meth κ y bytes mx rt) {x z : Int64} (hd : decode bytes pc = .ok (.lrem, 1)) (hz : z ≠ 0) (K : WP κ y (pc + 1) L (.long (x - (x / z) * z) :: S) F l k n) : WP κ y pc L (.long z :: .long x :: S) F l k n := fun T G => by
  obtain ⟨meth, c, X, hb, -⟩ := G.stand C M (d := 0) (w := 0) G.room
  subst hb
  exact G.go (T' := T) (fun target h => XT.lrem X.here C.exec rfl hd rfl hz h) (K _ (G.next X nolocs G.cells G.slots rfl G.ch G.hp))
theorem wp_pop2 (C : Ok κ) (M : Meth κ y bytes mx rt) {x : Int64} (hd : decode bytes pc = .ok (.pop2, 1)) (K : WP κ y (pc + 1) L S F l k n) : WP κ y pc L (.long x :: S) F l k n := fun T G => by
  obtain ⟨meth, c, X, hb, -⟩ := G.stand C M (d := 0) (w := 0) G.room
  subst hb
  refine G.go (T' := T) (fun target h => ?_) (K _ (G.next X nolocs G.cells G.slots rfl G.ch G.hp))
  have hA := X.here
  jvm_step hA [hA.top, C.exec, hd, Value.category]
  exact h
theorem wp_ldcI (C : Ok κ) (M : Meth κ y bytes mx rt) {ix : Nat} {v : Int32} (hd : decode bytes pc = .ok (.ldc ix, 2)) (w : Wd κ (.constant y.cls ix v)) (K : WP κ y (pc + 2) L (.int v :: S) F l k n) : WP κ y pc L S F l k n := fun T G => by
  obtain ⟨meth, c, X, hb, -⟩ := G.stand C M (d := 0) (w := 0) G.room
  subst hb
  exact G.go (T' := T) (fun target h => ldcI X C.exec (G.own M) (mv (s := base κ T y F) G.warm w) rfl hd h) (K _ (G.next X nolocs G.cells G.slots rfl G.ch G.hp))
theorem wp_ldcWI (C : Ok κ) (M : Meth κ y bytes mx rt) {ix : Nat} {v : Int32} (hd : decode bytes pc = .ok (.ldc_w ix, 3)) (w : Wd κ (.constant y.cls ix v)) (K : WP κ y (pc + 3) L (.int v :: S) F l k n) : WP κ y pc L S F l k n := fun T G => by
  obtain ⟨meth, c, X, hb, -⟩ := G.stand C M (d := 0) (w := 0) G.room
  subst hb
  exact G.go (T' := T) (fun target h => ldcWI X C.exec (G.own M) (mv (s := base κ T y F) G.warm w) rfl hd h) (K _ (G.next X nolocs G.cells G.slots rfl G.ch G.hp))
theorem wp_ldc2 (C : Ok κ) (M : Meth κ y bytes mx rt) {ix : Nat} {v : Int64} (hd : decode bytes pc = .ok (.ldc2_w ix, 3)) (w : Wd κ (.constantLong y.cls ix v)) (K : WP κ y (pc + 3) L (.long v :: S) F l k n) : WP κ y pc L S F l k n := fun T G => by
  obtain ⟨meth, c, X, hb, -⟩ := G.stand C M (d := 0) (w := 0) G.room
  subst hb
  exact G.go (T' := T) (fun target h => ldc2J X C.exec (G.own M) (mv (s := base κ T y F) G.warm w) rfl hd h) (K _ (G.next X nolocs G.cells G.slots rfl G.ch G.hp))
/-- the pool's name of the field leads to its declarer's -/
def ViaW (κ : Cx) (R0 O nm d : String) : Prop := R0 = O ∨ Wd κ (.sameField R0 O nm d)
theorem ViaW.via {R0 O nm d : String} (h : ViaW κ R0 O nm d) : Via (kZ κ) R0 O nm d := by
  rcases h with rfl | h
  · exact Via.refl
  · exact Via.of h
theorem wp_getfield (C : Ok κ) (M : Meth κ y bytes mx rt) {ix : Nat} (hd : decode bytes pc = .ok (.getfield ix, 3)) {R0 O nm d : String} (w : Wd κ (.fieldLink y.cls ix R0 nm d)) (via : ViaW κ R0 O nm d) {a : Addr} {mu : Bool} {Cl : String} {fs : List (String × String × String × Value)} (hm : (a, mu, .inl (Cl, fs)) ∈ l) {v : Value} (hf : (O, nm, d, v) ∈ fs)
    (K : WP κ y (pc + 3) L (v :: S) F l k n) : WP κ y pc L (.ref a :: S) F l k n := fun T G => by
  obtain ⟨meth, c, X, hb, -⟩ := G.stand C M (d := 0) (w := 0) G.room
  subst hb
  have H := G.hp.1 _ hm
  obtain ⟨T', X', e', st⟩ := getF X C.exec G.warm (G.own M) (host := "") (Or.inl w) via.via rfl (H.2.1 _ hf) (g := mkF (mid κ y) pc L.toArray (.ref a :: S)) rfl rfl hd
  have A := G.warmed C X'
  exact G.go st (K _ (G.next X' nolocs G.cells G.slots rfl (e' ▸ A.1) (e' ▸ G.hp.warm A)))
theorem wp_getstatic (C : Ok κ) (M : Meth κ y bytes mx rt) {ix : Nat} (hd : decode bytes pc = .ok (.getstatic ix, 3)) {R0 O nm d : String} (w : Wd κ (.fieldLink y.cls ix R0 nm d)) (via : ViaW κ R0 O nm d) {v : Value} (hs : Sta (kZ κ) (kZ κ).heap O nm d v)
    (K : WP κ y (pc + 3) L (v :: S) F l k n) : WP κ y pc L S F l k n := fun T G => by
  obtain ⟨meth, c, X, hb, -⟩ := G.stand C M (d := 0) (w := 0) G.room
  subst hb
  obtain ⟨T', X', e', st⟩ := getS X C.exec G.warm (G.own M) (host := "") w via.via rfl (hs.ext G.old) (g := mkF (mid κ y) pc L.toArray S) rfl hd
  have A := G.warmed C X'
  exact G.go st (K _ (G.next X' nolocs G.cells G.slots rfl (e' ▸ A.1) (e' ▸ G.hp.warm A)))
theorem Holds.put {h h' : Heap} {a : Addr} {mu : Bool} {Cl O nm d : String} {fs : List (String × String × String × Value)} {j : Nat} {old v : Value} (H : Holds κ h (a, mu, .inl (Cl, fs))) (hj : fs[j]? = some (O, nm, d, old)) (W : Wr h h' a (RoadKit.slotOf (kZ κ) O nm d) v) : Holds κ h' (a, mu, .inl (Cl, fs.set j (O, nm, d, v))) := by
  have hlt := (List.getElem?_eq_some_iff.mp hj).1
  have e : (fs.set j (O, nm, d, v)).map (fslot κ) = fs.map (fslot κ) := by
    apply List.ext_getElem?
    intro i
    simp only [List.getElem?_map]
    by_cases q : j = i
    · subst q; rw [List.getElem?_set_self hlt, hj]; rfl
    · rw [getElem?_set_ne' q]
  refine ⟨H.1.wr W, fun f hf => ?_, by rw [e]; exact H.2.2⟩
  obtain ⟨i, hi⟩ := List.mem_iff_getElem?.mp hf
  by_cases q : j = i
  · subst q
    rw [List.getElem?_set_self hlt] at hi
    cases hi
    exact (H.2.1 _ (List.mem_of_getElem? hj)).same W
  · rw [getElem?_set_ne' q] at hi
    refine (H.2.1 f (List.mem_of_getElem? hi)).other W (Or.inr fun es => ?_)
    have N := List.pairwise_iff_getElem.mp H.2.2
    have hil := (List.getElem?_eq_some_iff.mp hi)
    have hjl := (List.getElem?_eq_some_iff.mp hj)
    rcases Nat.lt_or_gt_of_ne q with r | r
    · have := N j i (by simpa using hlt) (by simpa using hil.1) r
      simp only [List.getElem_map, hil.2, hjl.2] at this
      exact this es.symm
    · have := N i j (by simpa using hil.1) (by simpa using hlt) r
      simp only [List.getElem_map, hil.2, hjl.2] at this
      exact this es
theorem wp_putfield (C : Ok κ) (M : Meth κ y bytes mx rt) {ix : Nat} (hd : decode bytes pc = .ok (.putfield ix, 3)) {R0 O nm d : String} (w : Wd κ (.fieldLink y.cls ix R0 nm d)) (via : ViaW κ R0 O nm d) {a : Addr} {Cl : String} {fs : List (String × String × String × Value)} {i j kk : Nat} {old v : Value} {ty : FieldType}
    (hi : l[i]? = some (a, true, .inl (Cl, fs))) (hj : fs[j]? = some (O, nm, d, old)) (hl : Wd κ (.lays Cl O nm d) ∨ (Wd κ (.laysFinal Cl O nm d) ∧ y.cls = O ∧ y.name = "<init>")) (wi : Wd κ (.instantiable Cl kk)) (hty : parseFieldDescriptor d = some ty) (hn : narrow ty v = v) (hf : fits ty v = true) (hl' : l.set i (a, true, .inl (Cl, fs.set j (O, nm, d, v))) = l')
    (K : WP κ y (pc + 3) L S F l' k n) : WP κ y pc L (v :: .ref a :: S) F l k n := fun T G => by
  obtain ⟨meth, c, X, hb, -⟩ := G.stand C M (d := 0) (w := 0) G.room
  subst hb
  have H := G.hp.1 _ (List.mem_of_getElem? hi)
  have hS := G.hp.2.2 _ (List.mem_of_getElem? hi) rfl
  obtain ⟨m1, c1, h1, h2, -⟩ := M.get
  have hname : meth.name = y.name := by
    have q : (kZ κ).vm.method? (mid κ y) = some meth := by
      have q := X.method'
      rw [G.alike.method?] at q; exact q
    exact (name_of_methodNamed h1 q).1
  obtain ⟨T', h', X', e', W, st⟩ := putF X C.exec G.warm (G.own M) (host := "") (Or.inl w) via.via rfl (H.2.1 _ (List.mem_of_getElem? hj)) H.1 (hl.imp id fun q => ⟨q.1, q.2.1, hname.trans q.2.2⟩) wi hty hn hf (g := mkF (mid κ y) pc L.toArray (v :: .ref a :: S)) rfl rfl hd
  have A := G.warmed C X'
  subst e'
  obtain ⟨q1, q2⟩ := (G.hp.warm A).wr A.1 hi W (H.put hj W)
  rw [hl'] at q1
  exact G.go st (K _ (G.next X' (one_loc hS.1) G.cells G.slots rfl q2 q1))
/-- what 'new' needs to know of a class -/
def Cls (κ : Cx) (Cl : String) (fs : List (String × String × String × Value)) : Prop :=
  (∀ f ∈ fs, Laid (kZ κ) (ka κ) Cl f.1 f.2.1 f.2.2.1 ∧ ∃ ty, parseFieldDescriptor f.2.2.1 = some ty ∧ f.2.2.2 = defaultValue ty) ∧ (fs.map (fslot κ)).Nodup
theorem wp_new (C : Ok κ) (M : Meth κ y bytes mx rt) {ix : Nat} (hd : decode bytes pc = .ok (.new ix, 3)) {Cl : String} {nn : Nat} (w1 : Wd κ (.classLink y.cls ix Cl)) (w2 : Wd κ (.instantiable Cl nn)) (w3 : Wd κ (.initialized Cl)) {fs : List (String × String × String × Value)} (hc : Cls κ Cl fs) (hk : k + 1 ≤ (kR κ).cells) (hn : n + nn ≤ (kR κ).slots)
    (K : ∀ a, WP κ y (pc + 3) L (.ref a :: S) F ((a, true, .inl (Cl, fs)) :: l) (k + 1) (n + nn)) : WP κ y pc L S F l k n := fun T G => by
  obtain ⟨meth, c, X, hb, -⟩ := G.stand C M (d := 0) (w := 0) G.room
  subst hb
  obtain ⟨T', h', X', e', E, A, D, -, st⟩ := newO X C.exec G.warm (G.own M) w1 w2 w3 rfl (g := mkF (mid κ y) pc L.toArray S) rfl hd (by show 0 + 1 ≤ (kR κ).cells - k; omega) (by show 0 + nn ≤ (kR κ).slots - n; omega)
  have B := G.warmed C X'
  have B2 : CHr (kZ κ) (kE κ) T.vm T.heap T'.vm h' := B.trans (CHr.ext E B.1)
  subst e'
  have hx : Holds κ T'.heap (T.heap.size, true, .inl (Cl, fs)) := ⟨A, fun f hf => by
    obtain ⟨hL, ty, ht, hv⟩ := hc.1 f hf
    rw [hv]; exact D hL ht, hc.2⟩
  have hS : Safe (kZ κ) (kE κ) T'.vm T'.heap T.heap.size := fun Bk => by
    have q := (B.1.step fun _ _ _ q => E.2 _ _ q).2 _ Bk
    obtain ⟨cell, hcell⟩ := q.there
    exact absurd (Array.getElem?_eq_some_iff.mp hcell).1 (Nat.lt_irrefl _)
  simp only [Nat.zero_add] at X'
  exact G.go st (K _ _ (G.next X' nolocs hk hn rfl B2.1 (Hp.new E B2 G.hp G.size hx hS)))
theorem wp_newarray (C : Ok κ) (M : Meth κ y bytes mx rt) {aty : ArrayType} (hd : decode bytes pc = .ok (.newarray aty, 2)) {ty : FieldType} (hty : newarray.typeOf aty = ty) (w : Wd κ (.arrayClass ty)) {z : Int32} {len : Nat} (hz : Ix z len) (hb : len * 8 ≤ 536870912) (hk : k + 1 ≤ (kR κ).cells) (hn : n + len ≤ (kR κ).slots) {vs : List Value} (hv : List.replicate len (defaultValue ty) = vs)
    (K : ∀ a, WP κ y (pc + 2) L (.ref a :: S) F ((a, true, .inr (ty, vs)) :: l) (k + 1) (n + len)) : WP κ y pc L (.int z :: S) F l k n := fun T G => by
  obtain ⟨meth, c, X, hbb, -⟩ := G.stand C M (d := 0) (w := 0) G.room
  subst hbb hty hv
  obtain ⟨T', h', cA, X', e', E, A, st⟩ := newP X C.exec G.warm w rfl (g := mkF (mid κ y) pc L.toArray (.int z :: S)) rfl hd rfl hz.1 (cap := len) (Nat.le_of_eq hz.2) hb (by show 0 + 1 ≤ (kR κ).cells - k; omega) (by show 0 + len ≤ (kR κ).slots - n; omega)
  have B := G.warmed C X'
  have B2 : CHr (kZ κ) (kE κ) T.vm T.heap T'.vm h' := B.trans (CHr.ext E B.1)
  subst e'
  have hx : Holds κ T'.heap (T.heap.size, true, .inr (newarray.typeOf aty, List.replicate len (defaultValue (newarray.typeOf aty)))) := ⟨_, A, by simp [newA, hz.2], fun C h => by cases aty <;> cases h⟩
  have hS : Safe (kZ κ) (kE κ) T'.vm T'.heap T.heap.size := fun Bk => by
    have q := (B.1.step fun _ _ _ q => E.2 _ _ q).2 _ Bk
    obtain ⟨cell, hcell⟩ := q.there
    exact absurd (Array.getElem?_eq_some_iff.mp hcell).1 (Nat.lt_irrefl _)
  simp only [Nat.zero_add] at X'
  exact G.go st (K _ _ (G.next X' nolocs hk hn rfl B2.1 (Hp.new E B2 G.hp G.size hx hS)))
theorem wp_arraylength (C : Ok κ) (M : Meth κ y bytes mx rt) (hd : decode bytes pc = .ok (.arraylength, 1)) {a : Addr} {mu : Bool} {ty : FieldType} {vs : List Value} (hm : (a, mu, .inr (ty, vs)) ∈ l) {z : Int32} (hz : vs.length.toInt32 = z)
    (K : WP κ y (pc + 1) L (.int z :: S) F l k n) : WP κ y pc L (.ref a :: S) F l k n := fun T G => by
  obtain ⟨meth, c, X, hb, -⟩ := G.stand C M (d := 0) (w := 0) G.room
  subst hb
  obtain ⟨cl, A, ev, ov⟩ := G.hp.1 _ hm
  have e : cl.slots.size.toInt32 = z := by rw [← hz, ← ev]; simp
  refine G.go (T' := T) (fun target h => X.arraylength C.exec A.1 (State.isArrayOf_alike (T := base κ T y F) G.alike A.2.1) (g := mkF (mid κ y) pc L.toArray (.ref a :: S)) rfl rfl hd target ?_) (K _ (G.next X nolocs G.cells G.slots rfl G.ch G.hp))
  rw [e]; exact h
theorem ix_in {cl : Cell} {vs : List Value} {j : Int32} {i : Nat} {v : Value} (ev : cl.slots.toList = vs) (hj : Ix j i) (hv : vs[i]? = some v) : ¬ (j < 0 ∨ cl.slots.size ≤ j.toNatClampNeg) ∧ cl.slots[j.toNatClampNeg]? = some v := by
  subst ev
  have q : cl.slots[i]? = some v := by simpa using hv
  have q2 := (Array.getElem?_eq_some_iff.mp q).1
  rw [hj.2]
  refine ⟨fun r => ?_, q⟩
  rcases r with r | r
  · exact hj.1 r
  · omega
theorem wp_iaload (C : Ok κ) (M : Meth κ y bytes mx rt) (hd : decode bytes pc = .ok (.iaload, 1)) {a : Addr} {mu : Bool} {vs : List Value} (hm : (a, mu, .inr (.int, vs)) ∈ l) {j : Int32} {i : Nat} {v : Value} (hj : Ix j i) (hv : vs[i]? = some v)
    (K : WP κ y (pc + 1) L (v :: S) F l k n) : WP κ y pc L (.int j :: .ref a :: S) F l k n := fun T G => by
  obtain ⟨meth, c, X, hb, -⟩ := G.stand C M (d := 0) (w := 0) G.room
  subst hb
  obtain ⟨cl, A, ev, ov⟩ := G.hp.1 _ hm
  obtain ⟨q1, q2⟩ := ix_in ev hj hv
  exact G.go (T' := T) (fun target h => X.iaload C.exec A.1 (State.isArrayOf_alike (T := base κ T y F) G.alike A.2.1) A.2.2 q1 q2 (g := mkF (mid κ y) pc L.toArray (.int j :: .ref a :: S)) rfl rfl hd target h) (K _ (G.next X nolocs G.cells G.slots rfl G.ch G.hp))
theorem wp_laload (C : Ok κ) (M : Meth κ y bytes mx rt) (hd : decode bytes pc = .ok (.laload, 1)) {a : Addr} {mu : Bool} {vs : List Value} (hm : (a, mu, .inr (.long, vs)) ∈ l) {j : Int32} {i : Nat} {v : Value} (hj : Ix j i) (hv : vs[i]? = some v)
    (K : WP κ y (pc + 1) L (v :: S) F l k n) : WP κ y pc L (.int j :: .ref a :: S) F l k n := fun T G => by
  obtain ⟨meth, c, X, hb, -⟩ := G.stand C M (d := 0) (w := 0) G.room
  subst hb
  obtain ⟨cl, A, ev, ov⟩ := G.hp.1 _ hm
  obtain ⟨q1, q2⟩ := ix_in ev hj hv
  exact G.go (T' := T) (fun target h => X.laload C.exec A.1 (State.isArrayOf_alike (T := base κ T y F) G.alike A.2.1) A.2.2 q1 q2 (g := mkF (mid κ y) pc L.toArray (.int j :: .ref a :: S)) rfl rfl hd target h) (K _ (G.next X nolocs G.cells G.slots rfl G.ch G.hp))
theorem wp_caload (C : Ok κ) (M : Meth κ y bytes mx rt) (hd : decode bytes pc = .ok (.caload, 1)) {a : Addr} {mu : Bool} {vs : List Value} (hm : (a, mu, .inr (.char, vs)) ∈ l) {j : Int32} {i : Nat} {v : Value} (hj : Ix j i) (hv : vs[i]? = some v)
    (K : WP κ y (pc + 1) L (v :: S) F l k n) : WP κ y pc L (.int j :: .ref a :: S) F l k n := fun T G => by
  obtain ⟨meth, c, X, hb, -⟩ := G.stand C M (d := 0) (w := 0) G.room
  subst hb
  obtain ⟨cl, A, ev, ov⟩ := G.hp.1 _ hm
  obtain ⟨q1, q2⟩ := ix_in ev hj hv
  exact G.go (T' := T) (fun target h => X.caload C.exec A.1 (State.isArrayOf_alike (T := base κ T y F) G.alike A.2.1) A.2.2 q1 q2 (g := mkF (mid κ y) pc L.toArray (.int j :: .ref a :: S)) rfl rfl hd target h) (K _ (G.next X nolocs G.cells G.slots rfl G.ch G.hp))
theorem wp_baload (C : Ok κ) (M : Meth κ y bytes mx rt) (hd : decode bytes pc = .ok (.baload, 1)) {a : Addr} {mu : Bool} {vs : List Value} (hm : (a, mu, .inr (.byte, vs)) ∈ l) {j : Int32} {i : Nat} {v : Value} (hj : Ix j i) (hv : vs[i]? = some v)
    (K : WP κ y (pc + 1) L (v :: S) F l k n) : WP κ y pc L (.int j :: .ref a :: S) F l k n := fun T G => by
  obtain ⟨meth, c, X, hb, -⟩ := G.stand C M (d := 0) (w := 0) G.room
  subst hb
  obtain ⟨cl, A, ev, ov⟩ := G.hp.1 _ hm
  obtain ⟨q1, q2⟩ := ix_in ev hj hv
  exact G.go (T' := T) (fun target h => X.baloadBytes C.exec A.1 (State.isArrayOf_alike (T := base κ T y F) G.alike A.2.1) A.2.2 q1 q2 (g := mkF (mid κ y) pc L.toArray (.int j :: .ref a :: S)) rfl rfl hd target h) (K _ (G.next X nolocs G.cells G.slots rfl G.ch G.hp))
theorem wp_aaload (C : Ok κ) (M : Meth κ y bytes mx rt) (hd : decode bytes pc = .ok (.aaload, 1)) {a : Addr} {mu : Bool} {ty : FieldType} {vs : List Value} (hty : ty.isReference = true) (hm : (a, mu, .inr (ty, vs)) ∈ l) {j : Int32} {i : Nat} {v : Value} (hj : Ix j i) (hv : vs[i]? = some v)
    (K : WP κ y (pc + 1) L (v :: S) F l k n) : WP κ y pc L (.int j :: .ref a :: S) F l k n := fun T G => by
  obtain ⟨meth, c, X, hb, -⟩ := G.stand C M (d := 0) (w := 0) G.room
  subst hb
  obtain ⟨cl, A, ev, ov⟩ := G.hp.1 _ hm
  obtain ⟨q1, q2⟩ := ix_in ev hj hv
  exact G.go (T' := T) (fun target h => X.aaload C.exec A.1 (State.isArrayOf_alike (T := base κ T y F) G.alike A.2.1) hty A.2.2 q1 q2 (g := mkF (mid κ y) pc L.toArray (.int j :: .ref a :: S)) rfl rfl hd target h) (K _ (G.next X nolocs G.cells G.slots rfl G.ch G.hp))
theorem Holds.store {h h' : Heap} {a : Addr} {mu : Bool} {ty : FieldType} {vs : List Value} {i : Nat} {v : Value} (H : Holds κ h (a, mu, .inr (ty, vs))) (W : Wr h h' a i v) : Holds κ h' (a, mu, .inr (ty, vs.set i v)) := by
  obtain ⟨cl, A, ev, ov⟩ := H
  exact ⟨_, A.same W, by rw [← ev]; simp [Cell.setSlot], ov⟩
theorem wp_iastore (C : Ok κ) (M : Meth κ y bytes mx rt) (hd : decode bytes pc = .ok (.iastore, 1)) {a : Addr} {vs : List Value} {i j : Nat} {z : Int32} {x : Int32} {v' : Value} (hi : l[i]? = some (a, true, .inr (.int, vs))) (hj : Ix z j) (hv : j < vs.length) (hx : (.int x : Value) = v') (hl' : l.set i (a, true, .inr (.int, vs.set j v')) = l')
    (K : WP κ y (pc + 1) L S F l' k n) : WP κ y pc L (.int x :: .int z :: .ref a :: S) F l k n := fun T G => by
  obtain ⟨meth, c, X, hb, -⟩ := G.stand C M (d := 0) (w := 0) G.room
  subst hb hx
  have H := G.hp.1 _ (List.mem_of_getElem? hi)
  have hS := G.hp.2.2 _ (List.mem_of_getElem? hi) rfl
  obtain ⟨cl, A, ev, ov⟩ := H
  obtain ⟨q1, -⟩ := ix_in ev hj (List.getElem?_eq_getElem hv)
  obtain ⟨T', h', X', e', W, st⟩ := stI X C.exec (Z := kZ κ) G.warm rfl A (j := z) (x := x) q1 (g := mkF (mid κ y) pc L.toArray (.int x :: .int z :: .ref a :: S)) rfl rfl hd
  have B := G.warmed C X'
  subst e'
  rw [hj.2] at W
  obtain ⟨r1, r2⟩ := (G.hp.warm B).wr B.1 hi W (Holds.store ⟨cl, A, ev, ov⟩ W)
  have r1 : Hp κ T'.vm T'.heap l' := hl' ▸ r1
  exact G.go st (K _ (G.next X' (one_loc hS.1) G.cells G.slots rfl r2 r1))
theorem wp_lastore (C : Ok κ) (M : Meth κ y bytes mx rt) (hd : decode bytes pc = .ok (.lastore, 1)) {a : Addr} {vs : List Value} {i j : Nat} {z : Int32} {x : Int64} {v' : Value} (hi : l[i]? = some (a, true, .inr (.long, vs))) (hj : Ix z j) (hv : j < vs.length) (hx : (.long x : Value) = v') (hl' : l.set i (a, true, .inr (.long, vs.set j v')) = l')
    (K : WP κ y (pc + 1) L S F l' k n) : WP κ y pc L (.long x :: .int z :: .ref a :: S) F l k n := fun T G => by
  obtain ⟨meth, c, X, hb, -⟩ := G.stand C M (d := 0) (w := 0) G.room
  subst hb hx
  have H := G.hp.1 _ (List.mem_of_getElem? hi)
  have hS := G.hp.2.2 _ (List.mem_of_getElem? hi) rfl
  obtain ⟨cl, A, ev, ov⟩ := H
  obtain ⟨q1, -⟩ := ix_in ev hj (List.getElem?_eq_getElem hv)
  obtain ⟨T', h', X', e', W, st⟩ := stJ X C.exec (Z := kZ κ) G.warm rfl A (j := z) (x := x) q1 (g := mkF (mid κ y) pc L.toArray (.long x :: .int z :: .ref a :: S)) rfl rfl hd
  have B := G.warmed C X'
  subst e'
  rw [hj.2] at W
  obtain ⟨r1, r2⟩ := (G.hp.warm B).wr B.1 hi W (Holds.store ⟨cl, A, ev, ov⟩ W)
  have r1 : Hp κ T'.vm T'.heap l' := hl' ▸ r1
  exact G.go st (K _ (G.next X' (one_loc hS.1) G.cells G.slots rfl r2 r1))
theorem wp_castore (C : Ok κ) (M : Meth κ y bytes mx rt) (hd : decode bytes pc = .ok (.castore, 1)) {a : Addr} {vs : List Value} {i j : Nat} {z : Int32} {x : Int32} {v' : Value} (hi : l[i]? = some (a, true, .inr (.char, vs))) (hj : Ix z j) (hv : j < vs.length) (hx : (.int x.toUInt32.toUInt16.toUInt32.toInt32 : Value) = v') (hl' : l.set i (a, true, .inr (.char, vs.set j v')) = l')
    (K : WP κ y (pc + 1) L S F l' k n) : WP κ y pc L (.int x :: .int z :: .ref a :: S) F l k n := fun T G => by
  obtain ⟨meth, c, X, hb, -⟩ := G.stand C M (d := 0) (w := 0) G.room
  subst hb hx
  have H := G.hp.1 _ (List.mem_of_getElem? hi)
  have hS := G.hp.2.2 _ (List.mem_of_getElem? hi) rfl
  obtain ⟨cl, A, ev, ov⟩ := H
  obtain ⟨q1, -⟩ := ix_in ev hj (List.getElem?_eq_getElem hv)
  obtain ⟨T', h', X', e', W, st⟩ := stC X C.exec (Z := kZ κ) G.warm rfl A (j := z) (x := x) q1 (g := mkF (mid κ y) pc L.toArray (.int x :: .int z :: .ref a :: S)) rfl rfl hd
  have B := G.warmed C X'
  subst e'
  rw [hj.2] at W
  obtain ⟨r1, r2⟩ := (G.hp.warm B).wr B.1 hi W (Holds.store ⟨cl, A, ev, ov⟩ W)
  have r1 : Hp κ T'.vm T'.heap l' := hl' ▸ r1
  exact G.go st (K _ (G.next X' (one_loc hS.1) G.cells G.slots rfl r2 r1))
theorem wp_bastore (C : Ok κ) (M : Meth κ y bytes mx rt) (hd : decode bytes pc = .ok (.bastore, 1)) {a : Addr} {vs : List Value} {i j : Nat} {z : Int32} {x : Int32} {v' : Value} (hi : l[i]? = some (a, true, .inr (.byte, vs))) (hj : Ix z j) (hv : j < vs.length) (hx : (.int x.toInt8.toInt32 : Value) = v') (hl' : l.set i (a, true, .inr (.byte, vs.set j v')) = l')
    (K : WP κ y (pc + 1) L S F l' k n) : WP κ y pc L (.int x :: .int z :: .ref a :: S) F l k n := fun T G => by
  obtain ⟨meth, c, X, hb, -⟩ := G.stand C M (d := 0) (w := 0) G.room
  subst hb hx
  have H := G.hp.1 _ (List.mem_of_getElem? hi)
  have hS := G.hp.2.2 _ (List.mem_of_getElem? hi) rfl
  obtain ⟨cl, A, ev, ov⟩ := H
  obtain ⟨q1, -⟩ := ix_in ev hj (List.getElem?_eq_getElem hv)
  obtain ⟨T', h', X', e', W, st⟩ := stB X C.exec (Z := kZ κ) G.warm rfl A (j := z) (x := x) q1 (g := mkF (mid κ y) pc L.toArray (.int x :: .int z :: .ref a :: S)) rfl rfl hd
  have B := G.warmed C X'
  subst e'
  rw [hj.2] at W
  obtain ⟨r1, r2⟩ := (G.hp.warm B).wr B.1 hi W (Holds.store ⟨cl, A, ev, ov⟩ W)
  have r1 : Hp κ T'.vm T'.heap l' := hl' ▸ r1
  exact G.go st (K _ (G.next X' (one_loc hS.1) G.cells G.slots rfl r2 r1))
theorem perm_erase {α : Type} : ∀ {l : List α} {i : Nat} {x : α}, l[i]? = some x → l.Perm (x :: l.eraseIdx i)
  | [], i, x, h => by simp at h
  | a :: r, 0, x, h => by
    simp at h
    subst h
    exact List.Perm.refl _
  | a :: r, i + 1, x, h => ((perm_erase (l := r) (i := i) (by simpa using h)).cons a).trans (List.Perm.swap x a _)
/-- chunks turned round, dropped, shut -/
theorem wp_weaken (h : ∀ vm h, Hp κ vm h l → Hp κ vm h l') (K : WP κ y pc L S F l' k n) : WP κ y pc L S F l k n := fun T G => K T ⟨G.1, G.2.1, G.2.2.1, G.2.2.2.1, G.2.2.2.2.1, h _ _ G.hp, G.2.2.2.2.2.2⟩
theorem wp_front (i : Nat) {x : Chunk} {r : List Chunk} (hi : l[i]? = some x) (hr : l.eraseIdx i = r) (K : WP κ y pc L S F (x :: r) k n) : WP κ y pc L S F l k n := wp_weaken (fun vm h H => H.perm (by subst hr; exact perm_erase hi)) K
theorem wp_drop {x : Chunk} (K : WP κ y pc L S F l k n) : WP κ y pc L S F (x :: l) k n := wp_weaken (fun vm h H => H.drop) K
theorem wp_freeze {a : Addr} {mu : Bool} {c : String × List (String × String × String × Value) ⊕ FieldType × List Value} (K : WP κ y pc L S F ((a, false, c) :: l) k n) : WP κ y pc L S F ((a, mu, c) :: l) k n := wp_weaken (fun vm h H => H.freeze) K
theorem wp_room {k' n' : Nat} (hk : k ≤ k') (hn : n ≤ n') (hk' : k' ≤ (kR κ).cells) (hn' : n' ≤ (kR κ).slots) (K : WP κ y pc L S F l k' n') : WP κ y pc L S F l k n := fun T G => K T ⟨G.1, G.2.1.mono hk hn, G.2.2.1, G.2.2.2.1, G.2.2.2.2.1, G.2.2.2.2.2.1, hk', hn', G.2.2.2.2.2.2.2.2⟩
/-- two cells of the list that may be written are apart -/
theorem wp_ne {i j : Nat} {x z : Chunk} (hi : l[i]? = some x) (hj : l[j]? = some z) (hne : i ≠ j) (hm : x.2.1 = true ∨ z.2.1 = true) (K : x.1 ≠ z.1 → WP κ y pc L S F l k n) : WP κ y pc L S F l k n := fun T G => K (G.hp.apart hi hj hne hm) T G
end R
end Jvm.WK
namespace Jvm.WK
open Sem ClassFile Op Lib Jvm.Stand Jvm.Free Jvm.LawKit Jvm.RoadKit
/-! ## 7. calls and returns -/
/-- a frame of yc waits at pcc, its call so many bytes long -/
def Caller (κ : Cx) (yc : MethodName) (pcc len : Nat) : Prop := ∃ (bc : ByteArray) (mxc : Nat) (rc : Option FieldType) (ic : Instr), Meth κ yc bc mxc rc ∧ decode bc pcc = .ok (ic, len)
/-- how arguments are laid into a frame -/
def lay : List Value → Nat → List Slot
  | [], n => List.replicate n .unset
  | .long v :: vs, n => .val (.long v) :: .second :: lay vs (n - 2)
  | .double v :: vs, n => .val (.double v) :: .second :: lay vs (n - 2)
  | v :: vs, n => .val v :: lay vs (n - 1)
theorem lay_eq : ∀ (vs : List Value) (n : Nat), lay vs n = Jvm.Sym.laidSlots vs ++ List.replicate (n - (Jvm.Sym.laidSlots vs).length) .unset
  | [], n => rfl
  | v :: vs, n => by
    have h1 := lay_eq vs (n - 1)
    have h2 := lay_eq vs (n - 2)
    cases v <;> simp only [lay, Jvm.Sym.laidSlots, Value.category, h1, h2, if_true, List.cons_append, List.length_cons] <;> simp [Nat.sub_sub, Nat.add_comm] <;> omega
theorem args_lay {vs : List Value} {n : Nat} {L : List Slot} (h : lay vs n = L) : argsToLocals vs.toArray n = L.toArray := by
  apply Array.toList_inj.mp
  rw [Jvm.Sym.argsToLocals_toList, ← h, lay_eq]
section R
variable {κ : Cx} {T : State} {y : MethodName} {pc pc' : Nat} {L L' : List Slot} {S S' : List Value} {F : List Frame} {l l' : List Chunk} {k n : Nat} {bytes : ByteArray} {mx : Nat} {rt : Option FieldType}
theorem Meth.caller (M : Meth κ y bytes mx rt) {i : Instr} {len : Nat} (hd : decode bytes pc = .ok (i, len)) : Caller κ y pc len := ⟨bytes, mx, rt, i, M, hd⟩
theorem Good.goU (G : Good κ T y pc L S F l k n) {U : State} (st : Steps (kp κ).tables (ke κ) (F ++ kb κ) (T.setTop (mkF (mid κ y) pc L.toArray S)) U) (D : Done κ U) : Done κ T := by
  obtain ⟨t, h1, h2⟩ := D
  have e : T.setTop (mkF (mid κ y) pc L.toArray S) = T := State.setTop_self (State.topJava?_of_frames G.1)
  rw [e] at st
  exact ⟨t, (steps_weaken st).trans h1, h2⟩
theorem Good.zcur (G : Good κ T y pc L S F l k n) : (kZ κ).cur < (kZ κ).threads.size := by
  have q := State.cur_lt_of_frames G.1
  rw [G.threads, G.curEq] at q
  simpa [State.setFrames] using q
theorem Good.room2 (G : Good κ T y pc L S F l k n) {mx' : Nat} (hR : Rm κ (fr κ y pc L S' :: F) 1 (mx' + 11)) : Rm κ F (1 + 1) (L.length + 11 + (cats S' + (mx' + 11))) := by
  refine ⟨by have := hR.1; simp only [List.length_cons] at this; omega, ?_⟩
  have := hR.2
  rw [wt_cons, fr_weight] at this
  omega
/-- into the callee -/
theorem Good.enter (C : Ok κ) (G : Good κ T y pc L S F l k n) (M : Meth κ y bytes mx rt) {i : Instr} {il : Nat} (hd : decode bytes pc = .ok (i, il)) {y' : MethodName} {bytes' : ByteArray} {mx' : Nat} {rt' : Option FieldType} (M' : Meth κ y' bytes' mx' rt') {args : List Value}
    (hL : argsToLocals args.toArray mx' = L'.toArray) (hL' : L'.length = mx') (hR : Rm κ (fr κ y pc L S' :: F) 1 (mx' + 11)) {a b : Nat} {meth : Method} {c : Code} {vm₁ : Vm}
    (X₁ : Stand (kp κ) (kl κ) (ke κ) ⟨1, a, b, cats S' + (mx' + 11)⟩ (base κ T y F) (mid κ y) (ka κ) (F ++ kb κ) meth c (T.setVm vm₁) [] 0 0) (hml : c.maxLocals = L.length)
    (K : WP κ y' 0 L' [] (fr κ y pc L S' :: F) l k n) : Done κ (doInvoke (ke κ) ((T.setVm vm₁).setTop (mkF (mid κ y) pc L.toArray S')) [] (mid κ y') args.toArray).1 := by
  obtain ⟨meth', c', h1, h2, h3, h4, h5, h6, h7, -⟩ := M'.get
  have hal : (kZ κ).vm.Alike vm₁ := G.alike.trans (X₁.warmed.alike)
  have hm' : vm₁.method? (mid κ y') = some meth' := by rw [hal.method?]; exact h2
  have hfrT : (T.setVm vm₁).frames = .java (mkF (mid κ y) pc L.toArray S) :: (F ++ kb κ) := G.1
  have hfull := X₁.notFull (g := mkF (mid κ y) pc L.toArray S') (by show L.toArray.size = c.maxLocals; rw [hml]; simp) (vars := c'.maxLocals) (Nat.le_refl 1) (by
    show 2 * 0 + cats S' + (c'.maxLocals + 11) ≤ cats S' + (mx' + 11)
    rw [h5]; omega)
  have eU : (doInvoke (ke κ) ((T.setVm vm₁).setTop (mkF (mid κ y) pc L.toArray S')) [] (mid κ y') args.toArray).1 = (T.setVm vm₁).setFrames (fr κ y' 0 L' [] :: fr κ y pc L S' :: (F ++ kb κ)) := by
    rw [(doInvoke_java (s := (T.setVm vm₁).setTop (mkF (mid κ y) pc L.toArray S')) (e := ke κ) (acts := []) (args := args.toArray) (meth := meth') (code := c') hm' h3 h7 hfull).1]
    have e2 : ((T.setVm vm₁).setTop (mkF (mid κ y) pc L.toArray S')).frames = .java (mkF (mid κ y) pc L.toArray S') :: (F ++ kb κ) := State.frames_setTop _ hfrT
    unfold State.pushFrame
    rw [e2, State.setTop_of_frames _ hfrT, State.setFrames_setFrames, h5, hL]
    rfl
  rw [eU]
  have hcurT : (T.setVm vm₁).cur < (T.setVm vm₁).threads.size := State.cur_lt_of_frames hfrT
  have A := G.warmed C X₁
  have eL := G.len M
  refine K _ ⟨State.frames_setFrames _ hcurT, ?_, G.since' X₁.warmed (Nat.le_refl _), fun h => G.strict' X₁.warmed h, A.1, G.hp.warm A, G.cells, G.slots, fun f hf => ?_, by rw [hL']; exact hR, ⟨bytes', rt', by rw [hL']; exact M'⟩⟩
  · exact G.2.1.setFrames _ G.zcur
  · rcases List.mem_cons.mp hf with rfl | hf
    · exact ⟨y, bytes, rt, pc, L, S', i, il, rfl, by rw [eL]; exact M, hd⟩
    · exact G.2.2.2.2.2.2.2.2.1 f hf
theorem wp_invokestatic (C : Ok κ) (M : Meth κ y bytes mx rt) {ix : Nat} (hd : decode bytes pc = .ok (.invokestatic ix, 3)) {y' : MethodName} {bytes' : ByteArray} {mx' : Nat} {rt' : Option FieldType} (M' : Meth κ y' bytes' mx' rt') (w1 : Wd κ (.methodLink y.cls ix y')) (w2 : Wd κ (.static y')) (w3 : Wd κ (.initialized y'.cls))
    (hy : y'.cls ≠ "java/lang/invoke/MethodHandle" ∧ y'.cls ≠ "java/lang/invoke/VarHandle") (args : List Value) (hlen : ∀ sig, parseMethodDescriptor y'.desc = some sig → args.length = sig.parameters.length) (hS : S = args.reverse ++ S') (hL : lay args mx' = L') (hL' : L'.length = mx') (hR : Rm κ (fr κ y pc L S' :: F) 1 (mx' + 11))
    (K : WP κ y' 0 L' [] (fr κ y pc L S' :: F) l k n) : WP κ y pc L S F l k n := fun T G => by
  obtain ⟨meth, c, X, hb, hml, -⟩ := G.stand C M (d := 1) (w := cats S' + (mx' + 11)) (G.room2 hR)
  subst hb
  obtain ⟨meth', c', h1, h2, h3, h4, h5, h6, h7, -, h8⟩ := M'.get
  have hn : (base κ T y F).methodNamed? y' = some (mid κ y') := by
    have q : ((kZ κ).setVm T.vm).methodNamed? y' = some (mid κ y') := by rw [State.methodNamed?_setVm G.alike]; exact h1
    exact q
  have hm : (base κ T y F).vm.method? (mid κ y') = some meth' := by show T.vm.method? _ = _; rw [G.alike.method?]; exact h2
  obtain ⟨kP, hkP, -⟩ := className_of_methodNamed hn
  have hinitP : kP.init = .initialized := Cond.initialized_spec (args := ka κ) (findClass_of_methodNamed hn) hkP (mv (s := base κ T y F) G.warm w3)
  have hst : meth'.isStatic = true := Cond.static_spec hn hm (mv (s := base κ T y F) (args := ka κ) G.warm w2)
  obtain ⟨vm₁, X₁, hstep⟩ := X.invokestatic C.exec (G.own M) (mv (s := base κ T y F) G.warm w1) hn hm hst hkP hinitP hy (g := mkF (mid κ y) pc L.toArray S) rfl (argsL := args) (rest := S') (hlen _ h8) hS hd
  exact G.goU (hstep _ fun acts => by rw [doInvoke_state]; exact Steps.refl _) (G.enter C M hd M' (args_lay hL) hL' hR X₁ hml K)
theorem wp_init (C : Ok κ) (M : Meth κ y bytes mx rt) {ix : Nat} (hd : decode bytes pc = .ok (.invokespecial ix, 3)) {y' : MethodName} {bytes' : ByteArray} {mx' : Nat} (M' : Meth κ y' bytes' mx' none) (hi : y'.name = "<init>") (w1 : Wd κ (.methodLink y.cls ix y')) (w2 : Wd κ (.instanceMethod y'))
    (hy : y'.cls ≠ "java/lang/invoke/MethodHandle" ∧ y'.cls ≠ "java/lang/invoke/VarHandle") (a : Addr) (args : List Value) (hlen : ∀ sig, parseMethodDescriptor y'.desc = some sig → args.length = sig.parameters.length) (hS : S = args.reverse ++ .ref a :: S') (hL : lay (.ref a :: args) mx' = L') (hL' : L'.length = mx') (hR : Rm κ (fr κ y pc L S' :: F) 1 (mx' + 11))
    (K : WP κ y' 0 L' [] (fr κ y pc L S' :: F) l k n) : WP κ y pc L S F l k n := fun T G => by
  obtain ⟨meth, c, X, hb, hml, -⟩ := G.stand C M (d := 1) (w := cats S' + (mx' + 11)) (G.room2 hR)
  subst hb
  obtain ⟨meth', c', h1, h2, h3, h4, h5, h6, h7, -, h8⟩ := M'.get
  have hpl : (ke κ).platform.magicAccessors = ({} : Platform).magicAccessors := by rw [X.admits.platform]
  obtain ⟨mk, methM, cM, kP, vm₁, hnamed, hmethM, -, -, -, -, hkP, -, hW₁, hstep⟩ := Steps.initColdArgs (e := ke κ) X.here C.exec X.warmed hpl (G.own M) hi hy (mv (s := base κ T y F) (args := ka κ) G.warm w1) (mv (s := base κ T y F) G.warm w2) (mv (s := base κ T y F) G.warm M'.2) (f := mkF (mid κ y) pc L.toArray S) rfl hlen hS hd
  have hn : (base κ T y F).methodNamed? y' = some (mid κ y') := by
    have q : ((kZ κ).setVm T.vm).methodNamed? y' = some (mid κ y') := by rw [State.methodNamed?_setVm G.alike]; exact h1
    exact q
  cases hnamed.symm.trans hn
  have X₁ := X.noted hW₁
  exact G.goU (hstep _ fun acts => by rw [doInvoke_state]; exact Steps.refl _) (G.enter C M hd M' (args_lay hL) hL' hR X₁ hml K)
theorem wp_initObject (C : Ok κ) (M : Meth κ y bytes mx rt) {ix : Nat} (hd : decode bytes pc = .ok (.invokespecial ix, 3)) (w1 : Wd κ (.methodLink y.cls ix Lib.objectInit)) (w2 : Wd κ (.instanceMethod Lib.objectInit)) (w3 : Wd κ (.code Lib.objectInit ⟨#[0xb1]⟩ 1 none)) {a : Addr} (hR : Rm κ (fr κ y pc L S :: F) 1 12)
    (K : WP κ y (pc + 3) L S F l k n) : WP κ y pc L (.ref a :: S) F l k n := fun T G => by
  obtain ⟨meth, c, X, hb, hml, -⟩ := G.stand C M (d := 1) (w := cats S + (1 + 11)) (G.room2 hR)
  subst hb
  obtain ⟨T', X', e', st⟩ := initO X C.exec G.warm (G.own M) w1 w2 w3 rfl (g := mkF (mid κ y) pc L.toArray (.ref a :: S)) rfl (by show L.toArray.size = c.maxLocals; rw [hml]; simp) rfl hd (Nat.le_refl 1) (W := cats S) (by show 2 * 0 + cats S ≤ _; omega) (Nat.le_refl _)
  have A := G.warmed C X'
  exact G.go st (K _ (G.next X' nolocs G.cells G.slots rfl (e' ▸ A.1) (e' ▸ G.hp.warm A)))
/-- the class of a receiver -/
theorem Good.recv (G : Good κ T y pc L S F l k n) {b : Addr} {mu : Bool} {Cl : String} {fs : List (String × String × String × Value)} (hm : (b, mu, .inl (Cl, fs)) ∈ l) : ∃ cB kB, (base κ T y F).vm.findClass Cl = some cB ∧ (base κ T y F).vm.classes[cB]? = some kB ∧ IsOf cB T b :=
  isOf (s := base κ T y F) (T := T) G.warm rfl (G.hp.1 _ hm).1
/-- the class that a call names is no interface -/
def NfW (κ : Cx) (y0 : MethodName) : Prop := (∃ D, Wd κ (.selects D y0 y0)) ∨ (∃ D, Wd κ (.superclass y0.cls D)) ∨ Wd κ (.noSuperclass y0.cls)
theorem NfW.at {y0 : MethodName} {s : State} (h : NfW κ y0) (hZ : (kZ κ).Warmed39 s.vm) : NotFace s y0 := by
  rcases h with ⟨D, h⟩ | ⟨D, h⟩ | h
  · exact notFace_of_selects (args := ka κ) (mv hZ h)
  · exact nf_super (args := ka κ) (mv hZ h)
  · exact nf_top (args := ka κ) (mv hZ h)
theorem wp_invokevirtual (C : Ok κ) (M : Meth κ y bytes mx rt) {ix : Nat} (hd : decode bytes pc = .ok (.invokevirtual ix, 3)) {y0 y' : MethodName} {bytes' : ByteArray} {mx' : Nat} {rt' : Option FieldType} (M' : Meth κ y' bytes' mx' rt') {Cl : String} (w1 : Wd κ (.methodLink y.cls ix y0)) (w2 : Wd κ (.declares y0)) (w3 : Wd κ (.selects Cl y0 y')) (w4 : Wd κ (.instanceMethod y')) (nf : NfW κ y0)
    (hy : y0.cls ≠ "java/lang/invoke/MethodHandle" ∧ y0.cls ≠ "java/lang/invoke/VarHandle") {b : Addr} {mu : Bool} {fs : List (String × String × String × Value)} (hm : (b, mu, .inl (Cl, fs)) ∈ l) (args : List Value) (hlen : ∀ sig, parseMethodDescriptor y0.desc = some sig → args.length = sig.parameters.length) (hS : S = args.reverse ++ .ref b :: S') (hL : lay (.ref b :: args) mx' = L') (hL' : L'.length = mx') (hR : Rm κ (fr κ y pc L S' :: F) 1 (mx' + 11))
    (K : WP κ y' 0 L' [] (fr κ y pc L S' :: F) l k n) : WP κ y pc L S F l k n := fun T G => by
  obtain ⟨meth, c, X, hb, hml, -⟩ := G.stand C M (d := 1) (w := cats S' + (mx' + 11)) (G.room2 hR)
  subst hb
  obtain ⟨meth', c', h1, h2, -⟩ := M'.get
  obtain ⟨cB, kB, hcB, -, cellB, hcellT, hclsB, hstatB⟩ := G.recv hm
  have v1 := mv (s := base κ T y F) (args := ka κ) G.warm w1
  have v2 := mv (s := base κ T y F) (args := ka κ) G.warm w2
  have v3 := mv (s := base κ T y F) (args := ka κ) G.warm w3
  have v4 := mv (s := base κ T y F) (args := ka κ) G.warm w4
  obtain ⟨r0, r, hn, hrm, hstR, hsigR⟩ := Cond.declares_spec v2
  obtain ⟨mk, methM, hnamed, hmethM, -, habM⟩ := Cond.instanceMethod_spec v4
  obtain ⟨c2, r2, m2, q1, q2, q3, q4, kP, hkP, hkPi⟩ := Cond.selects_spec v3
  cases hcB.symm.trans q1
  cases (State.methodFound?_of_named hn hy).symm.trans q2
  cases hnamed.symm.trans q3
  have hselP : selectMethod (ke κ).platform (base κ T y F).vm cellB.cls r0 = .method mk := by rw [Launch.admits_selectMethod X.admits, hclsB]; exact q4
  obtain ⟨kr, hkr, hni⟩ := nf.at (s := base κ T y F) G.warm r0 hn
  obtain ⟨vm₁, X₁, hstep⟩ := X.invokevirtual C.exec (G.own M) v1 hn hrm hstR hkr hni hy (a := b) (cell := cellB) hcellT (fun z h => by rw [h] at hstatB; cases hstatB) hselP hmethM habM hkP hkPi (g := mkF (mid κ y) pc L.toArray S) rfl (argsL := args) (rest := S') (hlen _ hsigR) hS hd
  have hn' : (base κ T y F).methodNamed? y' = some (mid κ y') := by
    have q : ((kZ κ).setVm T.vm).methodNamed? y' = some (mid κ y') := by rw [State.methodNamed?_setVm G.alike]; exact h1
    exact q
  cases hnamed.symm.trans hn'
  exact G.goU (hstep _ fun acts => by rw [doInvoke_state]; exact Steps.refl _) (G.enter C M hd M' (args_lay hL) hL' hR X₁ hml K)
/-- back to the caller -/
theorem Good.back (C : Ok κ) {yc : MethodName} {pcc len : Nat} {Lc : List Slot} {Sc : List Value} (G : Good κ T y pc L S (fr κ yc pcc Lc Sc :: F) l k n) (Cr : Caller κ yc pcc len) (v : Option Value) (K : WP κ yc (pcc + len) Lc (v.toList ++ Sc) F l k n) :
    ∃ fs, handOver T v ((fr κ yc pcc Lc Sc :: F) ++ kb κ) = some fs ∧ Done κ (T.setFrames fs) := by
  obtain ⟨bc, mxc, rc, ic, Mc, hdc⟩ := Cr
  obtain ⟨mc, cc, -, n2, n3, n4, n5, -⟩ := Mc.get
  have hm : T.vm.method? (mid κ yc) = some mc := by rw [G.alike.method?]; exact n2
  have hcode : T.code? (mid κ yc) = some cc := by rw [State.code?_eq, hm]; simp [n3]
  have hcur := State.cur_lt_of_frames G.1
  have hrm := G.2.2.2.2.2.2.2.2.2.1
  obtain ⟨yq, bq, rq, pq, Lq, Sq, iq, lq, eq, Mq, hdq⟩ := G.2.2.2.2.2.2.2.2.1 (fr κ yc pcc Lc Sc) (by simp)
  have eL : Lq = Lc := by
    have q := eq
    simp only [fr, Frame.java.injEq, mkF, JFrame.mk.injEq, Array.mk.injEq] at q
    have q2 := q.2.2.1
    first | exact q2.symm | (simp at q2; exact q2.symm)
  have eM : mid κ yq = mid κ yc := by
    have q := eq
    simp only [fr, Frame.java.injEq, mkF, JFrame.mk.injEq] at q
    exact q.1.symm
  have hLen : Lc.length = mxc := by
    obtain ⟨m2, c2, -, g2, g3, -, g5, -⟩ := Mq.get
    rw [eM] at g2
    cases g2.symm.trans n2
    cases g3.symm.trans n3
    rw [← eL, ← g5, n5]
  refine ⟨fr κ yc (pcc + len) Lc (v.toList ++ Sc) :: (F ++ kb κ), ?_, ?_⟩
  · show ((T.code? (mid κ yc)).bind fun c => (decode c.code pcc).toOption).map _ = _
    rw [hcode]
    simp [n4, hdc, Except.toOption]
    rfl
  · refine K _ ⟨State.frames_setFrames _ hcur, G.2.1.setFrames _ G.zcur, G.2.2.1, G.2.2.2.1, G.2.2.2.2.1, G.hp, G.cells, G.slots, fun f hf => G.2.2.2.2.2.2.2.2.1 f (List.mem_cons_of_mem _ hf), ?_, ⟨bc, rc, by rw [hLen]; exact Mc⟩⟩
    refine ⟨by have := hrm.1; simp only [List.length_cons] at this; omega, ?_⟩
    have := hrm.2
    rw [wt_cons, fr_weight] at this
    omega
theorem wp_ret (C : Ok κ) (M : Meth κ y bytes mx rt) {i : Instr} (hd : decode bytes pc = .ok (i, 1)) {t : FieldType} (hrt : rt = some t) {v : Value} (hn : narrow t v = v)
    (hi : (i = .ireturn ∧ (t = .int ∨ t = .boolean ∨ t = .byte ∨ t = .char ∨ t = .short) ∧ ∃ z, v = .int z) ∨ (i = .lreturn ∧ t = .long ∧ ∃ z, v = .long z) ∨ (i = .dreturn ∧ t = .double ∧ ∃ z, v = .double z) ∨ (i = .freturn ∧ t = .float ∧ ∃ z, v = .float z) ∨ (i = .areturn ∧ t.isReference = true ∧ v.isRef = true))
    {yc : MethodName} {pcc len : Nat} {Lc : List Slot} {Sc : List Value} (Cr : Caller κ yc pcc len) (K : WP κ yc (pcc + len) Lc (v :: Sc) F l k n) : WP κ y pc L (v :: S) (fr κ yc pcc Lc Sc :: F) l k n := fun T G => by
  obtain ⟨meth, c, X, hb, hml, hr, hlk, -⟩ := G.stand C M (d := 0) (w := 0) G.room
  subst hb
  obtain ⟨fs, hfs, D⟩ := G.back C Cr (some v) K
  exact G.goU (retOut X C.exec (hr.trans hrt) hn hi hd fun f acts h1 h2 h3 => ret_to G.1 (by rw [h1]; exact X.method') hlk h2 h3 hfs acts) D
theorem wp_iret (C : Ok κ) (M : Meth κ y bytes mx rt) (hd : decode bytes pc = .ok (.ireturn, 1)) {t : FieldType} (hrt : rt = some t) {z : Int32} (ht : t = .int ∨ t = .boolean ∨ t = .byte ∨ t = .char ∨ t = .short) (hn : narrow t (.int z) = .int z)
    {yc : MethodName} {pcc len : Nat} {Lc : List Slot} {Sc : List Value} (Cr : Caller κ yc pcc len) (K : WP κ yc (pcc + len) Lc (.int z :: Sc) F l k n) : WP κ y pc L (.int z :: S) (fr κ yc pcc Lc Sc :: F) l k n := wp_ret C M hd hrt hn (Or.inl ⟨rfl, ht, z, rfl⟩) Cr K
theorem wp_lret (C : Ok κ) (M : Meth κ y bytes mx rt) (hd : decode bytes pc = .ok (.lreturn, 1)) (hrt : rt = some .long) {z : Int64}
    {yc : MethodName} {pcc len : Nat} {Lc : List Slot} {Sc : List Value} (Cr : Caller κ yc pcc len) (K : WP κ yc (pcc + len) Lc (.long z :: Sc) F l k n) : WP κ y pc L (.long z :: S) (fr κ yc pcc Lc Sc :: F) l k n := wp_ret C M hd hrt rfl (Or.inr (Or.inl ⟨rfl, rfl, z, rfl⟩)) Cr K
theorem wp_aret (C : Ok κ) (M : Meth κ y bytes mx rt) (hd : decode bytes pc = .ok (.areturn, 1)) {t : FieldType} (hrt : rt = some t) (ht : t.isReference = true) {v : Value} (hv : v.isRef = true) 
    {yc : MethodName} {pcc len : Nat} {Lc : List Slot} {Sc : List Value} (Cr : Caller κ yc pcc len) (K : WP κ yc (pcc + len) Lc (v :: Sc) F l k n) : WP κ y pc L (v :: S) (fr κ yc pcc Lc Sc :: F) l k n :=
  wp_ret C M hd hrt (by cases t <;> cases v <;> first | rfl | (cases ht; done) | (cases hv; done)) (Or.inr (Or.inr (Or.inr (Or.inr ⟨rfl, ht, hv⟩)))) Cr K
theorem wp_vret (C : Ok κ) (M : Meth κ y bytes mx none) (hd : decode bytes pc = .ok (.return_, 1))
    {yc : MethodName} {pcc len : Nat} {Lc : List Slot} {Sc : List Value} (Cr : Caller κ yc pcc len) (K : WP κ yc (pcc + len) Lc Sc F l k n) : WP κ y pc L [] (fr κ yc pcc Lc Sc :: F) l k n := fun T G => by
  obtain ⟨meth, c, X, hb, hml, hr, hlk, -⟩ := G.stand C M (d := 0) (w := 0) G.room
  subst hb
  obtain ⟨fs, hfs, D⟩ := G.back C Cr none K
  refine G.goU (U := T.setFrames fs) ?_ D
  have hl : ∀ (f : JFrame) (acts : List Action), f.method = mid κ y → f.locked = none → f.entered = [] → (doReturn (ke κ) (T.setTop f) acts none).1 = T.setFrames fs := fun f acts h1 h2 h3 => ret_to G.1 (by rw [h1]; exact X.method') hlk h2 h3 hfs acts
  exact X.returnOut C.exec hr hd hl
/-- the law's own return -/
theorem wp_end (C : Ok κ) (M : Meth κ y bytes mx (some .boolean)) (hd : decode bytes pc = .ok (.ireturn, 1)) : WP κ y pc L (.int 1 :: S) [] l k n := fun T G => by
  obtain ⟨meth, c, X, hb, hml, hr, hlk, -⟩ := G.stand C M (d := 0) (w := 0) G.room
  subst hb
  obtain ⟨fs, hrr, hrun, hended, hW, hsame⟩ := X.leave (v := some (.int 1)) (fun h => by rw [hr] at h; cases h) hlk
  refine G.goU (retOut X C.exec hr (by decide) (Or.inl ⟨rfl, Or.inr (Or.inl rfl), 1, rfl⟩) hd hrr) ⟨_, Steps.refl _, hrun, hended, G.2.2.1, G.2.2.2.1, ?_⟩
  exact (G.2.1.setFrames fs G.zcur).mono G.cells G.slots
end R
end Jvm.WK
namespace Jvm.WK
open Sem ClassFile Op Lib Jvm.Stand Jvm.Free Jvm.LawKit Jvm.RoadKit
/-! ## 8. Strings' constants, casts, arrays of references, copies -/
/-- a byte as an array of bytes holds it -/
def byv (u : UInt8) : Value := .int u.toInt8.toInt32
abbrev strO (a b : Addr) (z : Int32) : Chunk := (a, false, .inl ("java/lang/String", [("java/lang/String", "value", "[B", .ref b), ("java/lang/String", "coder", "B", .int z)]))
abbrev strB (b : Addr) (u : List UInt8) : Chunk := (b, false, .inr (.byte, u.map byv))
theorem byv_fits (u : UInt8) : fits .byte (byv u) = true := by
  have h := fits_nar_byte u.toInt8.toInt32
  simpa [byv] using h
/-- the words of a String that a constant makes -/
def StrW (κ : Cx) : Prop := ∀ a ∈ Bundle.stringAtoms, Wd κ a
theorem StrW.nodup {κ : Cx} (w : StrW κ) (v c : Value) : (([("java/lang/String", "value", "[B", v), ("java/lang/String", "coder", "B", c)] : List (String × String × String × Value)).map (fslot κ)).Nodup := by
  have h1 : Wd κ (.laysFinal "java/lang/String" "java/lang/String" "value" "[B") := w _ (by simp [Bundle.stringAtoms, Bundle.sN])
  have h2 : Wd κ (.laysFinal "java/lang/String" "java/lang/String" "coder" "B") := w _ (by simp [Bundle.stringAtoms, Bundle.sN])
  have q := slot_ne (Or.inr h1) (Or.inr h2) (by decide) (t := .array .byte) (t' := .byte) (by decide) (by decide)
  simpa [fslot] using q
section R
variable {κ : Cx} {T : State} {y : MethodName} {pc pc' : Nat} {L L' : List Slot} {S S' : List Value} {F : List Frame} {l l' : List Chunk} {k n : Nat} {bytes : ByteArray} {mx : Nat} {rt : Option FieldType}
/-- behind an 'ldc' that may have interned -/
theorem Good.lit (G : Good κ T y pc L S F l k n) (hst : kS κ = false) {R' : Room} {meth : Method} {c : Code} {T' : State} {cells slots k1 : Nat} (X' : Stand (kp κ) (kl κ) (ke κ) R' ((base κ T y F).setVm T'.vm) (mid κ y) (ka κ) (F ++ kb κ) meth c T' [] cells slots)
    (hS : (base κ T y F).Since T'.vm k1) (hk1 : k1 ≤ T'.heap.size) (hk : k + cells ≤ (kR κ).cells) (hn : n + slots ≤ (kR κ).slots) (hC : CHv (kZ κ) (kE κ) T'.vm T'.heap) (hH : Hp κ T'.vm T'.heap l') : Good κ (T'.setTop (mkF (mid κ y) pc' L.toArray S')) y pc' L S' F l' (k + cells) (n + slots) := by
  obtain ⟨g₀, hfr⟩ := X'.frames_eq
  have hsz : T.heap.size ≤ T'.heap.size := X'.same.2.1
  refine ⟨State.frames_setTop _ hfr, ?_, ?_, fun h => ?_, hC, hH, hk, hn, G.2.2.2.2.2.2.2.2.1, G.2.2.2.2.2.2.2.2.2.1, G.2.2.2.2.2.2.2.2.2.2⟩
  · have q0 := X'.same.setVm (kZ κ).vm
    have q1 : (T.setVm (kZ κ).vm).sameButNew (T'.setVm (kZ κ).vm) [] cells slots := State.sameButNew.of_setFrames (F := .invoking (mid κ y) (ka κ) :: (F ++ kb κ)) q0
    have q2 := G.2.1.trans q1
    have e : (T'.setTop (mkF (mid κ y) pc' L.toArray S')).setVm (kZ κ).vm = (T'.setVm (kZ κ).vm).setFrames (.java (mkF (mid κ y) pc' L.toArray S') :: (F ++ kb κ)) := by
      rw [State.setTop_of_frames _ hfr]; rfl
    rw [e]
    exact State.sameButNew.setFrames q2 _ G.zcur
  · show (kZ κ).Since T'.vm T'.heap.size
    refine G.2.2.1.trans (n₂ := T'.heap.size) ⟨State.Warmed39.of_rootvm (s := base κ T y F) rfl hS.1, fun j p hj hp => ?_⟩ hsz
    have q := hS.2 j p hj hp
    exact ⟨Nat.le_trans G.size q.1, Nat.lt_of_lt_of_le q.2 hk1⟩
  · rw [hst] at h; cases h
theorem arv_list {h : Heap} {a : Addr} {cA : ClassId} {ty : FieldType} {z : Int32} {vs : List Value} {d : Value} {Z : State} (A : Arv Z h a cA ty z vs d) (hl : z.toNatClampNeg = vs.length) : ∃ c : Cell, Arr Z h a c ty ∧ c.slots.toList = vs := by
  obtain ⟨c, A, -, h2, -, H, -⟩ := A
  refine ⟨c, A, List.ext_getElem? fun i => ?_⟩
  have e : c.slots.size = vs.length := h2.trans hl
  by_cases q : i < c.slots.size
  · have r := H i q
    rw [← Array.getElem?_toList] at r
    rw [r, List.getD_eq_getElem?_getD, List.getElem?_eq_getElem (by omega)]
    rfl
  · rw [List.getElem?_eq_none (by simpa using q), List.getElem?_eq_none (by omega)]
/-- a String constant whose text is known -/
theorem wp_ldcS (C : Ok κ) (hst : kS κ = false) (wS : StrW κ) (M : Meth κ y bytes mx rt) {ix : Nat} (hd : decode bytes pc = .ok (.ldc ix, 2)) {text : String} (w : Wd κ (.stringLink y.cls ix text)) (hmem : (y.cls, ix) ∈ kE κ) (u : List UInt8) (ht : (∀ c ∈ text.toList, c.toNat < 256) ∧ text.toList.map (fun c => Value.int (Jvm.Lit.byteI c.toNat.toUInt16)) = u.map byv) {m : Nat} (hm : 4 * text.toList.length ≤ m)
    (hb : m ≤ 536870912) (hk : k + 2 ≤ (kR κ).cells) (hn : n + (m + 4) ≤ (kR κ).slots) (K : ∀ a b, WP κ y (pc + 2) L (.ref a :: S) F (strO a b 0 :: strB b u :: l) (k + 2) (n + (m + 4))) : WP κ y pc L S F l k n := fun T G => by
  obtain ⟨meth, c, X, hbb, -⟩ := G.stand C M (d := 0) (w := 0) G.room
  subst hbb
  have hlen : (Int32.ofNat u.length).toNatClampNeg = (u.map byv).length ∧ ¬ Int32.ofNat u.length < 0 := by
    have e : u.length = text.toList.length := by
      have q := congrArg List.length ht.2
      simpa using q.symm
    have q := idx_in (i := u.length) (n := u.length + 1) (by omega) (by omega)
    have q2 : (Nat.toInt32 u.length).toInt = u.length := len_toInt (by omega)
    refine ⟨?_, fun r => q (Or.inl r)⟩
    show (Nat.toInt32 u.length).toInt.toNat = _
    rw [q2]; simp
  obtain ⟨a, T', h', k1, b, kk, X', e', E, hS, hk1, -, -, A1, A2, A3, A4, -, -, hC, -, hsafe, st⟩ := ldcCH (s := base κ T y F) (vm0 := T.vm) (EL := kE κ) X C.exec G.warm (G.own M) w wS rfl (State.WarmedH.since (State.WarmedH.refl (base κ T y F)) T.heap.size) (Nat.le_refl _) C.ew hmem G.ch ht hlen.2 hlen.1 (g := mkF (mid κ y) pc L.toArray S) rfl hd hm hb (by show 0 + 2 ≤ (kR κ).cells - k; omega) (by show 0 + (m + 4) ≤ (kR κ).slots - n; omega)
  subst e'
  obtain ⟨cb, Ab, eb⟩ := arv_list A4 hlen.1
  have H0 := G.hp.ext E hC
  have H1 : Hp κ T'.vm T'.heap (strB b u :: l) := H0.add ⟨cb, Ab, eb, fun C h => by cases h⟩ (fun z hz hm => by
    rcases hm with hm | hm
    · cases hm
    · exact Ne.symm (hsafe _ (H0.2.2 z hz hm).2).2) (fun q => by cases q)
  have H2 : Hp κ T'.vm T'.heap (strO a b 0 :: strB b u :: l) := H1.add ⟨A1, fun f hf => by
      simp only [List.mem_cons, List.not_mem_nil, or_false] at hf
      rcases hf with rfl | rfl
      · exact A3
      · exact A2, wS.nodup _ _⟩ (fun z hz hm => by
    rcases hm with hm | hm
    · cases hm
    · rcases List.mem_cons.mp hz with rfl | hz
      · cases hm
      · exact Ne.symm (hsafe _ (H0.2.2 z hz hm).2).1) (fun q => by cases q)
  simp only [Nat.zero_add] at X'
  exact G.go st (K a b _ (G.lit hst X' hS hk1 hk hn hC.1 H2))
/-- a String constant of which nothing need be known -/
theorem wp_ldcO (C : Ok κ) (hst : kS κ = false) (wS : StrW κ) (M : Meth κ y bytes mx rt) {ix : Nat} (hd : decode bytes pc = .ok (.ldc ix, 2)) {text : String} (w : Wd κ (.stringLink y.cls ix text)) {m : Nat} (hm : 4 * text.toList.length ≤ m)
    (hb : m ≤ 536870912) (hk : k + 2 ≤ (kR κ).cells) (hn : n + (m + 4) ≤ (kR κ).slots) (K : ∀ a, WP κ y (pc + 2) L (.ref a :: S) F l (k + 2) (n + (m + 4))) : WP κ y pc L S F l k n := fun T G => by
  obtain ⟨meth, c, X, hbb, -⟩ := G.stand C M (d := 0) (w := 0) G.room
  subst hbb
  obtain ⟨a, T', h', k1, X', e', E, hS, hk1, -, -, hC, -, st⟩ := ldcOH (s := base κ T y F) (vm0 := T.vm) (EL := kE κ) X C.exec G.warm (G.own M) w wS rfl (State.WarmedH.since (State.WarmedH.refl (base κ T y F)) T.heap.size) (Nat.le_refl _) C.ew G.ch (g := mkF (mid κ y) pc L.toArray S) rfl hd hm hb (by show 0 + 2 ≤ (kR κ).cells - k; omega) (by show 0 + (m + 4) ≤ (kR κ).slots - n; omega)
  subst e'
  simp only [Nat.zero_add] at X'
  exact G.go st (K a _ (G.lit hst X' hS hk1 hk hn hC.1 (G.hp.ext E hC)))
theorem Hp.ins {vm : Vm} {h : Heap} (H : Hp κ vm h l) {a : Addr} {mu : Bool} {Cl K : String} {fs : List (String × String × String × Value)} (hm : (a, mu, .inl (Cl, fs)) ∈ l) (wc : Cl = K ∨ Wd κ (.castable Cl K)) : Ins (kZ κ) h a K true := by
  have E := (H.1 _ hm).1
  rcases wc with rfl | wc
  · exact Ins.self E
  · exact Ins.of_exa E wc
theorem wp_checkcast (C : Ok κ) (M : Meth κ y bytes mx rt) {ix : Nat} (hd : decode bytes pc = .ok (.checkcast ix, 3)) {a : Addr} {mu : Bool} {Cl Kl : String} {fs : List (String × String × String × Value)} (w : Wd κ (.classLink y.cls ix Kl)) (hm : (a, mu, .inl (Cl, fs)) ∈ l) (wc : Cl = Kl ∨ Wd κ (.castable Cl Kl))
    (K : WP κ y (pc + 3) L (.ref a :: S) F l k n) : WP κ y pc L (.ref a :: S) F l k n := fun T G => by
  obtain ⟨meth, c, X, hb, -⟩ := G.stand C M (d := 0) (w := 0) G.room
  subst hb
  obtain ⟨T', X', e', st⟩ := castY X C.exec G.warm (G.own M) w rfl (G.hp.ins hm wc) (g := mkF (mid κ y) pc L.toArray (.ref a :: S)) rfl rfl hd
  have A := G.warmed C X'
  exact G.go st (K _ (G.next X' nolocs G.cells G.slots rfl (e' ▸ A.1) (e' ▸ G.hp.warm A)))
theorem wp_instanceof (C : Ok κ) (M : Meth κ y bytes mx rt) {ix : Nat} (hd : decode bytes pc = .ok (.instanceof ix, 3)) {a : Addr} {mu : Bool} {Cl Kl : String} {fs : List (String × String × String × Value)} (w : Wd κ (.classLink y.cls ix Kl)) (hm : (a, mu, .inl (Cl, fs)) ∈ l) (wc : Cl = Kl ∨ Wd κ (.castable Cl Kl))
    (K : WP κ y (pc + 3) L (.int 1 :: S) F l k n) : WP κ y pc L (.ref a :: S) F l k n := fun T G => by
  obtain ⟨meth, c, X, hb, -⟩ := G.stand C M (d := 0) (w := 0) G.room
  subst hb
  obtain ⟨T', X', e', st⟩ := instY X C.exec G.warm (G.own M) w rfl (G.hp.ins hm wc) (g := mkF (mid κ y) pc L.toArray (.ref a :: S)) rfl rfl hd
  have A := G.warmed C X'
  exact G.go st (K _ (G.next X' nolocs G.cells G.slots rfl (e' ▸ A.1) (e' ▸ G.hp.warm A)))
theorem wp_anewarray (C : Ok κ) (M : Meth κ y bytes mx rt) {ix : Nat} (hd : decode bytes pc = .ok (.anewarray ix, 3)) {Cl : String} (w1 : Wd κ (.classLink y.cls ix Cl)) (w2 : Wd κ (.arrayOver (.object Cl))) {z : Int32} {len : Nat} (hz : Ix z len) (hb : len * 8 ≤ 536870912) (hk : k + 1 ≤ (kR κ).cells) (hn : n + len ≤ (kR κ).slots) {vs : List Value} (hv : List.replicate len .null = vs)
    (K : ∀ a, WP κ y (pc + 3) L (.ref a :: S) F ((a, true, .inr (.object Cl, vs)) :: l) (k + 1) (n + len)) : WP κ y pc L (.int z :: S) F l k n := fun T G => by
  obtain ⟨meth, c, X, hbb, -⟩ := G.stand C M (d := 0) (w := 0) G.room
  subst hbb hv
  obtain ⟨T', h', cA, X', e', E, A, O, st⟩ := newR X C.exec G.warm (G.own M) w1 w2 rfl (g := mkF (mid κ y) pc L.toArray (.int z :: S)) rfl hd rfl hz.1 (cap := len) (Nat.le_of_eq hz.2) hb (by show 0 + 1 ≤ (kR κ).cells - k; omega) (by show 0 + len ≤ (kR κ).slots - n; omega)
  have B := G.warmed C X'
  have B2 : CHr (kZ κ) (kE κ) T.vm T.heap T'.vm h' := B.trans (CHr.ext E B.1)
  subst e'
  have hx : Holds κ T'.heap (T.heap.size, true, .inr (.object Cl, List.replicate len .null)) := ⟨_, A, by simp [newA, hz.2, defaultValue], fun D h => by cases h; exact O⟩
  have hS : Safe (kZ κ) (kE κ) T'.vm T'.heap T.heap.size := fun Bk => by
    have q := (B.1.step fun _ _ _ q => E.2 _ _ q).2 _ Bk
    obtain ⟨cell, hcell⟩ := q.there
    exact absurd (Array.getElem?_eq_some_iff.mp hcell).1 (Nat.lt_irrefl _)
  simp only [Nat.zero_add] at X'
  exact G.go st (K _ _ (G.next X' nolocs hk hn rfl B2.1 (Hp.new E B2 G.hp G.size hx hS)))
theorem wp_aastore (C : Ok κ) (M : Meth κ y bytes mx rt) (hd : decode bytes pc = .ok (.aastore, 1)) {a b : Addr} {Cl D : String} {mu : Bool} {fs : List (String × String × String × Value)} {vs : List Value} {i j : Nat} {z : Int32} (hi : l[i]? = some (a, true, .inr (.object Cl, vs))) (hj : Ix z j) (hv : j < vs.length) (hm : (b, mu, .inl (D, fs)) ∈ l) (wc : D = Cl ∨ Wd κ (.castable D Cl)) (hl' : l.set i (a, true, .inr (.object Cl, vs.set j (.ref b))) = l')
    (K : WP κ y (pc + 1) L S F l' k n) : WP κ y pc L (.ref b :: .int z :: .ref a :: S) F l k n := fun T G => by
  obtain ⟨meth, c, X, hb, -⟩ := G.stand C M (d := 0) (w := 0) G.room
  subst hb
  have H := G.hp.1 _ (List.mem_of_getElem? hi)
  have hS := G.hp.2.2 _ (List.mem_of_getElem? hi) rfl
  obtain ⟨cl, A, ev, ov⟩ := H
  obtain ⟨q1, -⟩ := ix_in ev hj (List.getElem?_eq_getElem hv)
  obtain ⟨T', h', X', e', W, st⟩ := stR X C.exec (Z := kZ κ) G.warm rfl A (j := z) (v := .ref b) q1 rfl (Sto.of A (ov Cl rfl) (G.hp.ins hm wc)) (g := mkF (mid κ y) pc L.toArray (.ref b :: .int z :: .ref a :: S)) rfl rfl hd
  have B := G.warmed C X'
  subst e'
  rw [hj.2] at W
  obtain ⟨r1, r2⟩ := (G.hp.warm B).wr B.1 hi W (Holds.store ⟨cl, A, ev, ov⟩ W)
  have r1 : Hp κ T'.vm T'.heap l' := hl' ▸ r1
  exact G.go st (K _ (G.next X' (one_loc hS.1) G.cells G.slots rfl r2 r1))
end R
end Jvm.WK
namespace Jvm.WK
open Sem ClassFile Op Lib Jvm.Stand Jvm.Free Jvm.LawKit Jvm.RoadKit
/-! ## 9. the law's start -/
/-- what a law's run leaves -/
def Left (strict : Bool) (R : Room) (U : State) (o : Outcome) (U' : State) : Prop :=
  o = .returned (some (.int 1)) ∧ U.Since U'.vm U'.heap.size ∧ (strict = true → U.WarmedH U'.vm) ∧ U.sameButNew { U' with vm := U.vm } [] R.cells R.slots
theorem start_wp {l : Launch} {x : MethodName} {ws : List Jvm.Cond} {R : Room} {bytes : ByteArray} {mx : Nat} {EL : List (String × Nat)} {strict : Bool} (hx : plainFor x = true) (P : Array Value → State → Prop)
    (hEW : ∀ a s, P a s → EW s a EL) (hCH : ∀ a s, P a s → CHv s EL s.vm s.heap)
    (H : ∀ κ : Cx, Ok κ → kR κ = R → kE κ = EL → kS κ = strict → kx κ = mx → (∀ d ∈ (Jvm.Cond.code x bytes mx (some .boolean) :: ws), Wd κ d) → P (ka κ) (kZ κ) → ∃ L : List Slot, lay (ka κ).toList mx = L ∧ L.length = mx ∧ WP κ x 0 L [] [] [] 0 0) :
    MetFree l x (head1 (Jvm.Cond.code x bytes mx (some .boolean) :: ws) R) P (fun _ _ _ _ _ => True) (fun _ U o U' => Left strict R U o U') := by
  refine MetFree.of_bodySF hx hisR ?_
  intro p e s m args below meth c s₁ Bd hml0 hP hK
  let κ : Cx := (p, l, e, s, args, below, m, EL, strict, R, mx)
  have hw : ∀ d ∈ (Jvm.Cond.code x bytes mx (some .boolean) :: ws), Wd κ d := fun d hd => atoms_spec (ws := Jvm.Cond.code x bytes mx (some .boolean) :: ws) Bd.pre d hd
  have M : Meth κ x bytes mx (some .boolean) := ⟨hx, hw _ (List.mem_cons_self ..)⟩
  have hmid : mid κ x = m := by
    have q : s.methodNamed? x = some m := Bd.named
    show (s.methodNamed? x).getD ⟨0, 0⟩ = m
    rw [q]; rfl
  have hst : s.status = .running := by
    have q := Bd.here.running
    rw [Bd.state] at q; exact q
  have hcs : s.curStatus? = some .runnable := by
    have q := Bd.here.runnable
    rw [Bd.state, State.curStatus?_setFrames] at q; exact q
  have hal : s.alone = true := by
    have q := Bd.here.alone
    rw [Bd.state, State.alone_setFrames] at q; exact q
  have C : Ok κ := ⟨Bd.admits, Bd.cas, Bd.clock, Bd.exec, Bd.frames, Bd.room, Bd.hears, hst, hcs, hal, hEW _ _ hP, x, bytes, M, hmid⟩
  obtain ⟨L, hL, hLm, W⟩ := H κ C rfl rfl rfl rfl hw hP
  have hcur := State.cur_lt_of_frames Bd.frames
  obtain ⟨t, ht, -⟩ := State.frames_cons Bd.frames
  have ef : entryFrame m args mx = mkF (mid κ x) 0 L.toArray [] := by
    rw [hmid]
    show ({ method := m, pc := 0, locals := argsToLocals args mx, stack := [], locked := none } : JFrame) = _
    have q : argsToLocals args mx = L.toArray := args_lay (vs := args.toList) hL
    rw [q]
  have hf1 : s₁.frames = .java (entryFrame m args mx) :: below := by rw [Bd.state]; exact State.frames_setFrames _ hcur
  have G : Good κ (s₁.setTop (entryFrame m args mx)) x 0 L [] [] [] 0 0 := by
    rw [State.setTop_self (State.topJava?_of_frames hf1)]
    refine ⟨by rw [hf1, ef]; rfl, ?_, ?_, fun _ => ?_, ?_, ⟨fun x hx => (nomatch hx), List.Pairwise.nil, fun x hx => (nomatch hx)⟩, Nat.zero_le _, Nat.zero_le _, fun f hf => (nomatch hf), ⟨?_, ?_⟩, ⟨bytes, _, by rw [hLm]; exact M⟩⟩
    · rw [Bd.state]; exact (State.sameButNew.refl s ht).setFrames _ hcur
    · rw [Bd.state]; exact State.WarmedH.since (State.WarmedH.refl s) _
    · rw [Bd.state]; exact State.WarmedH.refl s
    · rw [Bd.state]; exact hCH _ _ hP
    · show 0 + 1 ≤ R.frames + 1; omega
    · show wt [] + (L.length + 11) ≤ R.locals + (mx + 11)
      rw [wt_nil, hLm]; omega
  obtain ⟨t', st, f1, f2, f3, f4, f5⟩ := W _ G
  exact ⟨t', _, st, f1, f2, rfl, f3, f4, f5⟩
end Jvm.WK
namespace Jvm.WK
open Sem ClassFile Op Lib Jvm.Stand Jvm.Free Jvm.LawKit Jvm.RoadKit
/-! ## 10. small things -/
abbrev i2c (x : Int32) : Int32 := x.toUInt32.toUInt16.toUInt32.toInt32
/-- a truth as Java holds it -/
def bi (c : Prop) [Decidable c] : Int32 := if c then 1 else 0
theorem bi_t {c : Prop} [Decidable c] (h : c) : bi c = 1 := if_pos h
theorem bi_f {c : Prop} [Decidable c] (h : ¬ c) : bi c = 0 := if_neg h
theorem bi_iff {c d : Prop} [Decidable c] [Decidable d] (h : c ↔ d) : bi c = bi d := by
  by_cases hc : c
  · rw [bi_t hc, bi_t (h.mp hc)]
  · rw [bi_f hc, bi_f fun q => hc (h.mpr q)]
theorem bi_cases (c : Prop) [Decidable c] : bi c = 0 ∨ bi c = 1 := by
  by_cases hc : c
  · exact Or.inr (bi_t hc)
  · exact Or.inl (bi_f hc)
theorem toInt_toInt32 {i : Nat} (h : i < 2 ^ 31) : (Nat.toInt32 i).toInt = i := len_toInt h
theorem Ix_nat {i : Nat} (h : i < 2 ^ 31) : Ix (Nat.toInt32 i) i := by
  have q := toInt_toInt32 h
  refine ⟨?_, ?_⟩
  · rw [Int32.lt_iff_toInt_lt, q]; simp only [Int32.reduceToInt]; omega
  · show (Nat.toInt32 i).toInt.toNat = i
    rw [q]; simp
section R
variable {κ : Cx} {y : MethodName} {pc pc' : Nat} {L L' : List Slot} {S S' : List Value} {F : List Frame} {l l' : List Chunk} {k n : Nat}
theorem Rm.law {R : Room} {mx d w : Nat} (hr : kR κ = R) (hx : kx κ = mx) (h1 : 1 + d ≤ R.frames + 1) (h2 : 11 + L.length + cats S + w ≤ R.locals + (mx + 11)) : Rm κ [fr κ y pc L S] d w := by
  refine ⟨by rw [hr]; exact h1, ?_⟩
  rw [wt_cons, fr_weight, wt_nil, hr, hx]; omega
theorem rc {R : Room} {a : Nat} (hr : kR κ = R) (h : a ≤ R.cells) : a ≤ (kR κ).cells := by rw [hr]; exact h
theorem rs {R : Room} {a : Nat} (hr : kR κ = R) (h : a ≤ R.slots) : a ≤ (kR κ).slots := by rw [hr]; exact h
theorem wp_top {v v' : Value} (h : v = v') (K : WP κ y pc L (v :: S) F l k n) : WP κ y pc L (v' :: S) F l k n := h ▸ K
end R
end Jvm.WK
namespace Jvm.WK
open Sem ClassFile Op Lib Jvm.Stand Jvm.Free Jvm.LawKit Jvm.RoadKit
/-! ## 11. numbers and Latin-1 signs -/
theorem toInt_ofNat32 {j : Nat} (h : j < 2 ^ 31) : (Int32.ofNat j).toInt = j := len_toInt h
theorem lt32 {a b : Nat} (ha : a < 2 ^ 31) (hb : b < 2 ^ 31) : Int32.ofNat a < Int32.ofNat b ↔ a < b := by
  rw [Int32.lt_iff_toInt_lt, toInt_ofNat32 ha, toInt_ofNat32 hb]; omega
theorem eq32 {a b : Nat} (ha : a < 2 ^ 31) (hb : b < 2 ^ 31) : Int32.ofNat a = Int32.ofNat b ↔ a = b := by
  constructor
  · intro h
    have q := congrArg Int32.toInt h
    rw [toInt_ofNat32 ha, toInt_ofNat32 hb] at q
    omega
  · intro h; rw [h]
theorem nn32 {a : Nat} (ha : a < 2 ^ 31) : ¬ Int32.ofNat a < 0 := fun h => by
  have q := (lt32 (b := 0) ha (by decide)).mp h
  omega
theorem add32n (a b : Nat) : Int32.ofNat a + Int32.ofNat b = Int32.ofNat (a + b) := (Int32.ofNat_add a b).symm
theorem succ32 (a : Nat) : Int32.ofNat a + 1 = Int32.ofNat (a + 1) := (Int32.ofNat_add a 1).symm
theorem sub32n {a b : Nat} (h : b ≤ a) : Int32.ofNat a - Int32.ofNat b = Int32.ofNat (a - b) := by
  have e : Int32.ofNat a = Int32.ofNat (a - b) + Int32.ofNat b := by rw [add32n]; congr 1; omega
  rw [e, Int32.add_sub_cancel]
theorem Ix32 {i : Nat} (h : i < 2 ^ 31) : Ix (Int32.ofNat i) i := Ix_nat h
/-- a sign as Java's char -/
def ch8 (u : UInt8) : Int32 := u.toUInt32.toInt32
def chv (u : UInt8) : Value := .int (ch8 u)
theorem ch8_all {P : UInt8 → Prop} (h : ∀ i : Fin 256, P (UInt8.ofNat i.val)) (u : UInt8) : P u := by
  have q := h ⟨u.toNat, u.toNat_lt⟩
  simpa using q
theorem ch8_le (u : UInt8) : ¬ (255 : Int32) < ch8 u := ch8_all (P := fun u => ¬ (255 : Int32) < ch8 u) (by decide +kernel) u
theorem ch8_byte (u : UInt8) : (ch8 u).toInt8.toInt32 = u.toInt8.toInt32 := ch8_all (P := fun u => (ch8 u).toInt8.toInt32 = u.toInt8.toInt32) (by decide +kernel) u
theorem ch8_byte2 (u : UInt8) : ((ch8 u).toInt8.toInt32).toInt8.toInt32 = u.toInt8.toInt32 := ch8_all (P := fun u => ((ch8 u).toInt8.toInt32).toInt8.toInt32 = u.toInt8.toInt32) (by decide +kernel) u
theorem ch8_mask (u : UInt8) : u.toInt8.toInt32 &&& 255 = ch8 u := ch8_all (P := fun u => u.toInt8.toInt32 &&& 255 = ch8 u) (by decide +kernel) u
theorem ch8_i2c (u : UInt8) : i2c (ch8 u) = ch8 u := ch8_all (P := fun u => i2c (ch8 u) = ch8 u) (by decide +kernel) u
theorem ch8_narrow (u : UInt8) : narrow .char (.int (ch8 u)) = .int (ch8 u) := ch8_all (P := fun u => narrow .char (.int (ch8 u)) = .int (ch8 u)) (by decide +kernel) u
theorem ch8_nat (u : UInt8) : ch8 u = Int32.ofNat u.toNat := ch8_all (P := fun u => ch8 u = Int32.ofNat u.toNat) (by decide +kernel) u
theorem ch8_inj {u v : UInt8} : ch8 u = ch8 v ↔ u = v := by
  rw [ch8_nat, ch8_nat, eq32 (by have := u.toNat_lt; omega) (by have := v.toNat_lt; omega)]
  exact UInt8.toNat_inj
theorem byv_inj {u v : UInt8} : u.toInt8.toInt32 = v.toInt8.toInt32 ↔ u = v := by
  constructor
  · intro h
    rw [← ch8_inj, ← ch8_mask, ← ch8_mask, h]
  · intro h; rw [h]
/-- the low byte of an int, as a sign -/
def lo8 (x : Int32) : UInt8 := x.toUInt32.toUInt8
theorem lo8_mask (x : Int32) : x &&& 255 = ch8 (lo8 x) := by
  apply Int32.toBitVec_inj.mp
  apply BitVec.eq_of_toNat_eq
  have h1 : (x &&& 255).toBitVec.toNat = x.toBitVec.toNat &&& 255 := by
    rw [Int32.toBitVec_and, BitVec.toNat_and]; rfl
  have h2 : (ch8 (lo8 x)).toBitVec.toNat = x.toBitVec.toNat % 256 := by
    show (lo8 x).toUInt32.toBitVec.toNat = _
    simp [lo8]
  rw [h1, h2]
  exact Nat.and_two_pow_sub_one_eq_mod _ 8
end Jvm.WK
namespace Jvm.WK
open Sem ClassFile Op Lib Jvm.Stand Jvm.Free Jvm.LawKit Jvm.RoadKit
/-! ## 12. Strings: what is known of the JDK's statics; lists half filled -/
def StrS (κ : Cx) : Prop := (∃ cs : Int32, ¬ cs = 0 ∧ Sta (kZ κ) (kZ κ).heap "java/lang/String" "COMPACT_STRINGS" "Z" (.int cs)) ∧
  ∃ v : Value, v.isRef = true ∧ Sta (kZ κ) (kZ κ).heap "jdk/internal/util/Preconditions" "SIOOBE_FORMATTER" "Ljava/util/function/BiFunction;" v
theorem shr0 (x : Int32) : x >>> ((0 : Int32) &&& 31) = x := by
  apply Int32.toBitVec_inj.mp
  simp
/-- an array of n places, the first i filled -/
def part (f : UInt8 → Value) (d : Value) (us : List UInt8) (i : Nat) : List Value := (us.take i).map f ++ List.replicate (us.length - i) d
theorem part_0 (f : UInt8 → Value) (d : Value) (us : List UInt8) : part f d us 0 = List.replicate us.length d := by simp [part]
theorem part_n (f : UInt8 → Value) (d : Value) (us : List UInt8) : part f d us us.length = us.map f := by simp [part]
theorem part_len (f : UInt8 → Value) (d : Value) (us : List UInt8) {i : Nat} (h : i ≤ us.length) : (part f d us i).length = us.length := by simp [part]; omega
theorem part_set (f : UInt8 → Value) (d : Value) (us : List UInt8) {i : Nat} (h : i < us.length) : (part f d us i).set i (f (us.getD i 0)) = part f d us (i + 1) := by
  have e : us.length - i = (us.length - (i + 1)) + 1 := by omega
  unfold part
  rw [e, List.replicate_succ, List.set_append_right _ _ (by simp; omega)]
  have e2 : i - ((us.take i).map f).length = 0 := by simp; omega
  rw [e2, List.set_cons_zero, List.take_succ_eq_append_getElem h, List.map_append, List.append_assoc]
  simp [h]
theorem getD_map {f : UInt8 → Value} {us : List UInt8} {i : Nat} (h : i < us.length) : (us.map f)[i]? = some (f (us.getD i 0)) := by simp [h]
/-- what is known of a String: its object and its bytes stand in the list -/
def Str (l : List Chunk) (a : Addr) (us : List UInt8) : Prop := ∃ b, strO a b 0 ∈ l ∧ strB b us ∈ l
theorem Str.mono {l l' : List Chunk} {a : Addr} {us : List UInt8} (h : Str l a us) (hl : ∀ x ∈ l, x ∈ l') : Str l' a us := by obtain ⟨b, h1, h2⟩ := h; exact ⟨b, hl _ h1, hl _ h2⟩
theorem Str.cons {l : List Chunk} {x : Chunk} {a : Addr} {us : List UInt8} (h : Str l a us) : Str (x :: l) a us := h.mono fun _ q => List.mem_cons_of_mem _ q
end Jvm.WK
namespace Jvm.WK
open Sem ClassFile Op Lib Jvm.Stand Jvm.Free Jvm.LawKit Jvm.RoadKit
/-! ## 13. what stood before the law -/
section R
variable {κ : Cx} {y : MethodName} {pc pc' : Nat} {L L' : List Slot} {S S' : List Value} {F : List Frame} {l l' : List Chunk} {k n : Nat}
/-- an object that stood at the start: it is still as it was -/
theorem wp_old {a : Addr} {c : String × List (String × String × String × Value) ⊕ FieldType × List Value} (hx : Holds κ (kZ κ).heap (a, false, c)) (K : WP κ y pc L S F ((a, false, c) :: l) k n) : WP κ y pc L S F l k n := fun T G =>
  K T ⟨G.1, G.2.1, G.2.2.1, G.2.2.2.1, G.2.2.2.2.1, G.hp.add (hx.ext G.old) (fun z hz hm => by
    rcases hm with hm | hm
    · cases hm
    · exact Nat.ne_of_lt (Nat.lt_of_lt_of_le hx.lt (G.hp.2.2 z hz hm).1)) (fun q => by cases q), G.2.2.2.2.2.2⟩
/-- a cell that may be written was made by the law: it is none that stood at the start -/
theorem wp_neold {i : Nat} {x : Chunk} (hi : l[i]? = some x) (hm : x.2.1 = true) (K : (∀ a, a < (kZ κ).heap.size → x.1 ≠ a) → WP κ y pc L S F l k n) : WP κ y pc L S F l k n := fun T G =>
  K (fun a ha => Nat.ne_of_gt (Nat.lt_of_lt_of_le ha (G.hp.2.2 x (List.mem_of_getElem? hi) hm).1)) T G
end R
theorem and3 (f : Int32) : f &&& 3 = 0 ∨ f &&& 3 = 1 ∨ f &&& 3 = 2 ∨ f &&& 3 = 3 := by
  have h : (f &&& 3).toBitVec.toNat = f.toBitVec.toNat % 4 := by
    rw [Int32.toBitVec_and, BitVec.toNat_and]
    exact Nat.and_two_pow_sub_one_eq_mod _ 2
  have e : ∀ j : Nat, j < 4 → (f &&& 3).toBitVec.toNat = j → f &&& 3 = Int32.ofNat j := fun j hj q => by
    apply Int32.toBitVec_inj.mp
    apply BitVec.eq_of_toNat_eq
    rw [q]
    have : (Int32.ofNat j).toBitVec.toNat = j % 2 ^ 32 := by
      show (BitVec.ofInt 32 (j : Int)).toNat = _
      simp
    rw [this]; omega
  have q : f.toBitVec.toNat % 4 < 4 := Nat.mod_lt _ (by decide)
  generalize f.toBitVec.toNat % 4 = j at h q
  have := e j q h
  match j, q with
  | 0, _ => exact Or.inl this
  | 1, _ => exact Or.inr (Or.inl this)
  | 2, _ => exact Or.inr (Or.inr (Or.inl this))
  | 3, _ => exact Or.inr (Or.inr (Or.inr this))
/-! two lists of bytes, compared from a place on -/
theorem drop_getD {us : List UInt8} {i : Nat} (h : i < us.length) : us.drop i = us.getD i 0 :: us.drop (i + 1) := by
  rw [List.drop_eq_getElem_cons h]; simp [h]
theorem drop_eq_iff {us vs : List UInt8} {i : Nat} (h : i < us.length) (h' : i < vs.length) : us.drop i = vs.drop i ↔ us.getD i 0 = vs.getD i 0 ∧ us.drop (i + 1) = vs.drop (i + 1) := by
  rw [drop_getD h, drop_getD h', List.cons.injEq]
end Jvm.WK
namespace Jvm.WK
open Sem ClassFile Op Lib Jvm.Stand Jvm.Free Jvm.LawKit Jvm.RoadKit
/-! ## 14. System.arraycopy -/
section R
variable {κ : Cx} {T : State} {y : MethodName} {pc pc' : Nat} {L L' : List Slot} {S S' : List Value} {F : List Frame} {l l' : List Chunk} {k n : Nat} {bytes : ByteArray} {mx : Nat} {rt : Option FieldType} {vm vm1 : Vm} {h h' : Heap} {a : Addr}
theorem Holds.keep (W : Keep h h' [a]) : ∀ {x : Chunk}, Holds κ h x → x.1 ≠ a → Holds κ h' x
  | (b, _, .inl (C, fs)), H, hne => ⟨H.1.keep W, fun f hf => (H.2.1 f hf).keep W (fun q => hne (List.mem_singleton.mp q)), H.2.2⟩
  | (b, _, .inr (ty, vs)), ⟨c, A, e, o⟩, hne => ⟨c, ⟨W.2.1 b c A.1 (fun q => hne (List.mem_singleton.mp q)), A.2⟩, e, o⟩
theorem Hp.kept (H : Hp κ vm h l) (hC : CHv (kZ κ) (kE κ) vm h) {i : Nat} {c c' : String × List (String × String × String × Value) ⊕ FieldType × List Value} (hi : l[i]? = some (a, true, c)) (W : Keep h h' [a]) (hnew : Holds κ h' (a, true, c')) :
    Hp κ vm h' (l.set i (a, true, c')) ∧ CHv (kZ κ) (kE κ) vm h' := by
  have hS := (H.2.2 _ (List.mem_of_getElem? hi) rfl)
  have hW := hC.keepStep W (fun x hx => by cases List.mem_singleton.mp hx; exact hS.2)
  refine ⟨⟨fun z hz => ?_, ?_, fun z hz hm => ?_⟩, hW.1⟩
  · obtain ⟨j, hj⟩ := List.mem_iff_getElem?.mp hz
    by_cases e : i = j
    · subst e
      have hlt := (List.getElem?_eq_some_iff.mp hi).1
      rw [List.getElem?_set_self hlt] at hj
      cases hj; exact hnew
    · rw [getElem?_set_ne' e] at hj
      exact (H.1 z (List.mem_of_getElem? hj)).keep W (Ne.symm (H.apart hi hj e (Or.inl rfl)))
  · have e : (l.set i (a, true, c')).map key = l.map key := by
      apply List.ext_getElem?
      intro j
      simp only [List.getElem?_map]
      by_cases e : i = j
      · subst e
        rw [List.getElem?_set_self (List.getElem?_eq_some_iff.mp hi).1, hi]; rfl
      · rw [getElem?_set_ne' e]
    rw [e]; exact H.2.1
  · obtain ⟨j, hj⟩ := List.mem_iff_getElem?.mp hz
    by_cases e : i = j
    · subst e
      rw [List.getElem?_set_self (List.getElem?_eq_some_iff.mp hi).1] at hj
      cases hj
      exact ⟨hS.1, fun B => hS.2 (hW.2 _ B)⟩
    · rw [getElem?_set_ne' e] at hj
      have q := H.2.2 z (List.mem_of_getElem? hj) hm
      exact ⟨q.1, fun B => q.2 (hW.2 _ B)⟩
theorem clamp32 {i : Nat} (h : i < 2 ^ 31) : (Int32.ofNat i).toNatClampNeg = i := (Ix32 h).2
theorem arv_of {c : Cell} {ty : FieldType} {vs : List Value} {d : Value} (A : Arr (kZ κ) h a c ty) (ev : c.slots.toList = vs) (hl : vs.length < 2 ^ 31) (hf : ∀ v ∈ vs, fits ty v = true) : Arv (kZ κ) h a c.cls ty (Int32.ofNat vs.length) vs d := by
  have e : c.slots.size = vs.length := by rw [← ev]; simp
  refine ⟨c, A, rfl, by rw [clamp32 hl, e], nn32 hl, fun i hi => ?_, fun i hi => ?_⟩
  · rw [← Array.getElem?_toList, ev, List.getElem?_eq_getElem (by omega), List.getD_eq_getElem?_getD, List.getElem?_eq_getElem (by omega)]; rfl
  · rw [List.getD_eq_getElem?_getD, List.getElem?_eq_getElem (by omega)]; exact hf _ (List.getElem_mem ..)
theorem range_get {vs : List Value} {d : Value} {p m : Nat} (h : p + m ≤ vs.length) : ((List.range m).map fun i => vs.getD (p + i) d) = (vs.drop p).take m := by
  apply List.ext_getElem?
  intro i
  by_cases hi : i < m
  · rw [List.getElem?_map, List.getElem?_range hi, List.getElem?_take, if_pos hi, List.getElem?_drop, Option.map_some, List.getD_eq_getElem?_getD, List.getElem?_eq_getElem (by omega)]; rfl
  · rw [List.getElem?_eq_none (by simp; omega), List.getElem?_eq_none (by simp; omega)]
/-- a copy of plain components -/
theorem wp_copy (C : Ok κ) (M : Meth κ y bytes mx rt) {ix : Nat} (hd : decode bytes pc = .ok (.invokestatic ix, 3)) (w1 : Wd κ (.methodLink y.cls ix acN)) (w2 : Wd κ (.native acN)) (w3 : Wd κ (.static acN)) (w4 : Wd κ (.initialized "java/lang/System")) {b : Addr} {mu : Bool} {ty : FieldType} {vs ds : List Value} {i p q m : Nat}
    (hty : refKind ty = false) (hm : (a, mu, .inr (ty, vs)) ∈ l) (hi : l[i]? = some (b, true, .inr (ty, ds))) (hv : vs.length < 2 ^ 31) (hdl : ds.length < 2 ^ 31) (fv : ∀ v ∈ vs, fits ty v = true) (fd : ∀ v ∈ ds, fits ty v = true) (h1 : p + m ≤ vs.length) (h2 : q + m ≤ ds.length)
    (hR : Rm κ (fr κ y pc L S :: F) 1 40) (hl' : l.set i (b, true, .inr (ty, ds.take q ++ (vs.drop p).take m ++ ds.drop (q + m))) = l')
    (K : WP κ y (pc + 3) L S F l' k n) : WP κ y pc L (.int (Int32.ofNat m) :: .int (Int32.ofNat q) :: .ref b :: .int (Int32.ofNat p) :: .ref a :: S) F l k n := fun T G => by
  obtain ⟨meth, c, X, hb, hml, -⟩ := G.stand C M (d := 1) (w := cats S + 40) (G.room2 hR)
  subst hb
  obtain ⟨cs, As, es, -⟩ := G.hp.1 _ hm
  obtain ⟨cd, Ad, ed, od⟩ := G.hp.1 _ (List.mem_of_getElem? hi)
  have hS := G.hp.2.2 _ (List.mem_of_getElem? hi) rfl
  have cm : (Int32.ofNat m).toNatClampNeg = m := clamp32 (by omega)
  have cp : (Int32.ofNat p).toNatClampNeg = p := clamp32 (by omega)
  have cq : (Int32.ofNat q).toNatClampNeg = q := clamp32 (by omega)
  have nf : nativeFrameWords "java/lang/System" "arraycopy" 5 + 11 ≤ 40 := by decide
  obtain ⟨T', h', Lo, X', e', N, Kp, A', st⟩ := cpA X C.exec G.warm (G.own M) w1 w2 w3 w4 rfl (sp := Int32.ofNat p) (dp := Int32.ofNat q) (nn := Int32.ofNat m) (arv_of (d := .null) As es hv fv) (arv_of (d := .null) Ad ed hdl fd) (Or.inl ⟨rfl, hty⟩) (nn32 (by omega)) (nn32 (by omega)) (nn32 (by omega))
    (by rw [cp, cm, clamp32 hv]; exact h1) (by rw [cq, cm, clamp32 hdl]; exact h2) rfl (by rw [cq, cm]; exact h2) (n0 := (kZ κ).heap.size) (fun x hx => nomatch hx) hS.1
    (g := mkF (mid κ y) pc L.toArray (.int (Int32.ofNat m) :: .int (Int32.ofNat q) :: .ref b :: .int (Int32.ofNat p) :: .ref a :: S)) rfl (by show L.toArray.size = c.maxLocals; rw [hml]; simp) rfl hd (Nat.le_refl 1) (W := cats S) (by show 2 * 0 + cats S ≤ _; omega) (by show _ ≤ cats S + 40; omega)
  have B := G.warmed C X'
  subst e'
  rw [cm, cq, cp, range_get h1] at A'
  have ll : (Int32.ofNat ds.length).toNatClampNeg = (ds.take q ++ (vs.drop p).take m ++ ds.drop (q + m)).length := by rw [clamp32 hdl]; simp; omega
  obtain ⟨c2, A2, e2⟩ := arv_list A' ll
  have hnew : Holds κ T'.heap (b, true, .inr (ty, ds.take q ++ (vs.drop p).take m ++ ds.drop (q + m))) := ⟨c2, A2, e2, fun D hD => by subst hD; cases hty⟩
  obtain ⟨r1, r2⟩ := (G.hp.warm B).kept B.1 hi Kp hnew
  have r1 : Hp κ T'.vm T'.heap l' := hl' ▸ r1
  exact G.go st (K _ (G.next X' N G.cells G.slots rfl r2 r1))
theorem byv_all (us : List UInt8) : ∀ v ∈ us.map byv, fits .byte v = true := fun v hv => by
  obtain ⟨u, -, rfl⟩ := List.mem_map.mp hv
  exact byv_fits u
end R
end Jvm.WK
namespace Jvm.WK
open Sem ClassFile Op Lib Jvm.Stand Jvm.Free Jvm.LawKit Jvm.RoadKit
section R
variable {κ : Cx} {y : MethodName} {pc pc' : Nat} {L L' : List Slot} {S S' : List Value} {F : List Frame} {l l' : List Chunk} {k n : Nat}
/-- what is frozen may be told twice -/
theorem wp_dup {x : Chunk} (hx : x ∈ l) (hm : x.2.1 = false) (K : WP κ y pc L S F (x :: l) k n) : WP κ y pc L S F l k n := wp_weaken (fun vm h H => H.add (H.1 x hx) (fun z hz q => by
    rcases q with q | q
    · rw [hm] at q; cases q
    · obtain ⟨i, hi⟩ := List.mem_iff_getElem?.mp hx
      obtain ⟨j, hj⟩ := List.mem_iff_getElem?.mp hz
      refine H.apart hi hj (fun e => ?_) (Or.inr q)
      subst e
      cases hi.symm.trans hj
      rw [hm] at q; cases q) (fun q => by rw [hm] at q; cases q)) K
end R
/-- the first place from i on (d places looked at) at which c stands, or -1 -/
def ixc (us : List UInt8) (c : UInt8) : Nat → Nat → Int32
  | 0, _ => -1
  | d + 1, i => if us.getD i 0 = c then Int32.ofNat i else ixc us c d (i + 1)
theorem ixc_spec (us : List UInt8) (c : UInt8) : ∀ (d i : Nat), (ixc us c d i = -1 ∧ ∀ j, i ≤ j → j < i + d → us.getD j 0 ≠ c) ∨ ∃ j, i ≤ j ∧ j < i + d ∧ us.getD j 0 = c ∧ (∀ t, i ≤ t → t < j → us.getD t 0 ≠ c) ∧ ixc us c d i = Int32.ofNat j
  | 0, i => Or.inl ⟨rfl, fun j h1 h2 => absurd h2 (by omega)⟩
  | d + 1, i => by
    unfold ixc
    by_cases h : us.getD i 0 = c
    · rw [if_pos h]; exact Or.inr ⟨i, Nat.le_refl _, by omega, h, fun t h1 h2 => absurd h2 (by omega), rfl⟩
    · rw [if_neg h]
      rcases ixc_spec us c d (i + 1) with ⟨e, H⟩ | ⟨j, h1, h2, h3, h4, e⟩
      · exact Or.inl ⟨e, fun j h1 h2 => by
          by_cases q : j = i
          · rw [q]; exact h
          · exact H j (by omega) (by omega)⟩
      · exact Or.inr ⟨j, by omega, by omega, h3, fun t q1 q2 => by
          by_cases q : t = i
          · rw [q]; exact h
          · exact h4 t (by omega) q2, e⟩
theorem byte0 (m : Nat) : List.replicate m (Value.int 0) = (List.replicate m (0 : UInt8)).map byv := by
  rw [List.map_replicate]; rfl
theorem min32_1 {a b : Nat} (ha : a < 2 ^ 31) (hb : b < 2 ^ 31) (h : a ≤ b) : ¬ Int32.ofNat b < Int32.ofNat a := fun q => by have := (lt32 hb ha).mp q; omega
theorem copy_all {us : List UInt8} {i m : Nat} (h : i + m ≤ us.length) : ((List.replicate m (0 : UInt8)).map byv).take 0 ++ ((us.map byv).drop i).take m ++ ((List.replicate m (0 : UInt8)).map byv).drop (0 + m) = ((us.drop i).take m).map byv := by
  rw [List.take_zero, List.nil_append, show ((List.replicate m (0 : UInt8)).map byv).drop (0 + m) = [] from List.drop_eq_nil_of_le (by simp), List.append_nil, List.map_take, List.map_drop]
end Jvm.WK
namespace Jvm.WK
/-! ## 15. masks and remainders of ints -/
theorem mask32 (x : Int32) (m : Nat) (hm : m < 31) : ∃ j : Nat, j < 2 ^ m ∧ x &&& Int32.ofNat (2 ^ m - 1) = Int32.ofNat j := by
  have hp : 2 ^ m ≤ 2 ^ 30 := Nat.pow_le_pow_right (by decide) (by omega)
  have hp0 : 0 < 2 ^ m := Nat.pow_pos (by decide)
  have nat : ∀ j : Nat, j < 2 ^ 31 → (Int32.ofNat j).toBitVec.toNat = j := fun j hj => by
    have : (Int32.ofNat j).toBitVec.toNat = j % 2 ^ 32 := by
      show (BitVec.ofInt 32 (j : Int)).toNat = _
      simp
    rw [this]; omega
  refine ⟨x.toBitVec.toNat % 2 ^ m, Nat.mod_lt _ hp0, ?_⟩
  apply Int32.toBitVec_inj.mp
  apply BitVec.eq_of_toNat_eq
  rw [Int32.toBitVec_and, BitVec.toNat_and, nat _ (by omega), Nat.and_two_pow_sub_one_eq_mod, nat _ (by have := Nat.mod_lt x.toBitVec.toNat hp0; omega)]
theorem mask31 (x : Int32) : ∃ j : Nat, j < 2 ^ 31 ∧ x &&& 2147483647 = Int32.ofNat j := by
  have nat : ∀ j : Nat, j < 2 ^ 31 → (Int32.ofNat j).toBitVec.toNat = j := fun j hj => by
    have : (Int32.ofNat j).toBitVec.toNat = j % 2 ^ 32 := by
      show (BitVec.ofInt 32 (j : Int)).toNat = _
      simp
    rw [this]; omega
  have hm := Nat.mod_lt x.toBitVec.toNat (show 0 < 2 ^ 31 by decide)
  refine ⟨x.toBitVec.toNat % 2 ^ 31, hm, ?_⟩
  apply Int32.toBitVec_inj.mp
  apply BitVec.eq_of_toNat_eq
  rw [Int32.toBitVec_and, BitVec.toNat_and, nat _ hm]
  exact Nat.and_two_pow_sub_one_eq_mod _ 31
theorem rem32 {j m : Nat} (hj : j < 2 ^ 31) (hm : 0 < m) (hm' : m < 2 ^ 31) : Int32.ofNat j % Int32.ofNat m = Int32.ofNat (j % m) := by
  have hl := Nat.mod_lt j hm
  apply Int32.toInt_inj.mp
  rw [Int32.toInt_mod, toInt_ofNat32 hj, toInt_ofNat32 hm', toInt_ofNat32 (by omega), Int.tmod_eq_emod_of_nonneg (by omega)]
  omega
theorem and3p (s : Int32) : 1 + (s &&& 3) = 1 ∨ 1 + (s &&& 3) = 2 ∨ 1 + (s &&& 3) = 3 ∨ 1 + (s &&& 3) = 4 := by
  rcases and3 s with h | h | h | h <;> rw [h]
  · exact Or.inl rfl
  · exact Or.inr (Or.inl rfl)
  · exact Or.inr (Or.inr (Or.inl rfl))
  · exact Or.inr (Or.inr (Or.inr rfl))
theorem rem_31 (x : Int32) {m : Nat} (hm : 0 < m) (hm' : m < 2 ^ 31) : ∃ j, j < m ∧ (x &&& 2147483647) % Int32.ofNat m = Int32.ofNat j := by
  obtain ⟨j, hj, e⟩ := mask31 x
  exact ⟨j % m, Nat.mod_lt _ hm, by rw [e, rem32 hj hm hm']⟩
end Jvm.WK
namespace Jvm.WK
open Sem ClassFile Op Lib Jvm.Stand Jvm.Free Jvm.LawKit Jvm.RoadKit
/-! ## 16. chars of 16 bits; Strings of any chars -/
def c16 (c : UInt16) : Int32 := c.toUInt32.toInt32
def cv (c : UInt16) : Value := .int (c16 c)
theorem c16_nat (c : UInt16) : c16 c = Int32.ofNat c.toNat := by
  apply Int32.toBitVec_inj.mp
  apply BitVec.eq_of_toNat_eq
  have h := c.toNat_lt
  have : (Int32.ofNat c.toNat).toBitVec.toNat = c.toNat % 2 ^ 32 := by
    show (BitVec.ofInt 32 (c.toNat : Int)).toNat = _
    simp
  rw [this]
  show c.toUInt32.toBitVec.toNat = _
  simp
theorem c16_lt (c : UInt16) : c.toNat < 2 ^ 31 := by have h := c.toNat_lt; omega
theorem c16_inj {c d : UInt16} : c16 c = c16 d ↔ c = d := by
  rw [c16_nat, c16_nat, eq32 (c16_lt c) (c16_lt d)]; exact UInt16.toNat_inj
theorem bvnat {j : Nat} (h : j < 2 ^ 31) : (Int32.ofNat j).toBitVec.toNat = j := by
  have : (Int32.ofNat j).toBitVec.toNat = j % 2 ^ 32 := by
    show (BitVec.ofInt 32 (j : Int)).toNat = _
    simp
  rw [this]; omega
theorem i2c_ofNat {j : Nat} (h : j < 65536) : i2c (Int32.ofNat j) = Int32.ofNat j := by
  apply Int32.toBitVec_inj.mp
  apply BitVec.eq_of_toNat_eq
  show (BitVec.setWidth 32 (BitVec.setWidth 16 (Int32.ofNat j).toBitVec)).toNat = _
  rw [BitVec.toNat_setWidth, BitVec.toNat_setWidth, bvnat (by omega)]
  omega
theorem c16_i2c (c : UInt16) : i2c (c16 c) = c16 c := by rw [c16_nat, i2c_ofNat c.toNat_lt]
theorem narrow_char (x : Int32) : narrow .char (.int x) = .int (i2c x) := rfl
theorem c16_narrow (c : UInt16) : narrow .char (.int (c16 c)) = .int (c16 c) := by rw [narrow_char, c16_i2c]
/-- the char that an int becomes -/
def ci (x : Int32) : UInt16 := x.toUInt32.toUInt16
theorem ci_i2c (x : Int32) : i2c x = c16 (ci x) := rfl
def lo16 (c : UInt16) : UInt8 := ((c16 c) >>> ((0 : Int32) &&& 31)).toInt8.toUInt8
def hi16 (c : UInt16) : UInt8 := ((c16 c) >>> ((8 : Int32) &&& 31)).toInt8.toUInt8
theorem by_of (x : Int32) : (x.toInt8.toInt32).toInt8.toInt32 = (x.toInt8.toUInt8).toInt8.toInt32 := by simp
theorem shrk {n k : Nat} (h : n < 2 ^ 31) (y : Int32) (hy : y.toBitVec.smod 32 = BitVec.ofNat 32 k) (hk : k < 32) : Int32.ofNat n >>> y = Int32.ofNat (n / 2 ^ k) := by
  have hd : n / 2 ^ k ≤ n := Nat.div_le_self _ _
  apply Int32.toInt_inj.mp
  rw [toInt_ofNat32 (by omega)]
  show ((Int32.ofNat n).toBitVec.sshiftRight' (y.toBitVec.smod 32)).toInt = _
  rw [hy, BitVec.sshiftRight'_ofNat_eq_sshiftRight, BitVec.toInt_sshiftRight, Nat.mod_eq_of_lt (by omega)]
  show (Int32.ofNat n).toInt >>> k = _
  rw [toInt_ofNat32 h, Int.shiftRight_eq_div_pow]
  simp
theorem shlk {n k : Nat} (y : Int32) (hy : y.toBitVec.smod 32 = BitVec.ofNat 32 k) (hk : k < 32) (h : n * 2 ^ k < 2 ^ 31) : Int32.ofNat n <<< y = Int32.ofNat (n * 2 ^ k) := by
  have hp : 0 < 2 ^ k := Nat.pow_pos (by decide)
  have hn : n ≤ n * 2 ^ k := Nat.le_mul_of_pos_right _ hp
  apply Int32.toBitVec_inj.mp
  apply BitVec.eq_of_toNat_eq
  rw [bvnat h]
  show ((Int32.ofNat n).toBitVec <<< (y.toBitVec.smod 32)).toNat = _
  rw [hy, BitVec.shiftLeft_eq', BitVec.toNat_shiftLeft, bvnat (by omega), BitVec.toNat_ofNat, Nat.mod_eq_of_lt (show k < 2 ^ 32 by omega), Nat.shiftLeft_eq]
  omega
theorem or8 {a b : Nat} (ha : a < 256) (hb : b < 256) : Int32.ofNat a ||| Int32.ofNat (b * 256) = Int32.ofNat (a + b * 256) := by
  apply Int32.toBitVec_inj.mp
  apply BitVec.eq_of_toNat_eq
  rw [Int32.toBitVec_or, BitVec.toNat_or, bvnat (by omega), bvnat (by omega), bvnat (by omega), Nat.or_comm]
  have q := Nat.shiftLeft_add_eq_or_of_lt (i := 8) (show a < 2 ^ 8 from ha) b
  rw [Nat.shiftLeft_eq] at q
  rw [Nat.add_comm]
  exact q.symm
theorem toU8_nat {n : Nat} (h : n < 2 ^ 31) : ((Int32.ofNat n).toInt8.toUInt8).toNat = n % 256 := by
  show ((Int32.ofNat n).toBitVec.signExtend 8).toNat = _
  rw [BitVec.signExtend_eq_setWidth_of_le _ (by decide), BitVec.toNat_setWidth, bvnat h]
theorem lo_nat (c : UInt16) : (lo16 c).toNat = c.toNat % 256 := by
  unfold lo16
  rw [shr0, c16_nat, toU8_nat (c16_lt c)]
theorem hi_nat (c : UInt16) : (hi16 c).toNat = c.toNat / 256 := by
  have h := c.toNat_lt
  unfold hi16
  rw [c16_nat, shrk (k := 8) (c16_lt c) _ (by decide) (by decide), toU8_nat (by omega)]
  omega
theorem lohi (c : UInt16) : i2c (((ch8 (lo16 c)) <<< ((0 : Int32) &&& 31)) ||| ((ch8 (hi16 c)) <<< ((8 : Int32) &&& 31))) = c16 c := by
  have h := c.toNat_lt
  have h1 := lo_nat c
  have h2 := hi_nat c
  rw [ch8_nat, ch8_nat, h1, h2, shlk (k := 0) _ (by decide) (by decide) (by omega), shlk (k := 8) _ (by decide) (by decide) (by omega)]
  rw [show c.toNat % 256 * 2 ^ 0 = c.toNat % 256 by omega, show c.toNat / 256 * 2 ^ 8 = c.toNat / 256 * 256 by omega, or8 (by omega) (by omega), show c.toNat % 256 + c.toNat / 256 * 256 = c.toNat by omega, i2c_ofNat h, c16_nat]
end Jvm.WK
namespace Jvm.WK
open Sem ClassFile Op Lib Jvm.Stand Jvm.Free Jvm.LawKit Jvm.RoadKit
def enc16 (cs : List UInt16) : List UInt8 := cs.flatMap fun c => [lo16 c, hi16 c]
theorem enc16_cons (c : UInt16) (cs : List UInt16) : enc16 (c :: cs) = lo16 c :: hi16 c :: enc16 cs := rfl
theorem enc16_app (cs ds : List UInt16) : enc16 (cs ++ ds) = enc16 cs ++ enc16 ds := by simp [enc16]
theorem enc16_len : ∀ cs : List UInt16, (enc16 cs).length = 2 * cs.length
  | [] => rfl
  | c :: cs => by rw [enc16_cons, List.length_cons, List.length_cons, enc16_len cs, List.length_cons]; omega
theorem enc16_at : ∀ (cs : List UInt16) (i : Nat), i < cs.length → (enc16 cs).getD (2 * i) 0 = lo16 (cs.getD i 0) ∧ (enc16 cs).getD (2 * i + 1) 0 = hi16 (cs.getD i 0)
  | [], i, h => absurd h (Nat.not_lt_zero _)
  | c :: cs, 0, _ => ⟨rfl, rfl⟩
  | c :: cs, i + 1, h => by
    have q := enc16_at cs i (by simpa using h)
    rw [enc16_cons, show 2 * (i + 1) = 2 * i + 1 + 1 by omega]
    exact q
/-- half filled with chars of two bytes -/
def p16 (cs : List UInt16) (i : Nat) : List UInt8 := enc16 (cs.take i) ++ List.replicate (2 * (cs.length - i)) 0
theorem p16_0 (cs : List UInt16) : p16 cs 0 = List.replicate (2 * cs.length) 0 := by simp [p16, enc16]
theorem p16_n (cs : List UInt16) : p16 cs cs.length = enc16 cs := by simp [p16]
theorem p16_len (cs : List UInt16) {i : Nat} (h : i ≤ cs.length) : (p16 cs i).length = 2 * cs.length := by
  simp only [p16, List.length_append, enc16_len, List.length_take, List.length_replicate]; omega
theorem p16_set (cs : List UInt16) {i : Nat} (h : i < cs.length) : ((p16 cs i).set (2 * i) (lo16 (cs.getD i 0))).set (2 * i + 1) (hi16 (cs.getD i 0)) = p16 cs (i + 1) := by
  have e1 : (enc16 (cs.take i)).length = 2 * i := by rw [enc16_len, List.length_take]; omega
  have e2 : 2 * (cs.length - i) = 2 * (cs.length - (i + 1)) + 1 + 1 := by omega
  unfold p16
  rw [e2, List.replicate_succ, List.replicate_succ, List.set_append_right _ _ (by omega), List.set_append_right _ _ (by omega), e1]
  rw [show 2 * i - 2 * i = 0 by omega, show 2 * i + 1 - 2 * i = 0 + 1 by omega, List.set_cons_zero, List.set_cons_succ, List.set_cons_zero, List.take_succ_eq_append_getElem h, enc16_app, List.append_assoc]
  simp [h, enc16]
def lat (cs : List UInt16) : Bool := cs.all fun c => decide (c.toNat < 256)
def l8 (cs : List UInt16) : List UInt8 := cs.map fun c => c.toUInt8
theorem lat_get {cs : List UInt16} (h : lat cs = true) : ∀ c ∈ cs, c.toNat < 256 := by simpa [lat] using h
theorem c16_8 {c : UInt16} (h : c.toNat < 256) : c16 c = ch8 c.toUInt8 := by
  rw [c16_nat, ch8_nat]
  congr 1
  simp; omega
theorem l8_len (cs : List UInt16) : (l8 cs).length = cs.length := by simp [l8]
theorem getD_l8 (cs : List UInt16) {i : Nat} (h : i < cs.length) : (l8 cs).getD i 0 = (cs.getD i 0).toUInt8 := by simp [l8, h]
theorem lat_map {cs : List UInt16} (h : lat cs = true) : cs.map cv = (l8 cs).map chv := by
  rw [l8, List.map_map]
  exact List.map_congr_left fun c hc => congrArg Value.int (c16_8 (lat_get h c hc))
theorem lat_at {cs : List UInt16} (h : lat cs = true) {i : Nat} (hi : i < cs.length) : ch8 ((l8 cs).getD i 0) = c16 (cs.getD i 0) := by
  rw [getD_l8 cs hi, c16_8]
  have : cs.getD i 0 ∈ cs := by simp [hi]
  exact lat_get h _ this
def cod (cs : List UInt16) : Int32 := if lat cs then 0 else 1
def enc (cs : List UInt16) : List UInt8 := if lat cs then l8 cs else enc16 cs
def StrU (l : List Chunk) (a : Addr) (cs : List UInt16) : Prop := ∃ b, strO a b (cod cs) ∈ l ∧ strB b (enc cs) ∈ l
theorem cod_t {cs : List UInt16} (h : lat cs = true) : cod cs = 0 := by simp [cod, h]
theorem cod_f {cs : List UInt16} (h : ¬ lat cs = true) : cod cs = 1 := by simp [cod, h]
theorem enc_t {cs : List UInt16} (h : lat cs = true) : enc cs = l8 cs := by simp [enc, h]
theorem enc_f {cs : List UInt16} (h : ¬ lat cs = true) : enc cs = enc16 cs := by simp [enc, h]
theorem StrU.str {l : List Chunk} {a : Addr} {cs : List UInt16} (h : StrU l a cs) (hl : lat cs = true) : Str l a (l8 cs) := by
  obtain ⟨b, h1, h2⟩ := h
  rw [cod_t hl] at h1; rw [enc_t hl] at h2
  exact ⟨b, h1, h2⟩
theorem StrU.mono {l l' : List Chunk} {a : Addr} {us : List UInt16} (h : StrU l a us) (hl : ∀ x ∈ l, x ∈ l') : StrU l' a us := by obtain ⟨b, h1, h2⟩ := h; exact ⟨b, hl _ h1, hl _ h2⟩
theorem not_lat {cs : List UInt16} (h : ¬ lat cs = true) : ∃ j, j < cs.length ∧ ¬ (cs.getD j 0).toNat < 256 ∧ ∀ i, i < j → (cs.getD i 0).toNat < 256 := by
  induction cs with
  | nil => exact absurd rfl h
  | cons c cs ih =>
    by_cases q : c.toNat < 256
    · have h' : ¬ lat cs = true := fun r => h (by simp only [lat, List.all_cons, Bool.and_eq_true, decide_eq_true_eq]; exact ⟨q, r⟩)
      obtain ⟨j, h1, h2, h3⟩ := ih h'
      refine ⟨j + 1, by simpa using h1, h2, fun i hi => ?_⟩
      cases i with
      | zero => exact q
      | succ i => exact h3 i (by omega)
    · exact ⟨0, by simp, q, fun i hi => absurd hi (Nat.not_lt_zero _)⟩
theorem getD_map16 {cs : List UInt16} {i : Nat} (h : i < cs.length) : (cs.map cv)[i]? = some (cv (cs.getD i 0)) := by simp [h]
theorem c16_gt {c : UInt16} (h : ¬ c.toNat < 256) : (255 : Int32) < c16 c := by
  rw [c16_nat]; exact (lt32 (a := 255) (by decide) (c16_lt c)).mpr (by omega)
theorem c16_le {c : UInt16} (h : c.toNat < 256) : ¬ (255 : Int32) < c16 c := fun q => by
  rw [c16_nat] at q; have := (lt32 (a := 255) (by decide) (c16_lt c)).mp q; omega
theorem neg_ushr {n : Nat} (h0 : 0 < n) (h : 2 * n < 2 ^ 31) : ((XT.ushr (Int32.ofNat n - Int32.ofNat (2 * n)) 31).toInt8).toInt32 = 1 := by
  have e : Int32.ofNat n - Int32.ofNat (2 * n) < 0 := by
    have q : (Int32.ofNat n - Int32.ofNat (2 * n)).toInt = -(n : Int) := by
      rw [Int32.toInt_sub, toInt_ofNat32 (by omega), toInt_ofNat32 (by omega)]
      rw [show (n : Int) - ((2 * n : Nat) : Int) = -(n : Int) by omega]
      have := XT.bmod32 (n := -(n : Int)) ⟨by omega, by omega⟩
      exact this
    rw [Int32.lt_iff_toInt_lt, q]; simp only [Int32.reduceToInt]; omega
  generalize Int32.ofNat n - Int32.ofNat (2 * n) = x at e
  have q : XT.ushr x 31 = 1 := by
    apply Int32.toBitVec_inj.mp
    apply BitVec.eq_of_toNat_eq
    have m : x.toBitVec.toNat ≥ 2 ^ 31 := by
      have e2 : x.toBitVec.toInt < 0 := by have := Int32.lt_iff_toInt_lt.mp e; exact this
      rw [BitVec.toInt_eq_toNat_cond] at e2
      split at e2
      · omega
      · omega
    have lt := x.toBitVec.isLt
    show (x.toBitVec >>> (31 : Nat)).toNat = _
    rw [BitVec.toNat_ushiftRight, Nat.shiftRight_eq_div_pow]
    show _ = 1
    omega
  rw [q]; rfl
end Jvm.WK
namespace Jvm.WK
open Sem ClassFile Op Lib Jvm.Stand Jvm.Free Jvm.LawKit Jvm.RoadKit
theorem int_v {args : Array Value} {first s : State} {o : Option Outcome} {idx : List Nat} {t : Term} {z : Int32} (h : (Cond.eq t (.int z)).value args first o s idx = some true) : t.eval args first o idx s = some (.int z) := by
  simp only [Cond.value, Term.eval] at h
  cases ht : t.eval args first o idx s with
  | none => simp [ht] at h
  | some x => cases x <;> simp [ht] at h ⊢; exact h
end Jvm.WK
namespace Jvm.WK
open Sem ClassFile Op Lib Jvm.Stand Jvm.Free Jvm.LawKit Jvm.RoadKit
/-! ## 17. one String told twice -/
theorem byv_map_inj {us vs : List UInt8} (h : us.map byv = vs.map byv) : us = vs := by
  have inj : ∀ a b : UInt8, byv a = byv b → a = b := fun a b q => byv_inj.mp (by injection q)
  induction us generalizing vs with
  | nil => cases vs with
    | nil => rfl
    | cons v vs => cases h
  | cons u us ih => cases vs with
    | nil => cases h
    | cons v vs =>
      rw [List.map_cons, List.map_cons, List.cons.injEq] at h
      rw [inj _ _ h.1, ih h.2]
section R
variable {κ : Cx} {y : MethodName} {pc pc' : Nat} {L L' : List Slot} {S S' : List Value} {F : List Frame} {l l' : List Chunk} {k n : Nat}
theorem Fld.one {Z : State} {h : Heap} {a : Addr} {C nm d : String} {v w : Value} (F : Fld Z h a C nm d v) (G : Fld Z h a C nm d w) : v = w := by
  by_cases q : v = w
  · exact q
  · exact absurd rfl (F.ne G q)
theorem wp_same {a b b' : Addr} {z z' : Int32} {us vs : List UInt8} (h1 : strO a b z ∈ l) (h2 : strB b us ∈ l) (h3 : strO a b' z' ∈ l) (h4 : strB b' vs ∈ l) (K : z = z' → us = vs → WP κ y pc L S F l k n) : WP κ y pc L S F l k n := fun T G => by
  obtain ⟨-, f1, -⟩ := G.hp.1 _ h1
  obtain ⟨-, f3, -⟩ := G.hp.1 _ h3
  have e1 := Fld.one (f1 ("java/lang/String", "value", "[B", .ref b) (List.mem_cons_self ..)) (f3 ("java/lang/String", "value", "[B", .ref b') (List.mem_cons_self ..))
  have e2 := Fld.one (f1 ("java/lang/String", "coder", "B", .int z) (List.mem_cons_of_mem _ (List.mem_cons_self ..))) (f3 ("java/lang/String", "coder", "B", .int z') (List.mem_cons_of_mem _ (List.mem_cons_self ..)))
  have eb : b = b' := by injection e1
  have ez : z = z' := by injection e2
  subst eb
  obtain ⟨c, A, ec, -⟩ := G.hp.1 _ h2
  obtain ⟨c', A', ec', -⟩ := G.hp.1 _ h4
  have q : c = c' := Option.some.inj (A.1.symm.trans A'.1)
  subst q
  exact K ez (byv_map_inj (ec.symm.trans ec')) T G
end R
theorem up_lat (vs : List UInt8) : lat (vs.map UInt8.toUInt16) = true := by
  simp only [lat, List.all_map, List.all_eq_true, Function.comp_apply, decide_eq_true_eq]
  intro u _
  have := u.toNat_lt
  simp; omega
theorem l8_up (vs : List UInt8) : l8 (vs.map UInt8.toUInt16) = vs := by
  simp [l8, Function.comp_def]
theorem up_l8 {cs : List UInt16} (h : lat cs = true) : (l8 cs).map UInt8.toUInt16 = cs := by
  rw [l8, List.map_map]
  conv => rhs; rw [← List.map_id cs]
  apply List.map_congr_left
  intro c hc
  have := lat_get h c hc
  apply UInt16.toNat_inj.mp
  simp; omega
end Jvm.WK
namespace Jvm.WK
abbrev hiS (c : UInt16) : Prop := ¬ c16 c < 55296 ∧ ¬ 56319 < c16 c
abbrev loS (c : UInt16) : Prop := ¬ c16 c < 56320 ∧ ¬ 57343 < c16 c
abbrev nxLo : Option UInt16 → Prop
  | none => False
  | some d => loS d
instance (o : Option UInt16) : Decidable (nxLo o) := by cases o <;> unfold nxLo <;> infer_instance
abbrev badC (c : UInt16) : Prop := c16 c = 0 ∨ hiS c ∨ loS c
/-- how many chars the code point takes, 0: none that may stand -/
def stp (cs : List UInt16) (i : Nat) : Nat := if hiS (cs.getD i 0) ∧ nxLo cs[i + 1]? then 2 else if badC (cs.getD i 0) then 0 else 1
theorem stp_2 {cs : List UInt16} {i : Nat} (h : hiS (cs.getD i 0) ∧ nxLo cs[i + 1]?) : stp cs i = 2 := if_pos h
theorem stp_0 {cs : List UInt16} {i : Nat} (h : ¬ (hiS (cs.getD i 0) ∧ nxLo cs[i + 1]?)) (h2 : badC (cs.getD i 0)) : stp cs i = 0 := by unfold stp; rw [if_neg h, if_pos h2]
theorem stp_1 {cs : List UInt16} {i : Nat} (h : ¬ (hiS (cs.getD i 0) ∧ nxLo cs[i + 1]?)) (h2 : ¬ badC (cs.getD i 0)) : stp cs i = 1 := by unfold stp; rw [if_neg h, if_neg h2]
theorem ltl (x : Int32) (a : Nat) (h : a < 2 ^ 31) : x < Int32.ofNat a ↔ x.toInt < a := by rw [Int32.lt_iff_toInt_lt, toInt_ofNat32 h]
theorem ltr (x : Int32) (a : Nat) (h : a < 2 ^ 31) : Int32.ofNat a < x ↔ (a : Int) < x.toInt := by rw [Int32.lt_iff_toInt_lt, toInt_ofNat32 h]
theorem c16_toInt (c : UInt16) : (c16 c).toInt = c.toNat := by rw [c16_nat, toInt_ofNat32 (c16_lt c)]
theorem hiS_iff (c : UInt16) : hiS c ↔ 55296 ≤ c.toNat ∧ c.toNat ≤ 56319 := by
  have h1 := ltl (c16 c) 55296 (by decide)
  have h2 := ltr (c16 c) 56319 (by decide)
  have e := c16_toInt c
  show (¬ c16 c < Int32.ofNat 55296 ∧ ¬ Int32.ofNat 56319 < c16 c) ↔ _
  rw [h1, h2, e]; omega
theorem loS_iff (c : UInt16) : loS c ↔ 56320 ≤ c.toNat ∧ c.toNat ≤ 57343 := by
  have h1 := ltl (c16 c) 56320 (by decide)
  have h2 := ltr (c16 c) 57343 (by decide)
  have e := c16_toInt c
  show (¬ c16 c < Int32.ofNat 56320 ∧ ¬ Int32.ofNat 57343 < c16 c) ↔ _
  rw [h1, h2, e]; omega
theorem hiJ (c : UInt16) : (¬ c16 c < 55296 ∧ c16 c < 56320) ↔ hiS c := by
  have h1 := ltl (c16 c) 55296 (by decide)
  have h2 := ltl (c16 c) 56320 (by decide)
  have e := c16_toInt c
  rw [hiS_iff]
  show (¬ c16 c < Int32.ofNat 55296 ∧ c16 c < Int32.ofNat 56320) ↔ _
  rw [h1, h2, e]; omega
theorem loJ (c : UInt16) : (¬ c16 c < 56320 ∧ c16 c < 57344) ↔ loS c := by
  have h1 := ltl (c16 c) 56320 (by decide)
  have h2 := ltl (c16 c) 57344 (by decide)
  have e := c16_toInt c
  rw [loS_iff]
  show (¬ c16 c < Int32.ofNat 56320 ∧ c16 c < Int32.ofNat 57344) ↔ _
  rw [h1, h2, e]; omega
theorem badJ (c : UInt16) : (c16 c = 0 ∨ (¬ c16 c < 55296 ∧ ¬ 57343 < c16 c)) ↔ badC c := by
  have h1 := ltl (c16 c) 55296 (by decide)
  have h2 := ltr (c16 c) 57343 (by decide)
  have e := c16_toInt c
  show _ ↔ c16 c = 0 ∨ hiS c ∨ loS c
  rw [hiS_iff, loS_iff]
  have q : (¬ c16 c < 55296 ∧ ¬ 57343 < c16 c) ↔ ((55296 ≤ c.toNat ∧ c.toNat ≤ 56319) ∨ 56320 ≤ c.toNat ∧ c.toNat ≤ 57343) := by
    show (¬ c16 c < Int32.ofNat 55296 ∧ ¬ Int32.ofNat 57343 < c16 c) ↔ _
    rw [h1, h2, e]; omega
  rw [q]
theorem c16_small (c : UInt16) : c16 c < 65536 := by
  have h := c.toNat_lt
  show c16 c < Int32.ofNat 65536
  rw [ltl _ _ (by decide), c16_toInt]; omega
theorem cp_spec {c d : UInt16} (h1 : hiS c) (h2 : loS d) : ∃ m : Nat, 65536 ≤ m ∧ m < 2 ^ 31 ∧ ((c16 c) <<< ((10 : Int32) &&& 31)) + c16 d + (-56613888) = Int32.ofNat m := by
  obtain ⟨a1, a2⟩ := (hiS_iff c).mp h1
  obtain ⟨b1, b2⟩ := (loS_iff d).mp h2
  refine ⟨c.toNat * 1024 + d.toNat - 56613888, by omega, by omega, ?_⟩
  rw [c16_nat, c16_nat, shlk (k := 10) _ (by decide) (by decide) (by omega), add32n]
  have e : Int32.ofNat (c.toNat * 2 ^ 10 + d.toNat) + (-56613888) = Int32.ofNat (c.toNat * 2 ^ 10 + d.toNat) - Int32.ofNat 56613888 := by
    rw [Int32.sub_eq_add_neg]; rfl
  rw [e, sub32n (by omega)]
/-- what isValid says, from place i on, ct counted -/
def vf (cs : List UInt16) (mx : Int32) : Nat → Nat → Nat → Prop
  | 0, _, ct => 0 < ct
  | d + 1, i, ct => if i < cs.length then (stp cs i ≠ 0 ∧ ¬ mx < Int32.ofNat (ct + 1) ∧ vf cs mx d (i + stp cs i) (ct + 1)) else 0 < ct
def decVf (cs : List UInt16) (mx : Int32) : ∀ d i ct, Decidable (vf cs mx d i ct)
  | 0, _, ct => by unfold vf; infer_instance
  | d + 1, i, ct => by
    unfold vf
    have := decVf cs mx d (i + stp cs i) (ct + 1)
    infer_instance
instance (cs : List UInt16) (mx : Int32) (d i ct : Nat) : Decidable (vf cs mx d i ct) := decVf cs mx d i ct
theorem vf_end {cs : List UInt16} {mx : Int32} {d i ct : Nat} (h : ¬ i < cs.length) : vf cs mx (d + 1) i ct ↔ 0 < ct := by unfold vf; rw [if_neg h]
theorem vf_go {cs : List UInt16} {mx : Int32} {d i ct : Nat} (h : i < cs.length) : vf cs mx (d + 1) i ct ↔ (stp cs i ≠ 0 ∧ ¬ mx < Int32.ofNat (ct + 1) ∧ vf cs mx d (i + stp cs i) (ct + 1)) := by
  rw [show vf cs mx (d + 1) i ct = if i < cs.length then (stp cs i ≠ 0 ∧ ¬ mx < Int32.ofNat (ct + 1) ∧ vf cs mx d (i + stp cs i) (ct + 1)) else 0 < ct from rfl, if_pos h]
theorem mx_mono {mx : Int32} {a b : Nat} (h : ¬ mx < Int32.ofNat b) (hab : a ≤ b) (hb : b < 2 ^ 31) : ¬ mx < Int32.ofNat a := by
  rw [ltl _ _ hb] at h
  rw [ltl _ _ (by omega)]; omega
theorem stp_cases (cs : List UInt16) (i : Nat) : stp cs i = 0 ∨ stp cs i = 1 ∨ stp cs i = 2 := by
  unfold stp
  split
  · exact Or.inr (Or.inr rfl)
  · split
    · exact Or.inl rfl
    · exact Or.inr (Or.inl rfl)
theorem nx_in {cs : List UInt16} {i : Nat} (h : i + 1 < cs.length) : nxLo cs[i + 1]? ↔ loS (cs.getD (i + 1) 0) := by
  rw [List.getElem?_eq_getElem h]
  simp [nxLo, h]
theorem nx_out {cs : List UInt16} {i : Nat} (h : ¬ i + 1 < cs.length) : ¬ nxLo cs[i + 1]? := by
  rw [List.getElem?_eq_none (by omega)]
  exact fun q => q
theorem stp_le {cs : List UInt16} {i : Nat} (h : i < cs.length) : i + stp cs i ≤ cs.length := by
  by_cases q : hiS (cs.getD i 0) ∧ nxLo cs[i + 1]?
  · rw [stp_2 q]
    by_cases r : i + 1 < cs.length
    · omega
    · exact absurd q.2 (nx_out r)
  · rcases stp_cases cs i with e | e | e
    · rw [e]; omega
    · rw [e]; omega
    · unfold stp at e
      rw [if_neg q] at e
      split at e <;> cases e
theorem lat_hi {cs : List UInt16} (hl : lat cs = true) {i : Nat} (h : i < cs.length) : ¬ hiS (cs.getD i 0) := fun q => by
  have m : cs.getD i 0 ∈ cs := by simp [h]
  have a := lat_get hl _ m
  have b := (hiS_iff _).mp q
  omega
end Jvm.WK
namespace Jvm.Pilot.@@N@@
open Jvm Jvm.ClassFile Sem Op Lib Jvm.Free Jvm.Stand Jvm.LawKit Jvm.RoadKit Jvm.WK
def Ws (κ : Cx) : Prop := ∀ d ∈ (Jvm.Cond.code x code maxLocals ret :: tables_1), Wd κ d
section Words
variable {κ : Cx}
abbrev y0 : MethodName := ⟨"com/example/pedido/pedido/http/FreeTextIsValidPinLaw", "law", "(IIIII)Z"⟩
abbrev y1 : MethodName := ⟨"java/lang/String", "coder", "()B"⟩
abbrev y2 : MethodName := ⟨"java/lang/String", "length", "()I"⟩
abbrev y3 : MethodName := ⟨"java/lang/String", "isLatin1", "()Z"⟩
abbrev y4 : MethodName := ⟨"jdk/internal/util/Preconditions", "checkIndex", "(IILjava/util/function/BiFunction;)I"⟩
abbrev y5 : MethodName := ⟨"java/lang/String", "checkIndex", "(II)V"⟩
abbrev y6 : MethodName := ⟨"java/lang/StringUTF16", "compress", "([CI[BII)I"⟩
abbrev y7 : MethodName := ⟨"java/lang/StringUTF16", "compress", "([CII)[B"⟩
abbrev y8 : MethodName := ⟨"java/lang/StringUTF16", "coderFromArrayLen", "([BI)B"⟩
abbrev y9 : MethodName := ⟨"java/lang/String", "<init>", "([CIILjava/lang/Void;)V"⟩
abbrev y10 : MethodName := ⟨"java/lang/String", "<init>", "([C)V"⟩
abbrev y11 : MethodName := ⟨"java/lang/StringUTF16", "newBytesLength", "(I)I"⟩
abbrev y12 : MethodName := ⟨"java/lang/StringUTF16", "newBytesFor", "(I)[B"⟩
abbrev y13 : MethodName := ⟨"java/lang/StringUTF16", "putChar", "([BII)V"⟩
abbrev y14 : MethodName := ⟨"java/lang/StringUTF16", "getChar", "([BI)C"⟩
abbrev y15 : MethodName := ⟨"java/lang/StringUTF16", "toBytes", "([CII)[B"⟩
abbrev y16 : MethodName := ⟨"com/example/pedido/pedido/http/FreeTextIsValidPinLaw", "isHigh", "(C)Z"⟩
abbrev y17 : MethodName := ⟨"com/example/pedido/pedido/http/FreeTextIsValidPinLaw", "isLow", "(C)Z"⟩
abbrev y18 : MethodName := ⟨"java/lang/Character", "isHighSurrogate", "(C)Z"⟩
abbrev y19 : MethodName := ⟨"java/lang/Character", "isLowSurrogate", "(C)Z"⟩
abbrev y20 : MethodName := ⟨"com/example/pedido/pedido/http/FreeTextIsValidPinLaw", "draw", "(I)C"⟩
abbrev y21 : MethodName := ⟨"com/example/pedido/pedido/http/FreeTextIsValidPinLaw", "at", "(CCCI)C"⟩
abbrev y22 : MethodName := ⟨"com/example/pedido/pedido/http/FreeTextIsValidPinLaw", "step", "(CCCII)I"⟩
abbrev y23 : MethodName := ⟨"java/lang/Character", "charCount", "(I)I"⟩
abbrev y24 : MethodName := ⟨"java/lang/Character", "toCodePoint", "(CC)I"⟩
abbrev y25 : MethodName := ⟨"java/lang/StringUTF16", "codePointAt", "([BIIZ)I"⟩
abbrev y26 : MethodName := ⟨"java/lang/StringUTF16", "codePointAt", "([BII)I"⟩
abbrev y27 : MethodName := ⟨"java/lang/String", "codePointAt", "(I)I"⟩
abbrev y28 : MethodName := ⟨"com/example/pedido/pedido/http/FreeText", "isValid", "(Ljava/lang/String;I)Z"⟩
theorem w1 (hw : Ws κ) : Wd κ (Jvm.Cond.methodLink "com/example/pedido/pedido/http/FreeTextIsValidPinLaw" (25 : Nat) ({ cls := "com/example/pedido/pedido/http/FreeTextIsValidPinLaw", name := "draw", desc := "(I)C" } : Jvm.MethodName)) := hw _ (List.mem_of_getElem? (i := 1) rfl)
theorem w2 (hw : Ws κ) : Wd κ (Jvm.Cond.static ({ cls := "com/example/pedido/pedido/http/FreeTextIsValidPinLaw", name := "draw", desc := "(I)C" } : Jvm.MethodName)) := hw _ (List.mem_of_getElem? (i := 2) rfl)
theorem w3 (hw : Ws κ) : Wd κ (Jvm.Cond.initialized "com/example/pedido/pedido/http/FreeTextIsValidPinLaw") := hw _ (List.mem_of_getElem? (i := 3) rfl)
theorem w5 (hw : Ws κ) : Wd κ (Jvm.Cond.constant "com/example/pedido/pedido/http/FreeTextIsValidPinLaw" (9 : Nat) (65535 : Int32)) := hw _ (List.mem_of_getElem? (i := 5) rfl)
theorem w6 (hw : Ws κ) : Wd κ (Jvm.Cond.arrayClass Jvm.ClassFile.FieldType.char) := hw _ (List.mem_of_getElem? (i := 6) rfl)
theorem w7 (hw : Ws κ) : Wd κ (Jvm.Cond.classLink "com/example/pedido/pedido/http/FreeTextIsValidPinLaw" (33 : Nat) "java/lang/String") := hw _ (List.mem_of_getElem? (i := 7) rfl)
theorem w8 (hw : Ws κ) : Wd κ (Jvm.Cond.instantiable "java/lang/String" (4 : Nat)) := hw _ (List.mem_of_getElem? (i := 8) rfl)
theorem w9 (hw : Ws κ) : Wd κ (Jvm.Cond.initialized "java/lang/String") := hw _ (List.mem_of_getElem? (i := 9) rfl)
theorem w10 (hw : Ws κ) : Wd κ (Jvm.Cond.methodLink "com/example/pedido/pedido/http/FreeTextIsValidPinLaw" (35 : Nat) ({ cls := "java/lang/String", name := "<init>", desc := "([C)V" } : Jvm.MethodName)) := hw _ (List.mem_of_getElem? (i := 10) rfl)
theorem w11 (hw : Ws κ) : Wd κ (Jvm.Cond.instanceMethod ({ cls := "java/lang/String", name := "<init>", desc := "([C)V" } : Jvm.MethodName)) := hw _ (List.mem_of_getElem? (i := 11) rfl)
theorem w13 (hw : Ws κ) : Wd κ (Jvm.Cond.methodLink "java/lang/String" (27 : Nat) ({ cls := "java/lang/String", name := "<init>", desc := "([CIILjava/lang/Void;)V" } : Jvm.MethodName)) := hw _ (List.mem_of_getElem? (i := 13) rfl)
theorem w14 (hw : Ws κ) : Wd κ (Jvm.Cond.instanceMethod ({ cls := "java/lang/String", name := "<init>", desc := "([CIILjava/lang/Void;)V" } : Jvm.MethodName)) := hw _ (List.mem_of_getElem? (i := 14) rfl)
theorem w17 (hw : Ws κ) : Wd κ (Jvm.Cond.methodLink "java/lang/String" (1 : Nat) ({ cls := "java/lang/Object", name := "<init>", desc := "()V" } : Jvm.MethodName)) := hw _ (List.mem_of_getElem? (i := 17) rfl)
theorem w18 (hw : Ws κ) : Wd κ (Jvm.Cond.instanceMethod ({ cls := "java/lang/Object", name := "<init>", desc := "()V" } : Jvm.MethodName)) := hw _ (List.mem_of_getElem? (i := 18) rfl)
theorem w19 (hw : Ws κ) : Wd κ (Jvm.Cond.code ({ cls := "java/lang/Object", name := "<init>", desc := "()V" } : Jvm.MethodName) object_method_1_code (1 : Nat) (Option.none : Option Jvm.ClassFile.FieldType)) := hw _ (List.mem_of_getElem? (i := 19) rfl)
theorem w20 (hw : Ws κ) : Wd κ (Jvm.Cond.stringLink "java/lang/String" (7 : Nat) "") := hw _ (List.mem_of_getElem? (i := 20) rfl)
theorem w21 (hw : Ws κ) : Wd κ (Jvm.Cond.arrayClass Jvm.ClassFile.FieldType.byte) := hw _ (List.mem_of_getElem? (i := 21) rfl)
theorem w22 (hw : Ws κ) : Wd κ (Jvm.Cond.laysFinal "java/lang/String" "java/lang/String" "value" "[B") := hw _ (List.mem_of_getElem? (i := 22) rfl)
theorem w23 (hw : Ws κ) : Wd κ (Jvm.Cond.laysFinal "java/lang/String" "java/lang/String" "coder" "B") := hw _ (List.mem_of_getElem? (i := 23) rfl)
theorem w24 (hw : Ws κ) : Wd κ (Jvm.Cond.soleField "java/lang/String" "value") := hw _ (List.mem_of_getElem? (i := 24) rfl)
theorem w25 (hw : Ws κ) : Wd κ (Jvm.Cond.soleField "java/lang/String" "coder") := hw _ (List.mem_of_getElem? (i := 25) rfl)
theorem w26 (hw : Ws κ) : Wd κ (Jvm.Cond.fieldLink "java/lang/String" (9 : Nat) "java/lang/String" "value" "[B") := hw _ (List.mem_of_getElem? (i := 26) rfl)
theorem w27 (hw : Ws κ) : Wd κ (Jvm.Cond.fieldLink "java/lang/String" (15 : Nat) "java/lang/String" "coder" "B") := hw _ (List.mem_of_getElem? (i := 27) rfl)
theorem w28 (hw : Ws κ) : Wd κ (Jvm.Cond.methodLink "com/example/pedido/pedido/http/FreeTextIsValidPinLaw" (38 : Nat) ({ cls := "com/example/pedido/pedido/http/FreeText", name := "isValid", desc := "(Ljava/lang/String;I)Z" } : Jvm.MethodName)) := hw _ (List.mem_of_getElem? (i := 28) rfl)
theorem w29 (hw : Ws κ) : Wd κ (Jvm.Cond.static ({ cls := "com/example/pedido/pedido/http/FreeText", name := "isValid", desc := "(Ljava/lang/String;I)Z" } : Jvm.MethodName)) := hw _ (List.mem_of_getElem? (i := 29) rfl)
theorem w30 (hw : Ws κ) : Wd κ (Jvm.Cond.initialized "com/example/pedido/pedido/http/FreeText") := hw _ (List.mem_of_getElem? (i := 30) rfl)
theorem w32 (hw : Ws κ) : Wd κ (Jvm.Cond.methodLink "com/example/pedido/pedido/http/FreeText" (7 : Nat) ({ cls := "java/lang/String", name := "length", desc := "()I" } : Jvm.MethodName)) := hw _ (List.mem_of_getElem? (i := 32) rfl)
theorem w33 (hw : Ws κ) : Wd κ (Jvm.Cond.declares ({ cls := "java/lang/String", name := "length", desc := "()I" } : Jvm.MethodName)) := hw _ (List.mem_of_getElem? (i := 33) rfl)
theorem w34 (hw : Ws κ) : Wd κ (Jvm.Cond.instanceMethod ({ cls := "java/lang/String", name := "length", desc := "()I" } : Jvm.MethodName)) := hw _ (List.mem_of_getElem? (i := 34) rfl)
theorem w35 (hw : Ws κ) : Wd κ (Jvm.Cond.selects "java/lang/String" ({ cls := "java/lang/String", name := "length", desc := "()I" } : Jvm.MethodName) ({ cls := "java/lang/String", name := "length", desc := "()I" } : Jvm.MethodName)) := hw _ (List.mem_of_getElem? (i := 35) rfl)
theorem w37 (hw : Ws κ) : Wd κ (Jvm.Cond.methodLink "java/lang/String" (335 : Nat) ({ cls := "java/lang/String", name := "coder", desc := "()B" } : Jvm.MethodName)) := hw _ (List.mem_of_getElem? (i := 37) rfl)
theorem w38 (hw : Ws κ) : Wd κ (Jvm.Cond.declares ({ cls := "java/lang/String", name := "coder", desc := "()B" } : Jvm.MethodName)) := hw _ (List.mem_of_getElem? (i := 38) rfl)
theorem w39 (hw : Ws κ) : Wd κ (Jvm.Cond.instanceMethod ({ cls := "java/lang/String", name := "coder", desc := "()B" } : Jvm.MethodName)) := hw _ (List.mem_of_getElem? (i := 39) rfl)
theorem w40 (hw : Ws κ) : Wd κ (Jvm.Cond.selects "java/lang/String" ({ cls := "java/lang/String", name := "coder", desc := "()B" } : Jvm.MethodName) ({ cls := "java/lang/String", name := "coder", desc := "()B" } : Jvm.MethodName)) := hw _ (List.mem_of_getElem? (i := 40) rfl)
theorem w42 (hw : Ws κ) : Wd κ (Jvm.Cond.fieldLink "java/lang/String" (38 : Nat) "java/lang/String" "COMPACT_STRINGS" "Z") := hw _ (List.mem_of_getElem? (i := 42) rfl)
theorem w43 (hw : Ws κ) : Wd κ (Jvm.Cond.methodLink "com/example/pedido/pedido/http/FreeTextIsValidPinLaw" (29 : Nat) ({ cls := "com/example/pedido/pedido/http/FreeTextIsValidPinLaw", name := "step", desc := "(CCCII)I" } : Jvm.MethodName)) := hw _ (List.mem_of_getElem? (i := 43) rfl)
theorem w44 (hw : Ws κ) : Wd κ (Jvm.Cond.static ({ cls := "com/example/pedido/pedido/http/FreeTextIsValidPinLaw", name := "step", desc := "(CCCII)I" } : Jvm.MethodName)) := hw _ (List.mem_of_getElem? (i := 44) rfl)
theorem w46 (hw : Ws κ) : Wd κ (Jvm.Cond.methodLink "com/example/pedido/pedido/http/FreeTextIsValidPinLaw" (12 : Nat) ({ cls := "com/example/pedido/pedido/http/FreeTextIsValidPinLaw", name := "at", desc := "(CCCI)C" } : Jvm.MethodName)) := hw _ (List.mem_of_getElem? (i := 46) rfl)
theorem w47 (hw : Ws κ) : Wd κ (Jvm.Cond.static ({ cls := "com/example/pedido/pedido/http/FreeTextIsValidPinLaw", name := "at", desc := "(CCCI)C" } : Jvm.MethodName)) := hw _ (List.mem_of_getElem? (i := 47) rfl)
theorem w49 (hw : Ws κ) : Wd κ (Jvm.Cond.methodLink "com/example/pedido/pedido/http/FreeTextIsValidPinLaw" (18 : Nat) ({ cls := "com/example/pedido/pedido/http/FreeTextIsValidPinLaw", name := "isHigh", desc := "(C)Z" } : Jvm.MethodName)) := hw _ (List.mem_of_getElem? (i := 49) rfl)
theorem w50 (hw : Ws κ) : Wd κ (Jvm.Cond.static ({ cls := "com/example/pedido/pedido/http/FreeTextIsValidPinLaw", name := "isHigh", desc := "(C)Z" } : Jvm.MethodName)) := hw _ (List.mem_of_getElem? (i := 50) rfl)
theorem w52 (hw : Ws κ) : Wd κ (Jvm.Cond.constant "com/example/pedido/pedido/http/FreeTextIsValidPinLaw" (7 : Nat) (55296 : Int32)) := hw _ (List.mem_of_getElem? (i := 52) rfl)
theorem w53 (hw : Ws κ) : Wd κ (Jvm.Cond.methodLink "com/example/pedido/pedido/http/FreeTextIsValidPinLaw" (22 : Nat) ({ cls := "com/example/pedido/pedido/http/FreeTextIsValidPinLaw", name := "isLow", desc := "(C)Z" } : Jvm.MethodName)) := hw _ (List.mem_of_getElem? (i := 53) rfl)
theorem w54 (hw : Ws κ) : Wd κ (Jvm.Cond.static ({ cls := "com/example/pedido/pedido/http/FreeTextIsValidPinLaw", name := "isLow", desc := "(C)Z" } : Jvm.MethodName)) := hw _ (List.mem_of_getElem? (i := 54) rfl)
theorem w56 (hw : Ws κ) : Wd κ (Jvm.Cond.constant "com/example/pedido/pedido/http/FreeTextIsValidPinLaw" (8 : Nat) (56320 : Int32)) := hw _ (List.mem_of_getElem? (i := 56) rfl)
theorem w57 (hw : Ws κ) : Wd κ (Jvm.Cond.methodLink "java/lang/String" (177 : Nat) ({ cls := "java/lang/StringUTF16", name := "compress", desc := "([CII)[B" } : Jvm.MethodName)) := hw _ (List.mem_of_getElem? (i := 57) rfl)
theorem w58 (hw : Ws κ) : Wd κ (Jvm.Cond.static ({ cls := "java/lang/StringUTF16", name := "compress", desc := "([CII)[B" } : Jvm.MethodName)) := hw _ (List.mem_of_getElem? (i := 58) rfl)
theorem w59 (hw : Ws κ) : Wd κ (Jvm.Cond.initialized "java/lang/StringUTF16") := hw _ (List.mem_of_getElem? (i := 59) rfl)
theorem w61 (hw : Ws κ) : Wd κ (Jvm.Cond.methodLink "java/lang/StringUTF16" (115 : Nat) ({ cls := "java/lang/StringUTF16", name := "compress", desc := "([CI[BII)I" } : Jvm.MethodName)) := hw _ (List.mem_of_getElem? (i := 61) rfl)
theorem w62 (hw : Ws κ) : Wd κ (Jvm.Cond.static ({ cls := "java/lang/StringUTF16", name := "compress", desc := "([CI[BII)I" } : Jvm.MethodName)) := hw _ (List.mem_of_getElem? (i := 62) rfl)
theorem w64 (hw : Ws κ) : Wd κ (Jvm.Cond.methodLink "java/lang/String" (47 : Nat) ({ cls := "java/lang/StringUTF16", name := "coderFromArrayLen", desc := "([BI)B" } : Jvm.MethodName)) := hw _ (List.mem_of_getElem? (i := 64) rfl)
theorem w65 (hw : Ws κ) : Wd κ (Jvm.Cond.static ({ cls := "java/lang/StringUTF16", name := "coderFromArrayLen", desc := "([BI)B" } : Jvm.MethodName)) := hw _ (List.mem_of_getElem? (i := 65) rfl)
theorem w67 (hw : Ws κ) : Wd κ (Jvm.Cond.methodLink "com/example/pedido/pedido/http/FreeText" (13 : Nat) ({ cls := "java/lang/String", name := "codePointAt", desc := "(I)I" } : Jvm.MethodName)) := hw _ (List.mem_of_getElem? (i := 67) rfl)
theorem w68 (hw : Ws κ) : Wd κ (Jvm.Cond.declares ({ cls := "java/lang/String", name := "codePointAt", desc := "(I)I" } : Jvm.MethodName)) := hw _ (List.mem_of_getElem? (i := 68) rfl)
theorem w69 (hw : Ws κ) : Wd κ (Jvm.Cond.instanceMethod ({ cls := "java/lang/String", name := "codePointAt", desc := "(I)I" } : Jvm.MethodName)) := hw _ (List.mem_of_getElem? (i := 69) rfl)
theorem w70 (hw : Ws κ) : Wd κ (Jvm.Cond.selects "java/lang/String" ({ cls := "java/lang/String", name := "codePointAt", desc := "(I)I" } : Jvm.MethodName) ({ cls := "java/lang/String", name := "codePointAt", desc := "(I)I" } : Jvm.MethodName)) := hw _ (List.mem_of_getElem? (i := 70) rfl)
theorem w72 (hw : Ws κ) : Wd κ (Jvm.Cond.methodLink "java/lang/String" (492 : Nat) ({ cls := "java/lang/String", name := "isLatin1", desc := "()Z" } : Jvm.MethodName)) := hw _ (List.mem_of_getElem? (i := 72) rfl)
theorem w73 (hw : Ws κ) : Wd κ (Jvm.Cond.declares ({ cls := "java/lang/String", name := "isLatin1", desc := "()Z" } : Jvm.MethodName)) := hw _ (List.mem_of_getElem? (i := 73) rfl)
theorem w74 (hw : Ws κ) : Wd κ (Jvm.Cond.instanceMethod ({ cls := "java/lang/String", name := "isLatin1", desc := "()Z" } : Jvm.MethodName)) := hw _ (List.mem_of_getElem? (i := 74) rfl)
theorem w75 (hw : Ws κ) : Wd κ (Jvm.Cond.selects "java/lang/String" ({ cls := "java/lang/String", name := "isLatin1", desc := "()Z" } : Jvm.MethodName) ({ cls := "java/lang/String", name := "isLatin1", desc := "()Z" } : Jvm.MethodName)) := hw _ (List.mem_of_getElem? (i := 75) rfl)
theorem w77 (hw : Ws κ) : Wd κ (Jvm.Cond.methodLink "java/lang/String" (499 : Nat) ({ cls := "java/lang/String", name := "checkIndex", desc := "(II)V" } : Jvm.MethodName)) := hw _ (List.mem_of_getElem? (i := 77) rfl)
theorem w78 (hw : Ws κ) : Wd κ (Jvm.Cond.static ({ cls := "java/lang/String", name := "checkIndex", desc := "(II)V" } : Jvm.MethodName)) := hw _ (List.mem_of_getElem? (i := 78) rfl)
theorem w80 (hw : Ws κ) : Wd κ (Jvm.Cond.fieldLink "java/lang/String" (1053 : Nat) "jdk/internal/util/Preconditions" "SIOOBE_FORMATTER" "Ljava/util/function/BiFunction;") := hw _ (List.mem_of_getElem? (i := 80) rfl)
theorem w81 (hw : Ws κ) : Wd κ (Jvm.Cond.initialized "jdk/internal/util/Preconditions") := hw _ (List.mem_of_getElem? (i := 81) rfl)
theorem w82 (hw : Ws κ) : Wd κ (Jvm.Cond.methodLink "java/lang/String" (1059 : Nat) ({ cls := "jdk/internal/util/Preconditions", name := "checkIndex", desc := "(IILjava/util/function/BiFunction;)I" } : Jvm.MethodName)) := hw _ (List.mem_of_getElem? (i := 82) rfl)
theorem w83 (hw : Ws κ) : Wd κ (Jvm.Cond.static ({ cls := "jdk/internal/util/Preconditions", name := "checkIndex", desc := "(IILjava/util/function/BiFunction;)I" } : Jvm.MethodName)) := hw _ (List.mem_of_getElem? (i := 83) rfl)
theorem w85 (hw : Ws κ) : Wd κ (Jvm.Cond.constant "com/example/pedido/pedido/http/FreeText" (19 : Nat) (55296 : Int32)) := hw _ (List.mem_of_getElem? (i := 85) rfl)
theorem w86 (hw : Ws κ) : Wd κ (Jvm.Cond.methodLink "com/example/pedido/pedido/http/FreeText" (21 : Nat) ({ cls := "java/lang/Character", name := "charCount", desc := "(I)I" } : Jvm.MethodName)) := hw _ (List.mem_of_getElem? (i := 86) rfl)
theorem w87 (hw : Ws κ) : Wd κ (Jvm.Cond.static ({ cls := "java/lang/Character", name := "charCount", desc := "(I)I" } : Jvm.MethodName)) := hw _ (List.mem_of_getElem? (i := 87) rfl)
theorem w88 (hw : Ws κ) : Wd κ (Jvm.Cond.initialized "java/lang/Character") := hw _ (List.mem_of_getElem? (i := 88) rfl)
theorem w90 (hw : Ws κ) : Wd κ (Jvm.Cond.constant "java/lang/Character" (73 : Nat) (65536 : Int32)) := hw _ (List.mem_of_getElem? (i := 90) rfl)
theorem w91 (hw : Ws κ) : Wd κ (Jvm.Cond.constant "com/example/pedido/pedido/http/FreeTextIsValidPinLaw" (10 : Nat) (56319 : Int32)) := hw _ (List.mem_of_getElem? (i := 91) rfl)
theorem w92 (hw : Ws κ) : Wd κ (Jvm.Cond.constant "com/example/pedido/pedido/http/FreeTextIsValidPinLaw" (11 : Nat) (57343 : Int32)) := hw _ (List.mem_of_getElem? (i := 92) rfl)
theorem w93 (hw : Ws κ) : Wd κ (Jvm.Cond.methodLink "java/lang/StringUTF16" (119 : Nat) ({ cls := "java/lang/StringUTF16", name := "toBytes", desc := "([CII)[B" } : Jvm.MethodName)) := hw _ (List.mem_of_getElem? (i := 93) rfl)
theorem w94 (hw : Ws κ) : Wd κ (Jvm.Cond.static ({ cls := "java/lang/StringUTF16", name := "toBytes", desc := "([CII)[B" } : Jvm.MethodName)) := hw _ (List.mem_of_getElem? (i := 94) rfl)
theorem w96 (hw : Ws κ) : Wd κ (Jvm.Cond.methodLink "java/lang/StringUTF16" (107 : Nat) ({ cls := "java/lang/StringUTF16", name := "newBytesFor", desc := "(I)[B" } : Jvm.MethodName)) := hw _ (List.mem_of_getElem? (i := 96) rfl)
theorem w97 (hw : Ws κ) : Wd κ (Jvm.Cond.static ({ cls := "java/lang/StringUTF16", name := "newBytesFor", desc := "(I)[B" } : Jvm.MethodName)) := hw _ (List.mem_of_getElem? (i := 97) rfl)
theorem w99 (hw : Ws κ) : Wd κ (Jvm.Cond.methodLink "java/lang/StringUTF16" (11 : Nat) ({ cls := "java/lang/StringUTF16", name := "newBytesLength", desc := "(I)I" } : Jvm.MethodName)) := hw _ (List.mem_of_getElem? (i := 99) rfl)
theorem w100 (hw : Ws κ) : Wd κ (Jvm.Cond.static ({ cls := "java/lang/StringUTF16", name := "newBytesLength", desc := "(I)I" } : Jvm.MethodName)) := hw _ (List.mem_of_getElem? (i := 100) rfl)
theorem w102 (hw : Ws κ) : Wd κ (Jvm.Cond.constant "java/lang/StringUTF16" (20 : Nat) (1073741823 : Int32)) := hw _ (List.mem_of_getElem? (i := 102) rfl)
theorem w103 (hw : Ws κ) : Wd κ (Jvm.Cond.methodLink "java/lang/StringUTF16" (111 : Nat) ({ cls := "java/lang/StringUTF16", name := "putChar", desc := "([BII)V" } : Jvm.MethodName)) := hw _ (List.mem_of_getElem? (i := 103) rfl)
theorem w104 (hw : Ws κ) : Wd κ (Jvm.Cond.static ({ cls := "java/lang/StringUTF16", name := "putChar", desc := "([BII)V" } : Jvm.MethodName)) := hw _ (List.mem_of_getElem? (i := 104) rfl)
theorem w106 (hw : Ws κ) : Wd κ (Jvm.Cond.fieldLink "java/lang/StringUTF16" (44 : Nat) "java/lang/StringUTF16" "$assertionsDisabled" "Z") := hw _ (List.mem_of_getElem? (i := 106) rfl)
theorem w107 (hw : Ws κ) : Wd κ (Jvm.Cond.fieldLink "java/lang/StringUTF16" (59 : Nat) "java/lang/StringUTF16" "HI_BYTE_SHIFT" "I") := hw _ (List.mem_of_getElem? (i := 107) rfl)
theorem w108 (hw : Ws κ) : Wd κ (Jvm.Cond.fieldLink "java/lang/StringUTF16" (63 : Nat) "java/lang/StringUTF16" "LO_BYTE_SHIFT" "I") := hw _ (List.mem_of_getElem? (i := 108) rfl)
theorem w109 (hw : Ws κ) : Wd κ (Jvm.Cond.methodLink "java/lang/StringUTF16" (71 : Nat) ({ cls := "java/lang/StringUTF16", name := "getChar", desc := "([BI)C" } : Jvm.MethodName)) := hw _ (List.mem_of_getElem? (i := 109) rfl)
theorem w110 (hw : Ws κ) : Wd κ (Jvm.Cond.static ({ cls := "java/lang/StringUTF16", name := "getChar", desc := "([BI)C" } : Jvm.MethodName)) := hw _ (List.mem_of_getElem? (i := 110) rfl)
theorem w112 (hw : Ws κ) : Wd κ (Jvm.Cond.methodLink "java/lang/String" (502 : Nat) ({ cls := "java/lang/StringUTF16", name := "codePointAt", desc := "([BII)I" } : Jvm.MethodName)) := hw _ (List.mem_of_getElem? (i := 112) rfl)
theorem w113 (hw : Ws κ) : Wd κ (Jvm.Cond.static ({ cls := "java/lang/StringUTF16", name := "codePointAt", desc := "([BII)I" } : Jvm.MethodName)) := hw _ (List.mem_of_getElem? (i := 113) rfl)
theorem w115 (hw : Ws κ) : Wd κ (Jvm.Cond.methodLink "java/lang/StringUTF16" (88 : Nat) ({ cls := "java/lang/StringUTF16", name := "codePointAt", desc := "([BIIZ)I" } : Jvm.MethodName)) := hw _ (List.mem_of_getElem? (i := 115) rfl)
theorem w116 (hw : Ws κ) : Wd κ (Jvm.Cond.static ({ cls := "java/lang/StringUTF16", name := "codePointAt", desc := "([BIIZ)I" } : Jvm.MethodName)) := hw _ (List.mem_of_getElem? (i := 116) rfl)
theorem w118 (hw : Ws κ) : Wd κ (Jvm.Cond.methodLink "java/lang/StringUTF16" (75 : Nat) ({ cls := "java/lang/Character", name := "isHighSurrogate", desc := "(C)Z" } : Jvm.MethodName)) := hw _ (List.mem_of_getElem? (i := 118) rfl)
theorem w119 (hw : Ws κ) : Wd κ (Jvm.Cond.static ({ cls := "java/lang/Character", name := "isHighSurrogate", desc := "(C)Z" } : Jvm.MethodName)) := hw _ (List.mem_of_getElem? (i := 119) rfl)
theorem w121 (hw : Ws κ) : Wd κ (Jvm.Cond.constant "java/lang/Character" (75 : Nat) (55296 : Int32)) := hw _ (List.mem_of_getElem? (i := 121) rfl)
theorem w122 (hw : Ws κ) : Wd κ (Jvm.Cond.constant "java/lang/Character" (76 : Nat) (56320 : Int32)) := hw _ (List.mem_of_getElem? (i := 122) rfl)
theorem w123 (hw : Ws κ) : Wd κ (Jvm.Cond.constant "com/example/pedido/pedido/http/FreeText" (20 : Nat) (57343 : Int32)) := hw _ (List.mem_of_getElem? (i := 123) rfl)
theorem w124 (hw : Ws κ) : Wd κ (Jvm.Cond.methodLink "java/lang/StringUTF16" (81 : Nat) ({ cls := "java/lang/Character", name := "isLowSurrogate", desc := "(C)Z" } : Jvm.MethodName)) := hw _ (List.mem_of_getElem? (i := 124) rfl)
theorem w125 (hw : Ws κ) : Wd κ (Jvm.Cond.static ({ cls := "java/lang/Character", name := "isLowSurrogate", desc := "(C)Z" } : Jvm.MethodName)) := hw _ (List.mem_of_getElem? (i := 125) rfl)
theorem w127 (hw : Ws κ) : Wd κ (Jvm.Cond.constant "java/lang/Character" (77 : Nat) (57344 : Int32)) := hw _ (List.mem_of_getElem? (i := 127) rfl)
theorem w128 (hw : Ws κ) : Wd κ (Jvm.Cond.methodLink "java/lang/StringUTF16" (84 : Nat) ({ cls := "java/lang/Character", name := "toCodePoint", desc := "(CC)I" } : Jvm.MethodName)) := hw _ (List.mem_of_getElem? (i := 128) rfl)
theorem w129 (hw : Ws κ) : Wd κ (Jvm.Cond.static ({ cls := "java/lang/Character", name := "toCodePoint", desc := "(CC)I" } : Jvm.MethodName)) := hw _ (List.mem_of_getElem? (i := 129) rfl)
theorem w131 (hw : Ws κ) : Wd κ (Jvm.Cond.constant "java/lang/Character" (85 : Nat) (-56613888 : Int32)) := hw _ (List.mem_of_getElem? (i := 131) rfl)
theorem M0 (hw : Ws κ) : Meth κ y0 code maxLocals (some .boolean) := ⟨by decide +kernel, hw _ (List.mem_of_getElem? (i := 0) rfl)⟩
theorem pd0 : parseMethodDescriptor y0.desc = some ⟨[.int, .int, .int, .int, .int], some (.boolean)⟩ := by decide +kernel
theorem M1 (hw : Ws κ) : Meth κ y1 jdk_42_method_152_code 1 (Option.some Jvm.ClassFile.FieldType.byte) := ⟨by decide +kernel, hw _ (List.mem_of_getElem? (i := 41) rfl)⟩
theorem pd1 : parseMethodDescriptor y1.desc = some ⟨[], some (.byte)⟩ := by decide +kernel
theorem M2 (hw : Ws κ) : Meth κ y2 jdk_42_method_54_code 1 (Option.some Jvm.ClassFile.FieldType.int) := ⟨by decide +kernel, hw _ (List.mem_of_getElem? (i := 36) rfl)⟩
theorem pd2 : parseMethodDescriptor y2.desc = some ⟨[], some (.int)⟩ := by decide +kernel
theorem M3 (hw : Ws κ) : Meth κ y3 jdk_42_method_154_code 1 (Option.some Jvm.ClassFile.FieldType.boolean) := ⟨by decide +kernel, hw _ (List.mem_of_getElem? (i := 76) rfl)⟩
theorem pd3 : parseMethodDescriptor y3.desc = some ⟨[], some (.boolean)⟩ := by decide +kernel
theorem M4 (hw : Ws κ) : Meth κ y4 jdk_41_method_11_code 3 (Option.some Jvm.ClassFile.FieldType.int) := ⟨by decide +kernel, hw _ (List.mem_of_getElem? (i := 84) rfl)⟩
theorem pd4 : parseMethodDescriptor y4.desc = some ⟨[.int, .int, .object "java/util/function/BiFunction"], some (.int)⟩ := by decide +kernel
theorem M5 (hw : Ws κ) : Meth κ y5 jdk_42_method_155_code 2 (Option.none : Option Jvm.ClassFile.FieldType) := ⟨by decide +kernel, hw _ (List.mem_of_getElem? (i := 79) rfl)⟩
theorem pd5 : parseMethodDescriptor y5.desc = some ⟨[.int, .int], none⟩ := by decide +kernel
theorem M6 (hw : Ws κ) : Meth κ y6 jdk_52_method_21_code 7 (Option.some Jvm.ClassFile.FieldType.int) := ⟨by decide +kernel, hw _ (List.mem_of_getElem? (i := 63) rfl)⟩
theorem pd6 : parseMethodDescriptor y6.desc = some ⟨[.array (.char), .int, .array (.byte), .int, .int], some (.int)⟩ := by decide +kernel
theorem M7 (hw : Ws κ) : Meth κ y7 jdk_52_method_16_code 6 (Option.some (Jvm.ClassFile.FieldType.array Jvm.ClassFile.FieldType.byte)) := ⟨by decide +kernel, hw _ (List.mem_of_getElem? (i := 60) rfl)⟩
theorem pd7 : parseMethodDescriptor y7.desc = some ⟨[.array (.char), .int, .int], some (.array (.byte))⟩ := by decide +kernel
theorem M8 (hw : Ws κ) : Meth κ y8 jdk_52_method_15_code 2 (Option.some Jvm.ClassFile.FieldType.byte) := ⟨by decide +kernel, hw _ (List.mem_of_getElem? (i := 66) rfl)⟩
theorem pd8 : parseMethodDescriptor y8.desc = some ⟨[.array (.byte), .int], some (.byte)⟩ := by decide +kernel
theorem M9 (hw : Ws κ) : Meth κ y9 jdk_42_method_149_code 6 (Option.none : Option Jvm.ClassFile.FieldType) := ⟨by decide +kernel, hw _ (List.mem_of_getElem? (i := 16) rfl)⟩
theorem pd9 : parseMethodDescriptor y9.desc = some ⟨[.array (.char), .int, .int, .object "java/lang/Void"], none⟩ := by decide +kernel
theorem M10 (hw : Ws κ) : Meth κ y10 jdk_42_method_3_code 2 (Option.none : Option Jvm.ClassFile.FieldType) := ⟨by decide +kernel, hw _ (List.mem_of_getElem? (i := 12) rfl)⟩
theorem pd10 : parseMethodDescriptor y10.desc = some ⟨[.array (.char)], none⟩ := by decide +kernel
theorem M11 (hw : Ws κ) : Meth κ y11 jdk_52_method_3_code 1 (Option.some Jvm.ClassFile.FieldType.int) := ⟨by decide +kernel, hw _ (List.mem_of_getElem? (i := 101) rfl)⟩
theorem pd11 : parseMethodDescriptor y11.desc = some ⟨[.int], some (.int)⟩ := by decide +kernel
theorem M12 (hw : Ws κ) : Meth κ y12 jdk_52_method_2_code 1 (Option.some (Jvm.ClassFile.FieldType.array Jvm.ClassFile.FieldType.byte)) := ⟨by decide +kernel, hw _ (List.mem_of_getElem? (i := 98) rfl)⟩
theorem pd12 : parseMethodDescriptor y12.desc = some ⟨[.int], some (.array (.byte))⟩ := by decide +kernel
theorem M13 (hw : Ws κ) : Meth κ y13 jdk_52_method_4_code 3 (Option.none : Option Jvm.ClassFile.FieldType) := ⟨by decide +kernel, hw _ (List.mem_of_getElem? (i := 105) rfl)⟩
theorem pd13 : parseMethodDescriptor y13.desc = some ⟨[.array (.byte), .int, .int], none⟩ := by decide +kernel
theorem M14 (hw : Ws κ) : Meth κ y14 jdk_52_method_5_code 2 (Option.some Jvm.ClassFile.FieldType.char) := ⟨by decide +kernel, hw _ (List.mem_of_getElem? (i := 111) rfl)⟩
theorem pd14 : parseMethodDescriptor y14.desc = some ⟨[.array (.byte), .int], some (.char)⟩ := by decide +kernel
theorem M15 (hw : Ws κ) : Meth κ y15 jdk_52_method_14_code 5 (Option.some (Jvm.ClassFile.FieldType.array Jvm.ClassFile.FieldType.byte)) := ⟨by decide +kernel, hw _ (List.mem_of_getElem? (i := 95) rfl)⟩
theorem pd15 : parseMethodDescriptor y15.desc = some ⟨[.array (.char), .int, .int], some (.array (.byte))⟩ := by decide +kernel
theorem M16 (hw : Ws κ) : Meth κ y16 method_3_code 1 (Option.some Jvm.ClassFile.FieldType.boolean) := ⟨by decide +kernel, hw _ (List.mem_of_getElem? (i := 51) rfl)⟩
theorem pd16 : parseMethodDescriptor y16.desc = some ⟨[.char], some (.boolean)⟩ := by decide +kernel
theorem M17 (hw : Ws κ) : Meth κ y17 method_4_code 1 (Option.some Jvm.ClassFile.FieldType.boolean) := ⟨by decide +kernel, hw _ (List.mem_of_getElem? (i := 55) rfl)⟩
theorem pd17 : parseMethodDescriptor y17.desc = some ⟨[.char], some (.boolean)⟩ := by decide +kernel
theorem M18 (hw : Ws κ) : Meth κ y18 jdk_89_method_14_code 1 (Option.some Jvm.ClassFile.FieldType.boolean) := ⟨by decide +kernel, hw _ (List.mem_of_getElem? (i := 120) rfl)⟩
theorem pd18 : parseMethodDescriptor y18.desc = some ⟨[.char], some (.boolean)⟩ := by decide +kernel
theorem M19 (hw : Ws κ) : Meth κ y19 jdk_89_method_15_code 1 (Option.some Jvm.ClassFile.FieldType.boolean) := ⟨by decide +kernel, hw _ (List.mem_of_getElem? (i := 126) rfl)⟩
theorem pd19 : parseMethodDescriptor y19.desc = some ⟨[.char], some (.boolean)⟩ := by decide +kernel
theorem M20 (hw : Ws κ) : Meth κ y20 method_2_code 2 (Option.some Jvm.ClassFile.FieldType.char) := ⟨by decide +kernel, hw _ (List.mem_of_getElem? (i := 4) rfl)⟩
theorem pd20 : parseMethodDescriptor y20.desc = some ⟨[.int], some (.char)⟩ := by decide +kernel
theorem M21 (hw : Ws κ) : Meth κ y21 method_5_code 4 (Option.some Jvm.ClassFile.FieldType.char) := ⟨by decide +kernel, hw _ (List.mem_of_getElem? (i := 48) rfl)⟩
theorem pd21 : parseMethodDescriptor y21.desc = some ⟨[.char, .char, .char, .int], some (.char)⟩ := by decide +kernel
theorem M22 (hw : Ws κ) : Meth κ y22 method_6_code 6 (Option.some Jvm.ClassFile.FieldType.int) := ⟨by decide +kernel, hw _ (List.mem_of_getElem? (i := 45) rfl)⟩
theorem pd22 : parseMethodDescriptor y22.desc = some ⟨[.char, .char, .char, .int, .int], some (.int)⟩ := by decide +kernel
theorem M23 (hw : Ws κ) : Meth κ y23 jdk_89_method_18_code 1 (Option.some Jvm.ClassFile.FieldType.int) := ⟨by decide +kernel, hw _ (List.mem_of_getElem? (i := 89) rfl)⟩
theorem pd23 : parseMethodDescriptor y23.desc = some ⟨[.int], some (.int)⟩ := by decide +kernel
theorem M24 (hw : Ws κ) : Meth κ y24 jdk_89_method_19_code 2 (Option.some Jvm.ClassFile.FieldType.int) := ⟨by decide +kernel, hw _ (List.mem_of_getElem? (i := 130) rfl)⟩
theorem pd24 : parseMethodDescriptor y24.desc = some ⟨[.char, .char], some (.int)⟩ := by decide +kernel
theorem M25 (hw : Ws κ) : Meth κ y25 jdk_52_method_7_code 6 (Option.some Jvm.ClassFile.FieldType.int) := ⟨by decide +kernel, hw _ (List.mem_of_getElem? (i := 117) rfl)⟩
theorem pd25 : parseMethodDescriptor y25.desc = some ⟨[.array (.byte), .int, .int, .boolean], some (.int)⟩ := by decide +kernel
theorem M26 (hw : Ws κ) : Meth κ y26 jdk_52_method_8_code 3 (Option.some Jvm.ClassFile.FieldType.int) := ⟨by decide +kernel, hw _ (List.mem_of_getElem? (i := 114) rfl)⟩
theorem pd26 : parseMethodDescriptor y26.desc = some ⟨[.array (.byte), .int, .int], some (.int)⟩ := by decide +kernel
theorem M27 (hw : Ws κ) : Meth κ y27 jdk_42_method_57_code 3 (Option.some Jvm.ClassFile.FieldType.int) := ⟨by decide +kernel, hw _ (List.mem_of_getElem? (i := 71) rfl)⟩
theorem pd27 : parseMethodDescriptor y27.desc = some ⟨[.int], some (.int)⟩ := by decide +kernel
theorem M28 (hw : Ws κ) : Meth κ y28 prog_19_method_2_code 5 (Option.some Jvm.ClassFile.FieldType.boolean) := ⟨by decide +kernel, hw _ (List.mem_of_getElem? (i := 31) rfl)⟩
theorem pd28 : parseMethodDescriptor y28.desc = some ⟨[.object "java/lang/String", .int], some (.boolean)⟩ := by decide +kernel
theorem d0_118 : decode code 118 = .ok (.ifCond .eq 46, 3) := by decide +kernel
theorem d0_12 : decode code 12 = .ok (.invokestatic 25, 3) := by decide +kernel
theorem d0_125 : decode code 125 = .ok (.if_icmp .ge 39, 3) := by decide +kernel
theorem d0_138 : decode code 138 = .ok (.invokestatic 29, 3) := by decide +kernel
theorem d0_145 : decode code 145 = .ok (.ifCond .ne 9, 3) := by decide +kernel
theorem d0_166 : decode code 166 = .ok (.ifCond .eq 46, 3) := by decide +kernel
theorem d0_173 : decode code 173 = .ok (.if_icmp .ge 39, 3) := by decide +kernel
theorem d0_18 : decode code 18 = .ok (.invokestatic 25, 3) := by decide +kernel
theorem d0_186 : decode code 186 = .ok (.invokestatic 29, 3) := by decide +kernel
theorem d0_193 : decode code 193 = .ok (.ifCond .ne 9, 3) := by decide +kernel
theorem d0_214 : decode code 214 = .ok (.ifCond .eq 20, 3) := by decide +kernel
theorem d0_220 : decode code 220 = .ok (.if_icmp .lt 14, 3) := by decide +kernel
theorem d0_227 : decode code 227 = .ok (.if_icmp .gt 7, 3) := by decide +kernel
theorem d0_237 : decode code 237 = .ok (.new 33, 3) := by decide +kernel
theorem d0_243 : decode code 243 = .ok (.invokespecial 35, 3) := by decide +kernel
theorem d0_248 : decode code 248 = .ok (.invokestatic 38, 3) := by decide +kernel
theorem d0_25 : decode code 25 = .ok (.newarray .char, 2) := by decide +kernel
theorem d0_253 : decode code 253 = .ok (.if_icmp .ne 7, 3) := by decide +kernel
theorem d0_261 : decode code 261 = .ok (.ireturn, 1) := by decide +kernel
theorem d0_31 : decode code 31 = .ok (.ifCond .le 9, 3) := by decide +kernel
theorem d0_39 : decode code 39 = .ok (.castore, 1) := by decide +kernel
theorem d0_43 : decode code 43 = .ok (.if_icmp .le 9, 3) := by decide +kernel
theorem d0_51 : decode code 51 = .ok (.castore, 1) := by decide +kernel
theorem d0_55 : decode code 55 = .ok (.if_icmp .le 9, 3) := by decide +kernel
theorem d0_6 : decode code 6 = .ok (.invokestatic 25, 3) := by decide +kernel
theorem d0_63 : decode code 63 = .ok (.castore, 1) := by decide +kernel
theorem d0_77 : decode code 77 = .ok (.if_icmp .ge 39, 3) := by decide +kernel
theorem d0_90 : decode code 90 = .ok (.invokestatic 29, 3) := by decide +kernel
theorem d0_97 : decode code 97 = .ok (.ifCond .ne 9, 3) := by decide +kernel
theorem d10_4 : decode jdk_42_method_3_code 4 = .ok (.arraylength, 1) := by decide +kernel
theorem d10_6 : decode jdk_42_method_3_code 6 = .ok (.invokespecial 27, 3) := by decide +kernel
theorem d10_9 : decode jdk_42_method_3_code 9 = .ok (.return_, 1) := by decide +kernel
theorem d11_1 : decode jdk_52_method_3_code 1 = .ok (.ifCond .ge 11, 3) := by decide +kernel
theorem d11_13 : decode jdk_52_method_3_code 13 = .ok (.ldc 20, 2) := by decide +kernel
theorem d11_15 : decode jdk_52_method_3_code 15 = .ok (.if_icmp .lt 40, 3) := by decide +kernel
theorem d11_58 : decode jdk_52_method_3_code 58 = .ok (.ireturn, 1) := by decide +kernel
theorem d12_1 : decode jdk_52_method_2_code 1 = .ok (.invokestatic 11, 3) := by decide +kernel
theorem d12_4 : decode jdk_52_method_2_code 4 = .ok (.newarray .byte, 2) := by decide +kernel
theorem d12_6 : decode jdk_52_method_2_code 6 = .ok (.areturn, 1) := by decide +kernel
theorem d13_0 : decode jdk_52_method_4_code 0 = .ok (.getstatic 44, 3) := by decide +kernel
theorem d13_3 : decode jdk_52_method_4_code 3 = .ok (.ifCond .ne 25, 3) := by decide +kernel
theorem d13_38 : decode jdk_52_method_4_code 38 = .ok (.getstatic 59, 3) := by decide +kernel
theorem d13_43 : decode jdk_52_method_4_code 43 = .ok (.bastore, 1) := by decide +kernel
theorem d13_47 : decode jdk_52_method_4_code 47 = .ok (.getstatic 63, 3) := by decide +kernel
theorem d13_52 : decode jdk_52_method_4_code 52 = .ok (.bastore, 1) := by decide +kernel
theorem d13_53 : decode jdk_52_method_4_code 53 = .ok (.return_, 1) := by decide +kernel
theorem d14_0 : decode jdk_52_method_5_code 0 = .ok (.getstatic 44, 3) := by decide +kernel
theorem d14_3 : decode jdk_52_method_5_code 3 = .ok (.ifCond .ne 25, 3) := by decide +kernel
theorem d14_37 : decode jdk_52_method_5_code 37 = .ok (.baload, 1) := by decide +kernel
theorem d14_42 : decode jdk_52_method_5_code 42 = .ok (.getstatic 59, 3) := by decide +kernel
theorem d14_48 : decode jdk_52_method_5_code 48 = .ok (.baload, 1) := by decide +kernel
theorem d14_53 : decode jdk_52_method_5_code 53 = .ok (.getstatic 63, 3) := by decide +kernel
theorem d14_59 : decode jdk_52_method_5_code 59 = .ok (.ireturn, 1) := by decide +kernel
theorem d15_1 : decode jdk_52_method_14_code 1 = .ok (.invokestatic 107, 3) := by decide +kernel
theorem d15_11 : decode jdk_52_method_14_code 11 = .ok (.if_icmp .ge 21, 3) := by decide +kernel
theorem d15_19 : decode jdk_52_method_14_code 19 = .ok (.caload, 1) := by decide +kernel
theorem d15_20 : decode jdk_52_method_14_code 20 = .ok (.invokestatic 111, 3) := by decide +kernel
theorem d15_33 : decode jdk_52_method_14_code 33 = .ok (.areturn, 1) := by decide +kernel
theorem d16_1 : decode method_3_code 1 = .ok (.ldc 7, 2) := by decide +kernel
theorem d16_17 : decode method_3_code 17 = .ok (.ireturn, 1) := by decide +kernel
theorem d16_3 : decode method_3_code 3 = .ok (.if_icmp .lt 13, 3) := by decide +kernel
theorem d16_7 : decode method_3_code 7 = .ok (.ldc 10, 2) := by decide +kernel
theorem d16_9 : decode method_3_code 9 = .ok (.if_icmp .gt 7, 3) := by decide +kernel
theorem d17_1 : decode method_4_code 1 = .ok (.ldc 8, 2) := by decide +kernel
theorem d17_17 : decode method_4_code 17 = .ok (.ireturn, 1) := by decide +kernel
theorem d17_3 : decode method_4_code 3 = .ok (.if_icmp .lt 13, 3) := by decide +kernel
theorem d17_7 : decode method_4_code 7 = .ok (.ldc 11, 2) := by decide +kernel
theorem d17_9 : decode method_4_code 9 = .ok (.if_icmp .gt 7, 3) := by decide +kernel
theorem d18_1 : decode jdk_89_method_14_code 1 = .ok (.ldc 75, 2) := by decide +kernel
theorem d18_17 : decode jdk_89_method_14_code 17 = .ok (.ireturn, 1) := by decide +kernel
theorem d18_3 : decode jdk_89_method_14_code 3 = .ok (.if_icmp .lt 13, 3) := by decide +kernel
theorem d18_7 : decode jdk_89_method_14_code 7 = .ok (.ldc 76, 2) := by decide +kernel
theorem d18_9 : decode jdk_89_method_14_code 9 = .ok (.if_icmp .ge 7, 3) := by decide +kernel
theorem d19_1 : decode jdk_89_method_15_code 1 = .ok (.ldc 76, 2) := by decide +kernel
theorem d19_17 : decode jdk_89_method_15_code 17 = .ok (.ireturn, 1) := by decide +kernel
theorem d19_3 : decode jdk_89_method_15_code 3 = .ok (.if_icmp .lt 13, 3) := by decide +kernel
theorem d19_7 : decode jdk_89_method_15_code 7 = .ok (.ldc 77, 2) := by decide +kernel
theorem d19_9 : decode jdk_89_method_15_code 9 = .ok (.if_icmp .ge 7, 3) := by decide +kernel
theorem d1_0 : decode jdk_42_method_152_code 0 = .ok (.getstatic 38, 3) := by decide +kernel
theorem d1_14 : decode jdk_42_method_152_code 14 = .ok (.ireturn, 1) := by decide +kernel
theorem d1_3 : decode jdk_42_method_152_code 3 = .ok (.ifCond .eq 10, 3) := by decide +kernel
theorem d1_7 : decode jdk_42_method_152_code 7 = .ok (.getfield 15, 3) := by decide +kernel
theorem d20_12 : decode method_2_code 12 = .ok (.ldc 7, 2) := by decide +kernel
theorem d20_21 : decode method_2_code 21 = .ok (.ireturn, 1) := by decide +kernel
theorem d20_24 : decode method_2_code 24 = .ok (.if_icmp .ne 13, 3) := by decide +kernel
theorem d20_27 : decode method_2_code 27 = .ok (.ldc 8, 2) := by decide +kernel
theorem d20_36 : decode method_2_code 36 = .ok (.ireturn, 1) := by decide +kernel
theorem d20_39 : decode method_2_code 39 = .ok (.if_icmp .ne 10, 3) := by decide +kernel
theorem d20_48 : decode method_2_code 48 = .ok (.ireturn, 1) := by decide +kernel
theorem d20_50 : decode method_2_code 50 = .ok (.ldc 9, 2) := by decide +kernel
theorem d20_54 : decode method_2_code 54 = .ok (.ireturn, 1) := by decide +kernel
theorem d20_9 : decode method_2_code 9 = .ok (.if_icmp .ne 13, 3) := by decide +kernel
theorem d21_1 : decode method_5_code 1 = .ok (.ifCond .ne 5, 3) := by decide +kernel
theorem d21_12 : decode method_5_code 12 = .ok (.ireturn, 1) := by decide +kernel
theorem d21_14 : decode method_5_code 14 = .ok (.ireturn, 1) := by decide +kernel
theorem d21_5 : decode method_5_code 5 = .ok (.ireturn, 1) := by decide +kernel
theorem d21_8 : decode method_5_code 8 = .ok (.if_icmp .ne 5, 3) := by decide +kernel
theorem d22_12 : decode method_6_code 12 = .ok (.invokestatic 18, 3) := by decide +kernel
theorem d22_15 : decode method_6_code 15 = .ok (.ifCond .eq 29, 3) := by decide +kernel
theorem d22_23 : decode method_6_code 23 = .ok (.if_icmp .ge 21, 3) := by decide +kernel
theorem d22_33 : decode method_6_code 33 = .ok (.invokestatic 12, 3) := by decide +kernel
theorem d22_36 : decode method_6_code 36 = .ok (.invokestatic 22, 3) := by decide +kernel
theorem d22_39 : decode method_6_code 39 = .ok (.ifCond .eq 5, 3) := by decide +kernel
theorem d22_43 : decode method_6_code 43 = .ok (.ireturn, 1) := by decide +kernel
theorem d22_46 : decode method_6_code 46 = .ok (.ifCond .eq 19, 3) := by decide +kernel
theorem d22_5 : decode method_6_code 5 = .ok (.invokestatic 12, 3) := by decide +kernel
theorem d22_51 : decode method_6_code 51 = .ok (.invokestatic 18, 3) := by decide +kernel
theorem d22_54 : decode method_6_code 54 = .ok (.ifCond .ne 11, 3) := by decide +kernel
theorem d22_59 : decode method_6_code 59 = .ok (.invokestatic 22, 3) := by decide +kernel
theorem d22_62 : decode method_6_code 62 = .ok (.ifCond .eq 5, 3) := by decide +kernel
theorem d22_66 : decode method_6_code 66 = .ok (.ireturn, 1) := by decide +kernel
theorem d22_68 : decode method_6_code 68 = .ok (.ireturn, 1) := by decide +kernel
theorem d23_1 : decode jdk_89_method_18_code 1 = .ok (.ldc 73, 2) := by decide +kernel
theorem d23_11 : decode jdk_89_method_18_code 11 = .ok (.ireturn, 1) := by decide +kernel
theorem d23_3 : decode jdk_89_method_18_code 3 = .ok (.if_icmp .lt 7, 3) := by decide +kernel
theorem d24_6 : decode jdk_89_method_19_code 6 = .ok (.ldc 85, 2) := by decide +kernel
theorem d24_9 : decode jdk_89_method_19_code 9 = .ok (.ireturn, 1) := by decide +kernel
theorem d25_0 : decode jdk_52_method_7_code 0 = .ok (.getstatic 44, 3) := by decide +kernel
theorem d25_20 : decode jdk_52_method_7_code 20 = .ok (.ifCond .eq 8, 3) := by decide +kernel
theorem d25_3 : decode jdk_52_method_7_code 3 = .ok (.ifCond .ne 16, 3) := by decide +kernel
theorem d25_30 : decode jdk_52_method_7_code 30 = .ok (.invokestatic 71, 3) := by decide +kernel
theorem d25_37 : decode jdk_52_method_7_code 37 = .ok (.invokestatic 75, 3) := by decide +kernel
theorem d25_40 : decode jdk_52_method_7_code 40 = .ok (.ifCond .eq 43, 3) := by decide +kernel
theorem d25_48 : decode jdk_52_method_7_code 48 = .ok (.if_icmp .ge 35, 3) := by decide +kernel
theorem d25_52 : decode jdk_52_method_7_code 52 = .ok (.ifCond .eq 8, 3) := by decide +kernel
theorem d25_62 : decode jdk_52_method_7_code 62 = .ok (.invokestatic 71, 3) := by decide +kernel
theorem d25_69 : decode jdk_52_method_7_code 69 = .ok (.invokestatic 81, 3) := by decide +kernel
theorem d25_72 : decode jdk_52_method_7_code 72 = .ok (.ifCond .eq 11, 3) := by decide +kernel
theorem d25_79 : decode jdk_52_method_7_code 79 = .ok (.invokestatic 84, 3) := by decide +kernel
theorem d25_82 : decode jdk_52_method_7_code 82 = .ok (.ireturn, 1) := by decide +kernel
theorem d25_85 : decode jdk_52_method_7_code 85 = .ok (.ireturn, 1) := by decide +kernel
theorem d26_4 : decode jdk_52_method_8_code 4 = .ok (.invokestatic 88, 3) := by decide +kernel
theorem d26_7 : decode jdk_52_method_8_code 7 = .ok (.ireturn, 1) := by decide +kernel
theorem d27_1 : decode jdk_42_method_57_code 1 = .ok (.invokevirtual 492, 3) := by decide +kernel
theorem d27_12 : decode jdk_42_method_57_code 12 = .ok (.arraylength, 1) := by decide +kernel
theorem d27_13 : decode jdk_42_method_57_code 13 = .ok (.invokestatic 499, 3) := by decide +kernel
theorem d27_17 : decode jdk_42_method_57_code 17 = .ok (.getfield 9, 3) := by decide +kernel
theorem d27_21 : decode jdk_42_method_57_code 21 = .ok (.baload, 1) := by decide +kernel
theorem d27_26 : decode jdk_42_method_57_code 26 = .ok (.ireturn, 1) := by decide +kernel
theorem d27_28 : decode jdk_42_method_57_code 28 = .ok (.getfield 9, 3) := by decide +kernel
theorem d27_31 : decode jdk_42_method_57_code 31 = .ok (.arraylength, 1) := by decide +kernel
theorem d27_37 : decode jdk_42_method_57_code 37 = .ok (.invokestatic 499, 3) := by decide +kernel
theorem d27_4 : decode jdk_42_method_57_code 4 = .ok (.ifCond .eq 23, 3) := by decide +kernel
theorem d27_41 : decode jdk_42_method_57_code 41 = .ok (.getfield 9, 3) := by decide +kernel
theorem d27_46 : decode jdk_42_method_57_code 46 = .ok (.invokestatic 502, 3) := by decide +kernel
theorem d27_49 : decode jdk_42_method_57_code 49 = .ok (.ireturn, 1) := by decide +kernel
theorem d27_9 : decode jdk_42_method_57_code 9 = .ok (.getfield 9, 3) := by decide +kernel
theorem d28_14 : decode prog_19_method_2_code 14 = .ok (.invokevirtual 13, 3) := by decide +kernel
theorem d28_21 : decode prog_19_method_2_code 21 = .ok (.ifCond .eq 17, 3) := by decide +kernel
theorem d28_26 : decode prog_19_method_2_code 26 = .ok (.ldc 19, 2) := by decide +kernel
theorem d28_28 : decode prog_19_method_2_code 28 = .ok (.if_icmp .lt 12, 3) := by decide +kernel
theorem d28_33 : decode prog_19_method_2_code 33 = .ok (.ldc 20, 2) := by decide +kernel
theorem d28_35 : decode prog_19_method_2_code 35 = .ok (.if_icmp .gt 5, 3) := by decide +kernel
theorem d28_39 : decode prog_19_method_2_code 39 = .ok (.ireturn, 1) := by decide +kernel
theorem d28_45 : decode prog_19_method_2_code 45 = .ok (.if_icmp .le 5, 3) := by decide +kernel
theorem d28_49 : decode prog_19_method_2_code 49 = .ok (.ireturn, 1) := by decide +kernel
theorem d28_53 : decode prog_19_method_2_code 53 = .ok (.invokestatic 21, 3) := by decide +kernel
theorem d28_6 : decode prog_19_method_2_code 6 = .ok (.invokevirtual 7, 3) := by decide +kernel
theorem d28_62 : decode prog_19_method_2_code 62 = .ok (.ifCond .le 7, 3) := by decide +kernel
theorem d28_70 : decode prog_19_method_2_code 70 = .ok (.ireturn, 1) := by decide +kernel
theorem d28_9 : decode prog_19_method_2_code 9 = .ok (.if_icmp .ge 52, 3) := by decide +kernel
theorem d2_1 : decode jdk_42_method_54_code 1 = .ok (.getfield 9, 3) := by decide +kernel
theorem d2_10 : decode jdk_42_method_54_code 10 = .ok (.ireturn, 1) := by decide +kernel
theorem d2_4 : decode jdk_42_method_54_code 4 = .ok (.arraylength, 1) := by decide +kernel
theorem d2_6 : decode jdk_42_method_54_code 6 = .ok (.invokevirtual 335, 3) := by decide +kernel
theorem d3_0 : decode jdk_42_method_154_code 0 = .ok (.getstatic 38, 3) := by decide +kernel
theorem d3_10 : decode jdk_42_method_154_code 10 = .ok (.ifCond .ne 7, 3) := by decide +kernel
theorem d3_18 : decode jdk_42_method_154_code 18 = .ok (.ireturn, 1) := by decide +kernel
theorem d3_3 : decode jdk_42_method_154_code 3 = .ok (.ifCond .eq 14, 3) := by decide +kernel
theorem d3_7 : decode jdk_42_method_154_code 7 = .ok (.getfield 15, 3) := by decide +kernel
theorem d4_1 : decode jdk_41_method_11_code 1 = .ok (.ifCond .lt 8, 3) := by decide +kernel
theorem d4_17 : decode jdk_41_method_11_code 17 = .ok (.ireturn, 1) := by decide +kernel
theorem d4_6 : decode jdk_41_method_11_code 6 = .ok (.if_icmp .lt 10, 3) := by decide +kernel
theorem d5_2 : decode jdk_42_method_155_code 2 = .ok (.getstatic 1053, 3) := by decide +kernel
theorem d5_5 : decode jdk_42_method_155_code 5 = .ok (.invokestatic 1059, 3) := by decide +kernel
theorem d5_9 : decode jdk_42_method_155_code 9 = .ok (.return_, 1) := by decide +kernel
theorem d6_12 : decode jdk_52_method_21_code 12 = .ok (.caload, 1) := by decide +kernel
theorem d6_20 : decode jdk_52_method_21_code 20 = .ok (.if_icmp .le 6, 3) := by decide +kernel
theorem d6_25 : decode jdk_52_method_21_code 25 = .ok (.ireturn, 1) := by decide +kernel
theorem d6_31 : decode jdk_52_method_21_code 31 = .ok (.bastore, 1) := by decide +kernel
theorem d6_46 : decode jdk_52_method_21_code 46 = .ok (.ireturn, 1) := by decide +kernel
theorem d6_7 : decode jdk_52_method_21_code 7 = .ok (.if_icmp .ge 37, 3) := by decide +kernel
theorem d7_1 : decode jdk_52_method_16_code 1 = .ok (.newarray .byte, 2) := by decide +kernel
theorem d7_17 : decode jdk_52_method_16_code 17 = .ok (.if_icmp .eq 40, 3) := by decide +kernel
theorem d7_23 : decode jdk_52_method_16_code 23 = .ok (.invokestatic 119, 3) := by decide +kernel
theorem d7_32 : decode jdk_52_method_16_code 32 = .ok (.invokestatic 71, 3) := by decide +kernel
theorem d7_38 : decode jdk_52_method_16_code 38 = .ok (.if_icmp .gt 16, 3) := by decide +kernel
theorem d7_56 : decode jdk_52_method_16_code 56 = .ok (.areturn, 1) := by decide +kernel
theorem d7_58 : decode jdk_52_method_16_code 58 = .ok (.areturn, 1) := by decide +kernel
theorem d7_9 : decode jdk_52_method_16_code 9 = .ok (.invokestatic 115, 3) := by decide +kernel
theorem d8_2 : decode jdk_52_method_15_code 2 = .ok (.arraylength, 1) := by decide +kernel
theorem d8_8 : decode jdk_52_method_15_code 8 = .ok (.ireturn, 1) := by decide +kernel
theorem d9_1 : decode jdk_42_method_149_code 1 = .ok (.invokespecial 1, 3) := by decide +kernel
theorem d9_11 : decode jdk_42_method_149_code 11 = .ok (.getfield 9, 3) := by decide +kernel
theorem d9_14 : decode jdk_42_method_149_code 14 = .ok (.putfield 9, 3) := by decide +kernel
theorem d9_18 : decode jdk_42_method_149_code 18 = .ok (.ldc 7, 2) := by decide +kernel
theorem d9_20 : decode jdk_42_method_149_code 20 = .ok (.getfield 15, 3) := by decide +kernel
theorem d9_23 : decode jdk_42_method_149_code 23 = .ok (.putfield 15, 3) := by decide +kernel
theorem d9_26 : decode jdk_42_method_149_code 26 = .ok (.return_, 1) := by decide +kernel
theorem d9_27 : decode jdk_42_method_149_code 27 = .ok (.getstatic 38, 3) := by decide +kernel
theorem d9_30 : decode jdk_42_method_149_code 30 = .ok (.ifCond .eq 28, 3) := by decide +kernel
theorem d9_36 : decode jdk_42_method_149_code 36 = .ok (.invokestatic 177, 3) := by decide +kernel
theorem d9_45 : decode jdk_42_method_149_code 45 = .ok (.invokestatic 47, 3) := by decide +kernel
theorem d9_48 : decode jdk_42_method_149_code 48 = .ok (.putfield 15, 3) := by decide +kernel
theorem d9_5 : decode jdk_42_method_149_code 5 = .ok (.ifCond .ne 22, 3) := by decide +kernel
theorem d9_54 : decode jdk_42_method_149_code 54 = .ok (.putfield 9, 3) := by decide +kernel
theorem d9_57 : decode jdk_42_method_149_code 57 = .ok (.return_, 1) := by decide +kernel
theorem d9_9 : decode jdk_42_method_149_code 9 = .ok (.ldc 7, 2) := by decide +kernel
end Words
theorem str_W {κ : Cx} (hw : Ws κ) : StrW κ := by
  intro a ha
  simp only [Bundle.stringAtoms, Bundle.sN, List.mem_cons, List.not_mem_nil, or_false] at ha
  rcases ha with rfl | rfl | rfl | rfl | rfl | rfl | rfl
  · exact (w9 hw)
  · exact (w8 hw)
  · exact (w21 hw)
  · exact (w22 hw)
  · exact (w23 hw)
  · exact (w24 hw)
  · exact (w25 hw)
theorem cls_Str {κ : Cx} (hw : Ws κ) : Cls κ "java/lang/String" [("java/lang/String", "value", "[B", .null), ("java/lang/String", "coder", "B", .int 0)] := by
  have h0 : Laid (kZ κ) (ka κ) "java/lang/String" "java/lang/String" "value" "[B" := (Or.inr (w22 hw))
  have h1 : Laid (kZ κ) (ka κ) "java/lang/String" "java/lang/String" "coder" "B" := (Or.inr (w23 hw))
  have n0_1 := slot_ne h0 h1 (by decide) (t := .array (.byte)) (t' := .byte) (by decide) (by decide)
  refine ⟨fun f hf => ?_, by simpa [fslot] using n0_1⟩
  simp only [List.mem_cons, List.not_mem_nil, or_false] at hf
  rcases hf with rfl | rfl
  · exact ⟨h0, .array (.byte), by decide, rfl⟩
  · exact ⟨h1, .byte, by decide, rfl⟩
theorem c_coder {κ : Cx} (C : Ok κ) (hw : Ws κ) (hs : StrS κ) {a b : Addr} {yc : MethodName} {pcc : Nat} {Lc : List Slot} {Sc : List Value} {F : List Frame} {l : List Chunk} {k n : Nat} (Cr : Caller κ yc pcc 3) (ho : strO a b 0 ∈ l) (K : WP κ yc (pcc + 3) Lc (.int 0 :: Sc) F (l) k n) :
    WP κ y1 0 [.val (.ref a)] [] (fr κ yc pcc Lc Sc :: F) (l) k n := by
  obtain ⟨⟨cz, hcs, scs⟩, -⟩ := hs
  refine wp_getstatic C (M1 hw) d1_0 (w42 hw) (Or.inl rfl) scs ?_
  refine wp_iff C (M1 hw) d1_3 (XT.i0_eq_f hcs) ?_
  refine wp_seg C (M1 hw) [(.aload_n 0, 1)] (by decide +kernel) (pc' := 7) (L' := [.val (.ref a)]) (S' := [.ref a]) rfl ?_
  refine wp_getfield C (M1 hw) d1_7 (w27 hw) (Or.inl rfl) (a := a) (mu := false) (Cl := "java/lang/String") (fs := [("java/lang/String", "value", "[B", .ref b), ("java/lang/String", "coder", "B", .int 0)]) ho (List.mem_of_getElem? (i := 1) rfl) ?_
  refine wp_seg C (M1 hw) [(.goto 4, 3)] (by decide +kernel) (pc' := 14) (L' := [.val (.ref a)]) (S' := [.int 0]) rfl ?_
  exact wp_iret C (M1 hw) d1_14 rfl (t := .byte) (by decide) rfl Cr K
theorem c_len {κ : Cx} (C : Ok κ) (hw : Ws κ) (hs : StrS κ) {a : Addr} {us : List UInt8} {yc : MethodName} {pcc : Nat} {Lc : List Slot} {Sc : List Value} {F : List Frame} {l : List Chunk} {k n : Nat} (Cr : Caller κ yc pcc 3) (hR : Rm κ (fr κ yc pcc Lc Sc :: F) 2 25) (st : Str l a us) (K : WP κ yc (pcc + 3) Lc (.int (Int32.ofNat us.length) :: Sc) F (l) k n) :
    WP κ y2 0 [.val (.ref a)] [] (fr κ yc pcc Lc Sc :: F) (l) k n := by
  obtain ⟨b, ho, hb⟩ := st
  refine wp_seg C (M2 hw) [(.aload_n 0, 1)] (by decide +kernel) (pc' := 1) (L' := [.val (.ref a)]) (S' := [.ref a]) rfl ?_
  refine wp_getfield C (M2 hw) d2_1 (w26 hw) (Or.inl rfl) (a := a) (mu := false) (Cl := "java/lang/String") (fs := [("java/lang/String", "value", "[B", .ref b), ("java/lang/String", "coder", "B", .int 0)]) ho (List.mem_of_getElem? (i := 0) rfl) ?_
  refine wp_arraylength C (M2 hw) d2_4 (a := b) hb (z := (Int32.ofNat us.length)) (by simp) ?_
  refine wp_seg C (M2 hw) [(.aload_n 0, 1)] (by decide +kernel) (pc' := 6) (L' := [.val (.ref a)]) (S' := [.ref a, .int (Int32.ofNat us.length)]) rfl ?_
  refine wp_invokevirtual C (M2 hw) d2_6 (M1 hw) (Cl := "java/lang/String") (w37 hw) (w38 hw) (w40 hw) (w39 hw) (Or.inl ⟨_, (w40 hw)⟩) (by decide) (b := a) ho (S' := [.int (Int32.ofNat us.length)]) [] (lenOf pd1 rfl) rfl (L' := [.val (.ref a)]) rfl rfl (hR.push (d' := 1) (w' := 12) (Nat.le_of_ble_eq_true rfl) (Nat.le_of_ble_eq_true rfl)) ?_
  refine c_coder C hw hs (Meth.caller (M2 hw) d2_6) ho ?_
  refine wp_seg C (M2 hw) [(.ishr, 1)] (by decide +kernel) (pc' := 10) (L' := [.val (.ref a)]) (S' := [.int ((Int32.ofNat us.length) >>> ((0 : Int32) &&& 31))]) rfl ?_
  rw [shr0]
  exact wp_iret C (M2 hw) d2_10 rfl (t := .int) (by decide) rfl Cr K
theorem c_isl {κ : Cx} (C : Ok κ) (hw : Ws κ) (hs : StrS κ) {a b : Addr} {yc : MethodName} {pcc : Nat} {Lc : List Slot} {Sc : List Value} {F : List Frame} {l : List Chunk} {k n : Nat} (Cr : Caller κ yc pcc 3) (ho : strO a b 0 ∈ l) (K : WP κ yc (pcc + 3) Lc (.int 1 :: Sc) F (l) k n) :
    WP κ y3 0 [.val (.ref a)] [] (fr κ yc pcc Lc Sc :: F) (l) k n := by
  obtain ⟨⟨cz, hcs, scs⟩, -⟩ := hs
  refine wp_getstatic C (M3 hw) d3_0 (w42 hw) (Or.inl rfl) scs ?_
  refine wp_iff C (M3 hw) d3_3 (XT.i0_eq_f hcs) ?_
  refine wp_seg C (M3 hw) [(.aload_n 0, 1)] (by decide +kernel) (pc' := 7) (L' := [.val (.ref a)]) (S' := [.ref a]) rfl ?_
  refine wp_getfield C (M3 hw) d3_7 (w27 hw) (Or.inl rfl) (a := a) (mu := false) (Cl := "java/lang/String") (fs := [("java/lang/String", "value", "[B", .ref b), ("java/lang/String", "coder", "B", .int 0)]) ho (List.mem_of_getElem? (i := 1) rfl) ?_
  refine wp_iff C (M3 hw) d3_10 (XT.i0_ne_f (by decide)) ?_
  refine wp_seg C (M3 hw) [(.iconst 1, 1), (.goto 4, 3)] (by decide +kernel) (pc' := 18) (L' := [.val (.ref a)]) (S' := [.int 1]) rfl ?_
  exact wp_iret C (M3 hw) d3_18 rfl (t := .boolean) (by decide) rfl Cr K
theorem c_pci {κ : Cx} (C : Ok κ) (hw : Ws κ) {i m : Int32} {fv : Value} (hfv : fv.isRef = true) (h0 : ¬ i < 0) (h1 : i < m) {yc : MethodName} {pcc : Nat} {Lc : List Slot} {Sc : List Value} {F : List Frame} {l : List Chunk} {k n : Nat} (Cr : Caller κ yc pcc 3)  (K : WP κ yc (pcc + 3) Lc (.int i :: Sc) F (l) k n) :
    WP κ y4 0 [.val (.int i), .val (.int m), .val fv] [] (fr κ yc pcc Lc Sc :: F) (l) k n := by
  rcases ref_cases hfv with rfl | ⟨r, rfl⟩
  · refine wp_seg C (M4 hw) [(.iload_n 0, 1)] (by decide +kernel) (pc' := 1) (L' := [.val (.int i), .val (.int m), .val (.null)]) (S' := [.int i]) rfl ?_
    refine wp_iff C (M4 hw) d4_1 (XT.i0_lt_f h0) ?_
    refine wp_seg C (M4 hw) [(.iload_n 0, 1), (.iload_n 1, 1)] (by decide +kernel) (pc' := 6) (L' := [.val (.int i), .val (.int m), .val (.null)]) (S' := [.int m, .int i]) rfl ?_
    refine wp_ict C (M4 hw) d4_6 (XT.ii_lt_t h1) (pc' := 16) (by decide) ?_
    refine wp_seg C (M4 hw) [(.iload_n 0, 1)] (by decide +kernel) (pc' := 17) (L' := [.val (.int i), .val (.int m), .val (.null)]) (S' := [.int i]) rfl ?_
    exact wp_iret C (M4 hw) d4_17 rfl (t := .int) (by decide) rfl Cr K
  · refine wp_seg C (M4 hw) [(.iload_n 0, 1)] (by decide +kernel) (pc' := 1) (L' := [.val (.int i), .val (.int m), .val (.ref r)]) (S' := [.int i]) rfl ?_
    refine wp_iff C (M4 hw) d4_1 (XT.i0_lt_f h0) ?_
    refine wp_seg C (M4 hw) [(.iload_n 0, 1), (.iload_n 1, 1)] (by decide +kernel) (pc' := 6) (L' := [.val (.int i), .val (.int m), .val (.ref r)]) (S' := [.int m, .int i]) rfl ?_
    refine wp_ict C (M4 hw) d4_6 (XT.ii_lt_t h1) (pc' := 16) (by decide) ?_
    refine wp_seg C (M4 hw) [(.iload_n 0, 1)] (by decide +kernel) (pc' := 17) (L' := [.val (.int i), .val (.int m), .val (.ref r)]) (S' := [.int i]) rfl ?_
    exact wp_iret C (M4 hw) d4_17 rfl (t := .int) (by decide) rfl Cr K
theorem c_sci {κ : Cx} (C : Ok κ) (hw : Ws κ) (hs : StrS κ) {i m : Int32} (h0 : ¬ i < 0) (h1 : i < m) {yc : MethodName} {pcc : Nat} {Lc : List Slot} {Sc : List Value} {F : List Frame} {l : List Chunk} {k n : Nat} (Cr : Caller κ yc pcc 3) (hR : Rm κ (fr κ yc pcc Lc Sc :: F) 2 27)  (K : WP κ yc (pcc + 3) Lc Sc F (l) k n) :
    WP κ y5 0 [.val (.int i), .val (.int m)] [] (fr κ yc pcc Lc Sc :: F) (l) k n := by
  obtain ⟨⟨cz, hcs, scs⟩, fv, hfv, sfv⟩ := hs
  have hfv2 := hfv
  rcases ref_cases hfv with rfl | ⟨r, rfl⟩
  · refine wp_seg C (M5 hw) [(.iload_n 0, 1), (.iload_n 1, 1)] (by decide +kernel) (pc' := 2) (L' := [.val (.int i), .val (.int m)]) (S' := [.int m, .int i]) rfl ?_
    refine wp_getstatic C (M5 hw) d5_2 (w80 hw) (Or.inl rfl) sfv ?_
    refine wp_invokestatic C (M5 hw) d5_5 (M4 hw) (w82 hw) (w83 hw) (w81 hw) (by decide) (S' := []) [.int i, .int m, .null] (lenOf pd4 rfl) rfl (L' := [.val (.int i), .val (.int m), .val (.null)]) rfl rfl (hR.push (d' := 1) (w' := 14) (Nat.le_of_ble_eq_true rfl) (Nat.le_of_ble_eq_true rfl)) ?_
    refine c_pci C hw hfv2 h0 h1 (Meth.caller (M5 hw) d5_5)  ?_
    refine wp_seg C (M5 hw) [(.pop, 1)] (by decide +kernel) (pc' := 9) (L' := [.val (.int i), .val (.int m)]) (S' := []) rfl ?_
    exact wp_vret C (M5 hw) d5_9 Cr K
  · refine wp_seg C (M5 hw) [(.iload_n 0, 1), (.iload_n 1, 1)] (by decide +kernel) (pc' := 2) (L' := [.val (.int i), .val (.int m)]) (S' := [.int m, .int i]) rfl ?_
    refine wp_getstatic C (M5 hw) d5_2 (w80 hw) (Or.inl rfl) sfv ?_
    refine wp_invokestatic C (M5 hw) d5_5 (M4 hw) (w82 hw) (w83 hw) (w81 hw) (by decide) (S' := []) [.int i, .int m, .ref r] (lenOf pd4 rfl) rfl (L' := [.val (.int i), .val (.int m), .val (.ref r)]) rfl rfl (hR.push (d' := 1) (w' := 14) (Nat.le_of_ble_eq_true rfl) (Nat.le_of_ble_eq_true rfl)) ?_
    refine c_pci C hw hfv2 h0 h1 (Meth.caller (M5 hw) d5_5)  ?_
    refine wp_seg C (M5 hw) [(.pop, 1)] (by decide +kernel) (pc' := 9) (L' := [.val (.int i), .val (.int m)]) (S' := []) rfl ?_
    exact wp_vret C (M5 hw) d5_9 Cr K
theorem h_cmp5 {κ : Cx} (C : Ok κ) (hw : Ws κ) {c b : Addr} {mc : Bool} {us : List UInt8} (hl : us.length < 2 ^ 31) {yc : MethodName} {pcc : Nat} {Lc : List Slot} {Sc : List Value} {F : List Frame} {l : List Chunk} {k n : Nat} (Cr : Caller κ yc pcc 3) (hm : (c, mc, .inr (.char, us.map chv)) ∈ l) (K : WP κ yc (pcc + 3) Lc (.int (Int32.ofNat us.length) :: Sc) F ((b, true, .inr (.byte, us.map byv)) :: l) k n) : ∀ (d i : Nat) (z : Int32), i + d = us.length →
    WP κ y6 3 [.val (.ref c), .val (.int (Int32.ofNat i)), .val (.ref b), .val (.int (Int32.ofNat i)), .val (.int (Int32.ofNat us.length)), .val (.int (Int32.ofNat i)), .val (.int z)] [] (fr κ yc pcc Lc Sc :: F) ((b, true, .inr (.byte, part byv (.int 0) us i)) :: l) k n := by
  intro d
  induction d with
  | zero =>
    intro i z hi
    have e : i = us.length := by omega
    subst e
    refine wp_seg C (M6 hw) [(.iload 5, 2), (.iload 4, 2)] (by decide +kernel) (pc' := 7) (L' := [.val (.ref c), .val (.int (Int32.ofNat us.length)), .val (.ref b), .val (.int (Int32.ofNat us.length)), .val (.int (Int32.ofNat us.length)), .val (.int (Int32.ofNat us.length)), .val (.int z)]) (S' := [.int (Int32.ofNat us.length), .int (Int32.ofNat us.length)]) rfl ?_
    refine wp_ict C (M6 hw) d6_7 (XT.ii_ge_t (fun q => by have := (lt32 (by omega) hl).mp q; omega)) (pc' := 44) (by decide) ?_
    refine wp_seg C (M6 hw) [(.iload 4, 2)] (by decide +kernel) (pc' := 46) (L' := [.val (.ref c), .val (.int (Int32.ofNat us.length)), .val (.ref b), .val (.int (Int32.ofNat us.length)), .val (.int (Int32.ofNat us.length)), .val (.int (Int32.ofNat us.length)), .val (.int z)]) (S' := [.int (Int32.ofNat us.length)]) rfl ?_
    rw [part_n]
    exact wp_iret C (M6 hw) d6_46 rfl (t := .int) (by decide) rfl Cr K
  | succ d ih =>
    intro i z hd
    have hi : i < us.length := by omega
    refine wp_seg C (M6 hw) [(.iload 5, 2), (.iload 4, 2)] (by decide +kernel) (pc' := 7) (L' := [.val (.ref c), .val (.int (Int32.ofNat i)), .val (.ref b), .val (.int (Int32.ofNat i)), .val (.int (Int32.ofNat us.length)), .val (.int (Int32.ofNat i)), .val (.int z)]) (S' := [.int (Int32.ofNat us.length), .int (Int32.ofNat i)]) rfl ?_
    refine wp_icf C (M6 hw) d6_7 (XT.ii_ge_f ((lt32 (by omega) hl).mpr hi)) ?_
    refine wp_seg C (M6 hw) [(.aload_n 0, 1), (.iload_n 1, 1)] (by decide +kernel) (pc' := 12) (L' := [.val (.ref c), .val (.int (Int32.ofNat i)), .val (.ref b), .val (.int (Int32.ofNat i)), .val (.int (Int32.ofNat us.length)), .val (.int (Int32.ofNat i)), .val (.int z)]) (S' := [.int (Int32.ofNat i), .ref c]) rfl ?_
    refine wp_caload C (M6 hw) d6_12 (a := c) (List.Mem.tail _ hm) (i := i) (Ix32 (by omega)) (v := .int (ch8 (us.getD i 0))) (getD_map hi) ?_
    refine wp_seg C (M6 hw) [(.istore 6, 2), (.iload 6, 2), (.sipush 255, 3)] (by decide +kernel) (pc' := 20) (L' := [.val (.ref c), .val (.int (Int32.ofNat i)), .val (.ref b), .val (.int (Int32.ofNat i)), .val (.int (Int32.ofNat us.length)), .val (.int (Int32.ofNat i)), .val (.int (ch8 (us.getD i 0)))]) (S' := [.int 255, .int (ch8 (us.getD i 0))]) rfl ?_
    refine wp_ict C (M6 hw) d6_20 (XT.ii_le_t (ch8_le _)) (pc' := 26) (by decide) ?_
    refine wp_seg C (M6 hw) [(.aload_n 2, 1), (.iload_n 3, 1), (.iload 6, 2), (.i2b, 1)] (by decide +kernel) (pc' := 31) (L' := [.val (.ref c), .val (.int (Int32.ofNat i)), .val (.ref b), .val (.int (Int32.ofNat i)), .val (.int (Int32.ofNat us.length)), .val (.int (Int32.ofNat i)), .val (.int (ch8 (us.getD i 0)))]) (S' := [.int ((Int32.toInt8 (ch8 (us.getD i 0))).toInt32), .int (Int32.ofNat i), .ref b]) rfl ?_
    refine wp_bastore C (M6 hw) d6_31 (i := 0) (j := i) rfl (Ix32 (by omega)) (by rw [part_len _ _ _ (by omega)]; exact hi) (v' := .int ((us.getD i 0).toInt8.toInt32)) (congrArg Value.int (ch8_byte2 _)) (l' := (b, true, .inr (.byte, part byv (.int 0) us (i + 1))) :: l) (by rw [show Value.int ((us.getD i 0).toInt8.toInt32) = byv (us.getD i 0) from rfl, List.set_cons_zero, part_set _ _ _ hi]) ?_
    refine wp_seg C (M6 hw) [(.iinc 1 1, 3), (.iinc 3 1, 3), (.iinc 5 1, 3), (.goto (-38), 3)] (by decide +kernel) (pc' := 3) (L' := [.val (.ref c), .val (.int ((Int32.ofNat i) + 1)), .val (.ref b), .val (.int ((Int32.ofNat i) + 1)), .val (.int (Int32.ofNat us.length)), .val (.int ((Int32.ofNat i) + 1)), .val (.int (ch8 (us.getD i 0)))]) (S' := []) rfl ?_
    rw [succ32]
    exact ih (i + 1) _ (by omega)
theorem c_cmp5 {κ : Cx} (C : Ok κ) (hw : Ws κ) {c b : Addr} {mc : Bool} {us : List UInt8} (hl : us.length < 2 ^ 31) (h0 : 0 < us.length) {yc : MethodName} {pcc : Nat} {Lc : List Slot} {Sc : List Value} {F : List Frame} {l : List Chunk} {k n : Nat} (Cr : Caller κ yc pcc 3) (hm : (c, mc, .inr (.char, us.map chv)) ∈ l) (K : WP κ yc (pcc + 3) Lc (.int (Int32.ofNat us.length) :: Sc) F ((b, true, .inr (.byte, us.map byv)) :: l) k n) :
    WP κ y6 0 [.val (.ref c), .val (.int 0), .val (.ref b), .val (.int 0), .val (.int (Int32.ofNat us.length)), .unset, .unset] [] (fr κ yc pcc Lc Sc :: F) ((b, true, .inr (.byte, List.replicate us.length (.int 0))) :: l) k n := by
  rw [← part_0 byv (.int 0) us]
  refine wp_seg C (M6 hw) [(.iconst 0, 1), (.istore 5, 2), (.iload 5, 2), (.iload 4, 2)] (by decide +kernel) (pc' := 7) (L' := [.val (.ref c), .val (.int 0), .val (.ref b), .val (.int 0), .val (.int (Int32.ofNat us.length)), .val (.int 0), .unset]) (S' := [.int (Int32.ofNat us.length), .int 0]) rfl ?_
  refine wp_icf C (M6 hw) d6_7 (XT.ii_ge_f ((lt32 (a := 0) (by decide) hl).mpr h0)) ?_
  refine wp_seg C (M6 hw) [(.aload_n 0, 1), (.iload_n 1, 1)] (by decide +kernel) (pc' := 12) (L' := [.val (.ref c), .val (.int 0), .val (.ref b), .val (.int 0), .val (.int (Int32.ofNat us.length)), .val (.int 0), .unset]) (S' := [.int 0, .ref c]) rfl ?_
  refine wp_caload C (M6 hw) d6_12 (a := c) (List.Mem.tail _ hm) (i := 0) ⟨by decide, by decide⟩ (v := .int (ch8 (us.getD 0 0))) (getD_map h0) ?_
  refine wp_seg C (M6 hw) [(.istore 6, 2), (.iload 6, 2), (.sipush 255, 3)] (by decide +kernel) (pc' := 20) (L' := [.val (.ref c), .val (.int 0), .val (.ref b), .val (.int 0), .val (.int (Int32.ofNat us.length)), .val (.int 0), .val (.int (ch8 (us.getD 0 0)))]) (S' := [.int 255, .int (ch8 (us.getD 0 0))]) rfl ?_
  refine wp_ict C (M6 hw) d6_20 (XT.ii_le_t (ch8_le _)) (pc' := 26) (by decide) ?_
  refine wp_seg C (M6 hw) [(.aload_n 2, 1), (.iload_n 3, 1), (.iload 6, 2), (.i2b, 1)] (by decide +kernel) (pc' := 31) (L' := [.val (.ref c), .val (.int 0), .val (.ref b), .val (.int 0), .val (.int (Int32.ofNat us.length)), .val (.int 0), .val (.int (ch8 (us.getD 0 0)))]) (S' := [.int ((Int32.toInt8 (ch8 (us.getD 0 0))).toInt32), .int 0, .ref b]) rfl ?_
  refine wp_bastore C (M6 hw) d6_31 (i := 0) (j := 0) rfl ⟨by decide, by decide⟩ (by rw [part_len _ _ _ (by omega)]; exact h0) (v' := .int ((us.getD 0 0).toInt8.toInt32)) (congrArg Value.int (ch8_byte2 _)) (l' := (b, true, .inr (.byte, part byv (.int 0) us 1)) :: l) (by rw [show Value.int ((us.getD 0 0).toInt8.toInt32) = byv (us.getD 0 0) from rfl, List.set_cons_zero, part_set _ _ _ h0]) ?_
  refine wp_seg C (M6 hw) [(.iinc 1 1, 3), (.iinc 3 1, 3), (.iinc 5 1, 3), (.goto (-38), 3)] (by decide +kernel) (pc' := 3) (L' := [.val (.ref c), .val (.int 1), .val (.ref b), .val (.int 1), .val (.int (Int32.ofNat us.length)), .val (.int 1), .val (.int (ch8 (us.getD 0 0)))]) (S' := []) rfl ?_
  exact h_cmp5 C hw hl Cr hm K (us.length - 1) 1 _ (by omega)
theorem c_cmp3 {κ : Cx} (C : Ok κ) (hw : Ws κ) {c : Addr} {mc : Bool} {us : List UInt8} (hl : us.length < 2 ^ 31) (hb : us.length * 8 ≤ 536870912) (h0 : 0 < us.length) {yc : MethodName} {pcc : Nat} {Lc : List Slot} {Sc : List Value} {F : List Frame} {l : List Chunk} {k n : Nat} (Cr : Caller κ yc pcc 3) (hR : Rm κ (fr κ yc pcc Lc Sc :: F) 2 35) (hm : (c, mc, .inr (.char, us.map chv)) ∈ l) (hk : k + 1 ≤ (kR κ).cells) (hn : n + us.length ≤ (kR κ).slots) (K : ∀ b, WP κ yc (pcc + 3) Lc (.ref b :: Sc) F ((b, true, .inr (.byte, us.map byv)) :: l) (k + 1) (n + us.length)) :
    WP κ y7 0 [.val (.ref c), .val (.int 0), .val (.int (Int32.ofNat us.length)), .unset, .unset, .unset] [] (fr κ yc pcc Lc Sc :: F) (l) k n := by
  refine wp_seg C (M7 hw) [(.iload_n 2, 1)] (by decide +kernel) (pc' := 1) (L' := [.val (.ref c), .val (.int 0), .val (.int (Int32.ofNat us.length)), .unset, .unset, .unset]) (S' := [.int (Int32.ofNat us.length)]) rfl ?_
  refine wp_newarray C (M7 hw) d7_1 rfl (w21 hw) (len := us.length) (Ix32 hl) hb hk hn (vs := List.replicate us.length (.int 0)) rfl fun a1 => ?_
  refine wp_seg C (M7 hw) [(.astore_n 3, 1), (.aload_n 0, 1), (.iload_n 1, 1), (.aload_n 3, 1), (.iconst 0, 1), (.iload_n 2, 1)] (by decide +kernel) (pc' := 9) (L' := [.val (.ref c), .val (.int 0), .val (.int (Int32.ofNat us.length)), .val (.ref a1), .unset, .unset]) (S' := [.int (Int32.ofNat us.length), .int 0, .ref a1, .int 0, .ref c]) rfl ?_
  refine wp_invokestatic C (M7 hw) d7_9 (M6 hw) (w61 hw) (w62 hw) (w59 hw) (by decide) (S' := []) [.ref c, .int 0, .ref a1, .int 0, .int (Int32.ofNat us.length)] (lenOf pd6 rfl) rfl (L' := [.val (.ref c), .val (.int 0), .val (.ref a1), .val (.int 0), .val (.int (Int32.ofNat us.length)), .unset, .unset]) rfl rfl (hR.push (d' := 1) (w' := 18) (Nat.le_of_ble_eq_true rfl) (Nat.le_of_ble_eq_true rfl)) ?_
  refine c_cmp5 C hw hl h0 (Meth.caller (M7 hw) d7_9) hm ?_
  refine wp_seg C (M7 hw) [(.istore 4, 2), (.iload 4, 2), (.iload_n 2, 1)] (by decide +kernel) (pc' := 17) (L' := [.val (.ref c), .val (.int 0), .val (.int (Int32.ofNat us.length)), .val (.ref a1), .val (.int (Int32.ofNat us.length)), .unset]) (S' := [.int (Int32.ofNat us.length), .int (Int32.ofNat us.length)]) rfl ?_
  refine wp_ict C (M7 hw) d7_17 (XT.ii_eq_t rfl) (pc' := 57) (by decide) ?_
  refine wp_seg C (M7 hw) [(.aload_n 3, 1)] (by decide +kernel) (pc' := 58) (L' := [.val (.ref c), .val (.int 0), .val (.int (Int32.ofNat us.length)), .val (.ref a1), .val (.int (Int32.ofNat us.length)), .unset]) (S' := [.ref a1]) rfl ?_
  exact wp_aret C (M7 hw) d7_58 rfl (t := .array .byte) rfl rfl Cr (K a1)
theorem c_cfa {κ : Cx} (C : Ok κ) (hw : Ws κ) {b : Addr} {mb : Bool} {us : List UInt8} {yc : MethodName} {pcc : Nat} {Lc : List Slot} {Sc : List Value} {F : List Frame} {l : List Chunk} {k n : Nat} (Cr : Caller κ yc pcc 3) (hm : (b, mb, .inr (.byte, us.map byv)) ∈ l) (K : WP κ yc (pcc + 3) Lc (.int 0 :: Sc) F (l) k n) :
    WP κ y8 0 [.val (.ref b), .val (.int (Int32.ofNat us.length))] [] (fr κ yc pcc Lc Sc :: F) (l) k n := by
  refine wp_seg C (M8 hw) [(.iload_n 1, 1), (.aload_n 0, 1)] (by decide +kernel) (pc' := 2) (L' := [.val (.ref b), .val (.int (Int32.ofNat us.length))]) (S' := [.ref b, .int (Int32.ofNat us.length)]) rfl ?_
  refine wp_arraylength C (M8 hw) d8_2 (a := b) hm (z := (Int32.ofNat us.length)) (by simp) ?_
  refine wp_seg C (M8 hw) [(.isub, 1)] (by decide +kernel) (pc' := 4) (L' := [.val (.ref b), .val (.int (Int32.ofNat us.length))]) (S' := [.int ((Int32.ofNat us.length) - (Int32.ofNat us.length))]) rfl ?_
  rw [Int32.sub_self]
  refine wp_seg C (M8 hw) [(.bipush 31, 2), (.iushr, 1), (.i2b, 1)] (by decide +kernel) (pc' := 8) (L' := [.val (.ref b), .val (.int (Int32.ofNat us.length))]) (S' := [.int 0]) rfl ?_
  exact wp_iret C (M8 hw) d8_8 rfl (t := .byte) (by decide) rfl Cr K
theorem c_init4 {κ : Cx} (C : Ok κ) (hw : Ws κ) (hs : StrS κ) {a c : Addr} {mc : Bool} {us : List UInt8} (hl : us.length < 2 ^ 31) (hb : us.length * 8 ≤ 536870912) (h0 : 0 < us.length) {yc : MethodName} {pcc : Nat} {Lc : List Slot} {Sc : List Value} {F : List Frame} {l : List Chunk} {k n : Nat} (Cr : Caller κ yc pcc 3) (hR : Rm κ (fr κ yc pcc Lc Sc :: F) 3 52) (hm : (c, mc, .inr (.char, us.map chv)) ∈ l) (hk : k + 1 ≤ (kR κ).cells) (hn : n + us.length ≤ (kR κ).slots) (K : ∀ b, WP κ yc (pcc + 3) Lc Sc F (strO a b 0 :: strB b us :: l) (k + 1) (n + us.length)) :
    WP κ y9 0 [.val (.ref a), .val (.ref c), .val (.int 0), .val (.int (Int32.ofNat us.length)), .val (.null), .unset] [] (fr κ yc pcc Lc Sc :: F) ((a, true, .inl ("java/lang/String", [("java/lang/String", "value", "[B", .null), ("java/lang/String", "coder", "B", .int 0)])) :: l) k n := by
  obtain ⟨⟨cz, hcs, scs⟩, fv, hfv, sfv⟩ := hs
  refine wp_seg C (M9 hw) [(.aload_n 0, 1)] (by decide +kernel) (pc' := 1) (L' := [.val (.ref a), .val (.ref c), .val (.int 0), .val (.int (Int32.ofNat us.length)), .val (.null), .unset]) (S' := [.ref a]) rfl ?_
  refine wp_initObject C (M9 hw) d9_1 (w17 hw) (w18 hw) (w19 hw) (hR.push (d' := 1) (w' := 12) (Nat.le_of_ble_eq_true rfl) (Nat.le_of_ble_eq_true rfl)) ?_
  refine wp_seg C (M9 hw) [(.iload_n 3, 1)] (by decide +kernel) (pc' := 5) (L' := [.val (.ref a), .val (.ref c), .val (.int 0), .val (.int (Int32.ofNat us.length)), .val (.null), .unset]) (S' := [.int (Int32.ofNat us.length)]) rfl ?_
  refine wp_ift C (M9 hw) d9_5 (XT.i0_ne_t (fun q => by have := (eq32 (b := 0) hl (by decide)).mp q; omega)) (pc' := 27) (by decide) ?_
  refine wp_getstatic C (M9 hw) d9_27 (w42 hw) (Or.inl rfl) scs ?_
  refine wp_iff C (M9 hw) d9_30 (XT.i0_eq_f hcs) ?_
  refine wp_seg C (M9 hw) [(.aload_n 1, 1), (.iload_n 2, 1), (.iload_n 3, 1)] (by decide +kernel) (pc' := 36) (L' := [.val (.ref a), .val (.ref c), .val (.int 0), .val (.int (Int32.ofNat us.length)), .val (.null), .unset]) (S' := [.int (Int32.ofNat us.length), .int 0, .ref c]) rfl ?_
  refine wp_invokestatic C (M9 hw) d9_36 (M7 hw) (w57 hw) (w58 hw) (w59 hw) (by decide) (S' := []) [.ref c, .int 0, .int (Int32.ofNat us.length)] (lenOf pd7 rfl) rfl (L' := [.val (.ref c), .val (.int 0), .val (.int (Int32.ofNat us.length)), .unset, .unset, .unset]) rfl rfl (hR.push (d' := 1) (w' := 17) (Nat.le_of_ble_eq_true rfl) (Nat.le_of_ble_eq_true rfl)) ?_
  refine c_cmp3 C hw hl hb h0 (Meth.caller (M9 hw) d9_36) (hR.push (d' := 2) (w' := 35) (Nat.le_of_ble_eq_true rfl) (Nat.le_of_ble_eq_true rfl)) (List.Mem.tail _ hm) hk hn fun b => ?_
  refine wp_seg C (M9 hw) [(.astore 5, 2), (.aload_n 0, 1), (.aload 5, 2), (.iload_n 3, 1)] (by decide +kernel) (pc' := 45) (L' := [.val (.ref a), .val (.ref c), .val (.int 0), .val (.int (Int32.ofNat us.length)), .val (.null), .val (.ref b)]) (S' := [.int (Int32.ofNat us.length), .ref b, .ref a]) rfl ?_
  refine wp_invokestatic C (M9 hw) d9_45 (M8 hw) (w64 hw) (w65 hw) (w59 hw) (by decide) (S' := [.ref a]) [.ref b, .int (Int32.ofNat us.length)] (lenOf pd8 rfl) rfl (L' := [.val (.ref b), .val (.int (Int32.ofNat us.length))]) rfl rfl (hR.push (d' := 1) (w' := 13) (Nat.le_of_ble_eq_true rfl) (Nat.le_of_ble_eq_true rfl)) ?_
  refine c_cfa C hw  (Meth.caller (M9 hw) d9_45) (List.mem_of_getElem? (i := 0) rfl) ?_
  refine wp_putfield C (M9 hw) d9_48 (w27 hw) (Or.inl rfl) (i := 1) (j := 1) rfl rfl (Or.inr ⟨(w23 hw), rfl, rfl⟩) (w8 hw) (ty := .byte) (by decide) rfl rfl (l' := (b, true, .inr (.byte, us.map byv)) :: (a, true, .inl ("java/lang/String", [("java/lang/String", "value", "[B", .null), ("java/lang/String", "coder", "B", .int 0)])) :: l) rfl ?_
  refine wp_seg C (M9 hw) [(.aload_n 0, 1), (.aload 5, 2)] (by decide +kernel) (pc' := 54) (L' := [.val (.ref a), .val (.ref c), .val (.int 0), .val (.int (Int32.ofNat us.length)), .val (.null), .val (.ref b)]) (S' := [.ref b, .ref a]) rfl ?_
  refine wp_putfield C (M9 hw) d9_54 (w26 hw) (Or.inl rfl) (i := 1) (j := 0) rfl rfl (Or.inr ⟨(w22 hw), rfl, rfl⟩) (w8 hw) (ty := .array (.byte)) (by decide) rfl rfl (l' := (b, true, .inr (.byte, us.map byv)) :: (a, true, .inl ("java/lang/String", [("java/lang/String", "value", "[B", .ref b), ("java/lang/String", "coder", "B", .int 0)])) :: l) rfl ?_
  refine wp_freeze ?_
  refine wp_front 1 rfl rfl ?_
  refine wp_freeze ?_
  exact wp_vret C (M9 hw) d9_57 Cr (K b)
theorem c_init1 {κ : Cx} (C : Ok κ) (hw : Ws κ) (hs : StrS κ) {a c : Addr} {mc : Bool} {us : List UInt8} (hl : us.length < 2 ^ 31) (hb : us.length * 8 ≤ 536870912) (h0 : 0 < us.length) {yc : MethodName} {pcc : Nat} {Lc : List Slot} {Sc : List Value} {F : List Frame} {l : List Chunk} {k n : Nat} (Cr : Caller κ yc pcc 3) (hR : Rm κ (fr κ yc pcc Lc Sc :: F) 4 65) (hm : (c, mc, .inr (.char, us.map chv)) ∈ l) (hk : k + 1 ≤ (kR κ).cells) (hn : n + us.length ≤ (kR κ).slots) (K : ∀ b, WP κ yc (pcc + 3) Lc Sc F (strO a b 0 :: strB b us :: l) (k + 1) (n + us.length)) :
    WP κ y10 0 [.val (.ref a), .val (.ref c)] [] (fr κ yc pcc Lc Sc :: F) ((a, true, .inl ("java/lang/String", [("java/lang/String", "value", "[B", .null), ("java/lang/String", "coder", "B", .int 0)])) :: l) k n := by
  refine wp_seg C (M10 hw) [(.aload_n 0, 1), (.aload_n 1, 1), (.iconst 0, 1), (.aload_n 1, 1)] (by decide +kernel) (pc' := 4) (L' := [.val (.ref a), .val (.ref c)]) (S' := [.ref c, .int 0, .ref c, .ref a]) rfl ?_
  refine wp_arraylength C (M10 hw) d10_4 (a := c) (List.Mem.tail _ hm) (z := (Int32.ofNat us.length)) (by simp) ?_
  refine wp_seg C (M10 hw) [(.aconst_null, 1)] (by decide +kernel) (pc' := 6) (L' := [.val (.ref a), .val (.ref c)]) (S' := [.null, .int (Int32.ofNat us.length), .int 0, .ref c, .ref a]) rfl ?_
  refine wp_init C (M10 hw) d10_6 (M9 hw) rfl (w13 hw) (w14 hw) (by decide) (S' := []) a [.ref c, .int 0, .int (Int32.ofNat us.length), .null] (lenOf pd9 rfl) rfl (L' := [.val (.ref a), .val (.ref c), .val (.int 0), .val (.int (Int32.ofNat us.length)), .val (.null), .unset]) rfl rfl (hR.push (d' := 1) (w' := 17) (Nat.le_of_ble_eq_true rfl) (Nat.le_of_ble_eq_true rfl)) ?_
  refine c_init4 C hw hs hl hb h0 (Meth.caller (M10 hw) d10_6) (hR.push (d' := 3) (w' := 52) (Nat.le_of_ble_eq_true rfl) (Nat.le_of_ble_eq_true rfl)) hm hk hn fun b => ?_
  exact wp_vret C (M10 hw) d10_9 Cr (K b)
theorem c_init40 {κ : Cx} (C : Ok κ) (hw : Ws κ) (hst : kS κ = false) (wS : StrW κ) (hE : kE κ = consts_1) {a c : Addr} {yc : MethodName} {pcc : Nat} {Lc : List Slot} {Sc : List Value} {F : List Frame} {l : List Chunk} {k n : Nat} (Cr : Caller κ yc pcc 3) (hR : Rm κ (fr κ yc pcc Lc Sc :: F) 2 29) (hk : k + 4 ≤ (kR κ).cells) (hn : n + 8 ≤ (kR κ).slots) (K : ∀ b, WP κ yc (pcc + 3) Lc Sc F (strO a b 0 :: strB b [] :: l) (k + 4) (n + 8)) :
    WP κ y9 0 [.val (.ref a), .val (.ref c), .val (.int 0), .val (.int 0), .val (.null), .unset] [] (fr κ yc pcc Lc Sc :: F) ((a, true, .inl ("java/lang/String", [("java/lang/String", "value", "[B", .null), ("java/lang/String", "coder", "B", .int 0)])) :: l) k n := by
  refine wp_seg C (M9 hw) [(.aload_n 0, 1)] (by decide +kernel) (pc' := 1) (L' := [.val (.ref a), .val (.ref c), .val (.int 0), .val (.int 0), .val (.null), .unset]) (S' := [.ref a]) rfl ?_
  refine wp_initObject C (M9 hw) d9_1 (w17 hw) (w18 hw) (w19 hw) (hR.push (d' := 1) (w' := 12) (Nat.le_of_ble_eq_true rfl) (Nat.le_of_ble_eq_true rfl)) ?_
  refine wp_seg C (M9 hw) [(.iload_n 3, 1)] (by decide +kernel) (pc' := 5) (L' := [.val (.ref a), .val (.ref c), .val (.int 0), .val (.int 0), .val (.null), .unset]) (S' := [.int 0]) rfl ?_
  refine wp_iff C (M9 hw) d9_5 (XT.i0_ne_f (by decide)) ?_
  refine wp_seg C (M9 hw) [(.aload_n 0, 1)] (by decide +kernel) (pc' := 9) (L' := [.val (.ref a), .val (.ref c), .val (.int 0), .val (.int 0), .val (.null), .unset]) (S' := [.ref a]) rfl ?_
  refine wp_ldcS C hst wS (M9 hw) d9_9 (w20 hw) (by rw [hE]; exact List.mem_of_getElem? (i := 0) rfl) [] (by decide +kernel) (m := 0) (by decide) (by decide) (Nat.le_trans (by omega) hk) (Nat.le_trans (by omega) hn) fun s1 s2 => ?_
  refine wp_getfield C (M9 hw) d9_11 (w26 hw) (Or.inl rfl) (a := s1) (mu := false) (Cl := "java/lang/String") (fs := [("java/lang/String", "value", "[B", .ref s2), ("java/lang/String", "coder", "B", .int 0)]) (List.mem_of_getElem? (i := 0) rfl) (List.mem_of_getElem? (i := 0) rfl) ?_
  refine wp_putfield C (M9 hw) d9_14 (w26 hw) (Or.inl rfl) (i := 2) (j := 0) rfl rfl (Or.inr ⟨(w22 hw), rfl, rfl⟩) (w8 hw) (ty := .array (.byte)) (by decide) rfl rfl (l' := strO s1 s2 0 :: strB s2 [] :: (a, true, .inl ("java/lang/String", [("java/lang/String", "value", "[B", .ref s2), ("java/lang/String", "coder", "B", .int 0)])) :: l) rfl ?_
  refine wp_seg C (M9 hw) [(.aload_n 0, 1)] (by decide +kernel) (pc' := 18) (L' := [.val (.ref a), .val (.ref c), .val (.int 0), .val (.int 0), .val (.null), .unset]) (S' := [.ref a]) rfl ?_
  refine wp_ldcS C hst wS (M9 hw) d9_18 (w20 hw) (by rw [hE]; exact List.mem_of_getElem? (i := 0) rfl) [] (by decide +kernel) (m := 0) (by decide) (by decide) (Nat.le_trans (by omega) hk) (Nat.le_trans (by omega) hn) fun s3 s4 => ?_
  refine wp_getfield C (M9 hw) d9_20 (w27 hw) (Or.inl rfl) (a := s3) (mu := false) (Cl := "java/lang/String") (fs := [("java/lang/String", "value", "[B", .ref s4), ("java/lang/String", "coder", "B", .int 0)]) (List.mem_of_getElem? (i := 0) rfl) (List.mem_of_getElem? (i := 1) rfl) ?_
  refine wp_putfield C (M9 hw) d9_23 (w27 hw) (Or.inl rfl) (i := 4) (j := 1) rfl rfl (Or.inr ⟨(w23 hw), rfl, rfl⟩) (w8 hw) (ty := .byte) (by decide) rfl rfl (l' := strO s3 s4 0 :: strB s4 [] :: strO s1 s2 0 :: strB s2 [] :: (a, true, .inl ("java/lang/String", [("java/lang/String", "value", "[B", .ref s2), ("java/lang/String", "coder", "B", .int 0)])) :: l) rfl ?_
  refine wp_drop ?_
  refine wp_drop ?_
  refine wp_drop ?_
  refine wp_front 1 rfl rfl ?_
  refine wp_freeze ?_
  exact wp_vret C (M9 hw) d9_26 Cr (K s2)
theorem c_init10 {κ : Cx} (C : Ok κ) (hw : Ws κ) (hst : kS κ = false) (wS : StrW κ) (hE : kE κ = consts_1) {a c : Addr} {mc : Bool} {yc : MethodName} {pcc : Nat} {Lc : List Slot} {Sc : List Value} {F : List Frame} {l : List Chunk} {k n : Nat} (Cr : Caller κ yc pcc 3) (hR : Rm κ (fr κ yc pcc Lc Sc :: F) 3 42) (hm : (c, mc, .inr (.char, [])) ∈ l) (hk : k + 4 ≤ (kR κ).cells) (hn : n + 8 ≤ (kR κ).slots) (K : ∀ b, WP κ yc (pcc + 3) Lc Sc F (strO a b 0 :: strB b [] :: l) (k + 4) (n + 8)) :
    WP κ y10 0 [.val (.ref a), .val (.ref c)] [] (fr κ yc pcc Lc Sc :: F) ((a, true, .inl ("java/lang/String", [("java/lang/String", "value", "[B", .null), ("java/lang/String", "coder", "B", .int 0)])) :: l) k n := by
  refine wp_seg C (M10 hw) [(.aload_n 0, 1), (.aload_n 1, 1), (.iconst 0, 1), (.aload_n 1, 1)] (by decide +kernel) (pc' := 4) (L' := [.val (.ref a), .val (.ref c)]) (S' := [.ref c, .int 0, .ref c, .ref a]) rfl ?_
  refine wp_arraylength C (M10 hw) d10_4 (a := c) (List.Mem.tail _ hm) (z := 0) rfl ?_
  refine wp_seg C (M10 hw) [(.aconst_null, 1)] (by decide +kernel) (pc' := 6) (L' := [.val (.ref a), .val (.ref c)]) (S' := [.null, .int 0, .int 0, .ref c, .ref a]) rfl ?_
  refine wp_init C (M10 hw) d10_6 (M9 hw) rfl (w13 hw) (w14 hw) (by decide) (S' := []) a [.ref c, .int 0, .int 0, .null] (lenOf pd9 rfl) rfl (L' := [.val (.ref a), .val (.ref c), .val (.int 0), .val (.int 0), .val (.null), .unset]) rfl rfl (hR.push (d' := 1) (w' := 17) (Nat.le_of_ble_eq_true rfl) (Nat.le_of_ble_eq_true rfl)) ?_
  refine c_init40 C hw hst wS hE (Meth.caller (M10 hw) d10_6) (hR.push (d' := 2) (w' := 29) (Nat.le_of_ble_eq_true rfl) (Nat.le_of_ble_eq_true rfl)) hk hn fun b => ?_
  exact wp_vret C (M10 hw) d10_9 Cr (K b)
theorem c_nbl {κ : Cx} (C : Ok κ) (hw : Ws κ) {m : Nat} (h : m < 1073741823) {yc : MethodName} {pcc : Nat} {Lc : List Slot} {Sc : List Value} {F : List Frame} {l : List Chunk} {k n : Nat} (Cr : Caller κ yc pcc 3)  (K : WP κ yc (pcc + 3) Lc (.int (Int32.ofNat (2 * m)) :: Sc) F (l) k n) :
    WP κ y11 0 [.val (.int (Int32.ofNat m))] [] (fr κ yc pcc Lc Sc :: F) (l) k n := by
  refine wp_seg C (M11 hw) [(.iload_n 0, 1)] (by decide +kernel) (pc' := 1) (L' := [.val (.int (Int32.ofNat m))]) (S' := [.int (Int32.ofNat m)]) rfl ?_
  refine wp_ift C (M11 hw) d11_1 (XT.i0_ge_t (nn32 (by omega))) (pc' := 12) (by decide) ?_
  refine wp_seg C (M11 hw) [(.iload_n 0, 1)] (by decide +kernel) (pc' := 13) (L' := [.val (.int (Int32.ofNat m))]) (S' := [.int (Int32.ofNat m)]) rfl ?_
  refine wp_ldcI C (M11 hw) d11_13 (w102 hw) ?_
  refine wp_ict C (M11 hw) d11_15 (XT.ii_lt_t ((lt32 (b := 1073741823) (by omega) (by decide)).mpr h)) (pc' := 55) (by decide) ?_
  refine wp_seg C (M11 hw) [(.iload_n 0, 1), (.iconst 1, 1), (.ishl, 1)] (by decide +kernel) (pc' := 58) (L' := [.val (.int (Int32.ofNat m))]) (S' := [.int ((Int32.ofNat m) <<< ((1 : Int32) &&& 31))]) rfl ?_
  rw [shlk (k := 1) _ (by decide) (by decide) (by omega), show m * 2 ^ 1 = 2 * m by omega]
  exact wp_iret C (M11 hw) d11_58 rfl (t := .int) (by decide) rfl Cr K
theorem c_nbf {κ : Cx} (C : Ok κ) (hw : Ws κ) {m : Nat} (h : m < 1073741823) (hb : 2 * m * 8 ≤ 536870912) {yc : MethodName} {pcc : Nat} {Lc : List Slot} {Sc : List Value} {F : List Frame} {l : List Chunk} {k n : Nat} (Cr : Caller κ yc pcc 3) (hR : Rm κ (fr κ yc pcc Lc Sc :: F) 2 24) (hk : k + 1 ≤ (kR κ).cells) (hn : n + 2 * m ≤ (kR κ).slots) (K : ∀ b, WP κ yc (pcc + 3) Lc (.ref b :: Sc) F ((b, true, .inr (.byte, List.replicate (2 * m) (.int 0))) :: l) (k + 1) (n + 2 * m)) :
    WP κ y12 0 [.val (.int (Int32.ofNat m))] [] (fr κ yc pcc Lc Sc :: F) (l) k n := by
  refine wp_seg C (M12 hw) [(.iload_n 0, 1)] (by decide +kernel) (pc' := 1) (L' := [.val (.int (Int32.ofNat m))]) (S' := [.int (Int32.ofNat m)]) rfl ?_
  refine wp_invokestatic C (M12 hw) d12_1 (M11 hw) (w99 hw) (w100 hw) (w59 hw) (by decide) (S' := []) [.int (Int32.ofNat m)] (lenOf pd11 rfl) rfl (L' := [.val (.int (Int32.ofNat m))]) rfl rfl (hR.push (d' := 1) (w' := 12) (Nat.le_of_ble_eq_true rfl) (Nat.le_of_ble_eq_true rfl)) ?_
  refine c_nbl C hw h (Meth.caller (M12 hw) d12_1)  ?_
  refine wp_newarray C (M12 hw) d12_4 rfl (w21 hw) (len := (2 * m)) (Ix32 (by omega)) (by omega) hk hn (vs := List.replicate (2 * m) (.int 0)) rfl fun a1 => ?_
  exact wp_aret C (M12 hw) d12_6 rfl (t := .array .byte) rfl rfl Cr (K a1)
theorem c_put {κ : Cx} (C : Ok κ) (hw : Ws κ) (hu : (Sta (kZ κ) (kZ κ).heap "java/lang/StringUTF16" "$assertionsDisabled" "Z" (.int 1)) ∧ (Sta (kZ κ) (kZ κ).heap "java/lang/StringUTF16" "HI_BYTE_SHIFT" "I" (.int 0)) ∧ Sta (kZ κ) (kZ κ).heap "java/lang/StringUTF16" "LO_BYTE_SHIFT" "I" (.int 8)) {b : Addr} {c : UInt16} {i : Nat} {ds : List UInt8} (hl : ds.length < 2 ^ 31) (hi' : 2 * i + 1 < ds.length) {yc : MethodName} {pcc : Nat} {Lc : List Slot} {Sc : List Value} {F : List Frame} {l : List Chunk} {k n : Nat} (Cr : Caller κ yc pcc 3)  (K : WP κ yc (pcc + 3) Lc Sc F ((b, true, .inr (.byte, ((ds.set (2 * i) (lo16 c)).set (2 * i + 1) (hi16 c)).map byv)) :: l) k n) :
    WP κ y13 0 [.val (.ref b), .val (.int (Int32.ofNat i)), .val (.int (c16 c))] [] (fr κ yc pcc Lc Sc :: F) ((b, true, .inr (.byte, ds.map byv)) :: l) k n := by
  obtain ⟨s1, s2, s3⟩ := hu
  refine wp_getstatic C (M13 hw) d13_0 (w106 hw) (Or.inl rfl) s1 ?_
  refine wp_ift C (M13 hw) d13_3 (XT.i0_ne_t (by decide)) (pc' := 28) (by decide) ?_
  refine wp_seg C (M13 hw) [(.iload_n 1, 1), (.iconst 1, 1), (.ishl, 1)] (by decide +kernel) (pc' := 31) (L' := [.val (.ref b), .val (.int (Int32.ofNat i)), .val (.int (c16 c))]) (S' := [.int ((Int32.ofNat i) <<< ((1 : Int32) &&& 31))]) rfl ?_
  rw [shlk (n := i) (k := 1) _ (by decide) (by decide) (by omega), show i * 2 ^ 1 = 2 * i by omega]
  refine wp_seg C (M13 hw) [(.istore_n 1, 1), (.aload_n 0, 1), (.iload_n 1, 1), (.iinc 1 1, 3), (.iload_n 2, 1)] (by decide +kernel) (pc' := 38) (L' := [.val (.ref b), .val (.int ((Int32.ofNat (2 * i)) + 1)), .val (.int (c16 c))]) (S' := [.int (c16 c), .int (Int32.ofNat (2 * i)), .ref b]) rfl ?_
  refine wp_getstatic C (M13 hw) d13_38 (w107 hw) (Or.inl rfl) s2 ?_
  refine wp_seg C (M13 hw) [(.ishr, 1), (.i2b, 1)] (by decide +kernel) (pc' := 43) (L' := [.val (.ref b), .val (.int ((Int32.ofNat (2 * i)) + 1)), .val (.int (c16 c))]) (S' := [.int ((Int32.toInt8 ((c16 c) >>> ((0 : Int32) &&& 31))).toInt32), .int (Int32.ofNat (2 * i)), .ref b]) rfl ?_
  refine wp_bastore C (M13 hw) d13_43 (i := 0) (j := (2 * i)) rfl (Ix32 (by omega)) (by simp; omega) (v' := .int ((lo16 c).toInt8.toInt32)) (congrArg Value.int (by_of _)) (l' := (b, true, .inr (.byte, (ds.set (2 * i) (lo16 c)).map byv)) :: l) (by simp only [List.set_cons_zero, List.map_set]; rfl) ?_
  refine wp_seg C (M13 hw) [(.aload_n 0, 1), (.iload_n 1, 1), (.iload_n 2, 1)] (by decide +kernel) (pc' := 47) (L' := [.val (.ref b), .val (.int ((Int32.ofNat (2 * i)) + 1)), .val (.int (c16 c))]) (S' := [.int (c16 c), .int ((Int32.ofNat (2 * i)) + 1), .ref b]) rfl ?_
  rw [succ32]
  refine wp_getstatic C (M13 hw) d13_47 (w108 hw) (Or.inl rfl) s3 ?_
  refine wp_seg C (M13 hw) [(.ishr, 1), (.i2b, 1)] (by decide +kernel) (pc' := 52) (L' := [.val (.ref b), .val (.int (Int32.ofNat (2 * i + 1))), .val (.int (c16 c))]) (S' := [.int ((Int32.toInt8 ((c16 c) >>> ((8 : Int32) &&& 31))).toInt32), .int (Int32.ofNat (2 * i + 1)), .ref b]) rfl ?_
  refine wp_bastore C (M13 hw) d13_52 (i := 0) (j := (2 * i + 1)) rfl (Ix32 (by omega)) (by simp; omega) (v' := .int ((hi16 c).toInt8.toInt32)) (congrArg Value.int (by_of _)) (l' := (b, true, .inr (.byte, ((ds.set (2 * i) (lo16 c)).set (2 * i + 1) (hi16 c)).map byv)) :: l) (by simp only [List.set_cons_zero, List.map_set]; rfl) ?_
  exact wp_vret C (M13 hw) d13_53 Cr K
theorem c_getc {κ : Cx} (C : Ok κ) (hw : Ws κ) (hu : (Sta (kZ κ) (kZ κ).heap "java/lang/StringUTF16" "$assertionsDisabled" "Z" (.int 1)) ∧ (Sta (kZ κ) (kZ κ).heap "java/lang/StringUTF16" "HI_BYTE_SHIFT" "I" (.int 0)) ∧ Sta (kZ κ) (kZ κ).heap "java/lang/StringUTF16" "LO_BYTE_SHIFT" "I" (.int 8)) {b : Addr} {mb : Bool} {i : Nat} {cs : List UInt16} (hl : 2 * cs.length < 2 ^ 31) (hi : i < cs.length) {yc : MethodName} {pcc : Nat} {Lc : List Slot} {Sc : List Value} {F : List Frame} {l : List Chunk} {k n : Nat} (Cr : Caller κ yc pcc 3) (hb : (b, mb, .inr (.byte, (enc16 cs).map byv)) ∈ l) (K : WP κ yc (pcc + 3) Lc (.int (c16 (cs.getD i 0)) :: Sc) F (l) k n) :
    WP κ y14 0 [.val (.ref b), .val (.int (Int32.ofNat i))] [] (fr κ yc pcc Lc Sc :: F) (l) k n := by
  obtain ⟨s1, s2, s3⟩ := hu
  have hL := enc16_len cs
  have hA := enc16_at cs i hi
  refine wp_getstatic C (M14 hw) d14_0 (w106 hw) (Or.inl rfl) s1 ?_
  refine wp_ift C (M14 hw) d14_3 (XT.i0_ne_t (by decide)) (pc' := 28) (by decide) ?_
  refine wp_seg C (M14 hw) [(.iload_n 1, 1), (.iconst 1, 1), (.ishl, 1)] (by decide +kernel) (pc' := 31) (L' := [.val (.ref b), .val (.int (Int32.ofNat i))]) (S' := [.int ((Int32.ofNat i) <<< ((1 : Int32) &&& 31))]) rfl ?_
  rw [shlk (n := i) (k := 1) _ (by decide) (by decide) (by omega), show i * 2 ^ 1 = 2 * i by omega]
  refine wp_seg C (M14 hw) [(.istore_n 1, 1), (.aload_n 0, 1), (.iload_n 1, 1), (.iinc 1 1, 3)] (by decide +kernel) (pc' := 37) (L' := [.val (.ref b), .val (.int ((Int32.ofNat (2 * i)) + 1))]) (S' := [.int (Int32.ofNat (2 * i)), .ref b]) rfl ?_
  refine wp_baload C (M14 hw) d14_37 (a := b) hb (i := (2 * i)) (Ix32 (by omega)) (v := .int (((enc16 cs).getD (2 * i) 0).toInt8.toInt32)) (getD_map (by omega)) ?_
  refine wp_seg C (M14 hw) [(.sipush 255, 3), (.iand, 1)] (by decide +kernel) (pc' := 42) (L' := [.val (.ref b), .val (.int ((Int32.ofNat (2 * i)) + 1))]) (S' := [.int ((((enc16 cs).getD (2 * i) 0).toInt8.toInt32) &&& (255 : Int32))]) rfl ?_
  rw [succ32, hA.1, ch8_mask]
  refine wp_getstatic C (M14 hw) d14_42 (w107 hw) (Or.inl rfl) s2 ?_
  refine wp_seg C (M14 hw) [(.ishl, 1), (.aload_n 0, 1), (.iload_n 1, 1)] (by decide +kernel) (pc' := 48) (L' := [.val (.ref b), .val (.int (Int32.ofNat (2 * i + 1)))]) (S' := [.int (Int32.ofNat (2 * i + 1)), .ref b, .int ((ch8 (lo16 (cs.getD i 0))) <<< ((0 : Int32) &&& 31))]) rfl ?_
  refine wp_baload C (M14 hw) d14_48 (a := b) hb (i := (2 * i + 1)) (Ix32 (by omega)) (v := .int (((enc16 cs).getD (2 * i + 1) 0).toInt8.toInt32)) (getD_map (by omega)) ?_
  refine wp_seg C (M14 hw) [(.sipush 255, 3), (.iand, 1)] (by decide +kernel) (pc' := 53) (L' := [.val (.ref b), .val (.int (Int32.ofNat (2 * i + 1)))]) (S' := [.int ((((enc16 cs).getD (2 * i + 1) 0).toInt8.toInt32) &&& (255 : Int32)), .int ((ch8 (lo16 (cs.getD i 0))) <<< ((0 : Int32) &&& 31))]) rfl ?_
  rw [hA.2, ch8_mask]
  refine wp_getstatic C (M14 hw) d14_53 (w108 hw) (Or.inl rfl) s3 ?_
  refine wp_seg C (M14 hw) [(.ishl, 1), (.ior, 1), (.i2c, 1)] (by decide +kernel) (pc' := 59) (L' := [.val (.ref b), .val (.int (Int32.ofNat (2 * i + 1)))]) (S' := [.int (i2c (((ch8 (lo16 (cs.getD i 0))) <<< ((0 : Int32) &&& 31)) ||| ((ch8 (hi16 (cs.getD i 0))) <<< ((8 : Int32) &&& 31))))]) rfl ?_
  rw [lohi]
  exact wp_iret C (M14 hw) d14_59 rfl (t := .char) (by decide) (c16_narrow _) Cr K
theorem h_tob {κ : Cx} (C : Ok κ) (hw : Ws κ) (hu : (Sta (kZ κ) (kZ κ).heap "java/lang/StringUTF16" "$assertionsDisabled" "Z" (.int 1)) ∧ (Sta (kZ κ) (kZ κ).heap "java/lang/StringUTF16" "HI_BYTE_SHIFT" "I" (.int 0)) ∧ Sta (kZ κ) (kZ κ).heap "java/lang/StringUTF16" "LO_BYTE_SHIFT" "I" (.int 8)) {c b : Addr} {mc : Bool} {cs : List UInt16} (hl : 2 * cs.length < 2 ^ 31) {yc : MethodName} {pcc : Nat} {Lc : List Slot} {Sc : List Value} {F : List Frame} {l : List Chunk} {k n : Nat} (Cr : Caller κ yc pcc 3) (hR : Rm κ (fr κ yc pcc Lc Sc :: F) 2 30) (hm : (c, mc, .inr (.char, cs.map cv)) ∈ l) (K : WP κ yc (pcc + 3) Lc (.ref b :: Sc) F ((b, true, .inr (.byte, (enc16 cs).map byv)) :: l) k n) : ∀ (d i : Nat), i + d = cs.length →
    WP κ y15 8 [.val (.ref c), .val (.int (Int32.ofNat i)), .val (.int (Int32.ofNat cs.length)), .val (.ref b), .val (.int (Int32.ofNat i))] [] (fr κ yc pcc Lc Sc :: F) ((b, true, .inr (.byte, (p16 cs i).map byv)) :: l) k n := by
  intro d
  induction d with
  | zero =>
    intro i hi
    refine wp_seg C (M15 hw) [(.iload 4, 2), (.iload_n 2, 1)] (by decide +kernel) (pc' := 11) (L' := [.val (.ref c), .val (.int (Int32.ofNat i)), .val (.int (Int32.ofNat cs.length)), .val (.ref b), .val (.int (Int32.ofNat i))]) (S' := [.int (Int32.ofNat cs.length), .int (Int32.ofNat i)]) rfl ?_
    refine wp_ict C (M15 hw) d15_11 (XT.ii_ge_t (fun q => by have := (lt32 (by omega) (by omega)).mp q; omega)) (pc' := 32) (by decide) ?_
    refine wp_seg C (M15 hw) [(.aload_n 3, 1)] (by decide +kernel) (pc' := 33) (L' := [.val (.ref c), .val (.int (Int32.ofNat i)), .val (.int (Int32.ofNat cs.length)), .val (.ref b), .val (.int (Int32.ofNat i))]) (S' := [.ref b]) rfl ?_
    rw [show i = cs.length from by omega, p16_n]
    exact wp_aret C (M15 hw) d15_33 rfl (t := .array (.byte)) rfl rfl Cr K
  | succ d ih =>
    intro i hd
    have hi : i < cs.length := by omega
    refine wp_seg C (M15 hw) [(.iload 4, 2), (.iload_n 2, 1)] (by decide +kernel) (pc' := 11) (L' := [.val (.ref c), .val (.int (Int32.ofNat i)), .val (.int (Int32.ofNat cs.length)), .val (.ref b), .val (.int (Int32.ofNat i))]) (S' := [.int (Int32.ofNat cs.length), .int (Int32.ofNat i)]) rfl ?_
    refine wp_icf C (M15 hw) d15_11 (XT.ii_ge_f ((lt32 (by omega) (by omega)).mpr hi)) ?_
    refine wp_seg C (M15 hw) [(.aload_n 3, 1), (.iload 4, 2), (.aload_n 0, 1), (.iload_n 1, 1)] (by decide +kernel) (pc' := 19) (L' := [.val (.ref c), .val (.int (Int32.ofNat i)), .val (.int (Int32.ofNat cs.length)), .val (.ref b), .val (.int (Int32.ofNat i))]) (S' := [.int (Int32.ofNat i), .ref c, .int (Int32.ofNat i), .ref b]) rfl ?_
    refine wp_caload C (M15 hw) d15_19 (a := c) (List.Mem.tail _ hm) (i := i) (Ix32 (by omega)) (v := .int (c16 (cs.getD i 0))) (getD_map16 hi) ?_
    refine wp_invokestatic C (M15 hw) d15_20 (M13 hw) (w103 hw) (w104 hw) (w59 hw) (by decide) (S' := []) [.ref b, .int (Int32.ofNat i), .int (c16 (cs.getD i 0))] (lenOf pd13 rfl) rfl (L' := [.val (.ref b), .val (.int (Int32.ofNat i)), .val (.int (c16 (cs.getD i 0)))]) rfl rfl (hR.push (d' := 1) (w' := 14) (Nat.le_of_ble_eq_true rfl) (Nat.le_of_ble_eq_true rfl)) ?_
    refine c_put C hw hu (by rw [p16_len _ (by omega)]; omega) (by rw [p16_len _ (by omega)]; omega) (Meth.caller (M15 hw) d15_20)  ?_
    rw [p16_set cs hi]
    refine wp_seg C (M15 hw) [(.iinc 1 1, 3), (.iinc 4 1, 3), (.goto (-21), 3)] (by decide +kernel) (pc' := 8) (L' := [.val (.ref c), .val (.int ((Int32.ofNat i) + 1)), .val (.int (Int32.ofNat cs.length)), .val (.ref b), .val (.int ((Int32.ofNat i) + 1))]) (S' := []) rfl ?_
    rw [succ32]
    exact ih (i + 1) (by omega)
theorem c_tob {κ : Cx} (C : Ok κ) (hw : Ws κ) (hu : (Sta (kZ κ) (kZ κ).heap "java/lang/StringUTF16" "$assertionsDisabled" "Z" (.int 1)) ∧ (Sta (kZ κ) (kZ κ).heap "java/lang/StringUTF16" "HI_BYTE_SHIFT" "I" (.int 0)) ∧ Sta (kZ κ) (kZ κ).heap "java/lang/StringUTF16" "LO_BYTE_SHIFT" "I" (.int 8)) {c : Addr} {mc : Bool} {cs : List UInt16} (hl : 2 * cs.length * 8 ≤ 536870912) {yc : MethodName} {pcc : Nat} {Lc : List Slot} {Sc : List Value} {F : List Frame} {l : List Chunk} {k n : Nat} (Cr : Caller κ yc pcc 3) (hR : Rm κ (fr κ yc pcc Lc Sc :: F) 3 40) (hm : (c, mc, .inr (.char, cs.map cv)) ∈ l) (hk : k + 1 ≤ (kR κ).cells) (hn : n + 2 * cs.length ≤ (kR κ).slots) (K : ∀ b, WP κ yc (pcc + 3) Lc (.ref b :: Sc) F ((b, true, .inr (.byte, (enc16 cs).map byv)) :: l) (k + 1) (n + 2 * cs.length)) :
    WP κ y15 0 [.val (.ref c), .val (.int 0), .val (.int (Int32.ofNat cs.length)), .unset, .unset] [] (fr κ yc pcc Lc Sc :: F) (l) k n := by
  refine wp_seg C (M15 hw) [(.iload_n 2, 1)] (by decide +kernel) (pc' := 1) (L' := [.val (.ref c), .val (.int 0), .val (.int (Int32.ofNat cs.length)), .unset, .unset]) (S' := [.int (Int32.ofNat cs.length)]) rfl ?_
  refine wp_invokestatic C (M15 hw) d15_1 (M12 hw) (w96 hw) (w97 hw) (w59 hw) (by decide) (S' := []) [.int (Int32.ofNat cs.length)] (lenOf pd12 rfl) rfl (L' := [.val (.int (Int32.ofNat cs.length))]) rfl rfl (hR.push (d' := 1) (w' := 12) (Nat.le_of_ble_eq_true rfl) (Nat.le_of_ble_eq_true rfl)) ?_
  refine c_nbf C hw (by omega) (by omega) (Meth.caller (M15 hw) d15_1) (hR.push (d' := 2) (w' := 24) (Nat.le_of_ble_eq_true rfl) (Nat.le_of_ble_eq_true rfl)) hk hn fun b => ?_
  rw [byte0, ← p16_0]
  refine wp_seg C (M15 hw) [(.astore_n 3, 1), (.iconst 0, 1), (.istore 4, 2)] (by decide +kernel) (pc' := 8) (L' := [.val (.ref c), .val (.int 0), .val (.int (Int32.ofNat cs.length)), .val (.ref b), .val (.int 0)]) (S' := []) rfl ?_
  exact h_tob C hw hu (by omega) Cr (hR.mono (Nat.le_of_ble_eq_true rfl) (Nat.le_of_ble_eq_true rfl)) hm (K b) cs.length 0 (by omega)
theorem h_cmp5f {κ : Cx} (C : Ok κ) (hw : Ws κ) {c b : Addr} {mc : Bool} {cs : List UInt16} {j : Nat} (hl : cs.length < 2 ^ 31) (hj : j < cs.length) (hg : ¬ (cs.getD j 0).toNat < 256) (hb : ∀ i, i < j → (cs.getD i 0).toNat < 256) {yc : MethodName} {pcc : Nat} {Lc : List Slot} {Sc : List Value} {F : List Frame} {l : List Chunk} {k n : Nat} (Cr : Caller κ yc pcc 3) (hm : (c, mc, .inr (.char, cs.map cv)) ∈ l) (K : ∀ vs, WP κ yc (pcc + 3) Lc (.int (Int32.ofNat j) :: Sc) F ((b, true, .inr (.byte, vs)) :: l) k n) : ∀ (d i : Nat) (z : Int32), i + d = j →
    WP κ y6 3 [.val (.ref c), .val (.int (Int32.ofNat i)), .val (.ref b), .val (.int (Int32.ofNat i)), .val (.int (Int32.ofNat cs.length)), .val (.int (Int32.ofNat i)), .val (.int z)] [] (fr κ yc pcc Lc Sc :: F) ((b, true, .inr (.byte, part byv (.int 0) (l8 cs) i)) :: l) k n := by
  intro d
  induction d with
  | zero =>
    intro i z hi
    have e : i = j := by omega
    subst e
    refine wp_seg C (M6 hw) [(.iload 5, 2), (.iload 4, 2)] (by decide +kernel) (pc' := 7) (L' := [.val (.ref c), .val (.int (Int32.ofNat i)), .val (.ref b), .val (.int (Int32.ofNat i)), .val (.int (Int32.ofNat cs.length)), .val (.int (Int32.ofNat i)), .val (.int z)]) (S' := [.int (Int32.ofNat cs.length), .int (Int32.ofNat i)]) rfl ?_
    refine wp_icf C (M6 hw) d6_7 (XT.ii_ge_f ((lt32 (a := i) (by omega) hl).mpr (by omega))) ?_
    refine wp_seg C (M6 hw) [(.aload_n 0, 1), (.iload_n 1, 1)] (by decide +kernel) (pc' := 12) (L' := [.val (.ref c), .val (.int (Int32.ofNat i)), .val (.ref b), .val (.int (Int32.ofNat i)), .val (.int (Int32.ofNat cs.length)), .val (.int (Int32.ofNat i)), .val (.int z)]) (S' := [.int (Int32.ofNat i), .ref c]) rfl ?_
    refine wp_caload C (M6 hw) d6_12 (a := c) (List.Mem.tail _ hm) (i := i) (Ix32 (by omega)) (v := .int (c16 (cs.getD i 0))) (getD_map16 (by omega)) ?_
    refine wp_seg C (M6 hw) [(.istore 6, 2), (.iload 6, 2), (.sipush 255, 3)] (by decide +kernel) (pc' := 20) (L' := [.val (.ref c), .val (.int (Int32.ofNat i)), .val (.ref b), .val (.int (Int32.ofNat i)), .val (.int (Int32.ofNat cs.length)), .val (.int (Int32.ofNat i)), .val (.int (c16 (cs.getD i 0)))]) (S' := [.int 255, .int (c16 (cs.getD i 0))]) rfl ?_
    refine wp_icf C (M6 hw) d6_20 (XT.ii_le_f (c16_gt hg)) ?_
    refine wp_seg C (M6 hw) [(.iload 5, 2)] (by decide +kernel) (pc' := 25) (L' := [.val (.ref c), .val (.int (Int32.ofNat i)), .val (.ref b), .val (.int (Int32.ofNat i)), .val (.int (Int32.ofNat cs.length)), .val (.int (Int32.ofNat i)), .val (.int (c16 (cs.getD i 0)))]) (S' := [.int (Int32.ofNat i)]) rfl ?_
    exact wp_iret C (M6 hw) d6_25 rfl (t := .int) (by decide) rfl Cr (K _)
  | succ d ih =>
    intro i z hd
    refine wp_seg C (M6 hw) [(.iload 5, 2), (.iload 4, 2)] (by decide +kernel) (pc' := 7) (L' := [.val (.ref c), .val (.int (Int32.ofNat i)), .val (.ref b), .val (.int (Int32.ofNat i)), .val (.int (Int32.ofNat cs.length)), .val (.int (Int32.ofNat i)), .val (.int z)]) (S' := [.int (Int32.ofNat cs.length), .int (Int32.ofNat i)]) rfl ?_
    refine wp_icf C (M6 hw) d6_7 (XT.ii_ge_f ((lt32 (a := i) (by omega) hl).mpr (by omega))) ?_
    refine wp_seg C (M6 hw) [(.aload_n 0, 1), (.iload_n 1, 1)] (by decide +kernel) (pc' := 12) (L' := [.val (.ref c), .val (.int (Int32.ofNat i)), .val (.ref b), .val (.int (Int32.ofNat i)), .val (.int (Int32.ofNat cs.length)), .val (.int (Int32.ofNat i)), .val (.int z)]) (S' := [.int (Int32.ofNat i), .ref c]) rfl ?_
    refine wp_caload C (M6 hw) d6_12 (a := c) (List.Mem.tail _ hm) (i := i) (Ix32 (by omega)) (v := .int (c16 (cs.getD i 0))) (getD_map16 (by omega)) ?_
    refine wp_seg C (M6 hw) [(.istore 6, 2), (.iload 6, 2), (.sipush 255, 3)] (by decide +kernel) (pc' := 20) (L' := [.val (.ref c), .val (.int (Int32.ofNat i)), .val (.ref b), .val (.int (Int32.ofNat i)), .val (.int (Int32.ofNat cs.length)), .val (.int (Int32.ofNat i)), .val (.int (c16 (cs.getD i 0)))]) (S' := [.int 255, .int (c16 (cs.getD i 0))]) rfl ?_
    refine wp_ict C (M6 hw) d6_20 (XT.ii_le_t (c16_le (hb _ (by omega)))) (pc' := 26) (by decide) ?_
    refine wp_seg C (M6 hw) [(.aload_n 2, 1), (.iload_n 3, 1), (.iload 6, 2), (.i2b, 1)] (by decide +kernel) (pc' := 31) (L' := [.val (.ref c), .val (.int (Int32.ofNat i)), .val (.ref b), .val (.int (Int32.ofNat i)), .val (.int (Int32.ofNat cs.length)), .val (.int (Int32.ofNat i)), .val (.int (c16 (cs.getD i 0)))]) (S' := [.int ((Int32.toInt8 (c16 (cs.getD i 0))).toInt32), .int (Int32.ofNat i), .ref b]) rfl ?_
    refine wp_bastore C (M6 hw) d6_31 (i := 0) (j := i) rfl (Ix32 (by omega)) (by rw [part_len _ _ _ (by rw [l8_len]; omega), l8_len]; omega) (v' := .int (((l8 cs).getD i 0).toInt8.toInt32)) (congrArg Value.int (by rw [getD_l8 cs (by omega), c16_8 (hb _ (by omega))]; exact ch8_byte2 _)) (l' := (b, true, .inr (.byte, part byv (.int 0) (l8 cs) (i + 1))) :: l) (by rw [show Value.int (((l8 cs).getD i 0).toInt8.toInt32) = byv ((l8 cs).getD i 0) from rfl, List.set_cons_zero, part_set _ _ _ (by rw [l8_len]; omega)]) ?_
    refine wp_seg C (M6 hw) [(.iinc 1 1, 3), (.iinc 3 1, 3), (.iinc 5 1, 3), (.goto (-38), 3)] (by decide +kernel) (pc' := 3) (L' := [.val (.ref c), .val (.int ((Int32.ofNat i) + 1)), .val (.ref b), .val (.int ((Int32.ofNat i) + 1)), .val (.int (Int32.ofNat cs.length)), .val (.int ((Int32.ofNat i) + 1)), .val (.int (c16 (cs.getD i 0)))]) (S' := []) rfl ?_
    rw [succ32]
    exact ih (i + 1) _ (by omega)
theorem c_cmp5f {κ : Cx} (C : Ok κ) (hw : Ws κ) {c b : Addr} {mc : Bool} {cs : List UInt16} {j : Nat} (hl : cs.length < 2 ^ 31) (hj : j < cs.length) (hg : ¬ (cs.getD j 0).toNat < 256) (hb : ∀ i, i < j → (cs.getD i 0).toNat < 256) {yc : MethodName} {pcc : Nat} {Lc : List Slot} {Sc : List Value} {F : List Frame} {l : List Chunk} {k n : Nat} (Cr : Caller κ yc pcc 3) (hm : (c, mc, .inr (.char, cs.map cv)) ∈ l) (K : ∀ vs, WP κ yc (pcc + 3) Lc (.int (Int32.ofNat j) :: Sc) F ((b, true, .inr (.byte, vs)) :: l) k n) :
    WP κ y6 0 [.val (.ref c), .val (.int 0), .val (.ref b), .val (.int 0), .val (.int (Int32.ofNat cs.length)), .unset, .unset] [] (fr κ yc pcc Lc Sc :: F) ((b, true, .inr (.byte, List.replicate cs.length (.int 0))) :: l) k n := by
  rw [← l8_len cs, ← part_0 byv (.int 0) (l8 cs), l8_len]
  refine wp_seg C (M6 hw) [(.iconst 0, 1), (.istore 5, 2), (.iload 5, 2), (.iload 4, 2)] (by decide +kernel) (pc' := 7) (L' := [.val (.ref c), .val (.int 0), .val (.ref b), .val (.int 0), .val (.int (Int32.ofNat cs.length)), .val (.int 0), .unset]) (S' := [.int (Int32.ofNat cs.length), .int 0]) rfl ?_
  refine wp_icf C (M6 hw) d6_7 (XT.ii_ge_f ((lt32 (a := 0) (by omega) hl).mpr (by omega))) ?_
  refine wp_seg C (M6 hw) [(.aload_n 0, 1), (.iload_n 1, 1)] (by decide +kernel) (pc' := 12) (L' := [.val (.ref c), .val (.int 0), .val (.ref b), .val (.int 0), .val (.int (Int32.ofNat cs.length)), .val (.int 0), .unset]) (S' := [.int 0, .ref c]) rfl ?_
  refine wp_caload C (M6 hw) d6_12 (a := c) (List.Mem.tail _ hm) (i := 0) ⟨by decide, by decide⟩ (v := .int (c16 (cs.getD 0 0))) (getD_map16 (by omega)) ?_
  refine wp_seg C (M6 hw) [(.istore 6, 2), (.iload 6, 2), (.sipush 255, 3)] (by decide +kernel) (pc' := 20) (L' := [.val (.ref c), .val (.int 0), .val (.ref b), .val (.int 0), .val (.int (Int32.ofNat cs.length)), .val (.int 0), .val (.int (c16 (cs.getD 0 0)))]) (S' := [.int 255, .int (c16 (cs.getD 0 0))]) rfl ?_
  by_cases h0 : j = 0
  · subst h0
    have hg' := hg
    refine wp_icf C (M6 hw) d6_20 (XT.ii_le_f (c16_gt hg')) ?_
    refine wp_seg C (M6 hw) [(.iload 5, 2)] (by decide +kernel) (pc' := 25) (L' := [.val (.ref c), .val (.int 0), .val (.ref b), .val (.int 0), .val (.int (Int32.ofNat cs.length)), .val (.int 0), .val (.int (c16 (cs.getD 0 0)))]) (S' := [.int 0]) rfl ?_
    exact wp_iret C (M6 hw) d6_25 rfl (t := .int) (by decide) rfl Cr (K _)
  · refine wp_ict C (M6 hw) d6_20 (XT.ii_le_t (c16_le (hb _ (by omega)))) (pc' := 26) (by decide) ?_
    refine wp_seg C (M6 hw) [(.aload_n 2, 1), (.iload_n 3, 1), (.iload 6, 2), (.i2b, 1)] (by decide +kernel) (pc' := 31) (L' := [.val (.ref c), .val (.int 0), .val (.ref b), .val (.int 0), .val (.int (Int32.ofNat cs.length)), .val (.int 0), .val (.int (c16 (cs.getD 0 0)))]) (S' := [.int ((Int32.toInt8 (c16 (cs.getD 0 0))).toInt32), .int 0, .ref b]) rfl ?_
    refine wp_bastore C (M6 hw) d6_31 (i := 0) (j := 0) rfl ⟨by decide, by decide⟩ (by rw [part_len _ _ _ (by rw [l8_len]; omega), l8_len]; omega) (v' := .int (((l8 cs).getD 0 0).toInt8.toInt32)) (congrArg Value.int (by rw [getD_l8 cs (by omega), c16_8 (hb _ (by omega))]; exact ch8_byte2 _)) (l' := (b, true, .inr (.byte, part byv (.int 0) (l8 cs) 1)) :: l) (by rw [show Value.int (((l8 cs).getD 0 0).toInt8.toInt32) = byv ((l8 cs).getD 0 0) from rfl, List.set_cons_zero, part_set _ _ _ (by rw [l8_len]; omega)]) ?_
    refine wp_seg C (M6 hw) [(.iinc 1 1, 3), (.iinc 3 1, 3), (.iinc 5 1, 3), (.goto (-38), 3)] (by decide +kernel) (pc' := 3) (L' := [.val (.ref c), .val (.int 1), .val (.ref b), .val (.int 1), .val (.int (Int32.ofNat cs.length)), .val (.int 1), .val (.int (c16 (cs.getD 0 0)))]) (S' := []) rfl ?_
    exact h_cmp5f C hw hl hj hg hb Cr hm K (j - 1) 1 _ (by omega)
theorem c_cmp3f {κ : Cx} (C : Ok κ) (hw : Ws κ) (hu : (Sta (kZ κ) (kZ κ).heap "java/lang/StringUTF16" "$assertionsDisabled" "Z" (.int 1)) ∧ (Sta (kZ κ) (kZ κ).heap "java/lang/StringUTF16" "HI_BYTE_SHIFT" "I" (.int 0)) ∧ Sta (kZ κ) (kZ κ).heap "java/lang/StringUTF16" "LO_BYTE_SHIFT" "I" (.int 8)) {c : Addr} {mc : Bool} {cs : List UInt16} (hl : 2 * cs.length * 8 ≤ 536870912) (hlat : ¬ lat cs = true) {yc : MethodName} {pcc : Nat} {Lc : List Slot} {Sc : List Value} {F : List Frame} {l : List Chunk} {k n : Nat} (Cr : Caller κ yc pcc 3) (hR : Rm κ (fr κ yc pcc Lc Sc :: F) 4 57) (hm : (c, mc, .inr (.char, cs.map cv)) ∈ l) (hk : k + 2 ≤ (kR κ).cells) (hn : n + 3 * cs.length ≤ (kR κ).slots) (K : ∀ b, WP κ yc (pcc + 3) Lc (.ref b :: Sc) F ((b, true, .inr (.byte, (enc16 cs).map byv)) :: l) (k + 2) (n + 3 * cs.length)) :
    WP κ y7 0 [.val (.ref c), .val (.int 0), .val (.int (Int32.ofNat cs.length)), .unset, .unset, .unset] [] (fr κ yc pcc Lc Sc :: F) (l) k n := by
  obtain ⟨j, hj, hg, hb⟩ := not_lat hlat
  refine wp_seg C (M7 hw) [(.iload_n 2, 1)] (by decide +kernel) (pc' := 1) (L' := [.val (.ref c), .val (.int 0), .val (.int (Int32.ofNat cs.length)), .unset, .unset, .unset]) (S' := [.int (Int32.ofNat cs.length)]) rfl ?_
  refine wp_newarray C (M7 hw) d7_1 rfl (w21 hw) (len := cs.length) (Ix32 (by omega)) (by omega) (Nat.le_trans (by omega) hk) (Nat.le_trans (by omega) hn) (vs := List.replicate cs.length (.int 0)) rfl fun a1 => ?_
  refine wp_seg C (M7 hw) [(.astore_n 3, 1), (.aload_n 0, 1), (.iload_n 1, 1), (.aload_n 3, 1), (.iconst 0, 1), (.iload_n 2, 1)] (by decide +kernel) (pc' := 9) (L' := [.val (.ref c), .val (.int 0), .val (.int (Int32.ofNat cs.length)), .val (.ref a1), .unset, .unset]) (S' := [.int (Int32.ofNat cs.length), .int 0, .ref a1, .int 0, .ref c]) rfl ?_
  refine wp_invokestatic C (M7 hw) d7_9 (M6 hw) (w61 hw) (w62 hw) (w59 hw) (by decide) (S' := []) [.ref c, .int 0, .ref a1, .int 0, .int (Int32.ofNat cs.length)] (lenOf pd6 rfl) rfl (L' := [.val (.ref c), .val (.int 0), .val (.ref a1), .val (.int 0), .val (.int (Int32.ofNat cs.length)), .unset, .unset]) rfl rfl (hR.push (d' := 1) (w' := 18) (Nat.le_of_ble_eq_true rfl) (Nat.le_of_ble_eq_true rfl)) ?_
  refine c_cmp5f C hw (by omega) hj hg hb (Meth.caller (M7 hw) d7_9) hm fun vs => ?_
  refine wp_seg C (M7 hw) [(.istore 4, 2), (.iload 4, 2), (.iload_n 2, 1)] (by decide +kernel) (pc' := 17) (L' := [.val (.ref c), .val (.int 0), .val (.int (Int32.ofNat cs.length)), .val (.ref a1), .val (.int (Int32.ofNat j)), .unset]) (S' := [.int (Int32.ofNat cs.length), .int (Int32.ofNat j)]) rfl ?_
  refine wp_icf C (M7 hw) d7_17 (XT.ii_eq_f (fun q => by have := (eq32 (by omega) (by omega)).mp q; omega)) ?_
  refine wp_seg C (M7 hw) [(.aload_n 0, 1), (.iload_n 1, 1), (.iload_n 2, 1)] (by decide +kernel) (pc' := 23) (L' := [.val (.ref c), .val (.int 0), .val (.int (Int32.ofNat cs.length)), .val (.ref a1), .val (.int (Int32.ofNat j)), .unset]) (S' := [.int (Int32.ofNat cs.length), .int 0, .ref c]) rfl ?_
  refine wp_invokestatic C (M7 hw) d7_23 (M15 hw) (w93 hw) (w94 hw) (w59 hw) (by decide) (S' := []) [.ref c, .int 0, .int (Int32.ofNat cs.length)] (lenOf pd15 rfl) rfl (L' := [.val (.ref c), .val (.int 0), .val (.int (Int32.ofNat cs.length)), .unset, .unset]) rfl rfl (hR.push (d' := 1) (w' := 16) (Nat.le_of_ble_eq_true rfl) (Nat.le_of_ble_eq_true rfl)) ?_
  refine c_tob C hw hu hl (Meth.caller (M7 hw) d7_23) (hR.push (d' := 3) (w' := 40) (Nat.le_of_ble_eq_true rfl) (Nat.le_of_ble_eq_true rfl)) (List.Mem.tail _ hm) (Nat.le_trans (by omega) hk) (Nat.le_trans (by omega) hn) fun b => ?_
  refine wp_seg C (M7 hw) [(.astore 5, 2), (.aload 5, 2), (.iload 4, 2)] (by decide +kernel) (pc' := 32) (L' := [.val (.ref c), .val (.int 0), .val (.int (Int32.ofNat cs.length)), .val (.ref a1), .val (.int (Int32.ofNat j)), .val (.ref b)]) (S' := [.int (Int32.ofNat j), .ref b]) rfl ?_
  refine wp_invokestatic C (M7 hw) d7_32 (M14 hw) (w109 hw) (w110 hw) (w59 hw) (by decide) (S' := []) [.ref b, .int (Int32.ofNat j)] (lenOf pd14 rfl) rfl (L' := [.val (.ref b), .val (.int (Int32.ofNat j))]) rfl rfl (hR.push (d' := 1) (w' := 13) (Nat.le_of_ble_eq_true rfl) (Nat.le_of_ble_eq_true rfl)) ?_
  refine c_getc C hw hu (by omega) hj (Meth.caller (M7 hw) d7_32) (mb := true) (List.mem_of_getElem? (i := 0) rfl) ?_
  refine wp_seg C (M7 hw) [(.sipush 255, 3)] (by decide +kernel) (pc' := 38) (L' := [.val (.ref c), .val (.int 0), .val (.int (Int32.ofNat cs.length)), .val (.ref a1), .val (.int (Int32.ofNat j)), .val (.ref b)]) (S' := [.int 255, .int (c16 (cs.getD j 0))]) rfl ?_
  refine wp_ict C (M7 hw) d7_38 (XT.ii_gt_t (c16_gt hg)) (pc' := 54) (by decide) ?_
  refine wp_seg C (M7 hw) [(.aload 5, 2)] (by decide +kernel) (pc' := 56) (L' := [.val (.ref c), .val (.int 0), .val (.int (Int32.ofNat cs.length)), .val (.ref a1), .val (.int (Int32.ofNat j)), .val (.ref b)]) (S' := [.ref b]) rfl ?_
  refine wp_front 1 rfl rfl ?_
  refine wp_drop ?_
  rw [show n + cs.length + 2 * cs.length = n + 3 * cs.length by omega]
  exact wp_aret C (M7 hw) d7_56 rfl (t := .array .byte) rfl rfl Cr (K b)
theorem c_cfa1 {κ : Cx} (C : Ok κ) (hw : Ws κ) {b : Addr} {mb : Bool} {cs : List UInt16} (h0 : 0 < cs.length) (hl : 2 * cs.length < 2 ^ 31) {yc : MethodName} {pcc : Nat} {Lc : List Slot} {Sc : List Value} {F : List Frame} {l : List Chunk} {k n : Nat} (Cr : Caller κ yc pcc 3) (hm : (b, mb, .inr (.byte, (enc16 cs).map byv)) ∈ l) (K : WP κ yc (pcc + 3) Lc (.int 1 :: Sc) F (l) k n) :
    WP κ y8 0 [.val (.ref b), .val (.int (Int32.ofNat cs.length))] [] (fr κ yc pcc Lc Sc :: F) (l) k n := by
  refine wp_seg C (M8 hw) [(.iload_n 1, 1), (.aload_n 0, 1)] (by decide +kernel) (pc' := 2) (L' := [.val (.ref b), .val (.int (Int32.ofNat cs.length))]) (S' := [.ref b, .int (Int32.ofNat cs.length)]) rfl ?_
  refine wp_arraylength C (M8 hw) d8_2 (a := b) hm (z := (Int32.ofNat (2 * cs.length))) (by simp [enc16_len]) ?_
  refine wp_seg C (M8 hw) [(.isub, 1), (.bipush 31, 2), (.iushr, 1), (.i2b, 1)] (by decide +kernel) (pc' := 8) (L' := [.val (.ref b), .val (.int (Int32.ofNat cs.length))]) (S' := [.int ((Int32.toInt8 (XT.ushr ((Int32.ofNat cs.length) - (Int32.ofNat (2 * cs.length))) (31 : Int32))).toInt32)]) rfl ?_
  rw [neg_ushr h0 hl]
  exact wp_iret C (M8 hw) d8_8 rfl (t := .byte) (by decide) rfl Cr K
theorem c_init4f {κ : Cx} (C : Ok κ) (hw : Ws κ) (hs : StrS κ) (hu : (Sta (kZ κ) (kZ κ).heap "java/lang/StringUTF16" "$assertionsDisabled" "Z" (.int 1)) ∧ (Sta (kZ κ) (kZ κ).heap "java/lang/StringUTF16" "HI_BYTE_SHIFT" "I" (.int 0)) ∧ Sta (kZ κ) (kZ κ).heap "java/lang/StringUTF16" "LO_BYTE_SHIFT" "I" (.int 8)) {a c : Addr} {mc : Bool} {cs : List UInt16} (hl : 2 * cs.length * 8 ≤ 536870912) (h0 : 0 < cs.length) (hlat : ¬ lat cs = true) {yc : MethodName} {pcc : Nat} {Lc : List Slot} {Sc : List Value} {F : List Frame} {l : List Chunk} {k n : Nat} (Cr : Caller κ yc pcc 3) (hR : Rm κ (fr κ yc pcc Lc Sc :: F) 5 74) (hm : (c, mc, .inr (.char, cs.map cv)) ∈ l) (hk : k + 2 ≤ (kR κ).cells) (hn : n + 3 * cs.length ≤ (kR κ).slots) (K : ∀ b, WP κ yc (pcc + 3) Lc Sc F (strO a b 1 :: strB b (enc16 cs) :: l) (k + 2) (n + 3 * cs.length)) :
    WP κ y9 0 [.val (.ref a), .val (.ref c), .val (.int 0), .val (.int (Int32.ofNat cs.length)), .val (.null), .unset] [] (fr κ yc pcc Lc Sc :: F) ((a, true, .inl ("java/lang/String", [("java/lang/String", "value", "[B", .null), ("java/lang/String", "coder", "B", .int 0)])) :: l) k n := by
  obtain ⟨⟨cz, hcs, scs⟩, fv, hfv, sfv⟩ := hs
  refine wp_seg C (M9 hw) [(.aload_n 0, 1)] (by decide +kernel) (pc' := 1) (L' := [.val (.ref a), .val (.ref c), .val (.int 0), .val (.int (Int32.ofNat cs.length)), .val (.null), .unset]) (S' := [.ref a]) rfl ?_
  refine wp_initObject C (M9 hw) d9_1 (w17 hw) (w18 hw) (w19 hw) (hR.push (d' := 1) (w' := 12) (Nat.le_of_ble_eq_true rfl) (Nat.le_of_ble_eq_true rfl)) ?_
  refine wp_seg C (M9 hw) [(.iload_n 3, 1)] (by decide +kernel) (pc' := 5) (L' := [.val (.ref a), .val (.ref c), .val (.int 0), .val (.int (Int32.ofNat cs.length)), .val (.null), .unset]) (S' := [.int (Int32.ofNat cs.length)]) rfl ?_
  refine wp_ift C (M9 hw) d9_5 (XT.i0_ne_t (fun q => by have := (eq32 (b := 0) (by omega) (by decide)).mp q; omega)) (pc' := 27) (by decide) ?_
  refine wp_getstatic C (M9 hw) d9_27 (w42 hw) (Or.inl rfl) scs ?_
  refine wp_iff C (M9 hw) d9_30 (XT.i0_eq_f hcs) ?_
  refine wp_seg C (M9 hw) [(.aload_n 1, 1), (.iload_n 2, 1), (.iload_n 3, 1)] (by decide +kernel) (pc' := 36) (L' := [.val (.ref a), .val (.ref c), .val (.int 0), .val (.int (Int32.ofNat cs.length)), .val (.null), .unset]) (S' := [.int (Int32.ofNat cs.length), .int 0, .ref c]) rfl ?_
  refine wp_invokestatic C (M9 hw) d9_36 (M7 hw) (w57 hw) (w58 hw) (w59 hw) (by decide) (S' := []) [.ref c, .int 0, .int (Int32.ofNat cs.length)] (lenOf pd7 rfl) rfl (L' := [.val (.ref c), .val (.int 0), .val (.int (Int32.ofNat cs.length)), .unset, .unset, .unset]) rfl rfl (hR.push (d' := 1) (w' := 17) (Nat.le_of_ble_eq_true rfl) (Nat.le_of_ble_eq_true rfl)) ?_
  refine c_cmp3f C hw hu hl hlat (Meth.caller (M9 hw) d9_36) (hR.push (d' := 4) (w' := 57) (Nat.le_of_ble_eq_true rfl) (Nat.le_of_ble_eq_true rfl)) (List.Mem.tail _ hm) hk hn fun b => ?_
  refine wp_seg C (M9 hw) [(.astore 5, 2), (.aload_n 0, 1), (.aload 5, 2), (.iload_n 3, 1)] (by decide +kernel) (pc' := 45) (L' := [.val (.ref a), .val (.ref c), .val (.int 0), .val (.int (Int32.ofNat cs.length)), .val (.null), .val (.ref b)]) (S' := [.int (Int32.ofNat cs.length), .ref b, .ref a]) rfl ?_
  refine wp_invokestatic C (M9 hw) d9_45 (M8 hw) (w64 hw) (w65 hw) (w59 hw) (by decide) (S' := [.ref a]) [.ref b, .int (Int32.ofNat cs.length)] (lenOf pd8 rfl) rfl (L' := [.val (.ref b), .val (.int (Int32.ofNat cs.length))]) rfl rfl (hR.push (d' := 1) (w' := 13) (Nat.le_of_ble_eq_true rfl) (Nat.le_of_ble_eq_true rfl)) ?_
  refine c_cfa1 C hw h0 (by omega) (Meth.caller (M9 hw) d9_45) (List.mem_of_getElem? (i := 0) rfl) ?_
  refine wp_putfield C (M9 hw) d9_48 (w27 hw) (Or.inl rfl) (i := 1) (j := 1) rfl rfl (Or.inr ⟨(w23 hw), rfl, rfl⟩) (w8 hw) (ty := .byte) (by decide) rfl rfl (l' := (b, true, .inr (.byte, (enc16 cs).map byv)) :: (a, true, .inl ("java/lang/String", [("java/lang/String", "value", "[B", .null), ("java/lang/String", "coder", "B", .int 1)])) :: l) rfl ?_
  refine wp_seg C (M9 hw) [(.aload_n 0, 1), (.aload 5, 2)] (by decide +kernel) (pc' := 54) (L' := [.val (.ref a), .val (.ref c), .val (.int 0), .val (.int (Int32.ofNat cs.length)), .val (.null), .val (.ref b)]) (S' := [.ref b, .ref a]) rfl ?_
  refine wp_putfield C (M9 hw) d9_54 (w26 hw) (Or.inl rfl) (i := 1) (j := 0) rfl rfl (Or.inr ⟨(w22 hw), rfl, rfl⟩) (w8 hw) (ty := .array (.byte)) (by decide) rfl rfl (l' := (b, true, .inr (.byte, (enc16 cs).map byv)) :: (a, true, .inl ("java/lang/String", [("java/lang/String", "value", "[B", .ref b), ("java/lang/String", "coder", "B", .int 1)])) :: l) rfl ?_
  refine wp_freeze ?_
  refine wp_front 1 rfl rfl ?_
  refine wp_freeze ?_
  exact wp_vret C (M9 hw) d9_57 Cr (K b)
theorem c_initU {κ : Cx} (C : Ok κ) (hw : Ws κ) (hs : StrS κ) (hu : (Sta (kZ κ) (kZ κ).heap "java/lang/StringUTF16" "$assertionsDisabled" "Z" (.int 1)) ∧ (Sta (kZ κ) (kZ κ).heap "java/lang/StringUTF16" "HI_BYTE_SHIFT" "I" (.int 0)) ∧ Sta (kZ κ) (kZ κ).heap "java/lang/StringUTF16" "LO_BYTE_SHIFT" "I" (.int 8)) {a c : Addr} {mc : Bool} {cs : List UInt16} (hl : 2 * cs.length * 8 ≤ 536870912) (h0 : 0 < cs.length) {yc : MethodName} {pcc : Nat} {Lc : List Slot} {Sc : List Value} {F : List Frame} {l : List Chunk} {k n : Nat} (Cr : Caller κ yc pcc 3) (hR : Rm κ (fr κ yc pcc Lc Sc :: F) 6 87) (hm : (c, mc, .inr (.char, cs.map cv)) ∈ l) (hk : k + 2 ≤ (kR κ).cells) (hn : n + 3 * cs.length ≤ (kR κ).slots) (K : ∀ b, WP κ yc (pcc + 3) Lc Sc F (strO a b (cod cs) :: strB b (enc cs) :: l) (k + 2) (n + 3 * cs.length)) :
    WP κ y10 0 [.val (.ref a), .val (.ref c)] [] (fr κ yc pcc Lc Sc :: F) ((a, true, .inl ("java/lang/String", [("java/lang/String", "value", "[B", .null), ("java/lang/String", "coder", "B", .int 0)])) :: l) k n := by
  refine wp_seg C (M10 hw) [(.aload_n 0, 1), (.aload_n 1, 1), (.iconst 0, 1), (.aload_n 1, 1)] (by decide +kernel) (pc' := 4) (L' := [.val (.ref a), .val (.ref c)]) (S' := [.ref c, .int 0, .ref c, .ref a]) rfl ?_
  refine wp_arraylength C (M10 hw) d10_4 (a := c) (List.Mem.tail _ hm) (z := (Int32.ofNat cs.length)) (by simp) ?_
  refine wp_seg C (M10 hw) [(.aconst_null, 1)] (by decide +kernel) (pc' := 6) (L' := [.val (.ref a), .val (.ref c)]) (S' := [.null, .int (Int32.ofNat cs.length), .int 0, .ref c, .ref a]) rfl ?_
  by_cases hlat : lat cs = true
  · have e8 := l8_len cs
    rw [cod_t hlat, enc_t hlat] at K
    rw [lat_map hlat] at hm
    rw [← e8]
    refine wp_init C (M10 hw) d10_6 (M9 hw) rfl (w13 hw) (w14 hw) (by decide) (S' := []) a [.ref c, .int 0, .int (Int32.ofNat (l8 cs).length), .null] (lenOf pd9 rfl) rfl (L' := [.val (.ref a), .val (.ref c), .val (.int 0), .val (.int (Int32.ofNat (l8 cs).length)), .val (.null), .unset]) rfl rfl (hR.push (d' := 1) (w' := 17) (Nat.le_of_ble_eq_true rfl) (Nat.le_of_ble_eq_true rfl)) ?_
    refine c_init4 C hw hs (by rw [e8]; omega) (by rw [e8]; omega) (by rw [e8]; exact h0) (Meth.caller (M10 hw) d10_6) (hR.push (d' := 3) (w' := 52) (Nat.le_of_ble_eq_true rfl) (Nat.le_of_ble_eq_true rfl)) hm (Nat.le_trans (by omega) hk) (by rw [e8]; exact (Nat.le_trans (by omega) hn)) fun b => ?_
    rw [e8]
    refine wp_room (k' := k + 2) (n' := n + 3 * cs.length) (by omega) (by omega) hk hn ?_
    exact wp_vret C (M10 hw) d10_9 Cr (K b)
  · rw [cod_f hlat, enc_f hlat] at K
    refine wp_init C (M10 hw) d10_6 (M9 hw) rfl (w13 hw) (w14 hw) (by decide) (S' := []) a [.ref c, .int 0, .int (Int32.ofNat cs.length), .null] (lenOf pd9 rfl) rfl (L' := [.val (.ref a), .val (.ref c), .val (.int 0), .val (.int (Int32.ofNat cs.length)), .val (.null), .unset]) rfl rfl (hR.push (d' := 1) (w' := 17) (Nat.le_of_ble_eq_true rfl) (Nat.le_of_ble_eq_true rfl)) ?_
    refine c_init4f C hw hs hu hl h0 hlat (Meth.caller (M10 hw) d10_6) (hR.push (d' := 5) (w' := 74) (Nat.le_of_ble_eq_true rfl) (Nat.le_of_ble_eq_true rfl)) hm hk hn fun b => ?_
    exact wp_vret C (M10 hw) d10_9 Cr (K b)
theorem c_coder1 {κ : Cx} (C : Ok κ) (hw : Ws κ) (hs : StrS κ) {a b : Addr} {yc : MethodName} {pcc : Nat} {Lc : List Slot} {Sc : List Value} {F : List Frame} {l : List Chunk} {k n : Nat} (Cr : Caller κ yc pcc 3) (ho : strO a b 1 ∈ l) (K : WP κ yc (pcc + 3) Lc (.int 1 :: Sc) F (l) k n) :
    WP κ y1 0 [.val (.ref a)] [] (fr κ yc pcc Lc Sc :: F) (l) k n := by
  obtain ⟨⟨cz, hcs, scs⟩, -⟩ := hs
  refine wp_getstatic C (M1 hw) d1_0 (w42 hw) (Or.inl rfl) scs ?_
  refine wp_iff C (M1 hw) d1_3 (XT.i0_eq_f hcs) ?_
  refine wp_seg C (M1 hw) [(.aload_n 0, 1)] (by decide +kernel) (pc' := 7) (L' := [.val (.ref a)]) (S' := [.ref a]) rfl ?_
  refine wp_getfield C (M1 hw) d1_7 (w27 hw) (Or.inl rfl) (a := a) (mu := false) (Cl := "java/lang/String") (fs := [("java/lang/String", "value", "[B", .ref b), ("java/lang/String", "coder", "B", .int 1)]) ho (List.mem_of_getElem? (i := 1) rfl) ?_
  refine wp_seg C (M1 hw) [(.goto 4, 3)] (by decide +kernel) (pc' := 14) (L' := [.val (.ref a)]) (S' := [.int 1]) rfl ?_
  exact wp_iret C (M1 hw) d1_14 rfl (t := .byte) (by decide) rfl Cr K
theorem c_isl1 {κ : Cx} (C : Ok κ) (hw : Ws κ) (hs : StrS κ) {a b : Addr} {yc : MethodName} {pcc : Nat} {Lc : List Slot} {Sc : List Value} {F : List Frame} {l : List Chunk} {k n : Nat} (Cr : Caller κ yc pcc 3) (ho : strO a b 1 ∈ l) (K : WP κ yc (pcc + 3) Lc (.int 0 :: Sc) F (l) k n) :
    WP κ y3 0 [.val (.ref a)] [] (fr κ yc pcc Lc Sc :: F) (l) k n := by
  obtain ⟨⟨cz, hcs, scs⟩, -⟩ := hs
  refine wp_getstatic C (M3 hw) d3_0 (w42 hw) (Or.inl rfl) scs ?_
  refine wp_iff C (M3 hw) d3_3 (XT.i0_eq_f hcs) ?_
  refine wp_seg C (M3 hw) [(.aload_n 0, 1)] (by decide +kernel) (pc' := 7) (L' := [.val (.ref a)]) (S' := [.ref a]) rfl ?_
  refine wp_getfield C (M3 hw) d3_7 (w27 hw) (Or.inl rfl) (a := a) (mu := false) (Cl := "java/lang/String") (fs := [("java/lang/String", "value", "[B", .ref b), ("java/lang/String", "coder", "B", .int 1)]) ho (List.mem_of_getElem? (i := 1) rfl) ?_
  refine wp_ift C (M3 hw) d3_10 (XT.i0_ne_t (by decide)) (pc' := 17) (by decide) ?_
  refine wp_seg C (M3 hw) [(.iconst 0, 1)] (by decide +kernel) (pc' := 18) (L' := [.val (.ref a)]) (S' := [.int 0]) rfl ?_
  exact wp_iret C (M3 hw) d3_18 rfl (t := .boolean) (by decide) rfl Cr K
theorem c_lenU {κ : Cx} (C : Ok κ) (hw : Ws κ) (hs : StrS κ) {a : Addr} {cs : List UInt16} (hl : 2 * cs.length < 2 ^ 31) {yc : MethodName} {pcc : Nat} {Lc : List Slot} {Sc : List Value} {F : List Frame} {l : List Chunk} {k n : Nat} (Cr : Caller κ yc pcc 3) (hR : Rm κ (fr κ yc pcc Lc Sc :: F) 2 25) (st : StrU l a cs) (K : WP κ yc (pcc + 3) Lc (.int (Int32.ofNat cs.length) :: Sc) F (l) k n) :
    WP κ y2 0 [.val (.ref a)] [] (fr κ yc pcc Lc Sc :: F) (l) k n := by
  have st0 := st
  by_cases hlat : lat cs = true
  · rw [← l8_len cs] at K
    exact c_len C hw hs Cr (hR.mono (Nat.le_of_ble_eq_true rfl) (Nat.le_of_ble_eq_true rfl)) (st.str hlat) K
  · obtain ⟨b, ho, hb⟩ := st
    rw [cod_f hlat] at ho
    rw [enc_f hlat] at hb
    refine wp_seg C (M2 hw) [(.aload_n 0, 1)] (by decide +kernel) (pc' := 1) (L' := [.val (.ref a)]) (S' := [.ref a]) rfl ?_
    refine wp_getfield C (M2 hw) d2_1 (w26 hw) (Or.inl rfl) (a := a) (mu := false) (Cl := "java/lang/String") (fs := [("java/lang/String", "value", "[B", .ref b), ("java/lang/String", "coder", "B", .int 1)]) ho (List.mem_of_getElem? (i := 0) rfl) ?_
    refine wp_arraylength C (M2 hw) d2_4 (a := b) hb (z := (Int32.ofNat (2 * cs.length))) (by simp [enc16_len]) ?_
    refine wp_seg C (M2 hw) [(.aload_n 0, 1)] (by decide +kernel) (pc' := 6) (L' := [.val (.ref a)]) (S' := [.ref a, .int (Int32.ofNat (2 * cs.length))]) rfl ?_
    refine wp_invokevirtual C (M2 hw) d2_6 (M1 hw) (Cl := "java/lang/String") (w37 hw) (w38 hw) (w40 hw) (w39 hw) (Or.inl ⟨_, (w40 hw)⟩) (by decide) (b := a) ho (S' := [.int (Int32.ofNat (2 * cs.length))]) [] (lenOf pd1 rfl) rfl (L' := [.val (.ref a)]) rfl rfl (hR.push (d' := 1) (w' := 12) (Nat.le_of_ble_eq_true rfl) (Nat.le_of_ble_eq_true rfl)) ?_
    refine c_coder1 C hw hs (Meth.caller (M2 hw) d2_6) ho ?_
    refine wp_seg C (M2 hw) [(.ishr, 1)] (by decide +kernel) (pc' := 10) (L' := [.val (.ref a)]) (S' := [.int ((Int32.ofNat (2 * cs.length)) >>> ((1 : Int32) &&& 31))]) rfl ?_
    rw [shrk (k := 1) (by omega) _ (by decide) (by decide), show 2 * cs.length / 2 ^ 1 = cs.length by omega]
    exact wp_iret C (M2 hw) d2_10 rfl (t := .int) (by decide) rfl Cr K
theorem c_isH {κ : Cx} (C : Ok κ) (hw : Ws κ) {c : UInt16} {yc : MethodName} {pcc : Nat} {Lc : List Slot} {Sc : List Value} {F : List Frame} {l : List Chunk} {k n : Nat} (Cr : Caller κ yc pcc 3)  (K : WP κ yc (pcc + 3) Lc (.int (bi (hiS c)) :: Sc) F (l) k n) :
    WP κ y16 0 [.val (.int (c16 c))] [] (fr κ yc pcc Lc Sc :: F) (l) k n := by
  refine wp_seg C (M16 hw) [(.iload_n 0, 1)] (by decide +kernel) (pc' := 1) (L' := [.val (.int (c16 c))]) (S' := [.int (c16 c)]) rfl ?_
  refine wp_ldcI C (M16 hw) d16_1 (w52 hw) ?_
  by_cases q0 : (c16 c) < (55296 : Int32)
  · refine wp_ict C (M16 hw) d16_3 (XT.ii_lt_t q0) (pc' := 16) (by decide) ?_
    refine wp_seg C (M16 hw) [(.iconst 0, 1)] (by decide +kernel) (pc' := 17) (L' := [.val (.int (c16 c))]) (S' := [.int 0]) rfl ?_
    rw [bi_f (show ¬ hiS c by simp [hiS, q0])] at K
    exact wp_iret C (M16 hw) d16_17 rfl (t := .boolean) (by decide) rfl Cr K
  · refine wp_icf C (M16 hw) d16_3 (XT.ii_lt_f q0) ?_
    refine wp_seg C (M16 hw) [(.iload_n 0, 1)] (by decide +kernel) (pc' := 7) (L' := [.val (.int (c16 c))]) (S' := [.int (c16 c)]) rfl ?_
    refine wp_ldcI C (M16 hw) d16_7 (w91 hw) ?_
    by_cases q1 : (56319 : Int32) < (c16 c)
    · refine wp_ict C (M16 hw) d16_9 (XT.ii_gt_t q1) (pc' := 16) (by decide) ?_
      refine wp_seg C (M16 hw) [(.iconst 0, 1)] (by decide +kernel) (pc' := 17) (L' := [.val (.int (c16 c))]) (S' := [.int 0]) rfl ?_
      rw [bi_f (show ¬ hiS c by simp [hiS, q0, q1])] at K
      exact wp_iret C (M16 hw) d16_17 rfl (t := .boolean) (by decide) rfl Cr K
    · refine wp_icf C (M16 hw) d16_9 (XT.ii_gt_f q1) ?_
      refine wp_seg C (M16 hw) [(.iconst 1, 1), (.goto 4, 3)] (by decide +kernel) (pc' := 17) (L' := [.val (.int (c16 c))]) (S' := [.int 1]) rfl ?_
      rw [bi_t (show hiS c by simp [hiS, q0, q1])] at K
      exact wp_iret C (M16 hw) d16_17 rfl (t := .boolean) (by decide) rfl Cr K
theorem c_isL {κ : Cx} (C : Ok κ) (hw : Ws κ) {c : UInt16} {yc : MethodName} {pcc : Nat} {Lc : List Slot} {Sc : List Value} {F : List Frame} {l : List Chunk} {k n : Nat} (Cr : Caller κ yc pcc 3)  (K : WP κ yc (pcc + 3) Lc (.int (bi (loS c)) :: Sc) F (l) k n) :
    WP κ y17 0 [.val (.int (c16 c))] [] (fr κ yc pcc Lc Sc :: F) (l) k n := by
  refine wp_seg C (M17 hw) [(.iload_n 0, 1)] (by decide +kernel) (pc' := 1) (L' := [.val (.int (c16 c))]) (S' := [.int (c16 c)]) rfl ?_
  refine wp_ldcI C (M17 hw) d17_1 (w56 hw) ?_
  by_cases q0 : (c16 c) < (56320 : Int32)
  · refine wp_ict C (M17 hw) d17_3 (XT.ii_lt_t q0) (pc' := 16) (by decide) ?_
    refine wp_seg C (M17 hw) [(.iconst 0, 1)] (by decide +kernel) (pc' := 17) (L' := [.val (.int (c16 c))]) (S' := [.int 0]) rfl ?_
    rw [bi_f (show ¬ loS c by simp [loS, q0])] at K
    exact wp_iret C (M17 hw) d17_17 rfl (t := .boolean) (by decide) rfl Cr K
  · refine wp_icf C (M17 hw) d17_3 (XT.ii_lt_f q0) ?_
    refine wp_seg C (M17 hw) [(.iload_n 0, 1)] (by decide +kernel) (pc' := 7) (L' := [.val (.int (c16 c))]) (S' := [.int (c16 c)]) rfl ?_
    refine wp_ldcI C (M17 hw) d17_7 (w92 hw) ?_
    by_cases q1 : (57343 : Int32) < (c16 c)
    · refine wp_ict C (M17 hw) d17_9 (XT.ii_gt_t q1) (pc' := 16) (by decide) ?_
      refine wp_seg C (M17 hw) [(.iconst 0, 1)] (by decide +kernel) (pc' := 17) (L' := [.val (.int (c16 c))]) (S' := [.int 0]) rfl ?_
      rw [bi_f (show ¬ loS c by simp [loS, q0, q1])] at K
      exact wp_iret C (M17 hw) d17_17 rfl (t := .boolean) (by decide) rfl Cr K
    · refine wp_icf C (M17 hw) d17_9 (XT.ii_gt_f q1) ?_
      refine wp_seg C (M17 hw) [(.iconst 1, 1), (.goto 4, 3)] (by decide +kernel) (pc' := 17) (L' := [.val (.int (c16 c))]) (S' := [.int 1]) rfl ?_
      rw [bi_t (show loS c by simp [loS, q0, q1])] at K
      exact wp_iret C (M17 hw) d17_17 rfl (t := .boolean) (by decide) rfl Cr K
theorem c_jH {κ : Cx} (C : Ok κ) (hw : Ws κ) {c : UInt16} {yc : MethodName} {pcc : Nat} {Lc : List Slot} {Sc : List Value} {F : List Frame} {l : List Chunk} {k n : Nat} (Cr : Caller κ yc pcc 3)  (K : WP κ yc (pcc + 3) Lc (.int (bi (hiS c)) :: Sc) F (l) k n) :
    WP κ y18 0 [.val (.int (c16 c))] [] (fr κ yc pcc Lc Sc :: F) (l) k n := by
  refine wp_seg C (M18 hw) [(.iload_n 0, 1)] (by decide +kernel) (pc' := 1) (L' := [.val (.int (c16 c))]) (S' := [.int (c16 c)]) rfl ?_
  refine wp_ldcI C (M18 hw) d18_1 (w121 hw) ?_
  by_cases q0 : (c16 c) < (55296 : Int32)
  · refine wp_ict C (M18 hw) d18_3 (XT.ii_lt_t q0) (pc' := 16) (by decide) ?_
    refine wp_seg C (M18 hw) [(.iconst 0, 1)] (by decide +kernel) (pc' := 17) (L' := [.val (.int (c16 c))]) (S' := [.int 0]) rfl ?_
    rw [bi_f (fun q => absurd ((hiJ c).mpr q) (by simp [q0]))] at K
    exact wp_iret C (M18 hw) d18_17 rfl (t := .boolean) (by decide) rfl Cr K
  · refine wp_icf C (M18 hw) d18_3 (XT.ii_lt_f q0) ?_
    refine wp_seg C (M18 hw) [(.iload_n 0, 1)] (by decide +kernel) (pc' := 7) (L' := [.val (.int (c16 c))]) (S' := [.int (c16 c)]) rfl ?_
    refine wp_ldcI C (M18 hw) d18_7 (w122 hw) ?_
    by_cases q1 : (c16 c) < (56320 : Int32)
    · refine wp_icf C (M18 hw) d18_9 (XT.ii_ge_f q1) ?_
      refine wp_seg C (M18 hw) [(.iconst 1, 1), (.goto 4, 3)] (by decide +kernel) (pc' := 17) (L' := [.val (.int (c16 c))]) (S' := [.int 1]) rfl ?_
      rw [bi_t ((hiJ c).mp (by simp [q0, q1]))] at K
      exact wp_iret C (M18 hw) d18_17 rfl (t := .boolean) (by decide) rfl Cr K
    · refine wp_ict C (M18 hw) d18_9 (XT.ii_ge_t q1) (pc' := 16) (by decide) ?_
      refine wp_seg C (M18 hw) [(.iconst 0, 1)] (by decide +kernel) (pc' := 17) (L' := [.val (.int (c16 c))]) (S' := [.int 0]) rfl ?_
      rw [bi_f (fun q => absurd ((hiJ c).mpr q) (by simp [q0, q1]))] at K
      exact wp_iret C (M18 hw) d18_17 rfl (t := .boolean) (by decide) rfl Cr K
theorem c_jL {κ : Cx} (C : Ok κ) (hw : Ws κ) {c : UInt16} {yc : MethodName} {pcc : Nat} {Lc : List Slot} {Sc : List Value} {F : List Frame} {l : List Chunk} {k n : Nat} (Cr : Caller κ yc pcc 3)  (K : WP κ yc (pcc + 3) Lc (.int (bi (loS c)) :: Sc) F (l) k n) :
    WP κ y19 0 [.val (.int (c16 c))] [] (fr κ yc pcc Lc Sc :: F) (l) k n := by
  refine wp_seg C (M19 hw) [(.iload_n 0, 1)] (by decide +kernel) (pc' := 1) (L' := [.val (.int (c16 c))]) (S' := [.int (c16 c)]) rfl ?_
  refine wp_ldcI C (M19 hw) d19_1 (w122 hw) ?_
  by_cases q0 : (c16 c) < (56320 : Int32)
  · refine wp_ict C (M19 hw) d19_3 (XT.ii_lt_t q0) (pc' := 16) (by decide) ?_
    refine wp_seg C (M19 hw) [(.iconst 0, 1)] (by decide +kernel) (pc' := 17) (L' := [.val (.int (c16 c))]) (S' := [.int 0]) rfl ?_
    rw [bi_f (fun q => absurd ((loJ c).mpr q) (by simp [q0]))] at K
    exact wp_iret C (M19 hw) d19_17 rfl (t := .boolean) (by decide) rfl Cr K
  · refine wp_icf C (M19 hw) d19_3 (XT.ii_lt_f q0) ?_
    refine wp_seg C (M19 hw) [(.iload_n 0, 1)] (by decide +kernel) (pc' := 7) (L' := [.val (.int (c16 c))]) (S' := [.int (c16 c)]) rfl ?_
    refine wp_ldcI C (M19 hw) d19_7 (w127 hw) ?_
    by_cases q1 : (c16 c) < (57344 : Int32)
    · refine wp_icf C (M19 hw) d19_9 (XT.ii_ge_f q1) ?_
      refine wp_seg C (M19 hw) [(.iconst 1, 1), (.goto 4, 3)] (by decide +kernel) (pc' := 17) (L' := [.val (.int (c16 c))]) (S' := [.int 1]) rfl ?_
      rw [bi_t ((loJ c).mp (by simp [q0, q1]))] at K
      exact wp_iret C (M19 hw) d19_17 rfl (t := .boolean) (by decide) rfl Cr K
    · refine wp_ict C (M19 hw) d19_9 (XT.ii_ge_t q1) (pc' := 16) (by decide) ?_
      refine wp_seg C (M19 hw) [(.iconst 0, 1)] (by decide +kernel) (pc' := 17) (L' := [.val (.int (c16 c))]) (S' := [.int 0]) rfl ?_
      rw [bi_f (fun q => absurd ((loJ c).mpr q) (by simp [q0, q1]))] at K
      exact wp_iret C (M19 hw) d19_17 rfl (t := .boolean) (by decide) rfl Cr K
theorem c_draw {κ : Cx} (C : Ok κ) (hw : Ws κ) {x : Int32} {yc : MethodName} {pcc : Nat} {Lc : List Slot} {Sc : List Value} {F : List Frame} {l : List Chunk} {k n : Nat} (Cr : Caller κ yc pcc 3)  (K : ∀ c, WP κ yc (pcc + 3) Lc (.int (c16 c) :: Sc) F (l) k n) :
    WP κ y20 0 [.val (.int x), .unset] [] (fr κ yc pcc Lc Sc :: F) (l) k n := by
  refine wp_seg C (M20 hw) [(.iload_n 0, 1), (.bipush 16, 2), (.iushr, 1), (.iconst 3, 1), (.iand, 1), (.istore_n 1, 1), (.iload_n 1, 1), (.iconst 1, 1)] (by decide +kernel) (pc' := 9) (L' := [.val (.int x), .val (.int ((XT.ushr x (16 : Int32)) &&& (3 : Int32)))]) (S' := [.int 1, .int ((XT.ushr x (16 : Int32)) &&& (3 : Int32))]) rfl ?_
  by_cases q0 : ((XT.ushr x (16 : Int32)) &&& (3 : Int32)) = (1 : Int32)
  · refine wp_icf C (M20 hw) d20_9 (XT.ii_ne_f q0) ?_
    refine wp_ldcI C (M20 hw) d20_12 (w52 hw) ?_
    refine wp_seg C (M20 hw) [(.iload_n 0, 1), (.sipush 1023, 3), (.iand, 1), (.ior, 1), (.i2c, 1)] (by decide +kernel) (pc' := 21) (L' := [.val (.int x), .val (.int ((XT.ushr x (16 : Int32)) &&& (3 : Int32)))]) (S' := [.int (i2c ((55296 : Int32) ||| (x &&& (1023 : Int32))))]) rfl ?_
    rw [ci_i2c]
    exact wp_iret C (M20 hw) d20_21 rfl (t := .char) (by decide) (c16_narrow _) Cr (K _)
  · refine wp_ict C (M20 hw) d20_9 (XT.ii_ne_t q0) (pc' := 22) (by decide) ?_
    refine wp_seg C (M20 hw) [(.iload_n 1, 1), (.iconst 2, 1)] (by decide +kernel) (pc' := 24) (L' := [.val (.int x), .val (.int ((XT.ushr x (16 : Int32)) &&& (3 : Int32)))]) (S' := [.int 2, .int ((XT.ushr x (16 : Int32)) &&& (3 : Int32))]) rfl ?_
    by_cases q1 : ((XT.ushr x (16 : Int32)) &&& (3 : Int32)) = (2 : Int32)
    · refine wp_icf C (M20 hw) d20_24 (XT.ii_ne_f q1) ?_
      refine wp_ldcI C (M20 hw) d20_27 (w56 hw) ?_
      refine wp_seg C (M20 hw) [(.iload_n 0, 1), (.sipush 1023, 3), (.iand, 1), (.ior, 1), (.i2c, 1)] (by decide +kernel) (pc' := 36) (L' := [.val (.int x), .val (.int ((XT.ushr x (16 : Int32)) &&& (3 : Int32)))]) (S' := [.int (i2c ((56320 : Int32) ||| (x &&& (1023 : Int32))))]) rfl ?_
      rw [ci_i2c]
      exact wp_iret C (M20 hw) d20_36 rfl (t := .char) (by decide) (c16_narrow _) Cr (K _)
    · refine wp_ict C (M20 hw) d20_24 (XT.ii_ne_t q1) (pc' := 37) (by decide) ?_
      refine wp_seg C (M20 hw) [(.iload_n 1, 1), (.iconst 3, 1)] (by decide +kernel) (pc' := 39) (L' := [.val (.int x), .val (.int ((XT.ushr x (16 : Int32)) &&& (3 : Int32)))]) (S' := [.int 3, .int ((XT.ushr x (16 : Int32)) &&& (3 : Int32))]) rfl ?_
      by_cases q2 : ((XT.ushr x (16 : Int32)) &&& (3 : Int32)) = (3 : Int32)
      · refine wp_icf C (M20 hw) d20_39 (XT.ii_ne_f q2) ?_
        refine wp_seg C (M20 hw) [(.iload_n 0, 1), (.sipush 255, 3), (.iand, 1), (.i2c, 1)] (by decide +kernel) (pc' := 48) (L' := [.val (.int x), .val (.int ((XT.ushr x (16 : Int32)) &&& (3 : Int32)))]) (S' := [.int (i2c (x &&& (255 : Int32)))]) rfl ?_
        rw [ci_i2c]
        exact wp_iret C (M20 hw) d20_48 rfl (t := .char) (by decide) (c16_narrow _) Cr (K _)
      · refine wp_ict C (M20 hw) d20_39 (XT.ii_ne_t q2) (pc' := 49) (by decide) ?_
        refine wp_seg C (M20 hw) [(.iload_n 0, 1)] (by decide +kernel) (pc' := 50) (L' := [.val (.int x), .val (.int ((XT.ushr x (16 : Int32)) &&& (3 : Int32)))]) (S' := [.int x]) rfl ?_
        refine wp_ldcI C (M20 hw) d20_50 (w5 hw) ?_
        refine wp_seg C (M20 hw) [(.iand, 1), (.i2c, 1)] (by decide +kernel) (pc' := 54) (L' := [.val (.int x), .val (.int ((XT.ushr x (16 : Int32)) &&& (3 : Int32)))]) (S' := [.int (i2c (x &&& (65535 : Int32)))]) rfl ?_
        rw [ci_i2c]
        exact wp_iret C (M20 hw) d20_54 rfl (t := .char) (by decide) (c16_narrow _) Cr (K _)
theorem c_at0 {κ : Cx} (C : Ok κ) (hw : Ws κ) {c0 c1 c2 : UInt16} {yc : MethodName} {pcc : Nat} {Lc : List Slot} {Sc : List Value} {F : List Frame} {l : List Chunk} {k n : Nat} (Cr : Caller κ yc pcc 3)  (K : WP κ yc (pcc + 3) Lc (.int (c16 c0) :: Sc) F (l) k n) :
    WP κ y21 0 [.val (.int (c16 c0)), .val (.int (c16 c1)), .val (.int (c16 c2)), .val (.int 0)] [] (fr κ yc pcc Lc Sc :: F) (l) k n := by
  refine wp_seg C (M21 hw) [(.iload_n 3, 1)] (by decide +kernel) (pc' := 1) (L' := [.val (.int (c16 c0)), .val (.int (c16 c1)), .val (.int (c16 c2)), .val (.int 0)]) (S' := [.int 0]) rfl ?_
  refine wp_iff C (M21 hw) d21_1 (XT.i0_ne_f (by decide)) ?_
  refine wp_seg C (M21 hw) [(.iload_n 0, 1)] (by decide +kernel) (pc' := 5) (L' := [.val (.int (c16 c0)), .val (.int (c16 c1)), .val (.int (c16 c2)), .val (.int 0)]) (S' := [.int (c16 c0)]) rfl ?_
  exact wp_iret C (M21 hw) d21_5 rfl (t := .char) (by decide) (c16_narrow _) Cr K
theorem c_at1 {κ : Cx} (C : Ok κ) (hw : Ws κ) {c0 c1 c2 : UInt16} {yc : MethodName} {pcc : Nat} {Lc : List Slot} {Sc : List Value} {F : List Frame} {l : List Chunk} {k n : Nat} (Cr : Caller κ yc pcc 3)  (K : WP κ yc (pcc + 3) Lc (.int (c16 c1) :: Sc) F (l) k n) :
    WP κ y21 0 [.val (.int (c16 c0)), .val (.int (c16 c1)), .val (.int (c16 c2)), .val (.int 1)] [] (fr κ yc pcc Lc Sc :: F) (l) k n := by
  refine wp_seg C (M21 hw) [(.iload_n 3, 1)] (by decide +kernel) (pc' := 1) (L' := [.val (.int (c16 c0)), .val (.int (c16 c1)), .val (.int (c16 c2)), .val (.int 1)]) (S' := [.int 1]) rfl ?_
  refine wp_ift C (M21 hw) d21_1 (XT.i0_ne_t (by decide)) (pc' := 6) (by decide) ?_
  refine wp_seg C (M21 hw) [(.iload_n 3, 1), (.iconst 1, 1)] (by decide +kernel) (pc' := 8) (L' := [.val (.int (c16 c0)), .val (.int (c16 c1)), .val (.int (c16 c2)), .val (.int 1)]) (S' := [.int 1, .int 1]) rfl ?_
  refine wp_icf C (M21 hw) d21_8 (XT.ii_ne_f (by decide)) ?_
  refine wp_seg C (M21 hw) [(.iload_n 1, 1)] (by decide +kernel) (pc' := 12) (L' := [.val (.int (c16 c0)), .val (.int (c16 c1)), .val (.int (c16 c2)), .val (.int 1)]) (S' := [.int (c16 c1)]) rfl ?_
  exact wp_iret C (M21 hw) d21_12 rfl (t := .char) (by decide) (c16_narrow _) Cr K
theorem c_at2 {κ : Cx} (C : Ok κ) (hw : Ws κ) {c0 c1 c2 : UInt16} {yc : MethodName} {pcc : Nat} {Lc : List Slot} {Sc : List Value} {F : List Frame} {l : List Chunk} {k n : Nat} (Cr : Caller κ yc pcc 3)  (K : WP κ yc (pcc + 3) Lc (.int (c16 c2) :: Sc) F (l) k n) :
    WP κ y21 0 [.val (.int (c16 c0)), .val (.int (c16 c1)), .val (.int (c16 c2)), .val (.int 2)] [] (fr κ yc pcc Lc Sc :: F) (l) k n := by
  refine wp_seg C (M21 hw) [(.iload_n 3, 1)] (by decide +kernel) (pc' := 1) (L' := [.val (.int (c16 c0)), .val (.int (c16 c1)), .val (.int (c16 c2)), .val (.int 2)]) (S' := [.int 2]) rfl ?_
  refine wp_ift C (M21 hw) d21_1 (XT.i0_ne_t (by decide)) (pc' := 6) (by decide) ?_
  refine wp_seg C (M21 hw) [(.iload_n 3, 1), (.iconst 1, 1)] (by decide +kernel) (pc' := 8) (L' := [.val (.int (c16 c0)), .val (.int (c16 c1)), .val (.int (c16 c2)), .val (.int 2)]) (S' := [.int 1, .int 2]) rfl ?_
  refine wp_ict C (M21 hw) d21_8 (XT.ii_ne_t (by decide)) (pc' := 13) (by decide) ?_
  refine wp_seg C (M21 hw) [(.iload_n 2, 1)] (by decide +kernel) (pc' := 14) (L' := [.val (.int (c16 c0)), .val (.int (c16 c1)), .val (.int (c16 c2)), .val (.int 2)]) (S' := [.int (c16 c2)]) rfl ?_
  exact wp_iret C (M21 hw) d21_14 rfl (t := .char) (by decide) (c16_narrow _) Cr K
theorem c_step10 {κ : Cx} (C : Ok κ) (hw : Ws κ) {c0 c1 c2 : UInt16} {yc : MethodName} {pcc : Nat} {Lc : List Slot} {Sc : List Value} {F : List Frame} {l : List Chunk} {k n : Nat} (Cr : Caller κ yc pcc 3) (hR : Rm κ (fr κ yc pcc Lc Sc :: F) 2 32)  (K : WP κ yc (pcc + 3) Lc (.int (Int32.ofNat (stp [c0] 0)) :: Sc) F (l) k n) :
    WP κ y22 0 [.val (.int (c16 c0)), .val (.int (c16 c1)), .val (.int (c16 c2)), .val (.int 1), .val (.int 0), .unset] [] (fr κ yc pcc Lc Sc :: F) (l) k n := by
  refine wp_seg C (M22 hw) [(.iload_n 0, 1), (.iload_n 1, 1), (.iload_n 2, 1), (.iload 4, 2)] (by decide +kernel) (pc' := 5) (L' := [.val (.int (c16 c0)), .val (.int (c16 c1)), .val (.int (c16 c2)), .val (.int 1), .val (.int 0), .unset]) (S' := [.int 0, .int (c16 c2), .int (c16 c1), .int (c16 c0)]) rfl ?_
  refine wp_invokestatic C (M22 hw) d22_5 (M21 hw) (w46 hw) (w47 hw) (w3 hw) (by decide) (S' := []) [.int (c16 c0), .int (c16 c1), .int (c16 c2), .int 0] (lenOf pd21 rfl) rfl (L' := [.val (.int (c16 c0)), .val (.int (c16 c1)), .val (.int (c16 c2)), .val (.int 0)]) rfl rfl (hR.push (d' := 1) (w' := 15) (Nat.le_of_ble_eq_true rfl) (Nat.le_of_ble_eq_true rfl)) ?_
  refine c_at0 C hw  (Meth.caller (M22 hw) d22_5)  ?_
  refine wp_seg C (M22 hw) [(.istore 5, 2), (.iload 5, 2)] (by decide +kernel) (pc' := 12) (L' := [.val (.int (c16 c0)), .val (.int (c16 c1)), .val (.int (c16 c2)), .val (.int 1), .val (.int 0), .val (.int (c16 c0))]) (S' := [.int (c16 c0)]) rfl ?_
  refine wp_invokestatic C (M22 hw) d22_12 (M16 hw) (w49 hw) (w50 hw) (w3 hw) (by decide) (S' := []) [.int (c16 c0)] (lenOf pd16 rfl) rfl (L' := [.val (.int (c16 c0))]) rfl rfl (hR.push (d' := 1) (w' := 12) (Nat.le_of_ble_eq_true rfl) (Nat.le_of_ble_eq_true rfl)) ?_
  refine c_isH C hw  (Meth.caller (M22 hw) d22_12)  ?_
  by_cases hh : hiS c0
  · rw [bi_t hh]
    refine wp_iff C (M22 hw) d22_15 (XT.i0_eq_f (by decide)) ?_
    refine wp_seg C (M22 hw) [(.iload 4, 2), (.iconst 1, 1), (.iadd, 1), (.iload_n 3, 1)] (by decide +kernel) (pc' := 23) (L' := [.val (.int (c16 c0)), .val (.int (c16 c1)), .val (.int (c16 c2)), .val (.int 1), .val (.int 0), .val (.int (c16 c0))]) (S' := [.int 1, .int 1]) rfl ?_
    refine wp_ict C (M22 hw) d22_23 (XT.ii_ge_t (by decide)) (pc' := 44) (by decide) ?_
    refine wp_seg C (M22 hw) [(.iload 5, 2)] (by decide +kernel) (pc' := 46) (L' := [.val (.int (c16 c0)), .val (.int (c16 c1)), .val (.int (c16 c2)), .val (.int 1), .val (.int 0), .val (.int (c16 c0))]) (S' := [.int (c16 c0)]) rfl ?_
    by_cases hz : c16 c0 = 0
    · refine wp_ift C (M22 hw) d22_46 (XT.i0_eq_t hz) (pc' := 65) (by decide) ?_
      refine wp_seg C (M22 hw) [(.iconst 0, 1)] (by decide +kernel) (pc' := 66) (L' := [.val (.int (c16 c0)), .val (.int (c16 c1)), .val (.int (c16 c2)), .val (.int 1), .val (.int 0), .val (.int (c16 c0))]) (S' := [.int 0]) rfl ?_
      rw [show stp [c0] 0 = 0 from stp_0 (fun q => q.2) (Or.inl hz)] at K
      exact wp_iret C (M22 hw) d22_66 rfl (t := .int) (by decide) rfl Cr K
    · refine wp_iff C (M22 hw) d22_46 (XT.i0_eq_f hz) ?_
      refine wp_seg C (M22 hw) [(.iload 5, 2)] (by decide +kernel) (pc' := 51) (L' := [.val (.int (c16 c0)), .val (.int (c16 c1)), .val (.int (c16 c2)), .val (.int 1), .val (.int 0), .val (.int (c16 c0))]) (S' := [.int (c16 c0)]) rfl ?_
      refine wp_invokestatic C (M22 hw) d22_51 (M16 hw) (w49 hw) (w50 hw) (w3 hw) (by decide) (S' := []) [.int (c16 c0)] (lenOf pd16 rfl) rfl (L' := [.val (.int (c16 c0))]) rfl rfl (hR.push (d' := 1) (w' := 12) (Nat.le_of_ble_eq_true rfl) (Nat.le_of_ble_eq_true rfl)) ?_
      refine c_isH C hw  (Meth.caller (M22 hw) d22_51)  ?_
      by_cases hk2 : hiS c0
      · rw [bi_t hk2]
        refine wp_ift C (M22 hw) d22_54 (XT.i0_ne_t (by decide)) (pc' := 65) (by decide) ?_
        refine wp_seg C (M22 hw) [(.iconst 0, 1)] (by decide +kernel) (pc' := 66) (L' := [.val (.int (c16 c0)), .val (.int (c16 c1)), .val (.int (c16 c2)), .val (.int 1), .val (.int 0), .val (.int (c16 c0))]) (S' := [.int 0]) rfl ?_
        rw [show stp [c0] 0 = 0 from stp_0 (fun q => q.2) (Or.inr (Or.inl hk2))] at K
        exact wp_iret C (M22 hw) d22_66 rfl (t := .int) (by decide) rfl Cr K
      · rw [bi_f hk2]
        refine wp_iff C (M22 hw) d22_54 (XT.i0_ne_f (by decide)) ?_
        refine wp_seg C (M22 hw) [(.iload 5, 2)] (by decide +kernel) (pc' := 59) (L' := [.val (.int (c16 c0)), .val (.int (c16 c1)), .val (.int (c16 c2)), .val (.int 1), .val (.int 0), .val (.int (c16 c0))]) (S' := [.int (c16 c0)]) rfl ?_
        refine wp_invokestatic C (M22 hw) d22_59 (M17 hw) (w53 hw) (w54 hw) (w3 hw) (by decide) (S' := []) [.int (c16 c0)] (lenOf pd17 rfl) rfl (L' := [.val (.int (c16 c0))]) rfl rfl (hR.push (d' := 1) (w' := 12) (Nat.le_of_ble_eq_true rfl) (Nat.le_of_ble_eq_true rfl)) ?_
        refine c_isL C hw  (Meth.caller (M22 hw) d22_59)  ?_
        by_cases hl : loS c0
        · rw [bi_t hl]
          refine wp_iff C (M22 hw) d22_62 (XT.i0_eq_f (by decide)) ?_
          refine wp_seg C (M22 hw) [(.iconst 0, 1)] (by decide +kernel) (pc' := 66) (L' := [.val (.int (c16 c0)), .val (.int (c16 c1)), .val (.int (c16 c2)), .val (.int 1), .val (.int 0), .val (.int (c16 c0))]) (S' := [.int 0]) rfl ?_
          rw [show stp [c0] 0 = 0 from stp_0 (fun q => q.2) (Or.inr (Or.inr hl))] at K
          exact wp_iret C (M22 hw) d22_66 rfl (t := .int) (by decide) rfl Cr K
        · rw [bi_f hl]
          refine wp_ift C (M22 hw) d22_62 (XT.i0_eq_t (by decide)) (pc' := 67) (by decide) ?_
          refine wp_seg C (M22 hw) [(.iconst 1, 1)] (by decide +kernel) (pc' := 68) (L' := [.val (.int (c16 c0)), .val (.int (c16 c1)), .val (.int (c16 c2)), .val (.int 1), .val (.int 0), .val (.int (c16 c0))]) (S' := [.int 1]) rfl ?_
          rw [show stp [c0] 0 = 1 from stp_1 (fun q => q.2) (fun q => q.elim hz fun q => q.elim hk2 hl)] at K
          exact wp_iret C (M22 hw) d22_68 rfl (t := .int) (by decide) rfl Cr K
  · rw [bi_f hh]
    refine wp_ift C (M22 hw) d22_15 (XT.i0_eq_t (by decide)) (pc' := 44) (by decide) ?_
    refine wp_seg C (M22 hw) [(.iload 5, 2)] (by decide +kernel) (pc' := 46) (L' := [.val (.int (c16 c0)), .val (.int (c16 c1)), .val (.int (c16 c2)), .val (.int 1), .val (.int 0), .val (.int (c16 c0))]) (S' := [.int (c16 c0)]) rfl ?_
    by_cases hz : c16 c0 = 0
    · refine wp_ift C (M22 hw) d22_46 (XT.i0_eq_t hz) (pc' := 65) (by decide) ?_
      refine wp_seg C (M22 hw) [(.iconst 0, 1)] (by decide +kernel) (pc' := 66) (L' := [.val (.int (c16 c0)), .val (.int (c16 c1)), .val (.int (c16 c2)), .val (.int 1), .val (.int 0), .val (.int (c16 c0))]) (S' := [.int 0]) rfl ?_
      rw [show stp [c0] 0 = 0 from stp_0 (fun q => hh q.1) (Or.inl hz)] at K
      exact wp_iret C (M22 hw) d22_66 rfl (t := .int) (by decide) rfl Cr K
    · refine wp_iff C (M22 hw) d22_46 (XT.i0_eq_f hz) ?_
      refine wp_seg C (M22 hw) [(.iload 5, 2)] (by decide +kernel) (pc' := 51) (L' := [.val (.int (c16 c0)), .val (.int (c16 c1)), .val (.int (c16 c2)), .val (.int 1), .val (.int 0), .val (.int (c16 c0))]) (S' := [.int (c16 c0)]) rfl ?_
      refine wp_invokestatic C (M22 hw) d22_51 (M16 hw) (w49 hw) (w50 hw) (w3 hw) (by decide) (S' := []) [.int (c16 c0)] (lenOf pd16 rfl) rfl (L' := [.val (.int (c16 c0))]) rfl rfl (hR.push (d' := 1) (w' := 12) (Nat.le_of_ble_eq_true rfl) (Nat.le_of_ble_eq_true rfl)) ?_
      refine c_isH C hw  (Meth.caller (M22 hw) d22_51)  ?_
      by_cases hk2 : hiS c0
      · rw [bi_t hk2]
        refine wp_ift C (M22 hw) d22_54 (XT.i0_ne_t (by decide)) (pc' := 65) (by decide) ?_
        refine wp_seg C (M22 hw) [(.iconst 0, 1)] (by decide +kernel) (pc' := 66) (L' := [.val (.int (c16 c0)), .val (.int (c16 c1)), .val (.int (c16 c2)), .val (.int 1), .val (.int 0), .val (.int (c16 c0))]) (S' := [.int 0]) rfl ?_
        rw [show stp [c0] 0 = 0 from stp_0 (fun q => hh q.1) (Or.inr (Or.inl hk2))] at K
        exact wp_iret C (M22 hw) d22_66 rfl (t := .int) (by decide) rfl Cr K
      · rw [bi_f hk2]
        refine wp_iff C (M22 hw) d22_54 (XT.i0_ne_f (by decide)) ?_
        refine wp_seg C (M22 hw) [(.iload 5, 2)] (by decide +kernel) (pc' := 59) (L' := [.val (.int (c16 c0)), .val (.int (c16 c1)), .val (.int (c16 c2)), .val (.int 1), .val (.int 0), .val (.int (c16 c0))]) (S' := [.int (c16 c0)]) rfl ?_
        refine wp_invokestatic C (M22 hw) d22_59 (M17 hw) (w53 hw) (w54 hw) (w3 hw) (by decide) (S' := []) [.int (c16 c0)] (lenOf pd17 rfl) rfl (L' := [.val (.int (c16 c0))]) rfl rfl (hR.push (d' := 1) (w' := 12) (Nat.le_of_ble_eq_true rfl) (Nat.le_of_ble_eq_true rfl)) ?_
        refine c_isL C hw  (Meth.caller (M22 hw) d22_59)  ?_
        by_cases hl : loS c0
        · rw [bi_t hl]
          refine wp_iff C (M22 hw) d22_62 (XT.i0_eq_f (by decide)) ?_
          refine wp_seg C (M22 hw) [(.iconst 0, 1)] (by decide +kernel) (pc' := 66) (L' := [.val (.int (c16 c0)), .val (.int (c16 c1)), .val (.int (c16 c2)), .val (.int 1), .val (.int 0), .val (.int (c16 c0))]) (S' := [.int 0]) rfl ?_
          rw [show stp [c0] 0 = 0 from stp_0 (fun q => hh q.1) (Or.inr (Or.inr hl))] at K
          exact wp_iret C (M22 hw) d22_66 rfl (t := .int) (by decide) rfl Cr K
        · rw [bi_f hl]
          refine wp_ift C (M22 hw) d22_62 (XT.i0_eq_t (by decide)) (pc' := 67) (by decide) ?_
          refine wp_seg C (M22 hw) [(.iconst 1, 1)] (by decide +kernel) (pc' := 68) (L' := [.val (.int (c16 c0)), .val (.int (c16 c1)), .val (.int (c16 c2)), .val (.int 1), .val (.int 0), .val (.int (c16 c0))]) (S' := [.int 1]) rfl ?_
          rw [show stp [c0] 0 = 1 from stp_1 (fun q => hh q.1) (fun q => q.elim hz fun q => q.elim hk2 hl)] at K
          exact wp_iret C (M22 hw) d22_68 rfl (t := .int) (by decide) rfl Cr K
theorem c_step20 {κ : Cx} (C : Ok κ) (hw : Ws κ) {c0 c1 c2 : UInt16} {yc : MethodName} {pcc : Nat} {Lc : List Slot} {Sc : List Value} {F : List Frame} {l : List Chunk} {k n : Nat} (Cr : Caller κ yc pcc 3) (hR : Rm κ (fr κ yc pcc Lc Sc :: F) 2 32)  (K : WP κ yc (pcc + 3) Lc (.int (Int32.ofNat (stp [c0, c1] 0)) :: Sc) F (l) k n) :
    WP κ y22 0 [.val (.int (c16 c0)), .val (.int (c16 c1)), .val (.int (c16 c2)), .val (.int 2), .val (.int 0), .unset] [] (fr κ yc pcc Lc Sc :: F) (l) k n := by
  refine wp_seg C (M22 hw) [(.iload_n 0, 1), (.iload_n 1, 1), (.iload_n 2, 1), (.iload 4, 2)] (by decide +kernel) (pc' := 5) (L' := [.val (.int (c16 c0)), .val (.int (c16 c1)), .val (.int (c16 c2)), .val (.int 2), .val (.int 0), .unset]) (S' := [.int 0, .int (c16 c2), .int (c16 c1), .int (c16 c0)]) rfl ?_
  refine wp_invokestatic C (M22 hw) d22_5 (M21 hw) (w46 hw) (w47 hw) (w3 hw) (by decide) (S' := []) [.int (c16 c0), .int (c16 c1), .int (c16 c2), .int 0] (lenOf pd21 rfl) rfl (L' := [.val (.int (c16 c0)), .val (.int (c16 c1)), .val (.int (c16 c2)), .val (.int 0)]) rfl rfl (hR.push (d' := 1) (w' := 15) (Nat.le_of_ble_eq_true rfl) (Nat.le_of_ble_eq_true rfl)) ?_
  refine c_at0 C hw  (Meth.caller (M22 hw) d22_5)  ?_
  refine wp_seg C (M22 hw) [(.istore 5, 2), (.iload 5, 2)] (by decide +kernel) (pc' := 12) (L' := [.val (.int (c16 c0)), .val (.int (c16 c1)), .val (.int (c16 c2)), .val (.int 2), .val (.int 0), .val (.int (c16 c0))]) (S' := [.int (c16 c0)]) rfl ?_
  refine wp_invokestatic C (M22 hw) d22_12 (M16 hw) (w49 hw) (w50 hw) (w3 hw) (by decide) (S' := []) [.int (c16 c0)] (lenOf pd16 rfl) rfl (L' := [.val (.int (c16 c0))]) rfl rfl (hR.push (d' := 1) (w' := 12) (Nat.le_of_ble_eq_true rfl) (Nat.le_of_ble_eq_true rfl)) ?_
  refine c_isH C hw  (Meth.caller (M22 hw) d22_12)  ?_
  by_cases hh : hiS c0
  · rw [bi_t hh]
    refine wp_iff C (M22 hw) d22_15 (XT.i0_eq_f (by decide)) ?_
    refine wp_seg C (M22 hw) [(.iload 4, 2), (.iconst 1, 1), (.iadd, 1), (.iload_n 3, 1)] (by decide +kernel) (pc' := 23) (L' := [.val (.int (c16 c0)), .val (.int (c16 c1)), .val (.int (c16 c2)), .val (.int 2), .val (.int 0), .val (.int (c16 c0))]) (S' := [.int 2, .int 1]) rfl ?_
    refine wp_icf C (M22 hw) d22_23 (XT.ii_ge_f (by decide)) ?_
    refine wp_seg C (M22 hw) [(.iload_n 0, 1), (.iload_n 1, 1), (.iload_n 2, 1), (.iload 4, 2), (.iconst 1, 1), (.iadd, 1)] (by decide +kernel) (pc' := 33) (L' := [.val (.int (c16 c0)), .val (.int (c16 c1)), .val (.int (c16 c2)), .val (.int 2), .val (.int 0), .val (.int (c16 c0))]) (S' := [.int 1, .int (c16 c2), .int (c16 c1), .int (c16 c0)]) rfl ?_
    refine wp_invokestatic C (M22 hw) d22_33 (M21 hw) (w46 hw) (w47 hw) (w3 hw) (by decide) (S' := []) [.int (c16 c0), .int (c16 c1), .int (c16 c2), .int 1] (lenOf pd21 rfl) rfl (L' := [.val (.int (c16 c0)), .val (.int (c16 c1)), .val (.int (c16 c2)), .val (.int 1)]) rfl rfl (hR.push (d' := 1) (w' := 15) (Nat.le_of_ble_eq_true rfl) (Nat.le_of_ble_eq_true rfl)) ?_
    refine c_at1 C hw  (Meth.caller (M22 hw) d22_33)  ?_
    refine wp_invokestatic C (M22 hw) d22_36 (M17 hw) (w53 hw) (w54 hw) (w3 hw) (by decide) (S' := []) [.int (c16 c1)] (lenOf pd17 rfl) rfl (L' := [.val (.int (c16 c1))]) rfl rfl (hR.push (d' := 1) (w' := 12) (Nat.le_of_ble_eq_true rfl) (Nat.le_of_ble_eq_true rfl)) ?_
    refine c_isL C hw  (Meth.caller (M22 hw) d22_36)  ?_
    by_cases hn : loS c1
    · rw [bi_t hn]
      refine wp_iff C (M22 hw) d22_39 (XT.i0_eq_f (by decide)) ?_
      refine wp_seg C (M22 hw) [(.iconst 2, 1)] (by decide +kernel) (pc' := 43) (L' := [.val (.int (c16 c0)), .val (.int (c16 c1)), .val (.int (c16 c2)), .val (.int 2), .val (.int 0), .val (.int (c16 c0))]) (S' := [.int 2]) rfl ?_
      rw [show stp [c0, c1] 0 = 2 from stp_2 ⟨hh, hn⟩] at K
      exact wp_iret C (M22 hw) d22_43 rfl (t := .int) (by decide) rfl Cr K
    · rw [bi_f hn]
      refine wp_ift C (M22 hw) d22_39 (XT.i0_eq_t (by decide)) (pc' := 44) (by decide) ?_
      refine wp_seg C (M22 hw) [(.iload 5, 2)] (by decide +kernel) (pc' := 46) (L' := [.val (.int (c16 c0)), .val (.int (c16 c1)), .val (.int (c16 c2)), .val (.int 2), .val (.int 0), .val (.int (c16 c0))]) (S' := [.int (c16 c0)]) rfl ?_
      by_cases hz : c16 c0 = 0
      · refine wp_ift C (M22 hw) d22_46 (XT.i0_eq_t hz) (pc' := 65) (by decide) ?_
        refine wp_seg C (M22 hw) [(.iconst 0, 1)] (by decide +kernel) (pc' := 66) (L' := [.val (.int (c16 c0)), .val (.int (c16 c1)), .val (.int (c16 c2)), .val (.int 2), .val (.int 0), .val (.int (c16 c0))]) (S' := [.int 0]) rfl ?_
        rw [show stp [c0, c1] 0 = 0 from stp_0 (fun q => hn q.2) (Or.inl hz)] at K
        exact wp_iret C (M22 hw) d22_66 rfl (t := .int) (by decide) rfl Cr K
      · refine wp_iff C (M22 hw) d22_46 (XT.i0_eq_f hz) ?_
        refine wp_seg C (M22 hw) [(.iload 5, 2)] (by decide +kernel) (pc' := 51) (L' := [.val (.int (c16 c0)), .val (.int (c16 c1)), .val (.int (c16 c2)), .val (.int 2), .val (.int 0), .val (.int (c16 c0))]) (S' := [.int (c16 c0)]) rfl ?_
        refine wp_invokestatic C (M22 hw) d22_51 (M16 hw) (w49 hw) (w50 hw) (w3 hw) (by decide) (S' := []) [.int (c16 c0)] (lenOf pd16 rfl) rfl (L' := [.val (.int (c16 c0))]) rfl rfl (hR.push (d' := 1) (w' := 12) (Nat.le_of_ble_eq_true rfl) (Nat.le_of_ble_eq_true rfl)) ?_
        refine c_isH C hw  (Meth.caller (M22 hw) d22_51)  ?_
        by_cases hk2 : hiS c0
        · rw [bi_t hk2]
          refine wp_ift C (M22 hw) d22_54 (XT.i0_ne_t (by decide)) (pc' := 65) (by decide) ?_
          refine wp_seg C (M22 hw) [(.iconst 0, 1)] (by decide +kernel) (pc' := 66) (L' := [.val (.int (c16 c0)), .val (.int (c16 c1)), .val (.int (c16 c2)), .val (.int 2), .val (.int 0), .val (.int (c16 c0))]) (S' := [.int 0]) rfl ?_
          rw [show stp [c0, c1] 0 = 0 from stp_0 (fun q => hn q.2) (Or.inr (Or.inl hk2))] at K
          exact wp_iret C (M22 hw) d22_66 rfl (t := .int) (by decide) rfl Cr K
        · rw [bi_f hk2]
          refine wp_iff C (M22 hw) d22_54 (XT.i0_ne_f (by decide)) ?_
          refine wp_seg C (M22 hw) [(.iload 5, 2)] (by decide +kernel) (pc' := 59) (L' := [.val (.int (c16 c0)), .val (.int (c16 c1)), .val (.int (c16 c2)), .val (.int 2), .val (.int 0), .val (.int (c16 c0))]) (S' := [.int (c16 c0)]) rfl ?_
          refine wp_invokestatic C (M22 hw) d22_59 (M17 hw) (w53 hw) (w54 hw) (w3 hw) (by decide) (S' := []) [.int (c16 c0)] (lenOf pd17 rfl) rfl (L' := [.val (.int (c16 c0))]) rfl rfl (hR.push (d' := 1) (w' := 12) (Nat.le_of_ble_eq_true rfl) (Nat.le_of_ble_eq_true rfl)) ?_
          refine c_isL C hw  (Meth.caller (M22 hw) d22_59)  ?_
          by_cases hl : loS c0
          · rw [bi_t hl]
            refine wp_iff C (M22 hw) d22_62 (XT.i0_eq_f (by decide)) ?_
            refine wp_seg C (M22 hw) [(.iconst 0, 1)] (by decide +kernel) (pc' := 66) (L' := [.val (.int (c16 c0)), .val (.int (c16 c1)), .val (.int (c16 c2)), .val (.int 2), .val (.int 0), .val (.int (c16 c0))]) (S' := [.int 0]) rfl ?_
            rw [show stp [c0, c1] 0 = 0 from stp_0 (fun q => hn q.2) (Or.inr (Or.inr hl))] at K
            exact wp_iret C (M22 hw) d22_66 rfl (t := .int) (by decide) rfl Cr K
          · rw [bi_f hl]
            refine wp_ift C (M22 hw) d22_62 (XT.i0_eq_t (by decide)) (pc' := 67) (by decide) ?_
            refine wp_seg C (M22 hw) [(.iconst 1, 1)] (by decide +kernel) (pc' := 68) (L' := [.val (.int (c16 c0)), .val (.int (c16 c1)), .val (.int (c16 c2)), .val (.int 2), .val (.int 0), .val (.int (c16 c0))]) (S' := [.int 1]) rfl ?_
            rw [show stp [c0, c1] 0 = 1 from stp_1 (fun q => hn q.2) (fun q => q.elim hz fun q => q.elim hk2 hl)] at K
            exact wp_iret C (M22 hw) d22_68 rfl (t := .int) (by decide) rfl Cr K
  · rw [bi_f hh]
    refine wp_ift C (M22 hw) d22_15 (XT.i0_eq_t (by decide)) (pc' := 44) (by decide) ?_
    refine wp_seg C (M22 hw) [(.iload 5, 2)] (by decide +kernel) (pc' := 46) (L' := [.val (.int (c16 c0)), .val (.int (c16 c1)), .val (.int (c16 c2)), .val (.int 2), .val (.int 0), .val (.int (c16 c0))]) (S' := [.int (c16 c0)]) rfl ?_
    by_cases hz : c16 c0 = 0
    · refine wp_ift C (M22 hw) d22_46 (XT.i0_eq_t hz) (pc' := 65) (by decide) ?_
      refine wp_seg C (M22 hw) [(.iconst 0, 1)] (by decide +kernel) (pc' := 66) (L' := [.val (.int (c16 c0)), .val (.int (c16 c1)), .val (.int (c16 c2)), .val (.int 2), .val (.int 0), .val (.int (c16 c0))]) (S' := [.int 0]) rfl ?_
      rw [show stp [c0, c1] 0 = 0 from stp_0 (fun q => hh q.1) (Or.inl hz)] at K
      exact wp_iret C (M22 hw) d22_66 rfl (t := .int) (by decide) rfl Cr K
    · refine wp_iff C (M22 hw) d22_46 (XT.i0_eq_f hz) ?_
      refine wp_seg C (M22 hw) [(.iload 5, 2)] (by decide +kernel) (pc' := 51) (L' := [.val (.int (c16 c0)), .val (.int (c16 c1)), .val (.int (c16 c2)), .val (.int 2), .val (.int 0), .val (.int (c16 c0))]) (S' := [.int (c16 c0)]) rfl ?_
      refine wp_invokestatic C (M22 hw) d22_51 (M16 hw) (w49 hw) (w50 hw) (w3 hw) (by decide) (S' := []) [.int (c16 c0)] (lenOf pd16 rfl) rfl (L' := [.val (.int (c16 c0))]) rfl rfl (hR.push (d' := 1) (w' := 12) (Nat.le_of_ble_eq_true rfl) (Nat.le_of_ble_eq_true rfl)) ?_
      refine c_isH C hw  (Meth.caller (M22 hw) d22_51)  ?_
      by_cases hk2 : hiS c0
      · rw [bi_t hk2]
        refine wp_ift C (M22 hw) d22_54 (XT.i0_ne_t (by decide)) (pc' := 65) (by decide) ?_
        refine wp_seg C (M22 hw) [(.iconst 0, 1)] (by decide +kernel) (pc' := 66) (L' := [.val (.int (c16 c0)), .val (.int (c16 c1)), .val (.int (c16 c2)), .val (.int 2), .val (.int 0), .val (.int (c16 c0))]) (S' := [.int 0]) rfl ?_
        rw [show stp [c0, c1] 0 = 0 from stp_0 (fun q => hh q.1) (Or.inr (Or.inl hk2))] at K
        exact wp_iret C (M22 hw) d22_66 rfl (t := .int) (by decide) rfl Cr K
      · rw [bi_f hk2]
        refine wp_iff C (M22 hw) d22_54 (XT.i0_ne_f (by decide)) ?_
        refine wp_seg C (M22 hw) [(.iload 5, 2)] (by decide +kernel) (pc' := 59) (L' := [.val (.int (c16 c0)), .val (.int (c16 c1)), .val (.int (c16 c2)), .val (.int 2), .val (.int 0), .val (.int (c16 c0))]) (S' := [.int (c16 c0)]) rfl ?_
        refine wp_invokestatic C (M22 hw) d22_59 (M17 hw) (w53 hw) (w54 hw) (w3 hw) (by decide) (S' := []) [.int (c16 c0)] (lenOf pd17 rfl) rfl (L' := [.val (.int (c16 c0))]) rfl rfl (hR.push (d' := 1) (w' := 12) (Nat.le_of_ble_eq_true rfl) (Nat.le_of_ble_eq_true rfl)) ?_
        refine c_isL C hw  (Meth.caller (M22 hw) d22_59)  ?_
        by_cases hl : loS c0
        · rw [bi_t hl]
          refine wp_iff C (M22 hw) d22_62 (XT.i0_eq_f (by decide)) ?_
          refine wp_seg C (M22 hw) [(.iconst 0, 1)] (by decide +kernel) (pc' := 66) (L' := [.val (.int (c16 c0)), .val (.int (c16 c1)), .val (.int (c16 c2)), .val (.int 2), .val (.int 0), .val (.int (c16 c0))]) (S' := [.int 0]) rfl ?_
          rw [show stp [c0, c1] 0 = 0 from stp_0 (fun q => hh q.1) (Or.inr (Or.inr hl))] at K
          exact wp_iret C (M22 hw) d22_66 rfl (t := .int) (by decide) rfl Cr K
        · rw [bi_f hl]
          refine wp_ift C (M22 hw) d22_62 (XT.i0_eq_t (by decide)) (pc' := 67) (by decide) ?_
          refine wp_seg C (M22 hw) [(.iconst 1, 1)] (by decide +kernel) (pc' := 68) (L' := [.val (.int (c16 c0)), .val (.int (c16 c1)), .val (.int (c16 c2)), .val (.int 2), .val (.int 0), .val (.int (c16 c0))]) (S' := [.int 1]) rfl ?_
          rw [show stp [c0, c1] 0 = 1 from stp_1 (fun q => hh q.1) (fun q => q.elim hz fun q => q.elim hk2 hl)] at K
          exact wp_iret C (M22 hw) d22_68 rfl (t := .int) (by decide) rfl Cr K
theorem c_step21 {κ : Cx} (C : Ok κ) (hw : Ws κ) {c0 c1 c2 : UInt16} {yc : MethodName} {pcc : Nat} {Lc : List Slot} {Sc : List Value} {F : List Frame} {l : List Chunk} {k n : Nat} (Cr : Caller κ yc pcc 3) (hR : Rm κ (fr κ yc pcc Lc Sc :: F) 2 32)  (K : WP κ yc (pcc + 3) Lc (.int (Int32.ofNat (stp [c0, c1] 1)) :: Sc) F (l) k n) :
    WP κ y22 0 [.val (.int (c16 c0)), .val (.int (c16 c1)), .val (.int (c16 c2)), .val (.int 2), .val (.int 1), .unset] [] (fr κ yc pcc Lc Sc :: F) (l) k n := by
  refine wp_seg C (M22 hw) [(.iload_n 0, 1), (.iload_n 1, 1), (.iload_n 2, 1), (.iload 4, 2)] (by decide +kernel) (pc' := 5) (L' := [.val (.int (c16 c0)), .val (.int (c16 c1)), .val (.int (c16 c2)), .val (.int 2), .val (.int 1), .unset]) (S' := [.int 1, .int (c16 c2), .int (c16 c1), .int (c16 c0)]) rfl ?_
  refine wp_invokestatic C (M22 hw) d22_5 (M21 hw) (w46 hw) (w47 hw) (w3 hw) (by decide) (S' := []) [.int (c16 c0), .int (c16 c1), .int (c16 c2), .int 1] (lenOf pd21 rfl) rfl (L' := [.val (.int (c16 c0)), .val (.int (c16 c1)), .val (.int (c16 c2)), .val (.int 1)]) rfl rfl (hR.push (d' := 1) (w' := 15) (Nat.le_of_ble_eq_true rfl) (Nat.le_of_ble_eq_true rfl)) ?_
  refine c_at1 C hw  (Meth.caller (M22 hw) d22_5)  ?_
  refine wp_seg C (M22 hw) [(.istore 5, 2), (.iload 5, 2)] (by decide +kernel) (pc' := 12) (L' := [.val (.int (c16 c0)), .val (.int (c16 c1)), .val (.int (c16 c2)), .val (.int 2), .val (.int 1), .val (.int (c16 c1))]) (S' := [.int (c16 c1)]) rfl ?_
  refine wp_invokestatic C (M22 hw) d22_12 (M16 hw) (w49 hw) (w50 hw) (w3 hw) (by decide) (S' := []) [.int (c16 c1)] (lenOf pd16 rfl) rfl (L' := [.val (.int (c16 c1))]) rfl rfl (hR.push (d' := 1) (w' := 12) (Nat.le_of_ble_eq_true rfl) (Nat.le_of_ble_eq_true rfl)) ?_
  refine c_isH C hw  (Meth.caller (M22 hw) d22_12)  ?_
  by_cases hh : hiS c1
  · rw [bi_t hh]
    refine wp_iff C (M22 hw) d22_15 (XT.i0_eq_f (by decide)) ?_
    refine wp_seg C (M22 hw) [(.iload 4, 2), (.iconst 1, 1), (.iadd, 1), (.iload_n 3, 1)] (by decide +kernel) (pc' := 23) (L' := [.val (.int (c16 c0)), .val (.int (c16 c1)), .val (.int (c16 c2)), .val (.int 2), .val (.int 1), .val (.int (c16 c1))]) (S' := [.int 2, .int 2]) rfl ?_
    refine wp_ict C (M22 hw) d22_23 (XT.ii_ge_t (by decide)) (pc' := 44) (by decide) ?_
    refine wp_seg C (M22 hw) [(.iload 5, 2)] (by decide +kernel) (pc' := 46) (L' := [.val (.int (c16 c0)), .val (.int (c16 c1)), .val (.int (c16 c2)), .val (.int 2), .val (.int 1), .val (.int (c16 c1))]) (S' := [.int (c16 c1)]) rfl ?_
    by_cases hz : c16 c1 = 0
    · refine wp_ift C (M22 hw) d22_46 (XT.i0_eq_t hz) (pc' := 65) (by decide) ?_
      refine wp_seg C (M22 hw) [(.iconst 0, 1)] (by decide +kernel) (pc' := 66) (L' := [.val (.int (c16 c0)), .val (.int (c16 c1)), .val (.int (c16 c2)), .val (.int 2), .val (.int 1), .val (.int (c16 c1))]) (S' := [.int 0]) rfl ?_
      rw [show stp [c0, c1] 1 = 0 from stp_0 (fun q => q.2) (Or.inl hz)] at K
      exact wp_iret C (M22 hw) d22_66 rfl (t := .int) (by decide) rfl Cr K
    · refine wp_iff C (M22 hw) d22_46 (XT.i0_eq_f hz) ?_
      refine wp_seg C (M22 hw) [(.iload 5, 2)] (by decide +kernel) (pc' := 51) (L' := [.val (.int (c16 c0)), .val (.int (c16 c1)), .val (.int (c16 c2)), .val (.int 2), .val (.int 1), .val (.int (c16 c1))]) (S' := [.int (c16 c1)]) rfl ?_
      refine wp_invokestatic C (M22 hw) d22_51 (M16 hw) (w49 hw) (w50 hw) (w3 hw) (by decide) (S' := []) [.int (c16 c1)] (lenOf pd16 rfl) rfl (L' := [.val (.int (c16 c1))]) rfl rfl (hR.push (d' := 1) (w' := 12) (Nat.le_of_ble_eq_true rfl) (Nat.le_of_ble_eq_true rfl)) ?_
      refine c_isH C hw  (Meth.caller (M22 hw) d22_51)  ?_
      by_cases hk2 : hiS c1
      · rw [bi_t hk2]
        refine wp_ift C (M22 hw) d22_54 (XT.i0_ne_t (by decide)) (pc' := 65) (by decide) ?_
        refine wp_seg C (M22 hw) [(.iconst 0, 1)] (by decide +kernel) (pc' := 66) (L' := [.val (.int (c16 c0)), .val (.int (c16 c1)), .val (.int (c16 c2)), .val (.int 2), .val (.int 1), .val (.int (c16 c1))]) (S' := [.int 0]) rfl ?_
        rw [show stp [c0, c1] 1 = 0 from stp_0 (fun q => q.2) (Or.inr (Or.inl hk2))] at K
        exact wp_iret C (M22 hw) d22_66 rfl (t := .int) (by decide) rfl Cr K
      · rw [bi_f hk2]
        refine wp_iff C (M22 hw) d22_54 (XT.i0_ne_f (by decide)) ?_
        refine wp_seg C (M22 hw) [(.iload 5, 2)] (by decide +kernel) (pc' := 59) (L' := [.val (.int (c16 c0)), .val (.int (c16 c1)), .val (.int (c16 c2)), .val (.int 2), .val (.int 1), .val (.int (c16 c1))]) (S' := [.int (c16 c1)]) rfl ?_
        refine wp_invokestatic C (M22 hw) d22_59 (M17 hw) (w53 hw) (w54 hw) (w3 hw) (by decide) (S' := []) [.int (c16 c1)] (lenOf pd17 rfl) rfl (L' := [.val (.int (c16 c1))]) rfl rfl (hR.push (d' := 1) (w' := 12) (Nat.le_of_ble_eq_true rfl) (Nat.le_of_ble_eq_true rfl)) ?_
        refine c_isL C hw  (Meth.caller (M22 hw) d22_59)  ?_
        by_cases hl : loS c1
        · rw [bi_t hl]
          refine wp_iff C (M22 hw) d22_62 (XT.i0_eq_f (by decide)) ?_
          refine wp_seg C (M22 hw) [(.iconst 0, 1)] (by decide +kernel) (pc' := 66) (L' := [.val (.int (c16 c0)), .val (.int (c16 c1)), .val (.int (c16 c2)), .val (.int 2), .val (.int 1), .val (.int (c16 c1))]) (S' := [.int 0]) rfl ?_
          rw [show stp [c0, c1] 1 = 0 from stp_0 (fun q => q.2) (Or.inr (Or.inr hl))] at K
          exact wp_iret C (M22 hw) d22_66 rfl (t := .int) (by decide) rfl Cr K
        · rw [bi_f hl]
          refine wp_ift C (M22 hw) d22_62 (XT.i0_eq_t (by decide)) (pc' := 67) (by decide) ?_
          refine wp_seg C (M22 hw) [(.iconst 1, 1)] (by decide +kernel) (pc' := 68) (L' := [.val (.int (c16 c0)), .val (.int (c16 c1)), .val (.int (c16 c2)), .val (.int 2), .val (.int 1), .val (.int (c16 c1))]) (S' := [.int 1]) rfl ?_
          rw [show stp [c0, c1] 1 = 1 from stp_1 (fun q => q.2) (fun q => q.elim hz fun q => q.elim hk2 hl)] at K
          exact wp_iret C (M22 hw) d22_68 rfl (t := .int) (by decide) rfl Cr K
  · rw [bi_f hh]
    refine wp_ift C (M22 hw) d22_15 (XT.i0_eq_t (by decide)) (pc' := 44) (by decide) ?_
    refine wp_seg C (M22 hw) [(.iload 5, 2)] (by decide +kernel) (pc' := 46) (L' := [.val (.int (c16 c0)), .val (.int (c16 c1)), .val (.int (c16 c2)), .val (.int 2), .val (.int 1), .val (.int (c16 c1))]) (S' := [.int (c16 c1)]) rfl ?_
    by_cases hz : c16 c1 = 0
    · refine wp_ift C (M22 hw) d22_46 (XT.i0_eq_t hz) (pc' := 65) (by decide) ?_
      refine wp_seg C (M22 hw) [(.iconst 0, 1)] (by decide +kernel) (pc' := 66) (L' := [.val (.int (c16 c0)), .val (.int (c16 c1)), .val (.int (c16 c2)), .val (.int 2), .val (.int 1), .val (.int (c16 c1))]) (S' := [.int 0]) rfl ?_
      rw [show stp [c0, c1] 1 = 0 from stp_0 (fun q => hh q.1) (Or.inl hz)] at K
      exact wp_iret C (M22 hw) d22_66 rfl (t := .int) (by decide) rfl Cr K
    · refine wp_iff C (M22 hw) d22_46 (XT.i0_eq_f hz) ?_
      refine wp_seg C (M22 hw) [(.iload 5, 2)] (by decide +kernel) (pc' := 51) (L' := [.val (.int (c16 c0)), .val (.int (c16 c1)), .val (.int (c16 c2)), .val (.int 2), .val (.int 1), .val (.int (c16 c1))]) (S' := [.int (c16 c1)]) rfl ?_
      refine wp_invokestatic C (M22 hw) d22_51 (M16 hw) (w49 hw) (w50 hw) (w3 hw) (by decide) (S' := []) [.int (c16 c1)] (lenOf pd16 rfl) rfl (L' := [.val (.int (c16 c1))]) rfl rfl (hR.push (d' := 1) (w' := 12) (Nat.le_of_ble_eq_true rfl) (Nat.le_of_ble_eq_true rfl)) ?_
      refine c_isH C hw  (Meth.caller (M22 hw) d22_51)  ?_
      by_cases hk2 : hiS c1
      · rw [bi_t hk2]
        refine wp_ift C (M22 hw) d22_54 (XT.i0_ne_t (by decide)) (pc' := 65) (by decide) ?_
        refine wp_seg C (M22 hw) [(.iconst 0, 1)] (by decide +kernel) (pc' := 66) (L' := [.val (.int (c16 c0)), .val (.int (c16 c1)), .val (.int (c16 c2)), .val (.int 2), .val (.int 1), .val (.int (c16 c1))]) (S' := [.int 0]) rfl ?_
        rw [show stp [c0, c1] 1 = 0 from stp_0 (fun q => hh q.1) (Or.inr (Or.inl hk2))] at K
        exact wp_iret C (M22 hw) d22_66 rfl (t := .int) (by decide) rfl Cr K
      · rw [bi_f hk2]
        refine wp_iff C (M22 hw) d22_54 (XT.i0_ne_f (by decide)) ?_
        refine wp_seg C (M22 hw) [(.iload 5, 2)] (by decide +kernel) (pc' := 59) (L' := [.val (.int (c16 c0)), .val (.int (c16 c1)), .val (.int (c16 c2)), .val (.int 2), .val (.int 1), .val (.int (c16 c1))]) (S' := [.int (c16 c1)]) rfl ?_
        refine wp_invokestatic C (M22 hw) d22_59 (M17 hw) (w53 hw) (w54 hw) (w3 hw) (by decide) (S' := []) [.int (c16 c1)] (lenOf pd17 rfl) rfl (L' := [.val (.int (c16 c1))]) rfl rfl (hR.push (d' := 1) (w' := 12) (Nat.le_of_ble_eq_true rfl) (Nat.le_of_ble_eq_true rfl)) ?_
        refine c_isL C hw  (Meth.caller (M22 hw) d22_59)  ?_
        by_cases hl : loS c1
        · rw [bi_t hl]
          refine wp_iff C (M22 hw) d22_62 (XT.i0_eq_f (by decide)) ?_
          refine wp_seg C (M22 hw) [(.iconst 0, 1)] (by decide +kernel) (pc' := 66) (L' := [.val (.int (c16 c0)), .val (.int (c16 c1)), .val (.int (c16 c2)), .val (.int 2), .val (.int 1), .val (.int (c16 c1))]) (S' := [.int 0]) rfl ?_
          rw [show stp [c0, c1] 1 = 0 from stp_0 (fun q => hh q.1) (Or.inr (Or.inr hl))] at K
          exact wp_iret C (M22 hw) d22_66 rfl (t := .int) (by decide) rfl Cr K
        · rw [bi_f hl]
          refine wp_ift C (M22 hw) d22_62 (XT.i0_eq_t (by decide)) (pc' := 67) (by decide) ?_
          refine wp_seg C (M22 hw) [(.iconst 1, 1)] (by decide +kernel) (pc' := 68) (L' := [.val (.int (c16 c0)), .val (.int (c16 c1)), .val (.int (c16 c2)), .val (.int 2), .val (.int 1), .val (.int (c16 c1))]) (S' := [.int 1]) rfl ?_
          rw [show stp [c0, c1] 1 = 1 from stp_1 (fun q => hh q.1) (fun q => q.elim hz fun q => q.elim hk2 hl)] at K
          exact wp_iret C (M22 hw) d22_68 rfl (t := .int) (by decide) rfl Cr K
theorem c_step30 {κ : Cx} (C : Ok κ) (hw : Ws κ) {c0 c1 c2 : UInt16} {yc : MethodName} {pcc : Nat} {Lc : List Slot} {Sc : List Value} {F : List Frame} {l : List Chunk} {k n : Nat} (Cr : Caller κ yc pcc 3) (hR : Rm κ (fr κ yc pcc Lc Sc :: F) 2 32)  (K : WP κ yc (pcc + 3) Lc (.int (Int32.ofNat (stp [c0, c1, c2] 0)) :: Sc) F (l) k n) :
    WP κ y22 0 [.val (.int (c16 c0)), .val (.int (c16 c1)), .val (.int (c16 c2)), .val (.int 3), .val (.int 0), .unset] [] (fr κ yc pcc Lc Sc :: F) (l) k n := by
  refine wp_seg C (M22 hw) [(.iload_n 0, 1), (.iload_n 1, 1), (.iload_n 2, 1), (.iload 4, 2)] (by decide +kernel) (pc' := 5) (L' := [.val (.int (c16 c0)), .val (.int (c16 c1)), .val (.int (c16 c2)), .val (.int 3), .val (.int 0), .unset]) (S' := [.int 0, .int (c16 c2), .int (c16 c1), .int (c16 c0)]) rfl ?_
  refine wp_invokestatic C (M22 hw) d22_5 (M21 hw) (w46 hw) (w47 hw) (w3 hw) (by decide) (S' := []) [.int (c16 c0), .int (c16 c1), .int (c16 c2), .int 0] (lenOf pd21 rfl) rfl (L' := [.val (.int (c16 c0)), .val (.int (c16 c1)), .val (.int (c16 c2)), .val (.int 0)]) rfl rfl (hR.push (d' := 1) (w' := 15) (Nat.le_of_ble_eq_true rfl) (Nat.le_of_ble_eq_true rfl)) ?_
  refine c_at0 C hw  (Meth.caller (M22 hw) d22_5)  ?_
  refine wp_seg C (M22 hw) [(.istore 5, 2), (.iload 5, 2)] (by decide +kernel) (pc' := 12) (L' := [.val (.int (c16 c0)), .val (.int (c16 c1)), .val (.int (c16 c2)), .val (.int 3), .val (.int 0), .val (.int (c16 c0))]) (S' := [.int (c16 c0)]) rfl ?_
  refine wp_invokestatic C (M22 hw) d22_12 (M16 hw) (w49 hw) (w50 hw) (w3 hw) (by decide) (S' := []) [.int (c16 c0)] (lenOf pd16 rfl) rfl (L' := [.val (.int (c16 c0))]) rfl rfl (hR.push (d' := 1) (w' := 12) (Nat.le_of_ble_eq_true rfl) (Nat.le_of_ble_eq_true rfl)) ?_
  refine c_isH C hw  (Meth.caller (M22 hw) d22_12)  ?_
  by_cases hh : hiS c0
  · rw [bi_t hh]
    refine wp_iff C (M22 hw) d22_15 (XT.i0_eq_f (by decide)) ?_
    refine wp_seg C (M22 hw) [(.iload 4, 2), (.iconst 1, 1), (.iadd, 1), (.iload_n 3, 1)] (by decide +kernel) (pc' := 23) (L' := [.val (.int (c16 c0)), .val (.int (c16 c1)), .val (.int (c16 c2)), .val (.int 3), .val (.int 0), .val (.int (c16 c0))]) (S' := [.int 3, .int 1]) rfl ?_
    refine wp_icf C (M22 hw) d22_23 (XT.ii_ge_f (by decide)) ?_
    refine wp_seg C (M22 hw) [(.iload_n 0, 1), (.iload_n 1, 1), (.iload_n 2, 1), (.iload 4, 2), (.iconst 1, 1), (.iadd, 1)] (by decide +kernel) (pc' := 33) (L' := [.val (.int (c16 c0)), .val (.int (c16 c1)), .val (.int (c16 c2)), .val (.int 3), .val (.int 0), .val (.int (c16 c0))]) (S' := [.int 1, .int (c16 c2), .int (c16 c1), .int (c16 c0)]) rfl ?_
    refine wp_invokestatic C (M22 hw) d22_33 (M21 hw) (w46 hw) (w47 hw) (w3 hw) (by decide) (S' := []) [.int (c16 c0), .int (c16 c1), .int (c16 c2), .int 1] (lenOf pd21 rfl) rfl (L' := [.val (.int (c16 c0)), .val (.int (c16 c1)), .val (.int (c16 c2)), .val (.int 1)]) rfl rfl (hR.push (d' := 1) (w' := 15) (Nat.le_of_ble_eq_true rfl) (Nat.le_of_ble_eq_true rfl)) ?_
    refine c_at1 C hw  (Meth.caller (M22 hw) d22_33)  ?_
    refine wp_invokestatic C (M22 hw) d22_36 (M17 hw) (w53 hw) (w54 hw) (w3 hw) (by decide) (S' := []) [.int (c16 c1)] (lenOf pd17 rfl) rfl (L' := [.val (.int (c16 c1))]) rfl rfl (hR.push (d' := 1) (w' := 12) (Nat.le_of_ble_eq_true rfl) (Nat.le_of_ble_eq_true rfl)) ?_
    refine c_isL C hw  (Meth.caller (M22 hw) d22_36)  ?_
    by_cases hn : loS c1
    · rw [bi_t hn]
      refine wp_iff C (M22 hw) d22_39 (XT.i0_eq_f (by decide)) ?_
      refine wp_seg C (M22 hw) [(.iconst 2, 1)] (by decide +kernel) (pc' := 43) (L' := [.val (.int (c16 c0)), .val (.int (c16 c1)), .val (.int (c16 c2)), .val (.int 3), .val (.int 0), .val (.int (c16 c0))]) (S' := [.int 2]) rfl ?_
      rw [show stp [c0, c1, c2] 0 = 2 from stp_2 ⟨hh, hn⟩] at K
      exact wp_iret C (M22 hw) d22_43 rfl (t := .int) (by decide) rfl Cr K
    · rw [bi_f hn]
      refine wp_ift C (M22 hw) d22_39 (XT.i0_eq_t (by decide)) (pc' := 44) (by decide) ?_
      refine wp_seg C (M22 hw) [(.iload 5, 2)] (by decide +kernel) (pc' := 46) (L' := [.val (.int (c16 c0)), .val (.int (c16 c1)), .val (.int (c16 c2)), .val (.int 3), .val (.int 0), .val (.int (c16 c0))]) (S' := [.int (c16 c0)]) rfl ?_
      by_cases hz : c16 c0 = 0
      · refine wp_ift C (M22 hw) d22_46 (XT.i0_eq_t hz) (pc' := 65) (by decide) ?_
        refine wp_seg C (M22 hw) [(.iconst 0, 1)] (by decide +kernel) (pc' := 66) (L' := [.val (.int (c16 c0)), .val (.int (c16 c1)), .val (.int (c16 c2)), .val (.int 3), .val (.int 0), .val (.int (c16 c0))]) (S' := [.int 0]) rfl ?_
        rw [show stp [c0, c1, c2] 0 = 0 from stp_0 (fun q => hn q.2) (Or.inl hz)] at K
        exact wp_iret C (M22 hw) d22_66 rfl (t := .int) (by decide) rfl Cr K
      · refine wp_iff C (M22 hw) d22_46 (XT.i0_eq_f hz) ?_
        refine wp_seg C (M22 hw) [(.iload 5, 2)] (by decide +kernel) (pc' := 51) (L' := [.val (.int (c16 c0)), .val (.int (c16 c1)), .val (.int (c16 c2)), .val (.int 3), .val (.int 0), .val (.int (c16 c0))]) (S' := [.int (c16 c0)]) rfl ?_
        refine wp_invokestatic C (M22 hw) d22_51 (M16 hw) (w49 hw) (w50 hw) (w3 hw) (by decide) (S' := []) [.int (c16 c0)] (lenOf pd16 rfl) rfl (L' := [.val (.int (c16 c0))]) rfl rfl (hR.push (d' := 1) (w' := 12) (Nat.le_of_ble_eq_true rfl) (Nat.le_of_ble_eq_true rfl)) ?_
        refine c_isH C hw  (Meth.caller (M22 hw) d22_51)  ?_
        by_cases hk2 : hiS c0
        · rw [bi_t hk2]
          refine wp_ift C (M22 hw) d22_54 (XT.i0_ne_t (by decide)) (pc' := 65) (by decide) ?_
          refine wp_seg C (M22 hw) [(.iconst 0, 1)] (by decide +kernel) (pc' := 66) (L' := [.val (.int (c16 c0)), .val (.int (c16 c1)), .val (.int (c16 c2)), .val (.int 3), .val (.int 0), .val (.int (c16 c0))]) (S' := [.int 0]) rfl ?_
          rw [show stp [c0, c1, c2] 0 = 0 from stp_0 (fun q => hn q.2) (Or.inr (Or.inl hk2))] at K
          exact wp_iret C (M22 hw) d22_66 rfl (t := .int) (by decide) rfl Cr K
        · rw [bi_f hk2]
          refine wp_iff C (M22 hw) d22_54 (XT.i0_ne_f (by decide)) ?_
          refine wp_seg C (M22 hw) [(.iload 5, 2)] (by decide +kernel) (pc' := 59) (L' := [.val (.int (c16 c0)), .val (.int (c16 c1)), .val (.int (c16 c2)), .val (.int 3), .val (.int 0), .val (.int (c16 c0))]) (S' := [.int (c16 c0)]) rfl ?_
          refine wp_invokestatic C (M22 hw) d22_59 (M17 hw) (w53 hw) (w54 hw) (w3 hw) (by decide) (S' := []) [.int (c16 c0)] (lenOf pd17 rfl) rfl (L' := [.val (.int (c16 c0))]) rfl rfl (hR.push (d' := 1) (w' := 12) (Nat.le_of_ble_eq_true rfl) (Nat.le_of_ble_eq_true rfl)) ?_
          refine c_isL C hw  (Meth.caller (M22 hw) d22_59)  ?_
          by_cases hl : loS c0
          · rw [bi_t hl]
            refine wp_iff C (M22 hw) d22_62 (XT.i0_eq_f (by decide)) ?_
            refine wp_seg C (M22 hw) [(.iconst 0, 1)] (by decide +kernel) (pc' := 66) (L' := [.val (.int (c16 c0)), .val (.int (c16 c1)), .val (.int (c16 c2)), .val (.int 3), .val (.int 0), .val (.int (c16 c0))]) (S' := [.int 0]) rfl ?_
            rw [show stp [c0, c1, c2] 0 = 0 from stp_0 (fun q => hn q.2) (Or.inr (Or.inr hl))] at K
            exact wp_iret C (M22 hw) d22_66 rfl (t := .int) (by decide) rfl Cr K
          · rw [bi_f hl]
            refine wp_ift C (M22 hw) d22_62 (XT.i0_eq_t (by decide)) (pc' := 67) (by decide) ?_
            refine wp_seg C (M22 hw) [(.iconst 1, 1)] (by decide +kernel) (pc' := 68) (L' := [.val (.int (c16 c0)), .val (.int (c16 c1)), .val (.int (c16 c2)), .val (.int 3), .val (.int 0), .val (.int (c16 c0))]) (S' := [.int 1]) rfl ?_
            rw [show stp [c0, c1, c2] 0 = 1 from stp_1 (fun q => hn q.2) (fun q => q.elim hz fun q => q.elim hk2 hl)] at K
            exact wp_iret C (M22 hw) d22_68 rfl (t := .int) (by decide) rfl Cr K
  · rw [bi_f hh]
    refine wp_ift C (M22 hw) d22_15 (XT.i0_eq_t (by decide)) (pc' := 44) (by decide) ?_
    refine wp_seg C (M22 hw) [(.iload 5, 2)] (by decide +kernel) (pc' := 46) (L' := [.val (.int (c16 c0)), .val (.int (c16 c1)), .val (.int (c16 c2)), .val (.int 3), .val (.int 0), .val (.int (c16 c0))]) (S' := [.int (c16 c0)]) rfl ?_
    by_cases hz : c16 c0 = 0
    · refine wp_ift C (M22 hw) d22_46 (XT.i0_eq_t hz) (pc' := 65) (by decide) ?_
      refine wp_seg C (M22 hw) [(.iconst 0, 1)] (by decide +kernel) (pc' := 66) (L' := [.val (.int (c16 c0)), .val (.int (c16 c1)), .val (.int (c16 c2)), .val (.int 3), .val (.int 0), .val (.int (c16 c0))]) (S' := [.int 0]) rfl ?_
      rw [show stp [c0, c1, c2] 0 = 0 from stp_0 (fun q => hh q.1) (Or.inl hz)] at K
      exact wp_iret C (M22 hw) d22_66 rfl (t := .int) (by decide) rfl Cr K
    · refine wp_iff C (M22 hw) d22_46 (XT.i0_eq_f hz) ?_
      refine wp_seg C (M22 hw) [(.iload 5, 2)] (by decide +kernel) (pc' := 51) (L' := [.val (.int (c16 c0)), .val (.int (c16 c1)), .val (.int (c16 c2)), .val (.int 3), .val (.int 0), .val (.int (c16 c0))]) (S' := [.int (c16 c0)]) rfl ?_
      refine wp_invokestatic C (M22 hw) d22_51 (M16 hw) (w49 hw) (w50 hw) (w3 hw) (by decide) (S' := []) [.int (c16 c0)] (lenOf pd16 rfl) rfl (L' := [.val (.int (c16 c0))]) rfl rfl (hR.push (d' := 1) (w' := 12) (Nat.le_of_ble_eq_true rfl) (Nat.le_of_ble_eq_true rfl)) ?_
      refine c_isH C hw  (Meth.caller (M22 hw) d22_51)  ?_
      by_cases hk2 : hiS c0
      · rw [bi_t hk2]
        refine wp_ift C (M22 hw) d22_54 (XT.i0_ne_t (by decide)) (pc' := 65) (by decide) ?_
        refine wp_seg C (M22 hw) [(.iconst 0, 1)] (by decide +kernel) (pc' := 66) (L' := [.val (.int (c16 c0)), .val (.int (c16 c1)), .val (.int (c16 c2)), .val (.int 3), .val (.int 0), .val (.int (c16 c0))]) (S' := [.int 0]) rfl ?_
        rw [show stp [c0, c1, c2] 0 = 0 from stp_0 (fun q => hh q.1) (Or.inr (Or.inl hk2))] at K
        exact wp_iret C (M22 hw) d22_66 rfl (t := .int) (by decide) rfl Cr K
      · rw [bi_f hk2]
        refine wp_iff C (M22 hw) d22_54 (XT.i0_ne_f (by decide)) ?_
        refine wp_seg C (M22 hw) [(.iload 5, 2)] (by decide +kernel) (pc' := 59) (L' := [.val (.int (c16 c0)), .val (.int (c16 c1)), .val (.int (c16 c2)), .val (.int 3), .val (.int 0), .val (.int (c16 c0))]) (S' := [.int (c16 c0)]) rfl ?_
        refine wp_invokestatic C (M22 hw) d22_59 (M17 hw) (w53 hw) (w54 hw) (w3 hw) (by decide) (S' := []) [.int (c16 c0)] (lenOf pd17 rfl) rfl (L' := [.val (.int (c16 c0))]) rfl rfl (hR.push (d' := 1) (w' := 12) (Nat.le_of_ble_eq_true rfl) (Nat.le_of_ble_eq_true rfl)) ?_
        refine c_isL C hw  (Meth.caller (M22 hw) d22_59)  ?_
        by_cases hl : loS c0
        · rw [bi_t hl]
          refine wp_iff C (M22 hw) d22_62 (XT.i0_eq_f (by decide)) ?_
          refine wp_seg C (M22 hw) [(.iconst 0, 1)] (by decide +kernel) (pc' := 66) (L' := [.val (.int (c16 c0)), .val (.int (c16 c1)), .val (.int (c16 c2)), .val (.int 3), .val (.int 0), .val (.int (c16 c0))]) (S' := [.int 0]) rfl ?_
          rw [show stp [c0, c1, c2] 0 = 0 from stp_0 (fun q => hh q.1) (Or.inr (Or.inr hl))] at K
          exact wp_iret C (M22 hw) d22_66 rfl (t := .int) (by decide) rfl Cr K
        · rw [bi_f hl]
          refine wp_ift C (M22 hw) d22_62 (XT.i0_eq_t (by decide)) (pc' := 67) (by decide) ?_
          refine wp_seg C (M22 hw) [(.iconst 1, 1)] (by decide +kernel) (pc' := 68) (L' := [.val (.int (c16 c0)), .val (.int (c16 c1)), .val (.int (c16 c2)), .val (.int 3), .val (.int 0), .val (.int (c16 c0))]) (S' := [.int 1]) rfl ?_
          rw [show stp [c0, c1, c2] 0 = 1 from stp_1 (fun q => hh q.1) (fun q => q.elim hz fun q => q.elim hk2 hl)] at K
          exact wp_iret C (M22 hw) d22_68 rfl (t := .int) (by decide) rfl Cr K
theorem c_step31 {κ : Cx} (C : Ok κ) (hw : Ws κ) {c0 c1 c2 : UInt16} {yc : MethodName} {pcc : Nat} {Lc : List Slot} {Sc : List Value} {F : List Frame} {l : List Chunk} {k n : Nat} (Cr : Caller κ yc pcc 3) (hR : Rm κ (fr κ yc pcc Lc Sc :: F) 2 32)  (K : WP κ yc (pcc + 3) Lc (.int (Int32.ofNat (stp [c0, c1, c2] 1)) :: Sc) F (l) k n) :
    WP κ y22 0 [.val (.int (c16 c0)), .val (.int (c16 c1)), .val (.int (c16 c2)), .val (.int 3), .val (.int 1), .unset] [] (fr κ yc pcc Lc Sc :: F) (l) k n := by
  refine wp_seg C (M22 hw) [(.iload_n 0, 1), (.iload_n 1, 1), (.iload_n 2, 1), (.iload 4, 2)] (by decide +kernel) (pc' := 5) (L' := [.val (.int (c16 c0)), .val (.int (c16 c1)), .val (.int (c16 c2)), .val (.int 3), .val (.int 1), .unset]) (S' := [.int 1, .int (c16 c2), .int (c16 c1), .int (c16 c0)]) rfl ?_
  refine wp_invokestatic C (M22 hw) d22_5 (M21 hw) (w46 hw) (w47 hw) (w3 hw) (by decide) (S' := []) [.int (c16 c0), .int (c16 c1), .int (c16 c2), .int 1] (lenOf pd21 rfl) rfl (L' := [.val (.int (c16 c0)), .val (.int (c16 c1)), .val (.int (c16 c2)), .val (.int 1)]) rfl rfl (hR.push (d' := 1) (w' := 15) (Nat.le_of_ble_eq_true rfl) (Nat.le_of_ble_eq_true rfl)) ?_
  refine c_at1 C hw  (Meth.caller (M22 hw) d22_5)  ?_
  refine wp_seg C (M22 hw) [(.istore 5, 2), (.iload 5, 2)] (by decide +kernel) (pc' := 12) (L' := [.val (.int (c16 c0)), .val (.int (c16 c1)), .val (.int (c16 c2)), .val (.int 3), .val (.int 1), .val (.int (c16 c1))]) (S' := [.int (c16 c1)]) rfl ?_
  refine wp_invokestatic C (M22 hw) d22_12 (M16 hw) (w49 hw) (w50 hw) (w3 hw) (by decide) (S' := []) [.int (c16 c1)] (lenOf pd16 rfl) rfl (L' := [.val (.int (c16 c1))]) rfl rfl (hR.push (d' := 1) (w' := 12) (Nat.le_of_ble_eq_true rfl) (Nat.le_of_ble_eq_true rfl)) ?_
  refine c_isH C hw  (Meth.caller (M22 hw) d22_12)  ?_
  by_cases hh : hiS c1
  · rw [bi_t hh]
    refine wp_iff C (M22 hw) d22_15 (XT.i0_eq_f (by decide)) ?_
    refine wp_seg C (M22 hw) [(.iload 4, 2), (.iconst 1, 1), (.iadd, 1), (.iload_n 3, 1)] (by decide +kernel) (pc' := 23) (L' := [.val (.int (c16 c0)), .val (.int (c16 c1)), .val (.int (c16 c2)), .val (.int 3), .val (.int 1), .val (.int (c16 c1))]) (S' := [.int 3, .int 2]) rfl ?_
    refine wp_icf C (M22 hw) d22_23 (XT.ii_ge_f (by decide)) ?_
    refine wp_seg C (M22 hw) [(.iload_n 0, 1), (.iload_n 1, 1), (.iload_n 2, 1), (.iload 4, 2), (.iconst 1, 1), (.iadd, 1)] (by decide +kernel) (pc' := 33) (L' := [.val (.int (c16 c0)), .val (.int (c16 c1)), .val (.int (c16 c2)), .val (.int 3), .val (.int 1), .val (.int (c16 c1))]) (S' := [.int 2, .int (c16 c2), .int (c16 c1), .int (c16 c0)]) rfl ?_
    refine wp_invokestatic C (M22 hw) d22_33 (M21 hw) (w46 hw) (w47 hw) (w3 hw) (by decide) (S' := []) [.int (c16 c0), .int (c16 c1), .int (c16 c2), .int 2] (lenOf pd21 rfl) rfl (L' := [.val (.int (c16 c0)), .val (.int (c16 c1)), .val (.int (c16 c2)), .val (.int 2)]) rfl rfl (hR.push (d' := 1) (w' := 15) (Nat.le_of_ble_eq_true rfl) (Nat.le_of_ble_eq_true rfl)) ?_
    refine c_at2 C hw  (Meth.caller (M22 hw) d22_33)  ?_
    refine wp_invokestatic C (M22 hw) d22_36 (M17 hw) (w53 hw) (w54 hw) (w3 hw) (by decide) (S' := []) [.int (c16 c2)] (lenOf pd17 rfl) rfl (L' := [.val (.int (c16 c2))]) rfl rfl (hR.push (d' := 1) (w' := 12) (Nat.le_of_ble_eq_true rfl) (Nat.le_of_ble_eq_true rfl)) ?_
    refine c_isL C hw  (Meth.caller (M22 hw) d22_36)  ?_
    by_cases hn : loS c2
    · rw [bi_t hn]
      refine wp_iff C (M22 hw) d22_39 (XT.i0_eq_f (by decide)) ?_
      refine wp_seg C (M22 hw) [(.iconst 2, 1)] (by decide +kernel) (pc' := 43) (L' := [.val (.int (c16 c0)), .val (.int (c16 c1)), .val (.int (c16 c2)), .val (.int 3), .val (.int 1), .val (.int (c16 c1))]) (S' := [.int 2]) rfl ?_
      rw [show stp [c0, c1, c2] 1 = 2 from stp_2 ⟨hh, hn⟩] at K
      exact wp_iret C (M22 hw) d22_43 rfl (t := .int) (by decide) rfl Cr K
    · rw [bi_f hn]
      refine wp_ift C (M22 hw) d22_39 (XT.i0_eq_t (by decide)) (pc' := 44) (by decide) ?_
      refine wp_seg C (M22 hw) [(.iload 5, 2)] (by decide +kernel) (pc' := 46) (L' := [.val (.int (c16 c0)), .val (.int (c16 c1)), .val (.int (c16 c2)), .val (.int 3), .val (.int 1), .val (.int (c16 c1))]) (S' := [.int (c16 c1)]) rfl ?_
      by_cases hz : c16 c1 = 0
      · refine wp_ift C (M22 hw) d22_46 (XT.i0_eq_t hz) (pc' := 65) (by decide) ?_
        refine wp_seg C (M22 hw) [(.iconst 0, 1)] (by decide +kernel) (pc' := 66) (L' := [.val (.int (c16 c0)), .val (.int (c16 c1)), .val (.int (c16 c2)), .val (.int 3), .val (.int 1), .val (.int (c16 c1))]) (S' := [.int 0]) rfl ?_
        rw [show stp [c0, c1, c2] 1 = 0 from stp_0 (fun q => hn q.2) (Or.inl hz)] at K
        exact wp_iret C (M22 hw) d22_66 rfl (t := .int) (by decide) rfl Cr K
      · refine wp_iff C (M22 hw) d22_46 (XT.i0_eq_f hz) ?_
        refine wp_seg C (M22 hw) [(.iload 5, 2)] (by decide +kernel) (pc' := 51) (L' := [.val (.int (c16 c0)), .val (.int (c16 c1)), .val (.int (c16 c2)), .val (.int 3), .val (.int 1), .val (.int (c16 c1))]) (S' := [.int (c16 c1)]) rfl ?_
        refine wp_invokestatic C (M22 hw) d22_51 (M16 hw) (w49 hw) (w50 hw) (w3 hw) (by decide) (S' := []) [.int (c16 c1)] (lenOf pd16 rfl) rfl (L' := [.val (.int (c16 c1))]) rfl rfl (hR.push (d' := 1) (w' := 12) (Nat.le_of_ble_eq_true rfl) (Nat.le_of_ble_eq_true rfl)) ?_
        refine c_isH C hw  (Meth.caller (M22 hw) d22_51)  ?_
        by_cases hk2 : hiS c1
        · rw [bi_t hk2]
          refine wp_ift C (M22 hw) d22_54 (XT.i0_ne_t (by decide)) (pc' := 65) (by decide) ?_
          refine wp_seg C (M22 hw) [(.iconst 0, 1)] (by decide +kernel) (pc' := 66) (L' := [.val (.int (c16 c0)), .val (.int (c16 c1)), .val (.int (c16 c2)), .val (.int 3), .val (.int 1), .val (.int (c16 c1))]) (S' := [.int 0]) rfl ?_
          rw [show stp [c0, c1, c2] 1 = 0 from stp_0 (fun q => hn q.2) (Or.inr (Or.inl hk2))] at K
          exact wp_iret C (M22 hw) d22_66 rfl (t := .int) (by decide) rfl Cr K
        · rw [bi_f hk2]
          refine wp_iff C (M22 hw) d22_54 (XT.i0_ne_f (by decide)) ?_
          refine wp_seg C (M22 hw) [(.iload 5, 2)] (by decide +kernel) (pc' := 59) (L' := [.val (.int (c16 c0)), .val (.int (c16 c1)), .val (.int (c16 c2)), .val (.int 3), .val (.int 1), .val (.int (c16 c1))]) (S' := [.int (c16 c1)]) rfl ?_
          refine wp_invokestatic C (M22 hw) d22_59 (M17 hw) (w53 hw) (w54 hw) (w3 hw) (by decide) (S' := []) [.int (c16 c1)] (lenOf pd17 rfl) rfl (L' := [.val (.int (c16 c1))]) rfl rfl (hR.push (d' := 1) (w' := 12) (Nat.le_of_ble_eq_true rfl) (Nat.le_of_ble_eq_true rfl)) ?_
          refine c_isL C hw  (Meth.caller (M22 hw) d22_59)  ?_
          by_cases hl : loS c1
          · rw [bi_t hl]
            refine wp_iff C (M22 hw) d22_62 (XT.i0_eq_f (by decide)) ?_
            refine wp_seg C (M22 hw) [(.iconst 0, 1)] (by decide +kernel) (pc' := 66) (L' := [.val (.int (c16 c0)), .val (.int (c16 c1)), .val (.int (c16 c2)), .val (.int 3), .val (.int 1), .val (.int (c16 c1))]) (S' := [.int 0]) rfl ?_
            rw [show stp [c0, c1, c2] 1 = 0 from stp_0 (fun q => hn q.2) (Or.inr (Or.inr hl))] at K
            exact wp_iret C (M22 hw) d22_66 rfl (t := .int) (by decide) rfl Cr K
          · rw [bi_f hl]
            refine wp_ift C (M22 hw) d22_62 (XT.i0_eq_t (by decide)) (pc' := 67) (by decide) ?_
            refine wp_seg C (M22 hw) [(.iconst 1, 1)] (by decide +kernel) (pc' := 68) (L' := [.val (.int (c16 c0)), .val (.int (c16 c1)), .val (.int (c16 c2)), .val (.int 3), .val (.int 1), .val (.int (c16 c1))]) (S' := [.int 1]) rfl ?_
            rw [show stp [c0, c1, c2] 1 = 1 from stp_1 (fun q => hn q.2) (fun q => q.elim hz fun q => q.elim hk2 hl)] at K
            exact wp_iret C (M22 hw) d22_68 rfl (t := .int) (by decide) rfl Cr K
  · rw [bi_f hh]
    refine wp_ift C (M22 hw) d22_15 (XT.i0_eq_t (by decide)) (pc' := 44) (by decide) ?_
    refine wp_seg C (M22 hw) [(.iload 5, 2)] (by decide +kernel) (pc' := 46) (L' := [.val (.int (c16 c0)), .val (.int (c16 c1)), .val (.int (c16 c2)), .val (.int 3), .val (.int 1), .val (.int (c16 c1))]) (S' := [.int (c16 c1)]) rfl ?_
    by_cases hz : c16 c1 = 0
    · refine wp_ift C (M22 hw) d22_46 (XT.i0_eq_t hz) (pc' := 65) (by decide) ?_
      refine wp_seg C (M22 hw) [(.iconst 0, 1)] (by decide +kernel) (pc' := 66) (L' := [.val (.int (c16 c0)), .val (.int (c16 c1)), .val (.int (c16 c2)), .val (.int 3), .val (.int 1), .val (.int (c16 c1))]) (S' := [.int 0]) rfl ?_
      rw [show stp [c0, c1, c2] 1 = 0 from stp_0 (fun q => hh q.1) (Or.inl hz)] at K
      exact wp_iret C (M22 hw) d22_66 rfl (t := .int) (by decide) rfl Cr K
    · refine wp_iff C (M22 hw) d22_46 (XT.i0_eq_f hz) ?_
      refine wp_seg C (M22 hw) [(.iload 5, 2)] (by decide +kernel) (pc' := 51) (L' := [.val (.int (c16 c0)), .val (.int (c16 c1)), .val (.int (c16 c2)), .val (.int 3), .val (.int 1), .val (.int (c16 c1))]) (S' := [.int (c16 c1)]) rfl ?_
      refine wp_invokestatic C (M22 hw) d22_51 (M16 hw) (w49 hw) (w50 hw) (w3 hw) (by decide) (S' := []) [.int (c16 c1)] (lenOf pd16 rfl) rfl (L' := [.val (.int (c16 c1))]) rfl rfl (hR.push (d' := 1) (w' := 12) (Nat.le_of_ble_eq_true rfl) (Nat.le_of_ble_eq_true rfl)) ?_
      refine c_isH C hw  (Meth.caller (M22 hw) d22_51)  ?_
      by_cases hk2 : hiS c1
      · rw [bi_t hk2]
        refine wp_ift C (M22 hw) d22_54 (XT.i0_ne_t (by decide)) (pc' := 65) (by decide) ?_
        refine wp_seg C (M22 hw) [(.iconst 0, 1)] (by decide +kernel) (pc' := 66) (L' := [.val (.int (c16 c0)), .val (.int (c16 c1)), .val (.int (c16 c2)), .val (.int 3), .val (.int 1), .val (.int (c16 c1))]) (S' := [.int 0]) rfl ?_
        rw [show stp [c0, c1, c2] 1 = 0 from stp_0 (fun q => hh q.1) (Or.inr (Or.inl hk2))] at K
        exact wp_iret C (M22 hw) d22_66 rfl (t := .int) (by decide) rfl Cr K
      · rw [bi_f hk2]
        refine wp_iff C (M22 hw) d22_54 (XT.i0_ne_f (by decide)) ?_
        refine wp_seg C (M22 hw) [(.iload 5, 2)] (by decide +kernel) (pc' := 59) (L' := [.val (.int (c16 c0)), .val (.int (c16 c1)), .val (.int (c16 c2)), .val (.int 3), .val (.int 1), .val (.int (c16 c1))]) (S' := [.int (c16 c1)]) rfl ?_
        refine wp_invokestatic C (M22 hw) d22_59 (M17 hw) (w53 hw) (w54 hw) (w3 hw) (by decide) (S' := []) [.int (c16 c1)] (lenOf pd17 rfl) rfl (L' := [.val (.int (c16 c1))]) rfl rfl (hR.push (d' := 1) (w' := 12) (Nat.le_of_ble_eq_true rfl) (Nat.le_of_ble_eq_true rfl)) ?_
        refine c_isL C hw  (Meth.caller (M22 hw) d22_59)  ?_
        by_cases hl : loS c1
        · rw [bi_t hl]
          refine wp_iff C (M22 hw) d22_62 (XT.i0_eq_f (by decide)) ?_
          refine wp_seg C (M22 hw) [(.iconst 0, 1)] (by decide +kernel) (pc' := 66) (L' := [.val (.int (c16 c0)), .val (.int (c16 c1)), .val (.int (c16 c2)), .val (.int 3), .val (.int 1), .val (.int (c16 c1))]) (S' := [.int 0]) rfl ?_
          rw [show stp [c0, c1, c2] 1 = 0 from stp_0 (fun q => hh q.1) (Or.inr (Or.inr hl))] at K
          exact wp_iret C (M22 hw) d22_66 rfl (t := .int) (by decide) rfl Cr K
        · rw [bi_f hl]
          refine wp_ift C (M22 hw) d22_62 (XT.i0_eq_t (by decide)) (pc' := 67) (by decide) ?_
          refine wp_seg C (M22 hw) [(.iconst 1, 1)] (by decide +kernel) (pc' := 68) (L' := [.val (.int (c16 c0)), .val (.int (c16 c1)), .val (.int (c16 c2)), .val (.int 3), .val (.int 1), .val (.int (c16 c1))]) (S' := [.int 1]) rfl ?_
          rw [show stp [c0, c1, c2] 1 = 1 from stp_1 (fun q => hh q.1) (fun q => q.elim hz fun q => q.elim hk2 hl)] at K
          exact wp_iret C (M22 hw) d22_68 rfl (t := .int) (by decide) rfl Cr K
theorem c_step32 {κ : Cx} (C : Ok κ) (hw : Ws κ) {c0 c1 c2 : UInt16} {yc : MethodName} {pcc : Nat} {Lc : List Slot} {Sc : List Value} {F : List Frame} {l : List Chunk} {k n : Nat} (Cr : Caller κ yc pcc 3) (hR : Rm κ (fr κ yc pcc Lc Sc :: F) 2 32)  (K : WP κ yc (pcc + 3) Lc (.int (Int32.ofNat (stp [c0, c1, c2] 2)) :: Sc) F (l) k n) :
    WP κ y22 0 [.val (.int (c16 c0)), .val (.int (c16 c1)), .val (.int (c16 c2)), .val (.int 3), .val (.int 2), .unset] [] (fr κ yc pcc Lc Sc :: F) (l) k n := by
  refine wp_seg C (M22 hw) [(.iload_n 0, 1), (.iload_n 1, 1), (.iload_n 2, 1), (.iload 4, 2)] (by decide +kernel) (pc' := 5) (L' := [.val (.int (c16 c0)), .val (.int (c16 c1)), .val (.int (c16 c2)), .val (.int 3), .val (.int 2), .unset]) (S' := [.int 2, .int (c16 c2), .int (c16 c1), .int (c16 c0)]) rfl ?_
  refine wp_invokestatic C (M22 hw) d22_5 (M21 hw) (w46 hw) (w47 hw) (w3 hw) (by decide) (S' := []) [.int (c16 c0), .int (c16 c1), .int (c16 c2), .int 2] (lenOf pd21 rfl) rfl (L' := [.val (.int (c16 c0)), .val (.int (c16 c1)), .val (.int (c16 c2)), .val (.int 2)]) rfl rfl (hR.push (d' := 1) (w' := 15) (Nat.le_of_ble_eq_true rfl) (Nat.le_of_ble_eq_true rfl)) ?_
  refine c_at2 C hw  (Meth.caller (M22 hw) d22_5)  ?_
  refine wp_seg C (M22 hw) [(.istore 5, 2), (.iload 5, 2)] (by decide +kernel) (pc' := 12) (L' := [.val (.int (c16 c0)), .val (.int (c16 c1)), .val (.int (c16 c2)), .val (.int 3), .val (.int 2), .val (.int (c16 c2))]) (S' := [.int (c16 c2)]) rfl ?_
  refine wp_invokestatic C (M22 hw) d22_12 (M16 hw) (w49 hw) (w50 hw) (w3 hw) (by decide) (S' := []) [.int (c16 c2)] (lenOf pd16 rfl) rfl (L' := [.val (.int (c16 c2))]) rfl rfl (hR.push (d' := 1) (w' := 12) (Nat.le_of_ble_eq_true rfl) (Nat.le_of_ble_eq_true rfl)) ?_
  refine c_isH C hw  (Meth.caller (M22 hw) d22_12)  ?_
  by_cases hh : hiS c2
  · rw [bi_t hh]
    refine wp_iff C (M22 hw) d22_15 (XT.i0_eq_f (by decide)) ?_
    refine wp_seg C (M22 hw) [(.iload 4, 2), (.iconst 1, 1), (.iadd, 1), (.iload_n 3, 1)] (by decide +kernel) (pc' := 23) (L' := [.val (.int (c16 c0)), .val (.int (c16 c1)), .val (.int (c16 c2)), .val (.int 3), .val (.int 2), .val (.int (c16 c2))]) (S' := [.int 3, .int 3]) rfl ?_
    refine wp_ict C (M22 hw) d22_23 (XT.ii_ge_t (by decide)) (pc' := 44) (by decide) ?_
    refine wp_seg C (M22 hw) [(.iload 5, 2)] (by decide +kernel) (pc' := 46) (L' := [.val (.int (c16 c0)), .val (.int (c16 c1)), .val (.int (c16 c2)), .val (.int 3), .val (.int 2), .val (.int (c16 c2))]) (S' := [.int (c16 c2)]) rfl ?_
    by_cases hz : c16 c2 = 0
    · refine wp_ift C (M22 hw) d22_46 (XT.i0_eq_t hz) (pc' := 65) (by decide) ?_
      refine wp_seg C (M22 hw) [(.iconst 0, 1)] (by decide +kernel) (pc' := 66) (L' := [.val (.int (c16 c0)), .val (.int (c16 c1)), .val (.int (c16 c2)), .val (.int 3), .val (.int 2), .val (.int (c16 c2))]) (S' := [.int 0]) rfl ?_
      rw [show stp [c0, c1, c2] 2 = 0 from stp_0 (fun q => q.2) (Or.inl hz)] at K
      exact wp_iret C (M22 hw) d22_66 rfl (t := .int) (by decide) rfl Cr K
    · refine wp_iff C (M22 hw) d22_46 (XT.i0_eq_f hz) ?_
      refine wp_seg C (M22 hw) [(.iload 5, 2)] (by decide +kernel) (pc' := 51) (L' := [.val (.int (c16 c0)), .val (.int (c16 c1)), .val (.int (c16 c2)), .val (.int 3), .val (.int 2), .val (.int (c16 c2))]) (S' := [.int (c16 c2)]) rfl ?_
      refine wp_invokestatic C (M22 hw) d22_51 (M16 hw) (w49 hw) (w50 hw) (w3 hw) (by decide) (S' := []) [.int (c16 c2)] (lenOf pd16 rfl) rfl (L' := [.val (.int (c16 c2))]) rfl rfl (hR.push (d' := 1) (w' := 12) (Nat.le_of_ble_eq_true rfl) (Nat.le_of_ble_eq_true rfl)) ?_
      refine c_isH C hw  (Meth.caller (M22 hw) d22_51)  ?_
      by_cases hk2 : hiS c2
      · rw [bi_t hk2]
        refine wp_ift C (M22 hw) d22_54 (XT.i0_ne_t (by decide)) (pc' := 65) (by decide) ?_
        refine wp_seg C (M22 hw) [(.iconst 0, 1)] (by decide +kernel) (pc' := 66) (L' := [.val (.int (c16 c0)), .val (.int (c16 c1)), .val (.int (c16 c2)), .val (.int 3), .val (.int 2), .val (.int (c16 c2))]) (S' := [.int 0]) rfl ?_
        rw [show stp [c0, c1, c2] 2 = 0 from stp_0 (fun q => q.2) (Or.inr (Or.inl hk2))] at K
        exact wp_iret C (M22 hw) d22_66 rfl (t := .int) (by decide) rfl Cr K
      · rw [bi_f hk2]
        refine wp_iff C (M22 hw) d22_54 (XT.i0_ne_f (by decide)) ?_
        refine wp_seg C (M22 hw) [(.iload 5, 2)] (by decide +kernel) (pc' := 59) (L' := [.val (.int (c16 c0)), .val (.int (c16 c1)), .val (.int (c16 c2)), .val (.int 3), .val (.int 2), .val (.int (c16 c2))]) (S' := [.int (c16 c2)]) rfl ?_
        refine wp_invokestatic C (M22 hw) d22_59 (M17 hw) (w53 hw) (w54 hw) (w3 hw) (by decide) (S' := []) [.int (c16 c2)] (lenOf pd17 rfl) rfl (L' := [.val (.int (c16 c2))]) rfl rfl (hR.push (d' := 1) (w' := 12) (Nat.le_of_ble_eq_true rfl) (Nat.le_of_ble_eq_true rfl)) ?_
        refine c_isL C hw  (Meth.caller (M22 hw) d22_59)  ?_
        by_cases hl : loS c2
        · rw [bi_t hl]
          refine wp_iff C (M22 hw) d22_62 (XT.i0_eq_f (by decide)) ?_
          refine wp_seg C (M22 hw) [(.iconst 0, 1)] (by decide +kernel) (pc' := 66) (L' := [.val (.int (c16 c0)), .val (.int (c16 c1)), .val (.int (c16 c2)), .val (.int 3), .val (.int 2), .val (.int (c16 c2))]) (S' := [.int 0]) rfl ?_
          rw [show stp [c0, c1, c2] 2 = 0 from stp_0 (fun q => q.2) (Or.inr (Or.inr hl))] at K
          exact wp_iret C (M22 hw) d22_66 rfl (t := .int) (by decide) rfl Cr K
        · rw [bi_f hl]
          refine wp_ift C (M22 hw) d22_62 (XT.i0_eq_t (by decide)) (pc' := 67) (by decide) ?_
          refine wp_seg C (M22 hw) [(.iconst 1, 1)] (by decide +kernel) (pc' := 68) (L' := [.val (.int (c16 c0)), .val (.int (c16 c1)), .val (.int (c16 c2)), .val (.int 3), .val (.int 2), .val (.int (c16 c2))]) (S' := [.int 1]) rfl ?_
          rw [show stp [c0, c1, c2] 2 = 1 from stp_1 (fun q => q.2) (fun q => q.elim hz fun q => q.elim hk2 hl)] at K
          exact wp_iret C (M22 hw) d22_68 rfl (t := .int) (by decide) rfl Cr K
  · rw [bi_f hh]
    refine wp_ift C (M22 hw) d22_15 (XT.i0_eq_t (by decide)) (pc' := 44) (by decide) ?_
    refine wp_seg C (M22 hw) [(.iload 5, 2)] (by decide +kernel) (pc' := 46) (L' := [.val (.int (c16 c0)), .val (.int (c16 c1)), .val (.int (c16 c2)), .val (.int 3), .val (.int 2), .val (.int (c16 c2))]) (S' := [.int (c16 c2)]) rfl ?_
    by_cases hz : c16 c2 = 0
    · refine wp_ift C (M22 hw) d22_46 (XT.i0_eq_t hz) (pc' := 65) (by decide) ?_
      refine wp_seg C (M22 hw) [(.iconst 0, 1)] (by decide +kernel) (pc' := 66) (L' := [.val (.int (c16 c0)), .val (.int (c16 c1)), .val (.int (c16 c2)), .val (.int 3), .val (.int 2), .val (.int (c16 c2))]) (S' := [.int 0]) rfl ?_
      rw [show stp [c0, c1, c2] 2 = 0 from stp_0 (fun q => hh q.1) (Or.inl hz)] at K
      exact wp_iret C (M22 hw) d22_66 rfl (t := .int) (by decide) rfl Cr K
    · refine wp_iff C (M22 hw) d22_46 (XT.i0_eq_f hz) ?_
      refine wp_seg C (M22 hw) [(.iload 5, 2)] (by decide +kernel) (pc' := 51) (L' := [.val (.int (c16 c0)), .val (.int (c16 c1)), .val (.int (c16 c2)), .val (.int 3), .val (.int 2), .val (.int (c16 c2))]) (S' := [.int (c16 c2)]) rfl ?_
      refine wp_invokestatic C (M22 hw) d22_51 (M16 hw) (w49 hw) (w50 hw) (w3 hw) (by decide) (S' := []) [.int (c16 c2)] (lenOf pd16 rfl) rfl (L' := [.val (.int (c16 c2))]) rfl rfl (hR.push (d' := 1) (w' := 12) (Nat.le_of_ble_eq_true rfl) (Nat.le_of_ble_eq_true rfl)) ?_
      refine c_isH C hw  (Meth.caller (M22 hw) d22_51)  ?_
      by_cases hk2 : hiS c2
      · rw [bi_t hk2]
        refine wp_ift C (M22 hw) d22_54 (XT.i0_ne_t (by decide)) (pc' := 65) (by decide) ?_
        refine wp_seg C (M22 hw) [(.iconst 0, 1)] (by decide +kernel) (pc' := 66) (L' := [.val (.int (c16 c0)), .val (.int (c16 c1)), .val (.int (c16 c2)), .val (.int 3), .val (.int 2), .val (.int (c16 c2))]) (S' := [.int 0]) rfl ?_
        rw [show stp [c0, c1, c2] 2 = 0 from stp_0 (fun q => hh q.1) (Or.inr (Or.inl hk2))] at K
        exact wp_iret C (M22 hw) d22_66 rfl (t := .int) (by decide) rfl Cr K
      · rw [bi_f hk2]
        refine wp_iff C (M22 hw) d22_54 (XT.i0_ne_f (by decide)) ?_
        refine wp_seg C (M22 hw) [(.iload 5, 2)] (by decide +kernel) (pc' := 59) (L' := [.val (.int (c16 c0)), .val (.int (c16 c1)), .val (.int (c16 c2)), .val (.int 3), .val (.int 2), .val (.int (c16 c2))]) (S' := [.int (c16 c2)]) rfl ?_
        refine wp_invokestatic C (M22 hw) d22_59 (M17 hw) (w53 hw) (w54 hw) (w3 hw) (by decide) (S' := []) [.int (c16 c2)] (lenOf pd17 rfl) rfl (L' := [.val (.int (c16 c2))]) rfl rfl (hR.push (d' := 1) (w' := 12) (Nat.le_of_ble_eq_true rfl) (Nat.le_of_ble_eq_true rfl)) ?_
        refine c_isL C hw  (Meth.caller (M22 hw) d22_59)  ?_
        by_cases hl : loS c2
        · rw [bi_t hl]
          refine wp_iff C (M22 hw) d22_62 (XT.i0_eq_f (by decide)) ?_
          refine wp_seg C (M22 hw) [(.iconst 0, 1)] (by decide +kernel) (pc' := 66) (L' := [.val (.int (c16 c0)), .val (.int (c16 c1)), .val (.int (c16 c2)), .val (.int 3), .val (.int 2), .val (.int (c16 c2))]) (S' := [.int 0]) rfl ?_
          rw [show stp [c0, c1, c2] 2 = 0 from stp_0 (fun q => hh q.1) (Or.inr (Or.inr hl))] at K
          exact wp_iret C (M22 hw) d22_66 rfl (t := .int) (by decide) rfl Cr K
        · rw [bi_f hl]
          refine wp_ift C (M22 hw) d22_62 (XT.i0_eq_t (by decide)) (pc' := 67) (by decide) ?_
          refine wp_seg C (M22 hw) [(.iconst 1, 1)] (by decide +kernel) (pc' := 68) (L' := [.val (.int (c16 c0)), .val (.int (c16 c1)), .val (.int (c16 c2)), .val (.int 3), .val (.int 2), .val (.int (c16 c2))]) (S' := [.int 1]) rfl ?_
          rw [show stp [c0, c1, c2] 2 = 1 from stp_1 (fun q => hh q.1) (fun q => q.elim hz fun q => q.elim hk2 hl)] at K
          exact wp_iret C (M22 hw) d22_68 rfl (t := .int) (by decide) rfl Cr K
theorem c_cc1 {κ : Cx} (C : Ok κ) (hw : Ws κ) {x : Int32} (h : x < 65536) {yc : MethodName} {pcc : Nat} {Lc : List Slot} {Sc : List Value} {F : List Frame} {l : List Chunk} {k n : Nat} (Cr : Caller κ yc pcc 3)  (K : WP κ yc (pcc + 3) Lc (.int 1 :: Sc) F (l) k n) :
    WP κ y23 0 [.val (.int x)] [] (fr κ yc pcc Lc Sc :: F) (l) k n := by
  refine wp_seg C (M23 hw) [(.iload_n 0, 1)] (by decide +kernel) (pc' := 1) (L' := [.val (.int x)]) (S' := [.int x]) rfl ?_
  refine wp_ldcI C (M23 hw) d23_1 (w90 hw) ?_
  refine wp_ict C (M23 hw) d23_3 (XT.ii_lt_t h) (pc' := 10) (by decide) ?_
  refine wp_seg C (M23 hw) [(.iconst 1, 1)] (by decide +kernel) (pc' := 11) (L' := [.val (.int x)]) (S' := [.int 1]) rfl ?_
  exact wp_iret C (M23 hw) d23_11 rfl (t := .int) (by decide) rfl Cr K
theorem c_cc2 {κ : Cx} (C : Ok κ) (hw : Ws κ) {x : Int32} (h : ¬ x < 65536) {yc : MethodName} {pcc : Nat} {Lc : List Slot} {Sc : List Value} {F : List Frame} {l : List Chunk} {k n : Nat} (Cr : Caller κ yc pcc 3)  (K : WP κ yc (pcc + 3) Lc (.int 2 :: Sc) F (l) k n) :
    WP κ y23 0 [.val (.int x)] [] (fr κ yc pcc Lc Sc :: F) (l) k n := by
  refine wp_seg C (M23 hw) [(.iload_n 0, 1)] (by decide +kernel) (pc' := 1) (L' := [.val (.int x)]) (S' := [.int x]) rfl ?_
  refine wp_ldcI C (M23 hw) d23_1 (w90 hw) ?_
  refine wp_icf C (M23 hw) d23_3 (XT.ii_lt_f h) ?_
  refine wp_seg C (M23 hw) [(.iconst 2, 1), (.goto 4, 3)] (by decide +kernel) (pc' := 11) (L' := [.val (.int x)]) (S' := [.int 2]) rfl ?_
  exact wp_iret C (M23 hw) d23_11 rfl (t := .int) (by decide) rfl Cr K
theorem c_tcp {κ : Cx} (C : Ok κ) (hw : Ws κ) {x z : Int32} {yc : MethodName} {pcc : Nat} {Lc : List Slot} {Sc : List Value} {F : List Frame} {l : List Chunk} {k n : Nat} (Cr : Caller κ yc pcc 3)  (K : WP κ yc (pcc + 3) Lc (.int (((x <<< ((10 : Int32) &&& 31)) + z) + (-56613888 : Int32)) :: Sc) F (l) k n) :
    WP κ y24 0 [.val (.int x), .val (.int z)] [] (fr κ yc pcc Lc Sc :: F) (l) k n := by
  refine wp_seg C (M24 hw) [(.iload_n 0, 1), (.bipush 10, 2), (.ishl, 1), (.iload_n 1, 1), (.iadd, 1)] (by decide +kernel) (pc' := 6) (L' := [.val (.int x), .val (.int z)]) (S' := [.int ((x <<< ((10 : Int32) &&& 31)) + z)]) rfl ?_
  refine wp_ldcI C (M24 hw) d24_6 (w131 hw) ?_
  refine wp_seg C (M24 hw) [(.iadd, 1)] (by decide +kernel) (pc' := 9) (L' := [.val (.int x), .val (.int z)]) (S' := [.int (((x <<< ((10 : Int32) &&& 31)) + z) + (-56613888 : Int32))]) rfl ?_
  exact wp_iret C (M24 hw) d24_9 rfl (t := .int) (by decide) rfl Cr K
theorem c_ucp4 {κ : Cx} (C : Ok κ) (hw : Ws κ) (hu : (Sta (kZ κ) (kZ κ).heap "java/lang/StringUTF16" "$assertionsDisabled" "Z" (.int 1)) ∧ (Sta (kZ κ) (kZ κ).heap "java/lang/StringUTF16" "HI_BYTE_SHIFT" "I" (.int 0)) ∧ Sta (kZ κ) (kZ κ).heap "java/lang/StringUTF16" "LO_BYTE_SHIFT" "I" (.int 8)) {b : Addr} {cs : List UInt16} {i : Nat} (hl : 2 * cs.length < 2 ^ 31) (hi : i < cs.length) {yc : MethodName} {pcc : Nat} {Lc : List Slot} {Sc : List Value} {F : List Frame} {l : List Chunk} {k n : Nat} (Cr : Caller κ yc pcc 3) (hR : Rm κ (fr κ yc pcc Lc Sc :: F) 2 30) (hb : strB b (enc16 cs) ∈ l) (K : (¬ (hiS (cs.getD i 0) ∧ nxLo cs[i + 1]?) → WP κ yc (pcc + 3) Lc (.int (c16 (cs.getD i 0)) :: Sc) F l k n) ∧ (hiS (cs.getD i 0) ∧ nxLo cs[i + 1]? → ∀ m : Nat, 65536 ≤ m → m < 2 ^ 31 → WP κ yc (pcc + 3) Lc (.int (Int32.ofNat m) :: Sc) F l k n)) :
    WP κ y25 0 [.val (.ref b), .val (.int (Int32.ofNat i)), .val (.int (Int32.ofNat cs.length)), .val (.int 0), .unset, .unset] [] (fr κ yc pcc Lc Sc :: F) (l) k n := by
  have hu0 := hu
  obtain ⟨s1, s2, s3⟩ := hu
  refine wp_getstatic C (M25 hw) d25_0 (w106 hw) (Or.inl rfl) s1 ?_
  refine wp_ift C (M25 hw) d25_3 (XT.i0_ne_t (by decide)) (pc' := 19) (by decide) ?_
  refine wp_seg C (M25 hw) [(.iload_n 3, 1)] (by decide +kernel) (pc' := 20) (L' := [.val (.ref b), .val (.int (Int32.ofNat i)), .val (.int (Int32.ofNat cs.length)), .val (.int 0), .unset, .unset]) (S' := [.int 0]) rfl ?_
  refine wp_ift C (M25 hw) d25_20 (XT.i0_eq_t (by decide)) (pc' := 28) (by decide) ?_
  refine wp_seg C (M25 hw) [(.aload_n 0, 1), (.iload_n 1, 1)] (by decide +kernel) (pc' := 30) (L' := [.val (.ref b), .val (.int (Int32.ofNat i)), .val (.int (Int32.ofNat cs.length)), .val (.int 0), .unset, .unset]) (S' := [.int (Int32.ofNat i), .ref b]) rfl ?_
  refine wp_invokestatic C (M25 hw) d25_30 (M14 hw) (w109 hw) (w110 hw) (w59 hw) (by decide) (S' := []) [.ref b, .int (Int32.ofNat i)] (lenOf pd14 rfl) rfl (L' := [.val (.ref b), .val (.int (Int32.ofNat i))]) rfl rfl (hR.push (d' := 1) (w' := 13) (Nat.le_of_ble_eq_true rfl) (Nat.le_of_ble_eq_true rfl)) ?_
  refine c_getc C hw hu0 hl hi (Meth.caller (M25 hw) d25_30) (mb := false) hb ?_
  refine wp_seg C (M25 hw) [(.istore 4, 2), (.iload 4, 2)] (by decide +kernel) (pc' := 37) (L' := [.val (.ref b), .val (.int (Int32.ofNat i)), .val (.int (Int32.ofNat cs.length)), .val (.int 0), .val (.int (c16 (cs.getD i 0))), .unset]) (S' := [.int (c16 (cs.getD i 0))]) rfl ?_
  refine wp_invokestatic C (M25 hw) d25_37 (M18 hw) (w118 hw) (w119 hw) (w88 hw) (by decide) (S' := []) [.int (c16 (cs.getD i 0))] (lenOf pd18 rfl) rfl (L' := [.val (.int (c16 (cs.getD i 0)))]) rfl rfl (hR.push (d' := 1) (w' := 12) (Nat.le_of_ble_eq_true rfl) (Nat.le_of_ble_eq_true rfl)) ?_
  refine c_jH C hw  (Meth.caller (M25 hw) d25_37)  ?_
  by_cases hh : hiS (cs.getD i 0)
  · rw [bi_t hh]
    refine wp_iff C (M25 hw) d25_40 (XT.i0_eq_f (by decide)) ?_
    refine wp_seg C (M25 hw) [(.iinc 1 1, 3), (.iload_n 1, 1), (.iload_n 2, 1)] (by decide +kernel) (pc' := 48) (L' := [.val (.ref b), .val (.int ((Int32.ofNat i) + 1)), .val (.int (Int32.ofNat cs.length)), .val (.int 0), .val (.int (c16 (cs.getD i 0))), .unset]) (S' := [.int (Int32.ofNat cs.length), .int ((Int32.ofNat i) + 1)]) rfl ?_
    rw [succ32]
    by_cases h1 : i + 1 < cs.length
    · refine wp_icf C (M25 hw) d25_48 (XT.ii_ge_f ((lt32 (by omega) (by omega)).mpr h1)) ?_
      refine wp_seg C (M25 hw) [(.iload_n 3, 1)] (by decide +kernel) (pc' := 52) (L' := [.val (.ref b), .val (.int (Int32.ofNat (i + 1))), .val (.int (Int32.ofNat cs.length)), .val (.int 0), .val (.int (c16 (cs.getD i 0))), .unset]) (S' := [.int 0]) rfl ?_
      refine wp_ift C (M25 hw) d25_52 (XT.i0_eq_t (by decide)) (pc' := 60) (by decide) ?_
      refine wp_seg C (M25 hw) [(.aload_n 0, 1), (.iload_n 1, 1)] (by decide +kernel) (pc' := 62) (L' := [.val (.ref b), .val (.int (Int32.ofNat (i + 1))), .val (.int (Int32.ofNat cs.length)), .val (.int 0), .val (.int (c16 (cs.getD i 0))), .unset]) (S' := [.int (Int32.ofNat (i + 1)), .ref b]) rfl ?_
      refine wp_invokestatic C (M25 hw) d25_62 (M14 hw) (w109 hw) (w110 hw) (w59 hw) (by decide) (S' := []) [.ref b, .int (Int32.ofNat (i + 1))] (lenOf pd14 rfl) rfl (L' := [.val (.ref b), .val (.int (Int32.ofNat (i + 1)))]) rfl rfl (hR.push (d' := 1) (w' := 13) (Nat.le_of_ble_eq_true rfl) (Nat.le_of_ble_eq_true rfl)) ?_
      refine c_getc C hw hu0 hl h1 (Meth.caller (M25 hw) d25_62) (mb := false) hb ?_
      refine wp_seg C (M25 hw) [(.istore 5, 2), (.iload 5, 2)] (by decide +kernel) (pc' := 69) (L' := [.val (.ref b), .val (.int (Int32.ofNat (i + 1))), .val (.int (Int32.ofNat cs.length)), .val (.int 0), .val (.int (c16 (cs.getD i 0))), .val (.int (c16 (cs.getD (i + 1) 0)))]) (S' := [.int (c16 (cs.getD (i + 1) 0))]) rfl ?_
      refine wp_invokestatic C (M25 hw) d25_69 (M19 hw) (w124 hw) (w125 hw) (w88 hw) (by decide) (S' := []) [.int (c16 (cs.getD (i + 1) 0))] (lenOf pd19 rfl) rfl (L' := [.val (.int (c16 (cs.getD (i + 1) 0)))]) rfl rfl (hR.push (d' := 1) (w' := 12) (Nat.le_of_ble_eq_true rfl) (Nat.le_of_ble_eq_true rfl)) ?_
      refine c_jL C hw  (Meth.caller (M25 hw) d25_69)  ?_
      by_cases hn : loS (cs.getD (i + 1) 0)
      · rw [bi_t hn]
        refine wp_iff C (M25 hw) d25_72 (XT.i0_eq_f (by decide)) ?_
        refine wp_seg C (M25 hw) [(.iload 4, 2), (.iload 5, 2)] (by decide +kernel) (pc' := 79) (L' := [.val (.ref b), .val (.int (Int32.ofNat (i + 1))), .val (.int (Int32.ofNat cs.length)), .val (.int 0), .val (.int (c16 (cs.getD i 0))), .val (.int (c16 (cs.getD (i + 1) 0)))]) (S' := [.int (c16 (cs.getD (i + 1) 0)), .int (c16 (cs.getD i 0))]) rfl ?_
        refine wp_invokestatic C (M25 hw) d25_79 (M24 hw) (w128 hw) (w129 hw) (w88 hw) (by decide) (S' := []) [.int (c16 (cs.getD i 0)), .int (c16 (cs.getD (i + 1) 0))] (lenOf pd24 rfl) rfl (L' := [.val (.int (c16 (cs.getD i 0))), .val (.int (c16 (cs.getD (i + 1) 0)))]) rfl rfl (hR.push (d' := 1) (w' := 13) (Nat.le_of_ble_eq_true rfl) (Nat.le_of_ble_eq_true rfl)) ?_
        refine c_tcp C hw  (Meth.caller (M25 hw) d25_79)  ?_
        obtain ⟨m, m1, m2, em⟩ := cp_spec hh hn
        rw [em]
        exact wp_iret C (M25 hw) d25_82 rfl (t := .int) (by decide) rfl Cr (K.2 ⟨hh, (nx_in h1).mpr hn⟩ m m1 m2)
      · rw [bi_f hn]
        refine wp_ift C (M25 hw) d25_72 (XT.i0_eq_t (by decide)) (pc' := 83) (by decide) ?_
        refine wp_seg C (M25 hw) [(.iload 4, 2)] (by decide +kernel) (pc' := 85) (L' := [.val (.ref b), .val (.int (Int32.ofNat (i + 1))), .val (.int (Int32.ofNat cs.length)), .val (.int 0), .val (.int (c16 (cs.getD i 0))), .val (.int (c16 (cs.getD (i + 1) 0)))]) (S' := [.int (c16 (cs.getD i 0))]) rfl ?_
        exact wp_iret C (M25 hw) d25_85 rfl (t := .int) (by decide) rfl Cr (K.1 (fun q => hn ((nx_in h1).mp q.2)))
    · refine wp_ict C (M25 hw) d25_48 (XT.ii_ge_t (fun q => h1 ((lt32 (by omega) (by omega)).mp q))) (pc' := 83) (by decide) ?_
      refine wp_seg C (M25 hw) [(.iload 4, 2)] (by decide +kernel) (pc' := 85) (L' := [.val (.ref b), .val (.int (Int32.ofNat (i + 1))), .val (.int (Int32.ofNat cs.length)), .val (.int 0), .val (.int (c16 (cs.getD i 0))), .unset]) (S' := [.int (c16 (cs.getD i 0))]) rfl ?_
      exact wp_iret C (M25 hw) d25_85 rfl (t := .int) (by decide) rfl Cr (K.1 (fun q => nx_out h1 q.2))
  · rw [bi_f hh]
    refine wp_ift C (M25 hw) d25_40 (XT.i0_eq_t (by decide)) (pc' := 83) (by decide) ?_
    refine wp_seg C (M25 hw) [(.iload 4, 2)] (by decide +kernel) (pc' := 85) (L' := [.val (.ref b), .val (.int (Int32.ofNat i)), .val (.int (Int32.ofNat cs.length)), .val (.int 0), .val (.int (c16 (cs.getD i 0))), .unset]) (S' := [.int (c16 (cs.getD i 0))]) rfl ?_
    exact wp_iret C (M25 hw) d25_85 rfl (t := .int) (by decide) rfl Cr (K.1 (fun q => hh q.1))
theorem c_ucp3 {κ : Cx} (C : Ok κ) (hw : Ws κ) (hu : (Sta (kZ κ) (kZ κ).heap "java/lang/StringUTF16" "$assertionsDisabled" "Z" (.int 1)) ∧ (Sta (kZ κ) (kZ κ).heap "java/lang/StringUTF16" "HI_BYTE_SHIFT" "I" (.int 0)) ∧ Sta (kZ κ) (kZ κ).heap "java/lang/StringUTF16" "LO_BYTE_SHIFT" "I" (.int 8)) {b : Addr} {cs : List UInt16} {i : Nat} (hl : 2 * cs.length < 2 ^ 31) (hi : i < cs.length) {yc : MethodName} {pcc : Nat} {Lc : List Slot} {Sc : List Value} {F : List Frame} {l : List Chunk} {k n : Nat} (Cr : Caller κ yc pcc 3) (hR : Rm κ (fr κ yc pcc Lc Sc :: F) 3 44) (hb : strB b (enc16 cs) ∈ l) (K : (¬ (hiS (cs.getD i 0) ∧ nxLo cs[i + 1]?) → WP κ yc (pcc + 3) Lc (.int (c16 (cs.getD i 0)) :: Sc) F l k n) ∧ (hiS (cs.getD i 0) ∧ nxLo cs[i + 1]? → ∀ m : Nat, 65536 ≤ m → m < 2 ^ 31 → WP κ yc (pcc + 3) Lc (.int (Int32.ofNat m) :: Sc) F l k n)) :
    WP κ y26 0 [.val (.ref b), .val (.int (Int32.ofNat i)), .val (.int (Int32.ofNat cs.length))] [] (fr κ yc pcc Lc Sc :: F) (l) k n := by
  refine wp_seg C (M26 hw) [(.aload_n 0, 1), (.iload_n 1, 1), (.iload_n 2, 1), (.iconst 0, 1)] (by decide +kernel) (pc' := 4) (L' := [.val (.ref b), .val (.int (Int32.ofNat i)), .val (.int (Int32.ofNat cs.length))]) (S' := [.int 0, .int (Int32.ofNat cs.length), .int (Int32.ofNat i), .ref b]) rfl ?_
  refine wp_invokestatic C (M26 hw) d26_4 (M25 hw) (w115 hw) (w116 hw) (w59 hw) (by decide) (S' := []) [.ref b, .int (Int32.ofNat i), .int (Int32.ofNat cs.length), .int 0] (lenOf pd25 rfl) rfl (L' := [.val (.ref b), .val (.int (Int32.ofNat i)), .val (.int (Int32.ofNat cs.length)), .val (.int 0), .unset, .unset]) rfl rfl (hR.push (d' := 1) (w' := 17) (Nat.le_of_ble_eq_true rfl) (Nat.le_of_ble_eq_true rfl)) ?_
  refine c_ucp4 C hw hu hl hi (Meth.caller (M26 hw) d26_4) (hR.push (d' := 2) (w' := 30) (Nat.le_of_ble_eq_true rfl) (Nat.le_of_ble_eq_true rfl)) hb ⟨fun hp => ?_, fun hp m m1 m2 => ?_⟩
  · exact wp_iret C (M26 hw) d26_7 rfl (t := .int) (by decide) rfl Cr (K.1 hp)
  · exact wp_iret C (M26 hw) d26_7 rfl (t := .int) (by decide) rfl Cr (K.2 hp m m1 m2)
theorem c_scp {κ : Cx} (C : Ok κ) (hw : Ws κ) (hs : StrS κ) (hu : (Sta (kZ κ) (kZ κ).heap "java/lang/StringUTF16" "$assertionsDisabled" "Z" (.int 1)) ∧ (Sta (kZ κ) (kZ κ).heap "java/lang/StringUTF16" "HI_BYTE_SHIFT" "I" (.int 0)) ∧ Sta (kZ κ) (kZ κ).heap "java/lang/StringUTF16" "LO_BYTE_SHIFT" "I" (.int 8)) {a : Addr} {cs : List UInt16} {i : Nat} (hl : 2 * cs.length < 2 ^ 31) (hi : i < cs.length) {yc : MethodName} {pcc : Nat} {Lc : List Slot} {Sc : List Value} {F : List Frame} {l : List Chunk} {k n : Nat} (Cr : Caller κ yc pcc 3) (hR : Rm κ (fr κ yc pcc Lc Sc :: F) 4 58) (st : StrU l a cs) (K : (¬ (hiS (cs.getD i 0) ∧ nxLo cs[i + 1]?) → WP κ yc (pcc + 3) Lc (.int (c16 (cs.getD i 0)) :: Sc) F l k n) ∧ (hiS (cs.getD i 0) ∧ nxLo cs[i + 1]? → ∀ m : Nat, 65536 ≤ m → m < 2 ^ 31 → WP κ yc (pcc + 3) Lc (.int (Int32.ofNat m) :: Sc) F l k n)) :
    WP κ y27 0 [.val (.ref a), .val (.int (Int32.ofNat i)), .unset] [] (fr κ yc pcc Lc Sc :: F) (l) k n := by
  obtain ⟨b, ho, hb⟩ := st
  by_cases hlat : lat cs = true
  · rw [cod_t hlat] at ho
    rw [enc_t hlat] at hb
    have e8 := l8_len cs
    refine wp_seg C (M27 hw) [(.aload_n 0, 1)] (by decide +kernel) (pc' := 1) (L' := [.val (.ref a), .val (.int (Int32.ofNat i)), .unset]) (S' := [.ref a]) rfl ?_
    refine wp_invokevirtual C (M27 hw) d27_1 (M3 hw) (Cl := "java/lang/String") (w72 hw) (w73 hw) (w75 hw) (w74 hw) (Or.inl ⟨_, (w75 hw)⟩) (by decide) (b := a) ho (S' := []) [] (lenOf pd3 rfl) rfl (L' := [.val (.ref a)]) rfl rfl (hR.push (d' := 1) (w' := 12) (Nat.le_of_ble_eq_true rfl) (Nat.le_of_ble_eq_true rfl)) ?_
    refine c_isl C hw hs (Meth.caller (M27 hw) d27_1) ho ?_
    refine wp_iff C (M27 hw) d27_4 (XT.i0_eq_f (by decide)) ?_
    refine wp_seg C (M27 hw) [(.iload_n 1, 1), (.aload_n 0, 1)] (by decide +kernel) (pc' := 9) (L' := [.val (.ref a), .val (.int (Int32.ofNat i)), .unset]) (S' := [.ref a, .int (Int32.ofNat i)]) rfl ?_
    refine wp_getfield C (M27 hw) d27_9 (w26 hw) (Or.inl rfl) (a := a) (mu := false) (Cl := "java/lang/String") (fs := [("java/lang/String", "value", "[B", .ref b), ("java/lang/String", "coder", "B", .int 0)]) ho (List.mem_of_getElem? (i := 0) rfl) ?_
    refine wp_arraylength C (M27 hw) d27_12 (a := b) hb (z := (Int32.ofNat cs.length)) (by simp [e8]) ?_
    refine wp_invokestatic C (M27 hw) d27_13 (M5 hw) (w77 hw) (w78 hw) (w9 hw) (by decide) (S' := []) [.int (Int32.ofNat i), .int (Int32.ofNat cs.length)] (lenOf pd5 rfl) rfl (L' := [.val (.int (Int32.ofNat i)), .val (.int (Int32.ofNat cs.length))]) rfl rfl (hR.push (d' := 1) (w' := 13) (Nat.le_of_ble_eq_true rfl) (Nat.le_of_ble_eq_true rfl)) ?_
    refine c_sci C hw hs (nn32 (by omega)) ((lt32 (by omega) (by omega)).mpr hi) (Meth.caller (M27 hw) d27_13) (hR.push (d' := 2) (w' := 27) (Nat.le_of_ble_eq_true rfl) (Nat.le_of_ble_eq_true rfl))  ?_
    refine wp_seg C (M27 hw) [(.aload_n 0, 1)] (by decide +kernel) (pc' := 17) (L' := [.val (.ref a), .val (.int (Int32.ofNat i)), .unset]) (S' := [.ref a]) rfl ?_
    refine wp_getfield C (M27 hw) d27_17 (w26 hw) (Or.inl rfl) (a := a) (mu := false) (Cl := "java/lang/String") (fs := [("java/lang/String", "value", "[B", .ref b), ("java/lang/String", "coder", "B", .int 0)]) ho (List.mem_of_getElem? (i := 0) rfl) ?_
    refine wp_seg C (M27 hw) [(.iload_n 1, 1)] (by decide +kernel) (pc' := 21) (L' := [.val (.ref a), .val (.int (Int32.ofNat i)), .unset]) (S' := [.int (Int32.ofNat i), .ref b]) rfl ?_
    refine wp_baload C (M27 hw) d27_21 (a := b) hb (i := i) (Ix32 (by omega)) (v := .int (((l8 cs).getD i 0).toInt8.toInt32)) (getD_map (by omega)) ?_
    refine wp_seg C (M27 hw) [(.sipush 255, 3), (.iand, 1)] (by decide +kernel) (pc' := 26) (L' := [.val (.ref a), .val (.int (Int32.ofNat i)), .unset]) (S' := [.int ((((l8 cs).getD i 0).toInt8.toInt32) &&& (255 : Int32))]) rfl ?_
    rw [ch8_mask, lat_at hlat hi]
    exact wp_iret C (M27 hw) d27_26 rfl (t := .int) (by decide) rfl Cr (K.1 (fun q => lat_hi hlat hi q.1))
  · rw [cod_f hlat] at ho
    rw [enc_f hlat] at hb
    refine wp_seg C (M27 hw) [(.aload_n 0, 1)] (by decide +kernel) (pc' := 1) (L' := [.val (.ref a), .val (.int (Int32.ofNat i)), .unset]) (S' := [.ref a]) rfl ?_
    refine wp_invokevirtual C (M27 hw) d27_1 (M3 hw) (Cl := "java/lang/String") (w72 hw) (w73 hw) (w75 hw) (w74 hw) (Or.inl ⟨_, (w75 hw)⟩) (by decide) (b := a) ho (S' := []) [] (lenOf pd3 rfl) rfl (L' := [.val (.ref a)]) rfl rfl (hR.push (d' := 1) (w' := 12) (Nat.le_of_ble_eq_true rfl) (Nat.le_of_ble_eq_true rfl)) ?_
    refine c_isl1 C hw hs (Meth.caller (M27 hw) d27_1) ho ?_
    refine wp_ift C (M27 hw) d27_4 (XT.i0_eq_t (by decide)) (pc' := 27) (by decide) ?_
    refine wp_seg C (M27 hw) [(.aload_n 0, 1)] (by decide +kernel) (pc' := 28) (L' := [.val (.ref a), .val (.int (Int32.ofNat i)), .unset]) (S' := [.ref a]) rfl ?_
    refine wp_getfield C (M27 hw) d27_28 (w26 hw) (Or.inl rfl) (a := a) (mu := false) (Cl := "java/lang/String") (fs := [("java/lang/String", "value", "[B", .ref b), ("java/lang/String", "coder", "B", .int 1)]) ho (List.mem_of_getElem? (i := 0) rfl) ?_
    refine wp_arraylength C (M27 hw) d27_31 (a := b) hb (z := (Int32.ofNat (2 * cs.length))) (by simp [enc16_len]) ?_
    refine wp_seg C (M27 hw) [(.iconst 1, 1), (.ishr, 1)] (by decide +kernel) (pc' := 34) (L' := [.val (.ref a), .val (.int (Int32.ofNat i)), .unset]) (S' := [.int ((Int32.ofNat (2 * cs.length)) >>> ((1 : Int32) &&& 31))]) rfl ?_
    rw [shrk (k := 1) (by omega) _ (by decide) (by decide), show 2 * cs.length / 2 ^ 1 = cs.length by omega]
    refine wp_seg C (M27 hw) [(.istore_n 2, 1), (.iload_n 1, 1), (.iload_n 2, 1)] (by decide +kernel) (pc' := 37) (L' := [.val (.ref a), .val (.int (Int32.ofNat i)), .val (.int (Int32.ofNat cs.length))]) (S' := [.int (Int32.ofNat cs.length), .int (Int32.ofNat i)]) rfl ?_
    refine wp_invokestatic C (M27 hw) d27_37 (M5 hw) (w77 hw) (w78 hw) (w9 hw) (by decide) (S' := []) [.int (Int32.ofNat i), .int (Int32.ofNat cs.length)] (lenOf pd5 rfl) rfl (L' := [.val (.int (Int32.ofNat i)), .val (.int (Int32.ofNat cs.length))]) rfl rfl (hR.push (d' := 1) (w' := 13) (Nat.le_of_ble_eq_true rfl) (Nat.le_of_ble_eq_true rfl)) ?_
    refine c_sci C hw hs (nn32 (by omega)) ((lt32 (by omega) (by omega)).mpr hi) (Meth.caller (M27 hw) d27_37) (hR.push (d' := 2) (w' := 27) (Nat.le_of_ble_eq_true rfl) (Nat.le_of_ble_eq_true rfl))  ?_
    refine wp_seg C (M27 hw) [(.aload_n 0, 1)] (by decide +kernel) (pc' := 41) (L' := [.val (.ref a), .val (.int (Int32.ofNat i)), .val (.int (Int32.ofNat cs.length))]) (S' := [.ref a]) rfl ?_
    refine wp_getfield C (M27 hw) d27_41 (w26 hw) (Or.inl rfl) (a := a) (mu := false) (Cl := "java/lang/String") (fs := [("java/lang/String", "value", "[B", .ref b), ("java/lang/String", "coder", "B", .int 1)]) ho (List.mem_of_getElem? (i := 0) rfl) ?_
    refine wp_seg C (M27 hw) [(.iload_n 1, 1), (.iload_n 2, 1)] (by decide +kernel) (pc' := 46) (L' := [.val (.ref a), .val (.int (Int32.ofNat i)), .val (.int (Int32.ofNat cs.length))]) (S' := [.int (Int32.ofNat cs.length), .int (Int32.ofNat i), .ref b]) rfl ?_
    refine wp_invokestatic C (M27 hw) d27_46 (M26 hw) (w112 hw) (w113 hw) (w59 hw) (by decide) (S' := []) [.ref b, .int (Int32.ofNat i), .int (Int32.ofNat cs.length)] (lenOf pd26 rfl) rfl (L' := [.val (.ref b), .val (.int (Int32.ofNat i)), .val (.int (Int32.ofNat cs.length))]) rfl rfl (hR.push (d' := 1) (w' := 14) (Nat.le_of_ble_eq_true rfl) (Nat.le_of_ble_eq_true rfl)) ?_
    refine c_ucp3 C hw hu hl hi (Meth.caller (M27 hw) d27_46) (hR.push (d' := 3) (w' := 44) (Nat.le_of_ble_eq_true rfl) (Nat.le_of_ble_eq_true rfl)) hb ⟨fun hp => ?_, fun hp m m1 m2 => ?_⟩
    · exact wp_iret C (M27 hw) d27_49 rfl (t := .int) (by decide) rfl Cr (K.1 hp)
    · exact wp_iret C (M27 hw) d27_49 rfl (t := .int) (by decide) rfl Cr (K.2 hp m m1 m2)
theorem h_fv {κ : Cx} (C : Ok κ) (hw : Ws κ) (hs : StrS κ) (hu : (Sta (kZ κ) (kZ κ).heap "java/lang/StringUTF16" "$assertionsDisabled" "Z" (.int 1)) ∧ (Sta (kZ κ) (kZ κ).heap "java/lang/StringUTF16" "HI_BYTE_SHIFT" "I" (.int 0)) ∧ Sta (kZ κ) (kZ κ).heap "java/lang/StringUTF16" "LO_BYTE_SHIFT" "I" (.int 8)) {a : Addr} {mx : Int32} {cs : List UInt16} (hl : 2 * cs.length < 2 ^ 31) {yc : MethodName} {pcc : Nat} {Lc : List Slot} {Sc : List Value} {F : List Frame} {l : List Chunk} {k n : Nat} (Cr : Caller κ yc pcc 3) (hR : Rm κ (fr κ yc pcc Lc Sc :: F) 5 74) (st : StrU l a cs) : ∀ (d i ct : Nat) (z : Int32), cs.length ≤ i + d → i ≤ cs.length → ct ≤ i → (WP κ yc (pcc + 3) Lc (.int (bi (vf cs mx (d + 1) i ct)) :: Sc) F (l) k n) →
    WP κ y28 4 [.val (.ref a), .val (.int mx), .val (.int (Int32.ofNat ct)), .val (.int (Int32.ofNat i)), .val (.int z)] [] (fr κ yc pcc Lc Sc :: F) (l) k n := by
  intro d
  induction d with
  | zero =>
    intro i ct z hd hil hct K
    have st0 := st
    obtain ⟨b, ho, hb⟩ := st
    refine wp_seg C (M28 hw) [(.iload_n 3, 1), (.aload_n 0, 1)] (by decide +kernel) (pc' := 6) (L' := [.val (.ref a), .val (.int mx), .val (.int (Int32.ofNat ct)), .val (.int (Int32.ofNat i)), .val (.int z)]) (S' := [.ref a, .int (Int32.ofNat i)]) rfl ?_
    refine wp_invokevirtual C (M28 hw) d28_6 (M2 hw) (Cl := "java/lang/String") (w32 hw) (w33 hw) (w35 hw) (w34 hw) (Or.inl ⟨_, (w35 hw)⟩) (by decide) (b := a) ho (S' := [.int (Int32.ofNat i)]) [] (lenOf pd2 rfl) rfl (L' := [.val (.ref a)]) rfl rfl (hR.push (d' := 1) (w' := 12) (Nat.le_of_ble_eq_true rfl) (Nat.le_of_ble_eq_true rfl)) ?_
    refine c_lenU C hw hs hl (Meth.caller (M28 hw) d28_6) (hR.push (d' := 2) (w' := 25) (Nat.le_of_ble_eq_true rfl) (Nat.le_of_ble_eq_true rfl)) st0 ?_
    have hi : ¬ i < cs.length := by omega
    refine wp_ict C (M28 hw) d28_9 (XT.ii_ge_t (fun q => hi ((lt32 (by omega) (by omega)).mp q))) (pc' := 61) (by decide) ?_
    refine wp_seg C (M28 hw) [(.iload_n 2, 1)] (by decide +kernel) (pc' := 62) (L' := [.val (.ref a), .val (.int mx), .val (.int (Int32.ofNat ct)), .val (.int (Int32.ofNat i)), .val (.int z)]) (S' := [.int (Int32.ofNat ct)]) rfl ?_
    rw [bi_iff (vf_end hi)] at K
    by_cases h0 : 0 < ct
    · refine wp_iff C (M28 hw) d28_62 (XT.i0_le_f ((lt32 (a := 0) (by decide) (by omega)).mpr h0)) ?_
      refine wp_seg C (M28 hw) [(.iconst 1, 1), (.goto 4, 3)] (by decide +kernel) (pc' := 70) (L' := [.val (.ref a), .val (.int mx), .val (.int (Int32.ofNat ct)), .val (.int (Int32.ofNat i)), .val (.int z)]) (S' := [.int 1]) rfl ?_
      rw [bi_t h0] at K
      exact wp_iret C (M28 hw) d28_70 rfl (t := .boolean) (by decide) rfl Cr K
    · refine wp_ift C (M28 hw) d28_62 (XT.i0_le_t (fun q => h0 ((lt32 (a := 0) (by decide) (by omega)).mp q))) (pc' := 69) (by decide) ?_
      refine wp_seg C (M28 hw) [(.iconst 0, 1)] (by decide +kernel) (pc' := 70) (L' := [.val (.ref a), .val (.int mx), .val (.int (Int32.ofNat ct)), .val (.int (Int32.ofNat i)), .val (.int z)]) (S' := [.int 0]) rfl ?_
      rw [bi_f h0] at K
      exact wp_iret C (M28 hw) d28_70 rfl (t := .boolean) (by decide) rfl Cr K
  | succ d ih =>
    intro i ct z hd hil hct K
    have st0 := st
    obtain ⟨b, ho, hb⟩ := st
    refine wp_seg C (M28 hw) [(.iload_n 3, 1), (.aload_n 0, 1)] (by decide +kernel) (pc' := 6) (L' := [.val (.ref a), .val (.int mx), .val (.int (Int32.ofNat ct)), .val (.int (Int32.ofNat i)), .val (.int z)]) (S' := [.ref a, .int (Int32.ofNat i)]) rfl ?_
    refine wp_invokevirtual C (M28 hw) d28_6 (M2 hw) (Cl := "java/lang/String") (w32 hw) (w33 hw) (w35 hw) (w34 hw) (Or.inl ⟨_, (w35 hw)⟩) (by decide) (b := a) ho (S' := [.int (Int32.ofNat i)]) [] (lenOf pd2 rfl) rfl (L' := [.val (.ref a)]) rfl rfl (hR.push (d' := 1) (w' := 12) (Nat.le_of_ble_eq_true rfl) (Nat.le_of_ble_eq_true rfl)) ?_
    refine c_lenU C hw hs hl (Meth.caller (M28 hw) d28_6) (hR.push (d' := 2) (w' := 25) (Nat.le_of_ble_eq_true rfl) (Nat.le_of_ble_eq_true rfl)) st0 ?_
    by_cases hi : i < cs.length
    · refine wp_icf C (M28 hw) d28_9 (XT.ii_ge_f ((lt32 (by omega) (by omega)).mpr hi)) ?_
      refine wp_seg C (M28 hw) [(.aload_n 0, 1), (.iload_n 3, 1)] (by decide +kernel) (pc' := 14) (L' := [.val (.ref a), .val (.int mx), .val (.int (Int32.ofNat ct)), .val (.int (Int32.ofNat i)), .val (.int z)]) (S' := [.int (Int32.ofNat i), .ref a]) rfl ?_
      rw [bi_iff (vf_go hi)] at K
      have hle := stp_le hi
      refine wp_invokevirtual C (M28 hw) d28_14 (M27 hw) (Cl := "java/lang/String") (w67 hw) (w68 hw) (w70 hw) (w69 hw) (Or.inl ⟨_, (w70 hw)⟩) (by decide) (b := a) ho (S' := []) [.int (Int32.ofNat i)] (lenOf pd27 rfl) rfl (L' := [.val (.ref a), .val (.int (Int32.ofNat i)), .unset]) rfl rfl (hR.push (d' := 1) (w' := 14) (Nat.le_of_ble_eq_true rfl) (Nat.le_of_ble_eq_true rfl)) ?_
      refine c_scp C hw hs hu hl hi (Meth.caller (M28 hw) d28_14) (hR.push (d' := 4) (w' := 58) (Nat.le_of_ble_eq_true rfl) (Nat.le_of_ble_eq_true rfl)) st0 ⟨fun hp => ?_, fun hp m m1 m2 => ?_⟩
      · refine wp_seg C (M28 hw) [(.istore 4, 2), (.iload 4, 2)] (by decide +kernel) (pc' := 21) (L' := [.val (.ref a), .val (.int mx), .val (.int (Int32.ofNat ct)), .val (.int (Int32.ofNat i)), .val (.int (c16 (cs.getD i 0)))]) (S' := [.int (c16 (cs.getD i 0))]) rfl ?_
        by_cases g0 : c16 (cs.getD i 0) = 0
        · refine wp_ift C (M28 hw) d28_21 (XT.i0_eq_t g0) (pc' := 38) (by decide) ?_
          refine wp_seg C (M28 hw) [(.iconst 0, 1)] (by decide +kernel) (pc' := 39) (L' := [.val (.ref a), .val (.int mx), .val (.int (Int32.ofNat ct)), .val (.int (Int32.ofNat i)), .val (.int (c16 (cs.getD i 0)))]) (S' := [.int 0]) rfl ?_
          rw [bi_f (fun q => q.1 (stp_0 hp ((badJ _).mp (Or.inl g0))))] at K
          exact wp_iret C (M28 hw) d28_39 rfl (t := .boolean) (by decide) rfl Cr K
        · refine wp_iff C (M28 hw) d28_21 (XT.i0_eq_f g0) ?_
          refine wp_seg C (M28 hw) [(.iload 4, 2)] (by decide +kernel) (pc' := 26) (L' := [.val (.ref a), .val (.int mx), .val (.int (Int32.ofNat ct)), .val (.int (Int32.ofNat i)), .val (.int (c16 (cs.getD i 0)))]) (S' := [.int (c16 (cs.getD i 0))]) rfl ?_
          refine wp_ldcI C (M28 hw) d28_26 (w85 hw) ?_
          by_cases g1 : c16 (cs.getD i 0) < 55296
          · refine wp_ict C (M28 hw) d28_28 (XT.ii_lt_t g1) (pc' := 40) (by decide) ?_
            refine wp_seg C (M28 hw) [(.iinc 2 1, 3), (.iload_n 2, 1), (.iload_n 1, 1)] (by decide +kernel) (pc' := 45) (L' := [.val (.ref a), .val (.int mx), .val (.int ((Int32.ofNat ct) + 1)), .val (.int (Int32.ofNat i)), .val (.int (c16 (cs.getD i 0)))]) (S' := [.int mx, .int ((Int32.ofNat ct) + 1)]) rfl ?_
            have e1 : stp cs i = 1 := stp_1 hp (fun q => absurd ((badJ _).mpr q) (fun r => r.elim g0 fun r => r.1 g1))
            rw [succ32]
            by_cases hm : mx < Int32.ofNat (ct + 1)
            · refine wp_icf C (M28 hw) d28_45 (XT.ii_le_f hm) ?_
              refine wp_seg C (M28 hw) [(.iconst 0, 1)] (by decide +kernel) (pc' := 49) (L' := [.val (.ref a), .val (.int mx), .val (.int (Int32.ofNat (ct + 1))), .val (.int (Int32.ofNat i)), .val (.int (c16 (cs.getD i 0)))]) (S' := [.int 0]) rfl ?_
              rw [bi_f (fun q => q.2.1 hm)] at K
              exact wp_iret C (M28 hw) d28_49 rfl (t := .boolean) (by decide) rfl Cr K
            · refine wp_ict C (M28 hw) d28_45 (XT.ii_le_t hm) (pc' := 50) (by decide) ?_
              refine wp_seg C (M28 hw) [(.iload_n 3, 1), (.iload 4, 2)] (by decide +kernel) (pc' := 53) (L' := [.val (.ref a), .val (.int mx), .val (.int (Int32.ofNat (ct + 1))), .val (.int (Int32.ofNat i)), .val (.int (c16 (cs.getD i 0)))]) (S' := [.int (c16 (cs.getD i 0)), .int (Int32.ofNat i)]) rfl ?_
              refine wp_invokestatic C (M28 hw) d28_53 (M23 hw) (w86 hw) (w87 hw) (w88 hw) (by decide) (S' := [.int (Int32.ofNat i)]) [.int (c16 (cs.getD i 0))] (lenOf pd23 rfl) rfl (L' := [.val (.int (c16 (cs.getD i 0)))]) rfl rfl (hR.push (d' := 1) (w' := 12) (Nat.le_of_ble_eq_true rfl) (Nat.le_of_ble_eq_true rfl)) ?_
              refine c_cc1 C hw (c16_small _) (Meth.caller (M28 hw) d28_53)  ?_
              refine wp_seg C (M28 hw) [(.iadd, 1), (.istore_n 3, 1), (.goto (-54), 3)] (by decide +kernel) (pc' := 4) (L' := [.val (.ref a), .val (.int mx), .val (.int (Int32.ofNat (ct + 1))), .val (.int ((Int32.ofNat i) + (1 : Int32))), .val (.int (c16 (cs.getD i 0)))]) (S' := []) rfl ?_
              rw [show Int32.ofNat i + 1 = Int32.ofNat (i + 1) from add32n i 1]
              rw [e1] at hle
              rw [bi_iff (show (stp cs i ≠ 0 ∧ ¬ mx < Int32.ofNat (ct + 1) ∧ vf cs mx (d + 1) (i + stp cs i) (ct + 1)) ↔ vf cs mx (d + 1) (i + 1) (ct + 1) from by rw [e1]; exact ⟨fun q => q.2.2, fun q => ⟨by decide, hm, q⟩⟩)] at K
              exact ih (i + 1) (ct + 1) _ (by omega) (by omega) (by omega) K
          · refine wp_icf C (M28 hw) d28_28 (XT.ii_lt_f g1) ?_
            refine wp_seg C (M28 hw) [(.iload 4, 2)] (by decide +kernel) (pc' := 33) (L' := [.val (.ref a), .val (.int mx), .val (.int (Int32.ofNat ct)), .val (.int (Int32.ofNat i)), .val (.int (c16 (cs.getD i 0)))]) (S' := [.int (c16 (cs.getD i 0))]) rfl ?_
            refine wp_ldcI C (M28 hw) d28_33 (w123 hw) ?_
            by_cases g2 : 57343 < c16 (cs.getD i 0)
            · refine wp_ict C (M28 hw) d28_35 (XT.ii_gt_t g2) (pc' := 40) (by decide) ?_
              refine wp_seg C (M28 hw) [(.iinc 2 1, 3), (.iload_n 2, 1), (.iload_n 1, 1)] (by decide +kernel) (pc' := 45) (L' := [.val (.ref a), .val (.int mx), .val (.int ((Int32.ofNat ct) + 1)), .val (.int (Int32.ofNat i)), .val (.int (c16 (cs.getD i 0)))]) (S' := [.int mx, .int ((Int32.ofNat ct) + 1)]) rfl ?_
              have e1 : stp cs i = 1 := stp_1 hp (fun q => absurd ((badJ _).mpr q) (fun r => r.elim g0 fun r => r.2 g2))
              rw [succ32]
              by_cases hm : mx < Int32.ofNat (ct + 1)
              · refine wp_icf C (M28 hw) d28_45 (XT.ii_le_f hm) ?_
                refine wp_seg C (M28 hw) [(.iconst 0, 1)] (by decide +kernel) (pc' := 49) (L' := [.val (.ref a), .val (.int mx), .val (.int (Int32.ofNat (ct + 1))), .val (.int (Int32.ofNat i)), .val (.int (c16 (cs.getD i 0)))]) (S' := [.int 0]) rfl ?_
                rw [bi_f (fun q => q.2.1 hm)] at K
                exact wp_iret C (M28 hw) d28_49 rfl (t := .boolean) (by decide) rfl Cr K
              · refine wp_ict C (M28 hw) d28_45 (XT.ii_le_t hm) (pc' := 50) (by decide) ?_
                refine wp_seg C (M28 hw) [(.iload_n 3, 1), (.iload 4, 2)] (by decide +kernel) (pc' := 53) (L' := [.val (.ref a), .val (.int mx), .val (.int (Int32.ofNat (ct + 1))), .val (.int (Int32.ofNat i)), .val (.int (c16 (cs.getD i 0)))]) (S' := [.int (c16 (cs.getD i 0)), .int (Int32.ofNat i)]) rfl ?_
                refine wp_invokestatic C (M28 hw) d28_53 (M23 hw) (w86 hw) (w87 hw) (w88 hw) (by decide) (S' := [.int (Int32.ofNat i)]) [.int (c16 (cs.getD i 0))] (lenOf pd23 rfl) rfl (L' := [.val (.int (c16 (cs.getD i 0)))]) rfl rfl (hR.push (d' := 1) (w' := 12) (Nat.le_of_ble_eq_true rfl) (Nat.le_of_ble_eq_true rfl)) ?_
                refine c_cc1 C hw (c16_small _) (Meth.caller (M28 hw) d28_53)  ?_
                refine wp_seg C (M28 hw) [(.iadd, 1), (.istore_n 3, 1), (.goto (-54), 3)] (by decide +kernel) (pc' := 4) (L' := [.val (.ref a), .val (.int mx), .val (.int (Int32.ofNat (ct + 1))), .val (.int ((Int32.ofNat i) + (1 : Int32))), .val (.int (c16 (cs.getD i 0)))]) (S' := []) rfl ?_
                rw [show Int32.ofNat i + 1 = Int32.ofNat (i + 1) from add32n i 1]
                rw [e1] at hle
                rw [bi_iff (show (stp cs i ≠ 0 ∧ ¬ mx < Int32.ofNat (ct + 1) ∧ vf cs mx (d + 1) (i + stp cs i) (ct + 1)) ↔ vf cs mx (d + 1) (i + 1) (ct + 1) from by rw [e1]; exact ⟨fun q => q.2.2, fun q => ⟨by decide, hm, q⟩⟩)] at K
                exact ih (i + 1) (ct + 1) _ (by omega) (by omega) (by omega) K
            · refine wp_icf C (M28 hw) d28_35 (XT.ii_gt_f g2) ?_
              refine wp_seg C (M28 hw) [(.iconst 0, 1)] (by decide +kernel) (pc' := 39) (L' := [.val (.ref a), .val (.int mx), .val (.int (Int32.ofNat ct)), .val (.int (Int32.ofNat i)), .val (.int (c16 (cs.getD i 0)))]) (S' := [.int 0]) rfl ?_
              rw [bi_f (fun q => q.1 (stp_0 hp ((badJ _).mp (Or.inr ⟨g1, g2⟩))))] at K
              exact wp_iret C (M28 hw) d28_39 rfl (t := .boolean) (by decide) rfl Cr K
      · have e2 : stp cs i = 2 := stp_2 hp
        refine wp_seg C (M28 hw) [(.istore 4, 2), (.iload 4, 2)] (by decide +kernel) (pc' := 21) (L' := [.val (.ref a), .val (.int mx), .val (.int (Int32.ofNat ct)), .val (.int (Int32.ofNat i)), .val (.int (Int32.ofNat m))]) (S' := [.int (Int32.ofNat m)]) rfl ?_
        refine wp_iff C (M28 hw) d28_21 (XT.i0_eq_f (fun q => by have := (eq32 (b := 0) m2 (by decide)).mp q; omega)) ?_
        refine wp_seg C (M28 hw) [(.iload 4, 2)] (by decide +kernel) (pc' := 26) (L' := [.val (.ref a), .val (.int mx), .val (.int (Int32.ofNat ct)), .val (.int (Int32.ofNat i)), .val (.int (Int32.ofNat m))]) (S' := [.int (Int32.ofNat m)]) rfl ?_
        refine wp_ldcI C (M28 hw) d28_26 (w85 hw) ?_
        refine wp_icf C (M28 hw) d28_28 (XT.ii_lt_f (fun q => by have := (lt32 (b := 55296) m2 (by decide)).mp q; omega)) ?_
        refine wp_seg C (M28 hw) [(.iload 4, 2)] (by decide +kernel) (pc' := 33) (L' := [.val (.ref a), .val (.int mx), .val (.int (Int32.ofNat ct)), .val (.int (Int32.ofNat i)), .val (.int (Int32.ofNat m))]) (S' := [.int (Int32.ofNat m)]) rfl ?_
        refine wp_ldcI C (M28 hw) d28_33 (w123 hw) ?_
        refine wp_ict C (M28 hw) d28_35 (XT.ii_gt_t ((lt32 (a := 57343) (by decide) m2).mpr (by omega))) (pc' := 40) (by decide) ?_
        refine wp_seg C (M28 hw) [(.iinc 2 1, 3), (.iload_n 2, 1), (.iload_n 1, 1)] (by decide +kernel) (pc' := 45) (L' := [.val (.ref a), .val (.int mx), .val (.int ((Int32.ofNat ct) + 1)), .val (.int (Int32.ofNat i)), .val (.int (Int32.ofNat m))]) (S' := [.int mx, .int ((Int32.ofNat ct) + 1)]) rfl ?_
        rw [succ32]
        by_cases hm : mx < Int32.ofNat (ct + 1)
        · refine wp_icf C (M28 hw) d28_45 (XT.ii_le_f hm) ?_
          refine wp_seg C (M28 hw) [(.iconst 0, 1)] (by decide +kernel) (pc' := 49) (L' := [.val (.ref a), .val (.int mx), .val (.int (Int32.ofNat (ct + 1))), .val (.int (Int32.ofNat i)), .val (.int (Int32.ofNat m))]) (S' := [.int 0]) rfl ?_
          rw [bi_f (fun q => q.2.1 hm)] at K
          exact wp_iret C (M28 hw) d28_49 rfl (t := .boolean) (by decide) rfl Cr K
        · refine wp_ict C (M28 hw) d28_45 (XT.ii_le_t hm) (pc' := 50) (by decide) ?_
          refine wp_seg C (M28 hw) [(.iload_n 3, 1), (.iload 4, 2)] (by decide +kernel) (pc' := 53) (L' := [.val (.ref a), .val (.int mx), .val (.int (Int32.ofNat (ct + 1))), .val (.int (Int32.ofNat i)), .val (.int (Int32.ofNat m))]) (S' := [.int (Int32.ofNat m), .int (Int32.ofNat i)]) rfl ?_
          refine wp_invokestatic C (M28 hw) d28_53 (M23 hw) (w86 hw) (w87 hw) (w88 hw) (by decide) (S' := [.int (Int32.ofNat i)]) [.int (Int32.ofNat m)] (lenOf pd23 rfl) rfl (L' := [.val (.int (Int32.ofNat m))]) rfl rfl (hR.push (d' := 1) (w' := 12) (Nat.le_of_ble_eq_true rfl) (Nat.le_of_ble_eq_true rfl)) ?_
          refine c_cc2 C hw (fun q => by have := (lt32 (b := 65536) m2 (by decide)).mp q; omega) (Meth.caller (M28 hw) d28_53)  ?_
          refine wp_seg C (M28 hw) [(.iadd, 1), (.istore_n 3, 1), (.goto (-54), 3)] (by decide +kernel) (pc' := 4) (L' := [.val (.ref a), .val (.int mx), .val (.int (Int32.ofNat (ct + 1))), .val (.int ((Int32.ofNat i) + (2 : Int32))), .val (.int (Int32.ofNat m))]) (S' := []) rfl ?_
          rw [show Int32.ofNat i + 2 = Int32.ofNat (i + 2) from add32n i 2]
          rw [e2] at hle
          rw [bi_iff (show (stp cs i ≠ 0 ∧ ¬ mx < Int32.ofNat (ct + 1) ∧ vf cs mx (d + 1) (i + stp cs i) (ct + 1)) ↔ vf cs mx (d + 1) (i + 2) (ct + 1) from by rw [e2]; exact ⟨fun q => q.2.2, fun q => ⟨by decide, hm, q⟩⟩)] at K
          exact ih (i + 2) (ct + 1) _ (by omega) (by omega) (by omega) K
    · refine wp_ict C (M28 hw) d28_9 (XT.ii_ge_t (fun q => hi ((lt32 (by omega) (by omega)).mp q))) (pc' := 61) (by decide) ?_
      refine wp_seg C (M28 hw) [(.iload_n 2, 1)] (by decide +kernel) (pc' := 62) (L' := [.val (.ref a), .val (.int mx), .val (.int (Int32.ofNat ct)), .val (.int (Int32.ofNat i)), .val (.int z)]) (S' := [.int (Int32.ofNat ct)]) rfl ?_
      rw [bi_iff (vf_end hi)] at K
      by_cases h0 : 0 < ct
      · refine wp_iff C (M28 hw) d28_62 (XT.i0_le_f ((lt32 (a := 0) (by decide) (by omega)).mpr h0)) ?_
        refine wp_seg C (M28 hw) [(.iconst 1, 1), (.goto 4, 3)] (by decide +kernel) (pc' := 70) (L' := [.val (.ref a), .val (.int mx), .val (.int (Int32.ofNat ct)), .val (.int (Int32.ofNat i)), .val (.int z)]) (S' := [.int 1]) rfl ?_
        rw [bi_t h0] at K
        exact wp_iret C (M28 hw) d28_70 rfl (t := .boolean) (by decide) rfl Cr K
      · refine wp_ift C (M28 hw) d28_62 (XT.i0_le_t (fun q => h0 ((lt32 (a := 0) (by decide) (by omega)).mp q))) (pc' := 69) (by decide) ?_
        refine wp_seg C (M28 hw) [(.iconst 0, 1)] (by decide +kernel) (pc' := 70) (L' := [.val (.ref a), .val (.int mx), .val (.int (Int32.ofNat ct)), .val (.int (Int32.ofNat i)), .val (.int z)]) (S' := [.int 0]) rfl ?_
        rw [bi_f h0] at K
        exact wp_iret C (M28 hw) d28_70 rfl (t := .boolean) (by decide) rfl Cr K
theorem h_fvu {κ : Cx} (C : Ok κ) (hw : Ws κ) (hs : StrS κ) (hu : (Sta (kZ κ) (kZ κ).heap "java/lang/StringUTF16" "$assertionsDisabled" "Z" (.int 1)) ∧ (Sta (kZ κ) (kZ κ).heap "java/lang/StringUTF16" "HI_BYTE_SHIFT" "I" (.int 0)) ∧ Sta (kZ κ) (kZ κ).heap "java/lang/StringUTF16" "LO_BYTE_SHIFT" "I" (.int 8)) {a : Addr} {mx : Int32} {cs : List UInt16} (hl : 2 * cs.length < 2 ^ 31) {yc : MethodName} {pcc : Nat} {Lc : List Slot} {Sc : List Value} {F : List Frame} {l : List Chunk} {k n : Nat} (Cr : Caller κ yc pcc 3) (hR : Rm κ (fr κ yc pcc Lc Sc :: F) 5 74) (st : StrU l a cs) : ∀ (d i ct : Nat), cs.length ≤ i + d → i ≤ cs.length → ct ≤ i → (WP κ yc (pcc + 3) Lc (.int (bi (vf cs mx (d + 1) i ct)) :: Sc) F (l) k n) →
    WP κ y28 4 [.val (.ref a), .val (.int mx), .val (.int (Int32.ofNat ct)), .val (.int (Int32.ofNat i)), .unset] [] (fr κ yc pcc Lc Sc :: F) (l) k n := by
  intro d
  cases d with
  | zero =>
    intro i ct hd hil hct K
    have st0 := st
    obtain ⟨b, ho, hb⟩ := st
    refine wp_seg C (M28 hw) [(.iload_n 3, 1), (.aload_n 0, 1)] (by decide +kernel) (pc' := 6) (L' := [.val (.ref a), .val (.int mx), .val (.int (Int32.ofNat ct)), .val (.int (Int32.ofNat i)), .unset]) (S' := [.ref a, .int (Int32.ofNat i)]) rfl ?_
    refine wp_invokevirtual C (M28 hw) d28_6 (M2 hw) (Cl := "java/lang/String") (w32 hw) (w33 hw) (w35 hw) (w34 hw) (Or.inl ⟨_, (w35 hw)⟩) (by decide) (b := a) ho (S' := [.int (Int32.ofNat i)]) [] (lenOf pd2 rfl) rfl (L' := [.val (.ref a)]) rfl rfl (hR.push (d' := 1) (w' := 12) (Nat.le_of_ble_eq_true rfl) (Nat.le_of_ble_eq_true rfl)) ?_
    refine c_lenU C hw hs hl (Meth.caller (M28 hw) d28_6) (hR.push (d' := 2) (w' := 25) (Nat.le_of_ble_eq_true rfl) (Nat.le_of_ble_eq_true rfl)) st0 ?_
    have hi : ¬ i < cs.length := by omega
    refine wp_ict C (M28 hw) d28_9 (XT.ii_ge_t (fun q => hi ((lt32 (by omega) (by omega)).mp q))) (pc' := 61) (by decide) ?_
    refine wp_seg C (M28 hw) [(.iload_n 2, 1)] (by decide +kernel) (pc' := 62) (L' := [.val (.ref a), .val (.int mx), .val (.int (Int32.ofNat ct)), .val (.int (Int32.ofNat i)), .unset]) (S' := [.int (Int32.ofNat ct)]) rfl ?_
    rw [bi_iff (vf_end hi)] at K
    by_cases h0 : 0 < ct
    · refine wp_iff C (M28 hw) d28_62 (XT.i0_le_f ((lt32 (a := 0) (by decide) (by omega)).mpr h0)) ?_
      refine wp_seg C (M28 hw) [(.iconst 1, 1), (.goto 4, 3)] (by decide +kernel) (pc' := 70) (L' := [.val (.ref a), .val (.int mx), .val (.int (Int32.ofNat ct)), .val (.int (Int32.ofNat i)), .unset]) (S' := [.int 1]) rfl ?_
      rw [bi_t h0] at K
      exact wp_iret C (M28 hw) d28_70 rfl (t := .boolean) (by decide) rfl Cr K
    · refine wp_ift C (M28 hw) d28_62 (XT.i0_le_t (fun q => h0 ((lt32 (a := 0) (by decide) (by omega)).mp q))) (pc' := 69) (by decide) ?_
      refine wp_seg C (M28 hw) [(.iconst 0, 1)] (by decide +kernel) (pc' := 70) (L' := [.val (.ref a), .val (.int mx), .val (.int (Int32.ofNat ct)), .val (.int (Int32.ofNat i)), .unset]) (S' := [.int 0]) rfl ?_
      rw [bi_f h0] at K
      exact wp_iret C (M28 hw) d28_70 rfl (t := .boolean) (by decide) rfl Cr K
  | succ d =>
    intro i ct hd hil hct K
    have st0 := st
    obtain ⟨b, ho, hb⟩ := st
    refine wp_seg C (M28 hw) [(.iload_n 3, 1), (.aload_n 0, 1)] (by decide +kernel) (pc' := 6) (L' := [.val (.ref a), .val (.int mx), .val (.int (Int32.ofNat ct)), .val (.int (Int32.ofNat i)), .unset]) (S' := [.ref a, .int (Int32.ofNat i)]) rfl ?_
    refine wp_invokevirtual C (M28 hw) d28_6 (M2 hw) (Cl := "java/lang/String") (w32 hw) (w33 hw) (w35 hw) (w34 hw) (Or.inl ⟨_, (w35 hw)⟩) (by decide) (b := a) ho (S' := [.int (Int32.ofNat i)]) [] (lenOf pd2 rfl) rfl (L' := [.val (.ref a)]) rfl rfl (hR.push (d' := 1) (w' := 12) (Nat.le_of_ble_eq_true rfl) (Nat.le_of_ble_eq_true rfl)) ?_
    refine c_lenU C hw hs hl (Meth.caller (M28 hw) d28_6) (hR.push (d' := 2) (w' := 25) (Nat.le_of_ble_eq_true rfl) (Nat.le_of_ble_eq_true rfl)) st0 ?_
    by_cases hi : i < cs.length
    · refine wp_icf C (M28 hw) d28_9 (XT.ii_ge_f ((lt32 (by omega) (by omega)).mpr hi)) ?_
      refine wp_seg C (M28 hw) [(.aload_n 0, 1), (.iload_n 3, 1)] (by decide +kernel) (pc' := 14) (L' := [.val (.ref a), .val (.int mx), .val (.int (Int32.ofNat ct)), .val (.int (Int32.ofNat i)), .unset]) (S' := [.int (Int32.ofNat i), .ref a]) rfl ?_
      rw [bi_iff (vf_go hi)] at K
      have hle := stp_le hi
      refine wp_invokevirtual C (M28 hw) d28_14 (M27 hw) (Cl := "java/lang/String") (w67 hw) (w68 hw) (w70 hw) (w69 hw) (Or.inl ⟨_, (w70 hw)⟩) (by decide) (b := a) ho (S' := []) [.int (Int32.ofNat i)] (lenOf pd27 rfl) rfl (L' := [.val (.ref a), .val (.int (Int32.ofNat i)), .unset]) rfl rfl (hR.push (d' := 1) (w' := 14) (Nat.le_of_ble_eq_true rfl) (Nat.le_of_ble_eq_true rfl)) ?_
      refine c_scp C hw hs hu hl hi (Meth.caller (M28 hw) d28_14) (hR.push (d' := 4) (w' := 58) (Nat.le_of_ble_eq_true rfl) (Nat.le_of_ble_eq_true rfl)) st0 ⟨fun hp => ?_, fun hp m m1 m2 => ?_⟩
      · refine wp_seg C (M28 hw) [(.istore 4, 2), (.iload 4, 2)] (by decide +kernel) (pc' := 21) (L' := [.val (.ref a), .val (.int mx), .val (.int (Int32.ofNat ct)), .val (.int (Int32.ofNat i)), .val (.int (c16 (cs.getD i 0)))]) (S' := [.int (c16 (cs.getD i 0))]) rfl ?_
        by_cases g0 : c16 (cs.getD i 0) = 0
        · refine wp_ift C (M28 hw) d28_21 (XT.i0_eq_t g0) (pc' := 38) (by decide) ?_
          refine wp_seg C (M28 hw) [(.iconst 0, 1)] (by decide +kernel) (pc' := 39) (L' := [.val (.ref a), .val (.int mx), .val (.int (Int32.ofNat ct)), .val (.int (Int32.ofNat i)), .val (.int (c16 (cs.getD i 0)))]) (S' := [.int 0]) rfl ?_
          rw [bi_f (fun q => q.1 (stp_0 hp ((badJ _).mp (Or.inl g0))))] at K
          exact wp_iret C (M28 hw) d28_39 rfl (t := .boolean) (by decide) rfl Cr K
        · refine wp_iff C (M28 hw) d28_21 (XT.i0_eq_f g0) ?_
          refine wp_seg C (M28 hw) [(.iload 4, 2)] (by decide +kernel) (pc' := 26) (L' := [.val (.ref a), .val (.int mx), .val (.int (Int32.ofNat ct)), .val (.int (Int32.ofNat i)), .val (.int (c16 (cs.getD i 0)))]) (S' := [.int (c16 (cs.getD i 0))]) rfl ?_
          refine wp_ldcI C (M28 hw) d28_26 (w85 hw) ?_
          by_cases g1 : c16 (cs.getD i 0) < 55296
          · refine wp_ict C (M28 hw) d28_28 (XT.ii_lt_t g1) (pc' := 40) (by decide) ?_
            refine wp_seg C (M28 hw) [(.iinc 2 1, 3), (.iload_n 2, 1), (.iload_n 1, 1)] (by decide +kernel) (pc' := 45) (L' := [.val (.ref a), .val (.int mx), .val (.int ((Int32.ofNat ct) + 1)), .val (.int (Int32.ofNat i)), .val (.int (c16 (cs.getD i 0)))]) (S' := [.int mx, .int ((Int32.ofNat ct) + 1)]) rfl ?_
            have e1 : stp cs i = 1 := stp_1 hp (fun q => absurd ((badJ _).mpr q) (fun r => r.elim g0 fun r => r.1 g1))
            rw [succ32]
            by_cases hm : mx < Int32.ofNat (ct + 1)
            · refine wp_icf C (M28 hw) d28_45 (XT.ii_le_f hm) ?_
              refine wp_seg C (M28 hw) [(.iconst 0, 1)] (by decide +kernel) (pc' := 49) (L' := [.val (.ref a), .val (.int mx), .val (.int (Int32.ofNat (ct + 1))), .val (.int (Int32.ofNat i)), .val (.int (c16 (cs.getD i 0)))]) (S' := [.int 0]) rfl ?_
              rw [bi_f (fun q => q.2.1 hm)] at K
              exact wp_iret C (M28 hw) d28_49 rfl (t := .boolean) (by decide) rfl Cr K
            · refine wp_ict C (M28 hw) d28_45 (XT.ii_le_t hm) (pc' := 50) (by decide) ?_
              refine wp_seg C (M28 hw) [(.iload_n 3, 1), (.iload 4, 2)] (by decide +kernel) (pc' := 53) (L' := [.val (.ref a), .val (.int mx), .val (.int (Int32.ofNat (ct + 1))), .val (.int (Int32.ofNat i)), .val (.int (c16 (cs.getD i 0)))]) (S' := [.int (c16 (cs.getD i 0)), .int (Int32.ofNat i)]) rfl ?_
              refine wp_invokestatic C (M28 hw) d28_53 (M23 hw) (w86 hw) (w87 hw) (w88 hw) (by decide) (S' := [.int (Int32.ofNat i)]) [.int (c16 (cs.getD i 0))] (lenOf pd23 rfl) rfl (L' := [.val (.int (c16 (cs.getD i 0)))]) rfl rfl (hR.push (d' := 1) (w' := 12) (Nat.le_of_ble_eq_true rfl) (Nat.le_of_ble_eq_true rfl)) ?_
              refine c_cc1 C hw (c16_small _) (Meth.caller (M28 hw) d28_53)  ?_
              refine wp_seg C (M28 hw) [(.iadd, 1), (.istore_n 3, 1), (.goto (-54), 3)] (by decide +kernel) (pc' := 4) (L' := [.val (.ref a), .val (.int mx), .val (.int (Int32.ofNat (ct + 1))), .val (.int ((Int32.ofNat i) + (1 : Int32))), .val (.int (c16 (cs.getD i 0)))]) (S' := []) rfl ?_
              rw [show Int32.ofNat i + 1 = Int32.ofNat (i + 1) from add32n i 1]
              rw [e1] at hle
              rw [bi_iff (show (stp cs i ≠ 0 ∧ ¬ mx < Int32.ofNat (ct + 1) ∧ vf cs mx (d + 1) (i + stp cs i) (ct + 1)) ↔ vf cs mx (d + 1) (i + 1) (ct + 1) from by rw [e1]; exact ⟨fun q => q.2.2, fun q => ⟨by decide, hm, q⟩⟩)] at K
              exact h_fv C hw hs hu hl Cr hR st0 d (i + 1) (ct + 1) _ (by omega) (by omega) (by omega) K
          · refine wp_icf C (M28 hw) d28_28 (XT.ii_lt_f g1) ?_
            refine wp_seg C (M28 hw) [(.iload 4, 2)] (by decide +kernel) (pc' := 33) (L' := [.val (.ref a), .val (.int mx), .val (.int (Int32.ofNat ct)), .val (.int (Int32.ofNat i)), .val (.int (c16 (cs.getD i 0)))]) (S' := [.int (c16 (cs.getD i 0))]) rfl ?_
            refine wp_ldcI C (M28 hw) d28_33 (w123 hw) ?_
            by_cases g2 : 57343 < c16 (cs.getD i 0)
            · refine wp_ict C (M28 hw) d28_35 (XT.ii_gt_t g2) (pc' := 40) (by decide) ?_
              refine wp_seg C (M28 hw) [(.iinc 2 1, 3), (.iload_n 2, 1), (.iload_n 1, 1)] (by decide +kernel) (pc' := 45) (L' := [.val (.ref a), .val (.int mx), .val (.int ((Int32.ofNat ct) + 1)), .val (.int (Int32.ofNat i)), .val (.int (c16 (cs.getD i 0)))]) (S' := [.int mx, .int ((Int32.ofNat ct) + 1)]) rfl ?_
              have e1 : stp cs i = 1 := stp_1 hp (fun q => absurd ((badJ _).mpr q) (fun r => r.elim g0 fun r => r.2 g2))
              rw [succ32]
              by_cases hm : mx < Int32.ofNat (ct + 1)
              · refine wp_icf C (M28 hw) d28_45 (XT.ii_le_f hm) ?_
                refine wp_seg C (M28 hw) [(.iconst 0, 1)] (by decide +kernel) (pc' := 49) (L' := [.val (.ref a), .val (.int mx), .val (.int (Int32.ofNat (ct + 1))), .val (.int (Int32.ofNat i)), .val (.int (c16 (cs.getD i 0)))]) (S' := [.int 0]) rfl ?_
                rw [bi_f (fun q => q.2.1 hm)] at K
                exact wp_iret C (M28 hw) d28_49 rfl (t := .boolean) (by decide) rfl Cr K
              · refine wp_ict C (M28 hw) d28_45 (XT.ii_le_t hm) (pc' := 50) (by decide) ?_
                refine wp_seg C (M28 hw) [(.iload_n 3, 1), (.iload 4, 2)] (by decide +kernel) (pc' := 53) (L' := [.val (.ref a), .val (.int mx), .val (.int (Int32.ofNat (ct + 1))), .val (.int (Int32.ofNat i)), .val (.int (c16 (cs.getD i 0)))]) (S' := [.int (c16 (cs.getD i 0)), .int (Int32.ofNat i)]) rfl ?_
                refine wp_invokestatic C (M28 hw) d28_53 (M23 hw) (w86 hw) (w87 hw) (w88 hw) (by decide) (S' := [.int (Int32.ofNat i)]) [.int (c16 (cs.getD i 0))] (lenOf pd23 rfl) rfl (L' := [.val (.int (c16 (cs.getD i 0)))]) rfl rfl (hR.push (d' := 1) (w' := 12) (Nat.le_of_ble_eq_true rfl) (Nat.le_of_ble_eq_true rfl)) ?_
                refine c_cc1 C hw (c16_small _) (Meth.caller (M28 hw) d28_53)  ?_
                refine wp_seg C (M28 hw) [(.iadd, 1), (.istore_n 3, 1), (.goto (-54), 3)] (by decide +kernel) (pc' := 4) (L' := [.val (.ref a), .val (.int mx), .val (.int (Int32.ofNat (ct + 1))), .val (.int ((Int32.ofNat i) + (1 : Int32))), .val (.int (c16 (cs.getD i 0)))]) (S' := []) rfl ?_
                rw [show Int32.ofNat i + 1 = Int32.ofNat (i + 1) from add32n i 1]
                rw [e1] at hle
                rw [bi_iff (show (stp cs i ≠ 0 ∧ ¬ mx < Int32.ofNat (ct + 1) ∧ vf cs mx (d + 1) (i + stp cs i) (ct + 1)) ↔ vf cs mx (d + 1) (i + 1) (ct + 1) from by rw [e1]; exact ⟨fun q => q.2.2, fun q => ⟨by decide, hm, q⟩⟩)] at K
                exact h_fv C hw hs hu hl Cr hR st0 d (i + 1) (ct + 1) _ (by omega) (by omega) (by omega) K
            · refine wp_icf C (M28 hw) d28_35 (XT.ii_gt_f g2) ?_
              refine wp_seg C (M28 hw) [(.iconst 0, 1)] (by decide +kernel) (pc' := 39) (L' := [.val (.ref a), .val (.int mx), .val (.int (Int32.ofNat ct)), .val (.int (Int32.ofNat i)), .val (.int (c16 (cs.getD i 0)))]) (S' := [.int 0]) rfl ?_
              rw [bi_f (fun q => q.1 (stp_0 hp ((badJ _).mp (Or.inr ⟨g1, g2⟩))))] at K
              exact wp_iret C (M28 hw) d28_39 rfl (t := .boolean) (by decide) rfl Cr K
      · have e2 : stp cs i = 2 := stp_2 hp
        refine wp_seg C (M28 hw) [(.istore 4, 2), (.iload 4, 2)] (by decide +kernel) (pc' := 21) (L' := [.val (.ref a), .val (.int mx), .val (.int (Int32.ofNat ct)), .val (.int (Int32.ofNat i)), .val (.int (Int32.ofNat m))]) (S' := [.int (Int32.ofNat m)]) rfl ?_
        refine wp_iff C (M28 hw) d28_21 (XT.i0_eq_f (fun q => by have := (eq32 (b := 0) m2 (by decide)).mp q; omega)) ?_
        refine wp_seg C (M28 hw) [(.iload 4, 2)] (by decide +kernel) (pc' := 26) (L' := [.val (.ref a), .val (.int mx), .val (.int (Int32.ofNat ct)), .val (.int (Int32.ofNat i)), .val (.int (Int32.ofNat m))]) (S' := [.int (Int32.ofNat m)]) rfl ?_
        refine wp_ldcI C (M28 hw) d28_26 (w85 hw) ?_
        refine wp_icf C (M28 hw) d28_28 (XT.ii_lt_f (fun q => by have := (lt32 (b := 55296) m2 (by decide)).mp q; omega)) ?_
        refine wp_seg C (M28 hw) [(.iload 4, 2)] (by decide +kernel) (pc' := 33) (L' := [.val (.ref a), .val (.int mx), .val (.int (Int32.ofNat ct)), .val (.int (Int32.ofNat i)), .val (.int (Int32.ofNat m))]) (S' := [.int (Int32.ofNat m)]) rfl ?_
        refine wp_ldcI C (M28 hw) d28_33 (w123 hw) ?_
        refine wp_ict C (M28 hw) d28_35 (XT.ii_gt_t ((lt32 (a := 57343) (by decide) m2).mpr (by omega))) (pc' := 40) (by decide) ?_
        refine wp_seg C (M28 hw) [(.iinc 2 1, 3), (.iload_n 2, 1), (.iload_n 1, 1)] (by decide +kernel) (pc' := 45) (L' := [.val (.ref a), .val (.int mx), .val (.int ((Int32.ofNat ct) + 1)), .val (.int (Int32.ofNat i)), .val (.int (Int32.ofNat m))]) (S' := [.int mx, .int ((Int32.ofNat ct) + 1)]) rfl ?_
        rw [succ32]
        by_cases hm : mx < Int32.ofNat (ct + 1)
        · refine wp_icf C (M28 hw) d28_45 (XT.ii_le_f hm) ?_
          refine wp_seg C (M28 hw) [(.iconst 0, 1)] (by decide +kernel) (pc' := 49) (L' := [.val (.ref a), .val (.int mx), .val (.int (Int32.ofNat (ct + 1))), .val (.int (Int32.ofNat i)), .val (.int (Int32.ofNat m))]) (S' := [.int 0]) rfl ?_
          rw [bi_f (fun q => q.2.1 hm)] at K
          exact wp_iret C (M28 hw) d28_49 rfl (t := .boolean) (by decide) rfl Cr K
        · refine wp_ict C (M28 hw) d28_45 (XT.ii_le_t hm) (pc' := 50) (by decide) ?_
          refine wp_seg C (M28 hw) [(.iload_n 3, 1), (.iload 4, 2)] (by decide +kernel) (pc' := 53) (L' := [.val (.ref a), .val (.int mx), .val (.int (Int32.ofNat (ct + 1))), .val (.int (Int32.ofNat i)), .val (.int (Int32.ofNat m))]) (S' := [.int (Int32.ofNat m), .int (Int32.ofNat i)]) rfl ?_
          refine wp_invokestatic C (M28 hw) d28_53 (M23 hw) (w86 hw) (w87 hw) (w88 hw) (by decide) (S' := [.int (Int32.ofNat i)]) [.int (Int32.ofNat m)] (lenOf pd23 rfl) rfl (L' := [.val (.int (Int32.ofNat m))]) rfl rfl (hR.push (d' := 1) (w' := 12) (Nat.le_of_ble_eq_true rfl) (Nat.le_of_ble_eq_true rfl)) ?_
          refine c_cc2 C hw (fun q => by have := (lt32 (b := 65536) m2 (by decide)).mp q; omega) (Meth.caller (M28 hw) d28_53)  ?_
          refine wp_seg C (M28 hw) [(.iadd, 1), (.istore_n 3, 1), (.goto (-54), 3)] (by decide +kernel) (pc' := 4) (L' := [.val (.ref a), .val (.int mx), .val (.int (Int32.ofNat (ct + 1))), .val (.int ((Int32.ofNat i) + (2 : Int32))), .val (.int (Int32.ofNat m))]) (S' := []) rfl ?_
          rw [show Int32.ofNat i + 2 = Int32.ofNat (i + 2) from add32n i 2]
          rw [e2] at hle
          rw [bi_iff (show (stp cs i ≠ 0 ∧ ¬ mx < Int32.ofNat (ct + 1) ∧ vf cs mx (d + 1) (i + stp cs i) (ct + 1)) ↔ vf cs mx (d + 1) (i + 2) (ct + 1) from by rw [e2]; exact ⟨fun q => q.2.2, fun q => ⟨by decide, hm, q⟩⟩)] at K
          exact h_fv C hw hs hu hl Cr hR st0 d (i + 2) (ct + 1) _ (by omega) (by omega) (by omega) K
    · refine wp_ict C (M28 hw) d28_9 (XT.ii_ge_t (fun q => hi ((lt32 (by omega) (by omega)).mp q))) (pc' := 61) (by decide) ?_
      refine wp_seg C (M28 hw) [(.iload_n 2, 1)] (by decide +kernel) (pc' := 62) (L' := [.val (.ref a), .val (.int mx), .val (.int (Int32.ofNat ct)), .val (.int (Int32.ofNat i)), .unset]) (S' := [.int (Int32.ofNat ct)]) rfl ?_
      rw [bi_iff (vf_end hi)] at K
      by_cases h0 : 0 < ct
      · refine wp_iff C (M28 hw) d28_62 (XT.i0_le_f ((lt32 (a := 0) (by decide) (by omega)).mpr h0)) ?_
        refine wp_seg C (M28 hw) [(.iconst 1, 1), (.goto 4, 3)] (by decide +kernel) (pc' := 70) (L' := [.val (.ref a), .val (.int mx), .val (.int (Int32.ofNat ct)), .val (.int (Int32.ofNat i)), .unset]) (S' := [.int 1]) rfl ?_
        rw [bi_t h0] at K
        exact wp_iret C (M28 hw) d28_70 rfl (t := .boolean) (by decide) rfl Cr K
      · refine wp_ift C (M28 hw) d28_62 (XT.i0_le_t (fun q => h0 ((lt32 (a := 0) (by decide) (by omega)).mp q))) (pc' := 69) (by decide) ?_
        refine wp_seg C (M28 hw) [(.iconst 0, 1)] (by decide +kernel) (pc' := 70) (L' := [.val (.ref a), .val (.int mx), .val (.int (Int32.ofNat ct)), .val (.int (Int32.ofNat i)), .unset]) (S' := [.int 0]) rfl ?_
        rw [bi_f h0] at K
        exact wp_iret C (M28 hw) d28_70 rfl (t := .boolean) (by decide) rfl Cr K
theorem c_fv {κ : Cx} (C : Ok κ) (hw : Ws κ) (hs : StrS κ) (hu : (Sta (kZ κ) (kZ κ).heap "java/lang/StringUTF16" "$assertionsDisabled" "Z" (.int 1)) ∧ (Sta (kZ κ) (kZ κ).heap "java/lang/StringUTF16" "HI_BYTE_SHIFT" "I" (.int 0)) ∧ Sta (kZ κ) (kZ κ).heap "java/lang/StringUTF16" "LO_BYTE_SHIFT" "I" (.int 8)) {a : Addr} {mx : Int32} {cs : List UInt16} (hl : 2 * cs.length < 2 ^ 31) {yc : MethodName} {pcc : Nat} {Lc : List Slot} {Sc : List Value} {F : List Frame} {l : List Chunk} {k n : Nat} (Cr : Caller κ yc pcc 3) (hR : Rm κ (fr κ yc pcc Lc Sc :: F) 5 74) (st : StrU l a cs) (K : WP κ yc (pcc + 3) Lc (.int (bi (vf cs mx (cs.length + 1) 0 0)) :: Sc) F (l) k n) :
    WP κ y28 0 [.val (.ref a), .val (.int mx), .unset, .unset, .unset] [] (fr κ yc pcc Lc Sc :: F) (l) k n := by
  refine wp_seg C (M28 hw) [(.iconst 0, 1), (.istore_n 2, 1), (.iconst 0, 1), (.istore_n 3, 1)] (by decide +kernel) (pc' := 4) (L' := [.val (.ref a), .val (.int mx), .val (.int 0), .val (.int 0), .unset]) (S' := []) rfl ?_
  exact h_fvu C hw hs hu hl Cr hR st cs.length 0 0 (by omega) (by omega) (by omega) K
set_option maxRecDepth 65536 in
set_option maxHeartbeats 4000000 in
theorem law_wp {κ : Cx} (C : Ok κ) (hw : Ws κ) (hr : kR κ = room_1) (hx : kx κ = maxLocals) (hst : kS κ = false) (hE : kE κ = consts_1) (hs : StrS κ) (wS : StrW κ) (hj : ∀ d ∈ jdkStatics_1, Wd κ d) (ls : Int32) (x0 : Int32) (x1 : Int32) (x2 : Int32) (mx : Int32) :
    WP κ y0 0 [.val (.int ls), .val (.int x0), .val (.int x1), .val (.int x2), .val (.int mx), .unset, .unset, .unset, .unset, .unset, .unset, .unset, .unset, .unset] [] [] [] 0 0 := by
  have hu : (Sta (kZ κ) (kZ κ).heap "java/lang/StringUTF16" "$assertionsDisabled" "Z" (.int 1)) ∧ (Sta (kZ κ) (kZ κ).heap "java/lang/StringUTF16" "HI_BYTE_SHIFT" "I" (.int 0)) ∧ Sta (kZ κ) (kZ κ).heap "java/lang/StringUTF16" "LO_BYTE_SHIFT" "I" (.int 8) := ⟨Sta.start (int_v (Cond.before_iff.mp (hj _ (List.mem_of_getElem? (i := 12) rfl)))) (Or.inl (hj _ (List.mem_of_getElem? (i := 11) rfl))), Sta.start (int_v (Cond.before_iff.mp (hj _ (List.mem_of_getElem? (i := 15) rfl)))) (Or.inl (hj _ (List.mem_of_getElem? (i := 14) rfl))), Sta.start (int_v (Cond.before_iff.mp (hj _ (List.mem_of_getElem? (i := 18) rfl)))) (Or.inl (hj _ (List.mem_of_getElem? (i := 17) rfl)))⟩
  refine wp_seg C (M0 hw) [(.iload_n 0, 1), (.iconst 3, 1), (.iand, 1)] (by decide +kernel) (pc' := 3) (L' := [.val (.int ls), .val (.int x0), .val (.int x1), .val (.int x2), .val (.int mx), .unset, .unset, .unset, .unset, .unset, .unset, .unset, .unset, .unset]) (S' := [.int (ls &&& (3 : Int32))]) rfl ?_
  rcases and3 ls with hq | hq | hq | hq <;> rw [hq]
  · refine wp_seg C (M0 hw) [(.istore 5, 2), (.iload_n 1, 1)] (by decide +kernel) (pc' := 6) (L' := [.val (.int ls), .val (.int x0), .val (.int x1), .val (.int x2), .val (.int mx), .val (.int 0), .unset, .unset, .unset, .unset, .unset, .unset, .unset, .unset]) (S' := [.int x0]) rfl ?_
    refine wp_invokestatic C (M0 hw) d0_6 (M20 hw) (w1 hw) (w2 hw) (w3 hw) (by decide) (S' := []) [.int x0] (lenOf pd20 rfl) rfl (L' := [.val (.int x0), .unset]) rfl rfl (Rm.law (d := 1) (w := 13) hr hx (Nat.le_of_ble_eq_true rfl) (Nat.le_of_ble_eq_true rfl)) ?_
    refine c_draw C hw  (Meth.caller (M0 hw) d0_6)  fun c0 => ?_
    refine wp_seg C (M0 hw) [(.istore 6, 2), (.iload_n 2, 1)] (by decide +kernel) (pc' := 12) (L' := [.val (.int ls), .val (.int x0), .val (.int x1), .val (.int x2), .val (.int mx), .val (.int 0), .val (.int (c16 c0)), .unset, .unset, .unset, .unset, .unset, .unset, .unset]) (S' := [.int x1]) rfl ?_
    refine wp_invokestatic C (M0 hw) d0_12 (M20 hw) (w1 hw) (w2 hw) (w3 hw) (by decide) (S' := []) [.int x1] (lenOf pd20 rfl) rfl (L' := [.val (.int x1), .unset]) rfl rfl (Rm.law (d := 1) (w := 13) hr hx (Nat.le_of_ble_eq_true rfl) (Nat.le_of_ble_eq_true rfl)) ?_
    refine c_draw C hw  (Meth.caller (M0 hw) d0_12)  fun c1 => ?_
    refine wp_seg C (M0 hw) [(.istore 7, 2), (.iload_n 3, 1)] (by decide +kernel) (pc' := 18) (L' := [.val (.int ls), .val (.int x0), .val (.int x1), .val (.int x2), .val (.int mx), .val (.int 0), .val (.int (c16 c0)), .val (.int (c16 c1)), .unset, .unset, .unset, .unset, .unset, .unset]) (S' := [.int x2]) rfl ?_
    refine wp_invokestatic C (M0 hw) d0_18 (M20 hw) (w1 hw) (w2 hw) (w3 hw) (by decide) (S' := []) [.int x2] (lenOf pd20 rfl) rfl (L' := [.val (.int x2), .unset]) rfl rfl (Rm.law (d := 1) (w := 13) hr hx (Nat.le_of_ble_eq_true rfl) (Nat.le_of_ble_eq_true rfl)) ?_
    refine c_draw C hw  (Meth.caller (M0 hw) d0_18)  fun c2 => ?_
    refine wp_seg C (M0 hw) [(.istore 8, 2), (.iload 5, 2)] (by decide +kernel) (pc' := 25) (L' := [.val (.int ls), .val (.int x0), .val (.int x1), .val (.int x2), .val (.int mx), .val (.int 0), .val (.int (c16 c0)), .val (.int (c16 c1)), .val (.int (c16 c2)), .unset, .unset, .unset, .unset, .unset]) (S' := [.int 0]) rfl ?_
    refine wp_newarray C (M0 hw) d0_25 rfl (w6 hw) (len := 0) ⟨by decide, by decide⟩ (by decide) (rc hr (Nat.le_of_ble_eq_true rfl)) (rs hr (Nat.le_of_ble_eq_true rfl)) (vs := []) rfl fun a1 => ?_
    have J : ∀ (vi vc vo E : Int32), bi (vf ([] : List UInt16) mx 1 0 0) = E → WP κ y0 237 [.val (.int ls), .val (.int x0), .val (.int x1), .val (.int x2), .val (.int mx), .val (.int 0), .val (.int (c16 c0)), .val (.int (c16 c1)), .val (.int (c16 c2)), .val (.ref a1), .val (.int vi), .val (.int vc), .val (.int vo), .val (.int E)] [] [] [(a1, true, .inr (.char, []))] 1 0 := by
      intro vi vc vo E hE2
      refine wp_new C (M0 hw) d0_237 (w7 hw) (w8 hw) (w9 hw) (cls_Str hw) (rc hr (Nat.le_of_ble_eq_true rfl)) (rs hr (Nat.le_of_ble_eq_true rfl)) fun a2 => ?_
      refine wp_seg C (M0 hw) [(.dup, 1), (.aload 9, 2)] (by decide +kernel) (pc' := 243) (L' := [.val (.int ls), .val (.int x0), .val (.int x1), .val (.int x2), .val (.int mx), .val (.int 0), .val (.int (c16 c0)), .val (.int (c16 c1)), .val (.int (c16 c2)), .val (.ref a1), .val (.int vi), .val (.int vc), .val (.int vo), .val (.int E)]) (S' := [.ref a1, .ref a2, .ref a2]) rfl ?_
      refine wp_init C (M0 hw) d0_243 (M10 hw) rfl (w10 hw) (w11 hw) (by decide) (S' := [.ref a2]) a2 [.ref a1] (lenOf pd10 rfl) rfl (L' := [.val (.ref a2), .val (.ref a1)]) rfl rfl (Rm.law (d := 1) (w := 13) hr hx (Nat.le_of_ble_eq_true rfl) (Nat.le_of_ble_eq_true rfl)) ?_
      refine c_init10 C hw hst wS hE (Meth.caller (M0 hw) d0_243) (Rm.law (d := 3) (w := 42) hr hx (Nat.le_of_ble_eq_true rfl) (Nat.le_of_ble_eq_true rfl)) (mc := true) (List.mem_of_getElem? (i := 0) rfl) (rc hr (Nat.le_of_ble_eq_true rfl)) (rs hr (Nat.le_of_ble_eq_true rfl)) fun b3 => ?_
      refine wp_seg C (M0 hw) [(.iload 4, 2)] (by decide +kernel) (pc' := 248) (L' := [.val (.int ls), .val (.int x0), .val (.int x1), .val (.int x2), .val (.int mx), .val (.int 0), .val (.int (c16 c0)), .val (.int (c16 c1)), .val (.int (c16 c2)), .val (.ref a1), .val (.int vi), .val (.int vc), .val (.int vo), .val (.int E)]) (S' := [.int mx, .ref a2]) rfl ?_
      refine wp_invokestatic C (M0 hw) d0_248 (M28 hw) (w28 hw) (w29 hw) (w30 hw) (by decide) (S' := []) [.ref a2, .int mx] (lenOf pd28 rfl) rfl (L' := [.val (.ref a2), .val (.int mx), .unset, .unset, .unset]) rfl rfl (Rm.law (d := 1) (w := 16) hr hx (Nat.le_of_ble_eq_true rfl) (Nat.le_of_ble_eq_true rfl)) ?_
      refine c_fv C hw (cs := ([] : List UInt16)) hs hu (Nat.le_of_ble_eq_true rfl) (Meth.caller (M0 hw) d0_248) (Rm.law (d := 5) (w := 74) hr hx (Nat.le_of_ble_eq_true rfl) (Nat.le_of_ble_eq_true rfl)) ⟨b3, (List.mem_of_getElem? (i := 0) rfl), (List.mem_of_getElem? (i := 1) rfl)⟩ ?_
      refine wp_seg C (M0 hw) [(.iload 13, 2)] (by decide +kernel) (pc' := 253) (L' := [.val (.int ls), .val (.int x0), .val (.int x1), .val (.int x2), .val (.int mx), .val (.int 0), .val (.int (c16 c0)), .val (.int (c16 c1)), .val (.int (c16 c2)), .val (.ref a1), .val (.int vi), .val (.int vc), .val (.int vo), .val (.int E)]) (S' := [.int E, .int (bi (vf ([] : List UInt16) mx 1 0 0))]) rfl ?_
      refine wp_icf C (M0 hw) d0_253 (XT.ii_ne_f hE2) ?_
      refine wp_seg C (M0 hw) [(.iconst 1, 1), (.goto 4, 3)] (by decide +kernel) (pc' := 261) (L' := [.val (.int ls), .val (.int x0), .val (.int x1), .val (.int x2), .val (.int mx), .val (.int 0), .val (.int (c16 c0)), .val (.int (c16 c1)), .val (.int (c16 c2)), .val (.ref a1), .val (.int vi), .val (.int vc), .val (.int vo), .val (.int E)]) (S' := [.int 1]) rfl ?_
      exact wp_end C (M0 hw) d0_261
    refine wp_seg C (M0 hw) [(.astore 9, 2), (.iload 5, 2)] (by decide +kernel) (pc' := 31) (L' := [.val (.int ls), .val (.int x0), .val (.int x1), .val (.int x2), .val (.int mx), .val (.int 0), .val (.int (c16 c0)), .val (.int (c16 c1)), .val (.int (c16 c2)), .val (.ref a1), .unset, .unset, .unset, .unset]) (S' := [.int 0]) rfl ?_
    refine wp_ift C (M0 hw) d0_31 (XT.i0_le_t (by decide)) (pc' := 40) (by decide) ?_
    refine wp_seg C (M0 hw) [(.iload 5, 2), (.iconst 1, 1)] (by decide +kernel) (pc' := 43) (L' := [.val (.int ls), .val (.int x0), .val (.int x1), .val (.int x2), .val (.int mx), .val (.int 0), .val (.int (c16 c0)), .val (.int (c16 c1)), .val (.int (c16 c2)), .val (.ref a1), .unset, .unset, .unset, .unset]) (S' := [.int 1, .int 0]) rfl ?_
    refine wp_ict C (M0 hw) d0_43 (XT.ii_le_t (by decide)) (pc' := 52) (by decide) ?_
    refine wp_seg C (M0 hw) [(.iload 5, 2), (.iconst 2, 1)] (by decide +kernel) (pc' := 55) (L' := [.val (.int ls), .val (.int x0), .val (.int x1), .val (.int x2), .val (.int mx), .val (.int 0), .val (.int (c16 c0)), .val (.int (c16 c1)), .val (.int (c16 c2)), .val (.ref a1), .unset, .unset, .unset, .unset]) (S' := [.int 2, .int 0]) rfl ?_
    refine wp_ict C (M0 hw) d0_55 (XT.ii_le_t (by decide)) (pc' := 64) (by decide) ?_
    refine wp_seg C (M0 hw) [(.iconst 0, 1), (.istore 10, 2), (.iconst 0, 1), (.istore 11, 2), (.iconst 1, 1), (.istore 12, 2), (.iload 10, 2), (.iload 5, 2)] (by decide +kernel) (pc' := 77) (L' := [.val (.int ls), .val (.int x0), .val (.int x1), .val (.int x2), .val (.int mx), .val (.int 0), .val (.int (c16 c0)), .val (.int (c16 c1)), .val (.int (c16 c2)), .val (.ref a1), .val (.int 0), .val (.int 0), .val (.int 1), .unset]) (S' := [.int 0, .int 0]) rfl ?_
    refine wp_ict C (M0 hw) d0_77 (XT.ii_ge_t (by decide)) (pc' := 116) (by decide) ?_
    refine wp_seg C (M0 hw) [(.iload 12, 2)] (by decide +kernel) (pc' := 118) (L' := [.val (.int ls), .val (.int x0), .val (.int x1), .val (.int x2), .val (.int mx), .val (.int 0), .val (.int (c16 c0)), .val (.int (c16 c1)), .val (.int (c16 c2)), .val (.ref a1), .val (.int 0), .val (.int 0), .val (.int 1), .unset]) (S' := [.int 1]) rfl ?_
    refine wp_iff C (M0 hw) d0_118 (XT.i0_eq_f (by decide)) ?_
    refine wp_seg C (M0 hw) [(.iload 10, 2), (.iload 5, 2)] (by decide +kernel) (pc' := 125) (L' := [.val (.int ls), .val (.int x0), .val (.int x1), .val (.int x2), .val (.int mx), .val (.int 0), .val (.int (c16 c0)), .val (.int (c16 c1)), .val (.int (c16 c2)), .val (.ref a1), .val (.int 0), .val (.int 0), .val (.int 1), .unset]) (S' := [.int 0, .int 0]) rfl ?_
    refine wp_ict C (M0 hw) d0_125 (XT.ii_ge_t (by decide)) (pc' := 164) (by decide) ?_
    refine wp_seg C (M0 hw) [(.iload 12, 2)] (by decide +kernel) (pc' := 166) (L' := [.val (.int ls), .val (.int x0), .val (.int x1), .val (.int x2), .val (.int mx), .val (.int 0), .val (.int (c16 c0)), .val (.int (c16 c1)), .val (.int (c16 c2)), .val (.ref a1), .val (.int 0), .val (.int 0), .val (.int 1), .unset]) (S' := [.int 1]) rfl ?_
    refine wp_iff C (M0 hw) d0_166 (XT.i0_eq_f (by decide)) ?_
    refine wp_seg C (M0 hw) [(.iload 10, 2), (.iload 5, 2)] (by decide +kernel) (pc' := 173) (L' := [.val (.int ls), .val (.int x0), .val (.int x1), .val (.int x2), .val (.int mx), .val (.int 0), .val (.int (c16 c0)), .val (.int (c16 c1)), .val (.int (c16 c2)), .val (.ref a1), .val (.int 0), .val (.int 0), .val (.int 1), .unset]) (S' := [.int 0, .int 0]) rfl ?_
    refine wp_ict C (M0 hw) d0_173 (XT.ii_ge_t (by decide)) (pc' := 212) (by decide) ?_
    refine wp_seg C (M0 hw) [(.iload 12, 2)] (by decide +kernel) (pc' := 214) (L' := [.val (.int ls), .val (.int x0), .val (.int x1), .val (.int x2), .val (.int mx), .val (.int 0), .val (.int (c16 c0)), .val (.int (c16 c1)), .val (.int (c16 c2)), .val (.ref a1), .val (.int 0), .val (.int 0), .val (.int 1), .unset]) (S' := [.int 1]) rfl ?_
    refine wp_iff C (M0 hw) d0_214 (XT.i0_eq_f (by decide)) ?_
    refine wp_seg C (M0 hw) [(.iload 11, 2), (.iconst 1, 1)] (by decide +kernel) (pc' := 220) (L' := [.val (.int ls), .val (.int x0), .val (.int x1), .val (.int x2), .val (.int mx), .val (.int 0), .val (.int (c16 c0)), .val (.int (c16 c1)), .val (.int (c16 c2)), .val (.ref a1), .val (.int 0), .val (.int 0), .val (.int 1), .unset]) (S' := [.int 1, .int 0]) rfl ?_
    refine wp_ict C (M0 hw) d0_220 (XT.ii_lt_t (by decide)) (pc' := 234) (by decide) ?_
    refine wp_seg C (M0 hw) [(.iconst 0, 1), (.istore 13, 2)] (by decide +kernel) (pc' := 237) (L' := [.val (.int ls), .val (.int x0), .val (.int x1), .val (.int x2), .val (.int mx), .val (.int 0), .val (.int (c16 c0)), .val (.int (c16 c1)), .val (.int (c16 c2)), .val (.ref a1), .val (.int 0), .val (.int 0), .val (.int 1), .val (.int 0)]) (S' := []) rfl ?_
    exact J _ _ _ _ (bi_f (fun r => absurd ((vf_end (Nat.not_lt.mpr (Nat.le_of_ble_eq_true rfl))).mp r) (Nat.lt_irrefl 0)))
  · refine wp_seg C (M0 hw) [(.istore 5, 2), (.iload_n 1, 1)] (by decide +kernel) (pc' := 6) (L' := [.val (.int ls), .val (.int x0), .val (.int x1), .val (.int x2), .val (.int mx), .val (.int 1), .unset, .unset, .unset, .unset, .unset, .unset, .unset, .unset]) (S' := [.int x0]) rfl ?_
    refine wp_invokestatic C (M0 hw) d0_6 (M20 hw) (w1 hw) (w2 hw) (w3 hw) (by decide) (S' := []) [.int x0] (lenOf pd20 rfl) rfl (L' := [.val (.int x0), .unset]) rfl rfl (Rm.law (d := 1) (w := 13) hr hx (Nat.le_of_ble_eq_true rfl) (Nat.le_of_ble_eq_true rfl)) ?_
    refine c_draw C hw  (Meth.caller (M0 hw) d0_6)  fun c0 => ?_
    refine wp_seg C (M0 hw) [(.istore 6, 2), (.iload_n 2, 1)] (by decide +kernel) (pc' := 12) (L' := [.val (.int ls), .val (.int x0), .val (.int x1), .val (.int x2), .val (.int mx), .val (.int 1), .val (.int (c16 c0)), .unset, .unset, .unset, .unset, .unset, .unset, .unset]) (S' := [.int x1]) rfl ?_
    refine wp_invokestatic C (M0 hw) d0_12 (M20 hw) (w1 hw) (w2 hw) (w3 hw) (by decide) (S' := []) [.int x1] (lenOf pd20 rfl) rfl (L' := [.val (.int x1), .unset]) rfl rfl (Rm.law (d := 1) (w := 13) hr hx (Nat.le_of_ble_eq_true rfl) (Nat.le_of_ble_eq_true rfl)) ?_
    refine c_draw C hw  (Meth.caller (M0 hw) d0_12)  fun c1 => ?_
    refine wp_seg C (M0 hw) [(.istore 7, 2), (.iload_n 3, 1)] (by decide +kernel) (pc' := 18) (L' := [.val (.int ls), .val (.int x0), .val (.int x1), .val (.int x2), .val (.int mx), .val (.int 1), .val (.int (c16 c0)), .val (.int (c16 c1)), .unset, .unset, .unset, .unset, .unset, .unset]) (S' := [.int x2]) rfl ?_
    refine wp_invokestatic C (M0 hw) d0_18 (M20 hw) (w1 hw) (w2 hw) (w3 hw) (by decide) (S' := []) [.int x2] (lenOf pd20 rfl) rfl (L' := [.val (.int x2), .unset]) rfl rfl (Rm.law (d := 1) (w := 13) hr hx (Nat.le_of_ble_eq_true rfl) (Nat.le_of_ble_eq_true rfl)) ?_
    refine c_draw C hw  (Meth.caller (M0 hw) d0_18)  fun c2 => ?_
    refine wp_seg C (M0 hw) [(.istore 8, 2), (.iload 5, 2)] (by decide +kernel) (pc' := 25) (L' := [.val (.int ls), .val (.int x0), .val (.int x1), .val (.int x2), .val (.int mx), .val (.int 1), .val (.int (c16 c0)), .val (.int (c16 c1)), .val (.int (c16 c2)), .unset, .unset, .unset, .unset, .unset]) (S' := [.int 1]) rfl ?_
    refine wp_newarray C (M0 hw) d0_25 rfl (w6 hw) (len := 1) ⟨by decide, by decide⟩ (by decide) (rc hr (Nat.le_of_ble_eq_true rfl)) (rs hr (Nat.le_of_ble_eq_true rfl)) (vs := [.int 0]) rfl fun a4 => ?_
    refine wp_seg C (M0 hw) [(.astore 9, 2), (.iload 5, 2)] (by decide +kernel) (pc' := 31) (L' := [.val (.int ls), .val (.int x0), .val (.int x1), .val (.int x2), .val (.int mx), .val (.int 1), .val (.int (c16 c0)), .val (.int (c16 c1)), .val (.int (c16 c2)), .val (.ref a4), .unset, .unset, .unset, .unset]) (S' := [.int 1]) rfl ?_
    refine wp_iff C (M0 hw) d0_31 (XT.i0_le_f (by decide)) ?_
    refine wp_seg C (M0 hw) [(.aload 9, 2), (.iconst 0, 1), (.iload 6, 2)] (by decide +kernel) (pc' := 39) (L' := [.val (.int ls), .val (.int x0), .val (.int x1), .val (.int x2), .val (.int mx), .val (.int 1), .val (.int (c16 c0)), .val (.int (c16 c1)), .val (.int (c16 c2)), .val (.ref a4), .unset, .unset, .unset, .unset]) (S' := [.int (c16 c0), .int 0, .ref a4]) rfl ?_
    refine wp_castore C (M0 hw) d0_39 (i := 0) (j := 0) rfl ⟨by decide, by decide⟩ (Nat.le_of_ble_eq_true rfl) (v' := .int (c16 c0)) (congrArg Value.int (c16_i2c _)) (l' := [(a4, true, .inr (.char, [.int (c16 c0)]))]) rfl ?_
    have J : ∀ (vi vc vo E : Int32), bi (vf [c0] mx 2 0 0) = E → WP κ y0 237 [.val (.int ls), .val (.int x0), .val (.int x1), .val (.int x2), .val (.int mx), .val (.int 1), .val (.int (c16 c0)), .val (.int (c16 c1)), .val (.int (c16 c2)), .val (.ref a4), .val (.int vi), .val (.int vc), .val (.int vo), .val (.int E)] [] [] [(a4, true, .inr (.char, [.int (c16 c0)]))] 1 1 := by
      intro vi vc vo E hE2
      refine wp_new C (M0 hw) d0_237 (w7 hw) (w8 hw) (w9 hw) (cls_Str hw) (rc hr (Nat.le_of_ble_eq_true rfl)) (rs hr (Nat.le_of_ble_eq_true rfl)) fun a5 => ?_
      refine wp_seg C (M0 hw) [(.dup, 1), (.aload 9, 2)] (by decide +kernel) (pc' := 243) (L' := [.val (.int ls), .val (.int x0), .val (.int x1), .val (.int x2), .val (.int mx), .val (.int 1), .val (.int (c16 c0)), .val (.int (c16 c1)), .val (.int (c16 c2)), .val (.ref a4), .val (.int vi), .val (.int vc), .val (.int vo), .val (.int E)]) (S' := [.ref a4, .ref a5, .ref a5]) rfl ?_
      refine wp_init C (M0 hw) d0_243 (M10 hw) rfl (w10 hw) (w11 hw) (by decide) (S' := [.ref a5]) a5 [.ref a4] (lenOf pd10 rfl) rfl (L' := [.val (.ref a5), .val (.ref a4)]) rfl rfl (Rm.law (d := 1) (w := 13) hr hx (Nat.le_of_ble_eq_true rfl) (Nat.le_of_ble_eq_true rfl)) ?_
      refine c_initU C hw hs hu (cs := [c0]) (Nat.le_of_ble_eq_true rfl) (Nat.le_of_ble_eq_true rfl) (Meth.caller (M0 hw) d0_243) (Rm.law (d := 6) (w := 87) hr hx (Nat.le_of_ble_eq_true rfl) (Nat.le_of_ble_eq_true rfl)) (mc := true) (List.mem_of_getElem? (i := 0) rfl) (rc hr (Nat.le_of_ble_eq_true rfl)) (rs hr (Nat.le_of_ble_eq_true rfl)) fun q => ?_
      refine wp_seg C (M0 hw) [(.iload 4, 2)] (by decide +kernel) (pc' := 248) (L' := [.val (.int ls), .val (.int x0), .val (.int x1), .val (.int x2), .val (.int mx), .val (.int 1), .val (.int (c16 c0)), .val (.int (c16 c1)), .val (.int (c16 c2)), .val (.ref a4), .val (.int vi), .val (.int vc), .val (.int vo), .val (.int E)]) (S' := [.int mx, .ref a5]) rfl ?_
      refine wp_invokestatic C (M0 hw) d0_248 (M28 hw) (w28 hw) (w29 hw) (w30 hw) (by decide) (S' := []) [.ref a5, .int mx] (lenOf pd28 rfl) rfl (L' := [.val (.ref a5), .val (.int mx), .unset, .unset, .unset]) rfl rfl (Rm.law (d := 1) (w := 16) hr hx (Nat.le_of_ble_eq_true rfl) (Nat.le_of_ble_eq_true rfl)) ?_
      refine c_fv C hw (cs := [c0]) hs hu (Nat.le_of_ble_eq_true rfl) (Meth.caller (M0 hw) d0_248) (Rm.law (d := 5) (w := 74) hr hx (Nat.le_of_ble_eq_true rfl) (Nat.le_of_ble_eq_true rfl)) ⟨q, (List.mem_of_getElem? (i := 0) rfl), (List.mem_of_getElem? (i := 1) rfl)⟩ ?_
      refine wp_seg C (M0 hw) [(.iload 13, 2)] (by decide +kernel) (pc' := 253) (L' := [.val (.int ls), .val (.int x0), .val (.int x1), .val (.int x2), .val (.int mx), .val (.int 1), .val (.int (c16 c0)), .val (.int (c16 c1)), .val (.int (c16 c2)), .val (.ref a4), .val (.int vi), .val (.int vc), .val (.int vo), .val (.int E)]) (S' := [.int E, .int (bi (vf [c0] mx 2 0 0))]) rfl ?_
      refine wp_icf C (M0 hw) d0_253 (XT.ii_ne_f hE2) ?_
      refine wp_seg C (M0 hw) [(.iconst 1, 1), (.goto 4, 3)] (by decide +kernel) (pc' := 261) (L' := [.val (.int ls), .val (.int x0), .val (.int x1), .val (.int x2), .val (.int mx), .val (.int 1), .val (.int (c16 c0)), .val (.int (c16 c1)), .val (.int (c16 c2)), .val (.ref a4), .val (.int vi), .val (.int vc), .val (.int vo), .val (.int E)]) (S' := [.int 1]) rfl ?_
      exact wp_end C (M0 hw) d0_261
    refine wp_seg C (M0 hw) [(.iload 5, 2), (.iconst 1, 1)] (by decide +kernel) (pc' := 43) (L' := [.val (.int ls), .val (.int x0), .val (.int x1), .val (.int x2), .val (.int mx), .val (.int 1), .val (.int (c16 c0)), .val (.int (c16 c1)), .val (.int (c16 c2)), .val (.ref a4), .unset, .unset, .unset, .unset]) (S' := [.int 1, .int 1]) rfl ?_
    refine wp_ict C (M0 hw) d0_43 (XT.ii_le_t (by decide)) (pc' := 52) (by decide) ?_
    refine wp_seg C (M0 hw) [(.iload 5, 2), (.iconst 2, 1)] (by decide +kernel) (pc' := 55) (L' := [.val (.int ls), .val (.int x0), .val (.int x1), .val (.int x2), .val (.int mx), .val (.int 1), .val (.int (c16 c0)), .val (.int (c16 c1)), .val (.int (c16 c2)), .val (.ref a4), .unset, .unset, .unset, .unset]) (S' := [.int 2, .int 1]) rfl ?_
    refine wp_ict C (M0 hw) d0_55 (XT.ii_le_t (by decide)) (pc' := 64) (by decide) ?_
    refine wp_seg C (M0 hw) [(.iconst 0, 1), (.istore 10, 2), (.iconst 0, 1), (.istore 11, 2), (.iconst 1, 1), (.istore 12, 2), (.iload 10, 2), (.iload 5, 2)] (by decide +kernel) (pc' := 77) (L' := [.val (.int ls), .val (.int x0), .val (.int x1), .val (.int x2), .val (.int mx), .val (.int 1), .val (.int (c16 c0)), .val (.int (c16 c1)), .val (.int (c16 c2)), .val (.ref a4), .val (.int 0), .val (.int 0), .val (.int 1), .unset]) (S' := [.int 1, .int 0]) rfl ?_
    refine wp_icf C (M0 hw) d0_77 (XT.ii_ge_f (by decide)) ?_
    refine wp_seg C (M0 hw) [(.iload 6, 2), (.iload 7, 2), (.iload 8, 2), (.iload 5, 2), (.iload 10, 2)] (by decide +kernel) (pc' := 90) (L' := [.val (.int ls), .val (.int x0), .val (.int x1), .val (.int x2), .val (.int mx), .val (.int 1), .val (.int (c16 c0)), .val (.int (c16 c1)), .val (.int (c16 c2)), .val (.ref a4), .val (.int 0), .val (.int 0), .val (.int 1), .unset]) (S' := [.int 0, .int 1, .int (c16 c2), .int (c16 c1), .int (c16 c0)]) rfl ?_
    refine wp_invokestatic C (M0 hw) d0_90 (M22 hw) (w43 hw) (w44 hw) (w3 hw) (by decide) (S' := []) [.int (c16 c0), .int (c16 c1), .int (c16 c2), .int 1, .int 0] (lenOf pd22 rfl) rfl (L' := [.val (.int (c16 c0)), .val (.int (c16 c1)), .val (.int (c16 c2)), .val (.int 1), .val (.int 0), .unset]) rfl rfl (Rm.law (d := 1) (w := 17) hr hx (Nat.le_of_ble_eq_true rfl) (Nat.le_of_ble_eq_true rfl)) ?_
    refine c_step10 C hw  (Meth.caller (M0 hw) d0_90) (Rm.law (d := 2) (w := 32) hr hx (Nat.le_of_ble_eq_true rfl) (Nat.le_of_ble_eq_true rfl))  ?_
    rcases stp_cases [c0] 0 with g0 | g0 | g0 <;> rw [g0]
    · show WP κ y0 93 [.val (.int ls), .val (.int x0), .val (.int x1), .val (.int x2), .val (.int mx), .val (.int 1), .val (.int (c16 c0)), .val (.int (c16 c1)), .val (.int (c16 c2)), .val (.ref a4), .val (.int 0), .val (.int 0), .val (.int 1), .unset] [.int 0] [] [(a4, true, .inr (.char, [.int (c16 c0)]))] 1 1
      refine wp_seg C (M0 hw) [(.istore 13, 2), (.iload 13, 2)] (by decide +kernel) (pc' := 97) (L' := [.val (.int ls), .val (.int x0), .val (.int x1), .val (.int x2), .val (.int mx), .val (.int 1), .val (.int (c16 c0)), .val (.int (c16 c1)), .val (.int (c16 c2)), .val (.ref a4), .val (.int 0), .val (.int 0), .val (.int 1), .val (.int 0)]) (S' := [.int 0]) rfl ?_
      refine wp_iff C (M0 hw) d0_97 (XT.i0_ne_f (by decide)) ?_
      refine wp_seg C (M0 hw) [(.iconst 0, 1), (.istore 12, 2), (.goto 13, 3), (.iload 12, 2)] (by decide +kernel) (pc' := 118) (L' := [.val (.int ls), .val (.int x0), .val (.int x1), .val (.int x2), .val (.int mx), .val (.int 1), .val (.int (c16 c0)), .val (.int (c16 c1)), .val (.int (c16 c2)), .val (.ref a4), .val (.int 0), .val (.int 0), .val (.int 0), .val (.int 0)]) (S' := [.int 0]) rfl ?_
      refine wp_ift C (M0 hw) d0_118 (XT.i0_eq_t (by decide)) (pc' := 164) (by decide) ?_
      refine wp_seg C (M0 hw) [(.iload 12, 2)] (by decide +kernel) (pc' := 166) (L' := [.val (.int ls), .val (.int x0), .val (.int x1), .val (.int x2), .val (.int mx), .val (.int 1), .val (.int (c16 c0)), .val (.int (c16 c1)), .val (.int (c16 c2)), .val (.ref a4), .val (.int 0), .val (.int 0), .val (.int 0), .val (.int 0)]) (S' := [.int 0]) rfl ?_
      refine wp_ift C (M0 hw) d0_166 (XT.i0_eq_t (by decide)) (pc' := 212) (by decide) ?_
      refine wp_seg C (M0 hw) [(.iload 12, 2)] (by decide +kernel) (pc' := 214) (L' := [.val (.int ls), .val (.int x0), .val (.int x1), .val (.int x2), .val (.int mx), .val (.int 1), .val (.int (c16 c0)), .val (.int (c16 c1)), .val (.int (c16 c2)), .val (.ref a4), .val (.int 0), .val (.int 0), .val (.int 0), .val (.int 0)]) (S' := [.int 0]) rfl ?_
      refine wp_ift C (M0 hw) d0_214 (XT.i0_eq_t (by decide)) (pc' := 234) (by decide) ?_
      refine wp_seg C (M0 hw) [(.iconst 0, 1), (.istore 13, 2)] (by decide +kernel) (pc' := 237) (L' := [.val (.int ls), .val (.int x0), .val (.int x1), .val (.int x2), .val (.int mx), .val (.int 1), .val (.int (c16 c0)), .val (.int (c16 c1)), .val (.int (c16 c2)), .val (.ref a4), .val (.int 0), .val (.int 0), .val (.int 0), .val (.int 0)]) (S' := []) rfl ?_
      exact J _ _ _ _ (bi_f (fun r => by have r0 := (vf_go (i := 0) (Nat.le_of_ble_eq_true rfl)).mp r; exact r0.1 g0))
    · show WP κ y0 93 [.val (.int ls), .val (.int x0), .val (.int x1), .val (.int x2), .val (.int mx), .val (.int 1), .val (.int (c16 c0)), .val (.int (c16 c1)), .val (.int (c16 c2)), .val (.ref a4), .val (.int 0), .val (.int 0), .val (.int 1), .unset] [.int 1] [] [(a4, true, .inr (.char, [.int (c16 c0)]))] 1 1
      refine wp_seg C (M0 hw) [(.istore 13, 2), (.iload 13, 2)] (by decide +kernel) (pc' := 97) (L' := [.val (.int ls), .val (.int x0), .val (.int x1), .val (.int x2), .val (.int mx), .val (.int 1), .val (.int (c16 c0)), .val (.int (c16 c1)), .val (.int (c16 c2)), .val (.ref a4), .val (.int 0), .val (.int 0), .val (.int 1), .val (.int 1)]) (S' := [.int 1]) rfl ?_
      refine wp_ift C (M0 hw) d0_97 (XT.i0_ne_t (by decide)) (pc' := 106) (by decide) ?_
      refine wp_seg C (M0 hw) [(.iinc 11 1, 3), (.iload 10, 2), (.iload 13, 2), (.iadd, 1), (.istore 10, 2), (.iload 12, 2)] (by decide +kernel) (pc' := 118) (L' := [.val (.int ls), .val (.int x0), .val (.int x1), .val (.int x2), .val (.int mx), .val (.int 1), .val (.int (c16 c0)), .val (.int (c16 c1)), .val (.int (c16 c2)), .val (.ref a4), .val (.int 1), .val (.int 1), .val (.int 1), .val (.int 1)]) (S' := [.int 1]) rfl ?_
      refine wp_iff C (M0 hw) d0_118 (XT.i0_eq_f (by decide)) ?_
      refine wp_seg C (M0 hw) [(.iload 10, 2), (.iload 5, 2)] (by decide +kernel) (pc' := 125) (L' := [.val (.int ls), .val (.int x0), .val (.int x1), .val (.int x2), .val (.int mx), .val (.int 1), .val (.int (c16 c0)), .val (.int (c16 c1)), .val (.int (c16 c2)), .val (.ref a4), .val (.int 1), .val (.int 1), .val (.int 1), .val (.int 1)]) (S' := [.int 1, .int 1]) rfl ?_
      refine wp_ict C (M0 hw) d0_125 (XT.ii_ge_t (by decide)) (pc' := 164) (by decide) ?_
      refine wp_seg C (M0 hw) [(.iload 12, 2)] (by decide +kernel) (pc' := 166) (L' := [.val (.int ls), .val (.int x0), .val (.int x1), .val (.int x2), .val (.int mx), .val (.int 1), .val (.int (c16 c0)), .val (.int (c16 c1)), .val (.int (c16 c2)), .val (.ref a4), .val (.int 1), .val (.int 1), .val (.int 1), .val (.int 1)]) (S' := [.int 1]) rfl ?_
      refine wp_iff C (M0 hw) d0_166 (XT.i0_eq_f (by decide)) ?_
      refine wp_seg C (M0 hw) [(.iload 10, 2), (.iload 5, 2)] (by decide +kernel) (pc' := 173) (L' := [.val (.int ls), .val (.int x0), .val (.int x1), .val (.int x2), .val (.int mx), .val (.int 1), .val (.int (c16 c0)), .val (.int (c16 c1)), .val (.int (c16 c2)), .val (.ref a4), .val (.int 1), .val (.int 1), .val (.int 1), .val (.int 1)]) (S' := [.int 1, .int 1]) rfl ?_
      refine wp_ict C (M0 hw) d0_173 (XT.ii_ge_t (by decide)) (pc' := 212) (by decide) ?_
      refine wp_seg C (M0 hw) [(.iload 12, 2)] (by decide +kernel) (pc' := 214) (L' := [.val (.int ls), .val (.int x0), .val (.int x1), .val (.int x2), .val (.int mx), .val (.int 1), .val (.int (c16 c0)), .val (.int (c16 c1)), .val (.int (c16 c2)), .val (.ref a4), .val (.int 1), .val (.int 1), .val (.int 1), .val (.int 1)]) (S' := [.int 1]) rfl ?_
      refine wp_iff C (M0 hw) d0_214 (XT.i0_eq_f (by decide)) ?_
      refine wp_seg C (M0 hw) [(.iload 11, 2), (.iconst 1, 1)] (by decide +kernel) (pc' := 220) (L' := [.val (.int ls), .val (.int x0), .val (.int x1), .val (.int x2), .val (.int mx), .val (.int 1), .val (.int (c16 c0)), .val (.int (c16 c1)), .val (.int (c16 c2)), .val (.ref a4), .val (.int 1), .val (.int 1), .val (.int 1), .val (.int 1)]) (S' := [.int 1, .int 1]) rfl ?_
      refine wp_icf C (M0 hw) d0_220 (XT.ii_lt_f (by decide)) ?_
      refine wp_seg C (M0 hw) [(.iload 11, 2), (.iload 4, 2)] (by decide +kernel) (pc' := 227) (L' := [.val (.int ls), .val (.int x0), .val (.int x1), .val (.int x2), .val (.int mx), .val (.int 1), .val (.int (c16 c0)), .val (.int (c16 c1)), .val (.int (c16 c2)), .val (.ref a4), .val (.int 1), .val (.int 1), .val (.int 1), .val (.int 1)]) (S' := [.int mx, .int 1]) rfl ?_
      by_cases hm : mx < (1 : Int32)
      · refine wp_ict C (M0 hw) d0_227 (XT.ii_gt_t hm) (pc' := 234) (by decide) ?_
        refine wp_seg C (M0 hw) [(.iconst 0, 1), (.istore 13, 2)] (by decide +kernel) (pc' := 237) (L' := [.val (.int ls), .val (.int x0), .val (.int x1), .val (.int x2), .val (.int mx), .val (.int 1), .val (.int (c16 c0)), .val (.int (c16 c1)), .val (.int (c16 c2)), .val (.ref a4), .val (.int 1), .val (.int 1), .val (.int 1), .val (.int 0)]) (S' := []) rfl ?_
        exact J _ _ _ _ (bi_f (fun r => by have r0 := (vf_go (i := 0) (Nat.le_of_ble_eq_true rfl)).mp r; exact r0.2.1 hm))
      · refine wp_icf C (M0 hw) d0_227 (XT.ii_gt_f hm) ?_
        refine wp_seg C (M0 hw) [(.iconst 1, 1), (.goto 4, 3), (.istore 13, 2)] (by decide +kernel) (pc' := 237) (L' := [.val (.int ls), .val (.int x0), .val (.int x1), .val (.int x2), .val (.int mx), .val (.int 1), .val (.int (c16 c0)), .val (.int (c16 c1)), .val (.int (c16 c2)), .val (.ref a4), .val (.int 1), .val (.int 1), .val (.int 1), .val (.int 1)]) (S' := []) rfl ?_
        exact J _ _ _ _ (bi_t ((vf_go (i := 0) (Nat.le_of_ble_eq_true rfl)).mpr ⟨(fun q => by rw [show stp [c0] 0 = 1 from g0] at q; cases q), mx_mono (b := 1) hm (Nat.le_of_ble_eq_true rfl) (Nat.le_of_ble_eq_true rfl), by rw [show stp [c0] 0 = 1 from g0]; exact (vf_end (Nat.not_lt.mpr (Nat.le_of_ble_eq_true rfl))).mpr (Nat.le_of_ble_eq_true rfl)⟩))
    · show WP κ y0 93 [.val (.int ls), .val (.int x0), .val (.int x1), .val (.int x2), .val (.int mx), .val (.int 1), .val (.int (c16 c0)), .val (.int (c16 c1)), .val (.int (c16 c2)), .val (.ref a4), .val (.int 0), .val (.int 0), .val (.int 1), .unset] [.int 2] [] [(a4, true, .inr (.char, [.int (c16 c0)]))] 1 1
      refine wp_seg C (M0 hw) [(.istore 13, 2), (.iload 13, 2)] (by decide +kernel) (pc' := 97) (L' := [.val (.int ls), .val (.int x0), .val (.int x1), .val (.int x2), .val (.int mx), .val (.int 1), .val (.int (c16 c0)), .val (.int (c16 c1)), .val (.int (c16 c2)), .val (.ref a4), .val (.int 0), .val (.int 0), .val (.int 1), .val (.int 2)]) (S' := [.int 2]) rfl ?_
      refine wp_ift C (M0 hw) d0_97 (XT.i0_ne_t (by decide)) (pc' := 106) (by decide) ?_
      refine wp_seg C (M0 hw) [(.iinc 11 1, 3), (.iload 10, 2), (.iload 13, 2), (.iadd, 1), (.istore 10, 2), (.iload 12, 2)] (by decide +kernel) (pc' := 118) (L' := [.val (.int ls), .val (.int x0), .val (.int x1), .val (.int x2), .val (.int mx), .val (.int 1), .val (.int (c16 c0)), .val (.int (c16 c1)), .val (.int (c16 c2)), .val (.ref a4), .val (.int 2), .val (.int 1), .val (.int 1), .val (.int 2)]) (S' := [.int 1]) rfl ?_
      refine wp_iff C (M0 hw) d0_118 (XT.i0_eq_f (by decide)) ?_
      refine wp_seg C (M0 hw) [(.iload 10, 2), (.iload 5, 2)] (by decide +kernel) (pc' := 125) (L' := [.val (.int ls), .val (.int x0), .val (.int x1), .val (.int x2), .val (.int mx), .val (.int 1), .val (.int (c16 c0)), .val (.int (c16 c1)), .val (.int (c16 c2)), .val (.ref a4), .val (.int 2), .val (.int 1), .val (.int 1), .val (.int 2)]) (S' := [.int 1, .int 2]) rfl ?_
      refine wp_ict C (M0 hw) d0_125 (XT.ii_ge_t (by decide)) (pc' := 164) (by decide) ?_
      refine wp_seg C (M0 hw) [(.iload 12, 2)] (by decide +kernel) (pc' := 166) (L' := [.val (.int ls), .val (.int x0), .val (.int x1), .val (.int x2), .val (.int mx), .val (.int 1), .val (.int (c16 c0)), .val (.int (c16 c1)), .val (.int (c16 c2)), .val (.ref a4), .val (.int 2), .val (.int 1), .val (.int 1), .val (.int 2)]) (S' := [.int 1]) rfl ?_
      refine wp_iff C (M0 hw) d0_166 (XT.i0_eq_f (by decide)) ?_
      refine wp_seg C (M0 hw) [(.iload 10, 2), (.iload 5, 2)] (by decide +kernel) (pc' := 173) (L' := [.val (.int ls), .val (.int x0), .val (.int x1), .val (.int x2), .val (.int mx), .val (.int 1), .val (.int (c16 c0)), .val (.int (c16 c1)), .val (.int (c16 c2)), .val (.ref a4), .val (.int 2), .val (.int 1), .val (.int 1), .val (.int 2)]) (S' := [.int 1, .int 2]) rfl ?_
      refine wp_ict C (M0 hw) d0_173 (XT.ii_ge_t (by decide)) (pc' := 212) (by decide) ?_
      refine wp_seg C (M0 hw) [(.iload 12, 2)] (by decide +kernel) (pc' := 214) (L' := [.val (.int ls), .val (.int x0), .val (.int x1), .val (.int x2), .val (.int mx), .val (.int 1), .val (.int (c16 c0)), .val (.int (c16 c1)), .val (.int (c16 c2)), .val (.ref a4), .val (.int 2), .val (.int 1), .val (.int 1), .val (.int 2)]) (S' := [.int 1]) rfl ?_
      refine wp_iff C (M0 hw) d0_214 (XT.i0_eq_f (by decide)) ?_
      refine wp_seg C (M0 hw) [(.iload 11, 2), (.iconst 1, 1)] (by decide +kernel) (pc' := 220) (L' := [.val (.int ls), .val (.int x0), .val (.int x1), .val (.int x2), .val (.int mx), .val (.int 1), .val (.int (c16 c0)), .val (.int (c16 c1)), .val (.int (c16 c2)), .val (.ref a4), .val (.int 2), .val (.int 1), .val (.int 1), .val (.int 2)]) (S' := [.int 1, .int 1]) rfl ?_
      refine wp_icf C (M0 hw) d0_220 (XT.ii_lt_f (by decide)) ?_
      refine wp_seg C (M0 hw) [(.iload 11, 2), (.iload 4, 2)] (by decide +kernel) (pc' := 227) (L' := [.val (.int ls), .val (.int x0), .val (.int x1), .val (.int x2), .val (.int mx), .val (.int 1), .val (.int (c16 c0)), .val (.int (c16 c1)), .val (.int (c16 c2)), .val (.ref a4), .val (.int 2), .val (.int 1), .val (.int 1), .val (.int 2)]) (S' := [.int mx, .int 1]) rfl ?_
      by_cases hm : mx < (1 : Int32)
      · refine wp_ict C (M0 hw) d0_227 (XT.ii_gt_t hm) (pc' := 234) (by decide) ?_
        refine wp_seg C (M0 hw) [(.iconst 0, 1), (.istore 13, 2)] (by decide +kernel) (pc' := 237) (L' := [.val (.int ls), .val (.int x0), .val (.int x1), .val (.int x2), .val (.int mx), .val (.int 1), .val (.int (c16 c0)), .val (.int (c16 c1)), .val (.int (c16 c2)), .val (.ref a4), .val (.int 2), .val (.int 1), .val (.int 1), .val (.int 0)]) (S' := []) rfl ?_
        exact J _ _ _ _ (bi_f (fun r => by have r0 := (vf_go (i := 0) (Nat.le_of_ble_eq_true rfl)).mp r; exact r0.2.1 hm))
      · refine wp_icf C (M0 hw) d0_227 (XT.ii_gt_f hm) ?_
        refine wp_seg C (M0 hw) [(.iconst 1, 1), (.goto 4, 3), (.istore 13, 2)] (by decide +kernel) (pc' := 237) (L' := [.val (.int ls), .val (.int x0), .val (.int x1), .val (.int x2), .val (.int mx), .val (.int 1), .val (.int (c16 c0)), .val (.int (c16 c1)), .val (.int (c16 c2)), .val (.ref a4), .val (.int 2), .val (.int 1), .val (.int 1), .val (.int 1)]) (S' := []) rfl ?_
        exact J _ _ _ _ (bi_t ((vf_go (i := 0) (Nat.le_of_ble_eq_true rfl)).mpr ⟨(fun q => by rw [show stp [c0] 0 = 2 from g0] at q; cases q), mx_mono (b := 1) hm (Nat.le_of_ble_eq_true rfl) (Nat.le_of_ble_eq_true rfl), by rw [show stp [c0] 0 = 2 from g0]; exact (vf_end (Nat.not_lt.mpr (Nat.le_of_ble_eq_true rfl))).mpr (Nat.le_of_ble_eq_true rfl)⟩))
  · refine wp_seg C (M0 hw) [(.istore 5, 2), (.iload_n 1, 1)] (by decide +kernel) (pc' := 6) (L' := [.val (.int ls), .val (.int x0), .val (.int x1), .val (.int x2), .val (.int mx), .val (.int 2), .unset, .unset, .unset, .unset, .unset, .unset, .unset, .unset]) (S' := [.int x0]) rfl ?_
    refine wp_invokestatic C (M0 hw) d0_6 (M20 hw) (w1 hw) (w2 hw) (w3 hw) (by decide) (S' := []) [.int x0] (lenOf pd20 rfl) rfl (L' := [.val (.int x0), .unset]) rfl rfl (Rm.law (d := 1) (w := 13) hr hx (Nat.le_of_ble_eq_true rfl) (Nat.le_of_ble_eq_true rfl)) ?_
    refine c_draw C hw  (Meth.caller (M0 hw) d0_6)  fun c0 => ?_
    refine wp_seg C (M0 hw) [(.istore 6, 2), (.iload_n 2, 1)] (by decide +kernel) (pc' := 12) (L' := [.val (.int ls), .val (.int x0), .val (.int x1), .val (.int x2), .val (.int mx), .val (.int 2), .val (.int (c16 c0)), .unset, .unset, .unset, .unset, .unset, .unset, .unset]) (S' := [.int x1]) rfl ?_
    refine wp_invokestatic C (M0 hw) d0_12 (M20 hw) (w1 hw) (w2 hw) (w3 hw) (by decide) (S' := []) [.int x1] (lenOf pd20 rfl) rfl (L' := [.val (.int x1), .unset]) rfl rfl (Rm.law (d := 1) (w := 13) hr hx (Nat.le_of_ble_eq_true rfl) (Nat.le_of_ble_eq_true rfl)) ?_
    refine c_draw C hw  (Meth.caller (M0 hw) d0_12)  fun c1 => ?_
    refine wp_seg C (M0 hw) [(.istore 7, 2), (.iload_n 3, 1)] (by decide +kernel) (pc' := 18) (L' := [.val (.int ls), .val (.int x0), .val (.int x1), .val (.int x2), .val (.int mx), .val (.int 2), .val (.int (c16 c0)), .val (.int (c16 c1)), .unset, .unset, .unset, .unset, .unset, .unset]) (S' := [.int x2]) rfl ?_
    refine wp_invokestatic C (M0 hw) d0_18 (M20 hw) (w1 hw) (w2 hw) (w3 hw) (by decide) (S' := []) [.int x2] (lenOf pd20 rfl) rfl (L' := [.val (.int x2), .unset]) rfl rfl (Rm.law (d := 1) (w := 13) hr hx (Nat.le_of_ble_eq_true rfl) (Nat.le_of_ble_eq_true rfl)) ?_
    refine c_draw C hw  (Meth.caller (M0 hw) d0_18)  fun c2 => ?_
    refine wp_seg C (M0 hw) [(.istore 8, 2), (.iload 5, 2)] (by decide +kernel) (pc' := 25) (L' := [.val (.int ls), .val (.int x0), .val (.int x1), .val (.int x2), .val (.int mx), .val (.int 2), .val (.int (c16 c0)), .val (.int (c16 c1)), .val (.int (c16 c2)), .unset, .unset, .unset, .unset, .unset]) (S' := [.int 2]) rfl ?_
    refine wp_newarray C (M0 hw) d0_25 rfl (w6 hw) (len := 2) ⟨by decide, by decide⟩ (by decide) (rc hr (Nat.le_of_ble_eq_true rfl)) (rs hr (Nat.le_of_ble_eq_true rfl)) (vs := [.int 0, .int 0]) rfl fun a6 => ?_
    refine wp_seg C (M0 hw) [(.astore 9, 2), (.iload 5, 2)] (by decide +kernel) (pc' := 31) (L' := [.val (.int ls), .val (.int x0), .val (.int x1), .val (.int x2), .val (.int mx), .val (.int 2), .val (.int (c16 c0)), .val (.int (c16 c1)), .val (.int (c16 c2)), .val (.ref a6), .unset, .unset, .unset, .unset]) (S' := [.int 2]) rfl ?_
    refine wp_iff C (M0 hw) d0_31 (XT.i0_le_f (by decide)) ?_
    refine wp_seg C (M0 hw) [(.aload 9, 2), (.iconst 0, 1), (.iload 6, 2)] (by decide +kernel) (pc' := 39) (L' := [.val (.int ls), .val (.int x0), .val (.int x1), .val (.int x2), .val (.int mx), .val (.int 2), .val (.int (c16 c0)), .val (.int (c16 c1)), .val (.int (c16 c2)), .val (.ref a6), .unset, .unset, .unset, .unset]) (S' := [.int (c16 c0), .int 0, .ref a6]) rfl ?_
    refine wp_castore C (M0 hw) d0_39 (i := 0) (j := 0) rfl ⟨by decide, by decide⟩ (Nat.le_of_ble_eq_true rfl) (v' := .int (c16 c0)) (congrArg Value.int (c16_i2c _)) (l' := [(a6, true, .inr (.char, [.int (c16 c0), .int 0]))]) rfl ?_
    refine wp_seg C (M0 hw) [(.iload 5, 2), (.iconst 1, 1)] (by decide +kernel) (pc' := 43) (L' := [.val (.int ls), .val (.int x0), .val (.int x1), .val (.int x2), .val (.int mx), .val (.int 2), .val (.int (c16 c0)), .val (.int (c16 c1)), .val (.int (c16 c2)), .val (.ref a6), .unset, .unset, .unset, .unset]) (S' := [.int 1, .int 2]) rfl ?_
    refine wp_icf C (M0 hw) d0_43 (XT.ii_le_f (by decide)) ?_
    refine wp_seg C (M0 hw) [(.aload 9, 2), (.iconst 1, 1), (.iload 7, 2)] (by decide +kernel) (pc' := 51) (L' := [.val (.int ls), .val (.int x0), .val (.int x1), .val (.int x2), .val (.int mx), .val (.int 2), .val (.int (c16 c0)), .val (.int (c16 c1)), .val (.int (c16 c2)), .val (.ref a6), .unset, .unset, .unset, .unset]) (S' := [.int (c16 c1), .int 1, .ref a6]) rfl ?_
    refine wp_castore C (M0 hw) d0_51 (i := 0) (j := 1) rfl ⟨by decide, by decide⟩ (Nat.le_of_ble_eq_true rfl) (v' := .int (c16 c1)) (congrArg Value.int (c16_i2c _)) (l' := [(a6, true, .inr (.char, [.int (c16 c0), .int (c16 c1)]))]) rfl ?_
    have J : ∀ (vi vc vo E : Int32), bi (vf [c0, c1] mx 3 0 0) = E → WP κ y0 237 [.val (.int ls), .val (.int x0), .val (.int x1), .val (.int x2), .val (.int mx), .val (.int 2), .val (.int (c16 c0)), .val (.int (c16 c1)), .val (.int (c16 c2)), .val (.ref a6), .val (.int vi), .val (.int vc), .val (.int vo), .val (.int E)] [] [] [(a6, true, .inr (.char, [.int (c16 c0), .int (c16 c1)]))] 1 2 := by
      intro vi vc vo E hE2
      refine wp_new C (M0 hw) d0_237 (w7 hw) (w8 hw) (w9 hw) (cls_Str hw) (rc hr (Nat.le_of_ble_eq_true rfl)) (rs hr (Nat.le_of_ble_eq_true rfl)) fun a7 => ?_
      refine wp_seg C (M0 hw) [(.dup, 1), (.aload 9, 2)] (by decide +kernel) (pc' := 243) (L' := [.val (.int ls), .val (.int x0), .val (.int x1), .val (.int x2), .val (.int mx), .val (.int 2), .val (.int (c16 c0)), .val (.int (c16 c1)), .val (.int (c16 c2)), .val (.ref a6), .val (.int vi), .val (.int vc), .val (.int vo), .val (.int E)]) (S' := [.ref a6, .ref a7, .ref a7]) rfl ?_
      refine wp_init C (M0 hw) d0_243 (M10 hw) rfl (w10 hw) (w11 hw) (by decide) (S' := [.ref a7]) a7 [.ref a6] (lenOf pd10 rfl) rfl (L' := [.val (.ref a7), .val (.ref a6)]) rfl rfl (Rm.law (d := 1) (w := 13) hr hx (Nat.le_of_ble_eq_true rfl) (Nat.le_of_ble_eq_true rfl)) ?_
      refine c_initU C hw hs hu (cs := [c0, c1]) (Nat.le_of_ble_eq_true rfl) (Nat.le_of_ble_eq_true rfl) (Meth.caller (M0 hw) d0_243) (Rm.law (d := 6) (w := 87) hr hx (Nat.le_of_ble_eq_true rfl) (Nat.le_of_ble_eq_true rfl)) (mc := true) (List.mem_of_getElem? (i := 0) rfl) (rc hr (Nat.le_of_ble_eq_true rfl)) (rs hr (Nat.le_of_ble_eq_true rfl)) fun q => ?_
      refine wp_seg C (M0 hw) [(.iload 4, 2)] (by decide +kernel) (pc' := 248) (L' := [.val (.int ls), .val (.int x0), .val (.int x1), .val (.int x2), .val (.int mx), .val (.int 2), .val (.int (c16 c0)), .val (.int (c16 c1)), .val (.int (c16 c2)), .val (.ref a6), .val (.int vi), .val (.int vc), .val (.int vo), .val (.int E)]) (S' := [.int mx, .ref a7]) rfl ?_
      refine wp_invokestatic C (M0 hw) d0_248 (M28 hw) (w28 hw) (w29 hw) (w30 hw) (by decide) (S' := []) [.ref a7, .int mx] (lenOf pd28 rfl) rfl (L' := [.val (.ref a7), .val (.int mx), .unset, .unset, .unset]) rfl rfl (Rm.law (d := 1) (w := 16) hr hx (Nat.le_of_ble_eq_true rfl) (Nat.le_of_ble_eq_true rfl)) ?_
      refine c_fv C hw (cs := [c0, c1]) hs hu (Nat.le_of_ble_eq_true rfl) (Meth.caller (M0 hw) d0_248) (Rm.law (d := 5) (w := 74) hr hx (Nat.le_of_ble_eq_true rfl) (Nat.le_of_ble_eq_true rfl)) ⟨q, (List.mem_of_getElem? (i := 0) rfl), (List.mem_of_getElem? (i := 1) rfl)⟩ ?_
      refine wp_seg C (M0 hw) [(.iload 13, 2)] (by decide +kernel) (pc' := 253) (L' := [.val (.int ls), .val (.int x0), .val (.int x1), .val (.int x2), .val (.int mx), .val (.int 2), .val (.int (c16 c0)), .val (.int (c16 c1)), .val (.int (c16 c2)), .val (.ref a6), .val (.int vi), .val (.int vc), .val (.int vo), .val (.int E)]) (S' := [.int E, .int (bi (vf [c0, c1] mx 3 0 0))]) rfl ?_
      refine wp_icf C (M0 hw) d0_253 (XT.ii_ne_f hE2) ?_
      refine wp_seg C (M0 hw) [(.iconst 1, 1), (.goto 4, 3)] (by decide +kernel) (pc' := 261) (L' := [.val (.int ls), .val (.int x0), .val (.int x1), .val (.int x2), .val (.int mx), .val (.int 2), .val (.int (c16 c0)), .val (.int (c16 c1)), .val (.int (c16 c2)), .val (.ref a6), .val (.int vi), .val (.int vc), .val (.int vo), .val (.int E)]) (S' := [.int 1]) rfl ?_
      exact wp_end C (M0 hw) d0_261
    refine wp_seg C (M0 hw) [(.iload 5, 2), (.iconst 2, 1)] (by decide +kernel) (pc' := 55) (L' := [.val (.int ls), .val (.int x0), .val (.int x1), .val (.int x2), .val (.int mx), .val (.int 2), .val (.int (c16 c0)), .val (.int (c16 c1)), .val (.int (c16 c2)), .val (.ref a6), .unset, .unset, .unset, .unset]) (S' := [.int 2, .int 2]) rfl ?_
    refine wp_ict C (M0 hw) d0_55 (XT.ii_le_t (by decide)) (pc' := 64) (by decide) ?_
    refine wp_seg C (M0 hw) [(.iconst 0, 1), (.istore 10, 2), (.iconst 0, 1), (.istore 11, 2), (.iconst 1, 1), (.istore 12, 2), (.iload 10, 2), (.iload 5, 2)] (by decide +kernel) (pc' := 77) (L' := [.val (.int ls), .val (.int x0), .val (.int x1), .val (.int x2), .val (.int mx), .val (.int 2), .val (.int (c16 c0)), .val (.int (c16 c1)), .val (.int (c16 c2)), .val (.ref a6), .val (.int 0), .val (.int 0), .val (.int 1), .unset]) (S' := [.int 2, .int 0]) rfl ?_
    refine wp_icf C (M0 hw) d0_77 (XT.ii_ge_f (by decide)) ?_
    refine wp_seg C (M0 hw) [(.iload 6, 2), (.iload 7, 2), (.iload 8, 2), (.iload 5, 2), (.iload 10, 2)] (by decide +kernel) (pc' := 90) (L' := [.val (.int ls), .val (.int x0), .val (.int x1), .val (.int x2), .val (.int mx), .val (.int 2), .val (.int (c16 c0)), .val (.int (c16 c1)), .val (.int (c16 c2)), .val (.ref a6), .val (.int 0), .val (.int 0), .val (.int 1), .unset]) (S' := [.int 0, .int 2, .int (c16 c2), .int (c16 c1), .int (c16 c0)]) rfl ?_
    refine wp_invokestatic C (M0 hw) d0_90 (M22 hw) (w43 hw) (w44 hw) (w3 hw) (by decide) (S' := []) [.int (c16 c0), .int (c16 c1), .int (c16 c2), .int 2, .int 0] (lenOf pd22 rfl) rfl (L' := [.val (.int (c16 c0)), .val (.int (c16 c1)), .val (.int (c16 c2)), .val (.int 2), .val (.int 0), .unset]) rfl rfl (Rm.law (d := 1) (w := 17) hr hx (Nat.le_of_ble_eq_true rfl) (Nat.le_of_ble_eq_true rfl)) ?_
    refine c_step20 C hw  (Meth.caller (M0 hw) d0_90) (Rm.law (d := 2) (w := 32) hr hx (Nat.le_of_ble_eq_true rfl) (Nat.le_of_ble_eq_true rfl))  ?_
    rcases stp_cases [c0, c1] 0 with g0 | g0 | g0 <;> rw [g0]
    · show WP κ y0 93 [.val (.int ls), .val (.int x0), .val (.int x1), .val (.int x2), .val (.int mx), .val (.int 2), .val (.int (c16 c0)), .val (.int (c16 c1)), .val (.int (c16 c2)), .val (.ref a6), .val (.int 0), .val (.int 0), .val (.int 1), .unset] [.int 0] [] [(a6, true, .inr (.char, [.int (c16 c0), .int (c16 c1)]))] 1 2
      refine wp_seg C (M0 hw) [(.istore 13, 2), (.iload 13, 2)] (by decide +kernel) (pc' := 97) (L' := [.val (.int ls), .val (.int x0), .val (.int x1), .val (.int x2), .val (.int mx), .val (.int 2), .val (.int (c16 c0)), .val (.int (c16 c1)), .val (.int (c16 c2)), .val (.ref a6), .val (.int 0), .val (.int 0), .val (.int 1), .val (.int 0)]) (S' := [.int 0]) rfl ?_
      refine wp_iff C (M0 hw) d0_97 (XT.i0_ne_f (by decide)) ?_
      refine wp_seg C (M0 hw) [(.iconst 0, 1), (.istore 12, 2), (.goto 13, 3), (.iload 12, 2)] (by decide +kernel) (pc' := 118) (L' := [.val (.int ls), .val (.int x0), .val (.int x1), .val (.int x2), .val (.int mx), .val (.int 2), .val (.int (c16 c0)), .val (.int (c16 c1)), .val (.int (c16 c2)), .val (.ref a6), .val (.int 0), .val (.int 0), .val (.int 0), .val (.int 0)]) (S' := [.int 0]) rfl ?_
      refine wp_ift C (M0 hw) d0_118 (XT.i0_eq_t (by decide)) (pc' := 164) (by decide) ?_
      refine wp_seg C (M0 hw) [(.iload 12, 2)] (by decide +kernel) (pc' := 166) (L' := [.val (.int ls), .val (.int x0), .val (.int x1), .val (.int x2), .val (.int mx), .val (.int 2), .val (.int (c16 c0)), .val (.int (c16 c1)), .val (.int (c16 c2)), .val (.ref a6), .val (.int 0), .val (.int 0), .val (.int 0), .val (.int 0)]) (S' := [.int 0]) rfl ?_
      refine wp_ift C (M0 hw) d0_166 (XT.i0_eq_t (by decide)) (pc' := 212) (by decide) ?_
      refine wp_seg C (M0 hw) [(.iload 12, 2)] (by decide +kernel) (pc' := 214) (L' := [.val (.int ls), .val (.int x0), .val (.int x1), .val (.int x2), .val (.int mx), .val (.int 2), .val (.int (c16 c0)), .val (.int (c16 c1)), .val (.int (c16 c2)), .val (.ref a6), .val (.int 0), .val (.int 0), .val (.int 0), .val (.int 0)]) (S' := [.int 0]) rfl ?_
      refine wp_ift C (M0 hw) d0_214 (XT.i0_eq_t (by decide)) (pc' := 234) (by decide) ?_
      refine wp_seg C (M0 hw) [(.iconst 0, 1), (.istore 13, 2)] (by decide +kernel) (pc' := 237) (L' := [.val (.int ls), .val (.int x0), .val (.int x1), .val (.int x2), .val (.int mx), .val (.int 2), .val (.int (c16 c0)), .val (.int (c16 c1)), .val (.int (c16 c2)), .val (.ref a6), .val (.int 0), .val (.int 0), .val (.int 0), .val (.int 0)]) (S' := []) rfl ?_
      exact J _ _ _ _ (bi_f (fun r => by have r0 := (vf_go (i := 0) (Nat.le_of_ble_eq_true rfl)).mp r; exact r0.1 g0))
    · show WP κ y0 93 [.val (.int ls), .val (.int x0), .val (.int x1), .val (.int x2), .val (.int mx), .val (.int 2), .val (.int (c16 c0)), .val (.int (c16 c1)), .val (.int (c16 c2)), .val (.ref a6), .val (.int 0), .val (.int 0), .val (.int 1), .unset] [.int 1] [] [(a6, true, .inr (.char, [.int (c16 c0), .int (c16 c1)]))] 1 2
      refine wp_seg C (M0 hw) [(.istore 13, 2), (.iload 13, 2)] (by decide +kernel) (pc' := 97) (L' := [.val (.int ls), .val (.int x0), .val (.int x1), .val (.int x2), .val (.int mx), .val (.int 2), .val (.int (c16 c0)), .val (.int (c16 c1)), .val (.int (c16 c2)), .val (.ref a6), .val (.int 0), .val (.int 0), .val (.int 1), .val (.int 1)]) (S' := [.int 1]) rfl ?_
      refine wp_ift C (M0 hw) d0_97 (XT.i0_ne_t (by decide)) (pc' := 106) (by decide) ?_
      refine wp_seg C (M0 hw) [(.iinc 11 1, 3), (.iload 10, 2), (.iload 13, 2), (.iadd, 1), (.istore 10, 2), (.iload 12, 2)] (by decide +kernel) (pc' := 118) (L' := [.val (.int ls), .val (.int x0), .val (.int x1), .val (.int x2), .val (.int mx), .val (.int 2), .val (.int (c16 c0)), .val (.int (c16 c1)), .val (.int (c16 c2)), .val (.ref a6), .val (.int 1), .val (.int 1), .val (.int 1), .val (.int 1)]) (S' := [.int 1]) rfl ?_
      refine wp_iff C (M0 hw) d0_118 (XT.i0_eq_f (by decide)) ?_
      refine wp_seg C (M0 hw) [(.iload 10, 2), (.iload 5, 2)] (by decide +kernel) (pc' := 125) (L' := [.val (.int ls), .val (.int x0), .val (.int x1), .val (.int x2), .val (.int mx), .val (.int 2), .val (.int (c16 c0)), .val (.int (c16 c1)), .val (.int (c16 c2)), .val (.ref a6), .val (.int 1), .val (.int 1), .val (.int 1), .val (.int 1)]) (S' := [.int 2, .int 1]) rfl ?_
      refine wp_icf C (M0 hw) d0_125 (XT.ii_ge_f (by decide)) ?_
      refine wp_seg C (M0 hw) [(.iload 6, 2), (.iload 7, 2), (.iload 8, 2), (.iload 5, 2), (.iload 10, 2)] (by decide +kernel) (pc' := 138) (L' := [.val (.int ls), .val (.int x0), .val (.int x1), .val (.int x2), .val (.int mx), .val (.int 2), .val (.int (c16 c0)), .val (.int (c16 c1)), .val (.int (c16 c2)), .val (.ref a6), .val (.int 1), .val (.int 1), .val (.int 1), .val (.int 1)]) (S' := [.int 1, .int 2, .int (c16 c2), .int (c16 c1), .int (c16 c0)]) rfl ?_
      refine wp_invokestatic C (M0 hw) d0_138 (M22 hw) (w43 hw) (w44 hw) (w3 hw) (by decide) (S' := []) [.int (c16 c0), .int (c16 c1), .int (c16 c2), .int 2, .int 1] (lenOf pd22 rfl) rfl (L' := [.val (.int (c16 c0)), .val (.int (c16 c1)), .val (.int (c16 c2)), .val (.int 2), .val (.int 1), .unset]) rfl rfl (Rm.law (d := 1) (w := 17) hr hx (Nat.le_of_ble_eq_true rfl) (Nat.le_of_ble_eq_true rfl)) ?_
      refine c_step21 C hw  (Meth.caller (M0 hw) d0_138) (Rm.law (d := 2) (w := 32) hr hx (Nat.le_of_ble_eq_true rfl) (Nat.le_of_ble_eq_true rfl))  ?_
      rcases stp_cases [c0, c1] 1 with g1 | g1 | g1 <;> rw [g1]
      · show WP κ y0 141 [.val (.int ls), .val (.int x0), .val (.int x1), .val (.int x2), .val (.int mx), .val (.int 2), .val (.int (c16 c0)), .val (.int (c16 c1)), .val (.int (c16 c2)), .val (.ref a6), .val (.int 1), .val (.int 1), .val (.int 1), .val (.int 1)] [.int 0] [] [(a6, true, .inr (.char, [.int (c16 c0), .int (c16 c1)]))] 1 2
        refine wp_seg C (M0 hw) [(.istore 13, 2), (.iload 13, 2)] (by decide +kernel) (pc' := 145) (L' := [.val (.int ls), .val (.int x0), .val (.int x1), .val (.int x2), .val (.int mx), .val (.int 2), .val (.int (c16 c0)), .val (.int (c16 c1)), .val (.int (c16 c2)), .val (.ref a6), .val (.int 1), .val (.int 1), .val (.int 1), .val (.int 0)]) (S' := [.int 0]) rfl ?_
        refine wp_iff C (M0 hw) d0_145 (XT.i0_ne_f (by decide)) ?_
        refine wp_seg C (M0 hw) [(.iconst 0, 1), (.istore 12, 2), (.goto 13, 3), (.iload 12, 2)] (by decide +kernel) (pc' := 166) (L' := [.val (.int ls), .val (.int x0), .val (.int x1), .val (.int x2), .val (.int mx), .val (.int 2), .val (.int (c16 c0)), .val (.int (c16 c1)), .val (.int (c16 c2)), .val (.ref a6), .val (.int 1), .val (.int 1), .val (.int 0), .val (.int 0)]) (S' := [.int 0]) rfl ?_
        refine wp_ift C (M0 hw) d0_166 (XT.i0_eq_t (by decide)) (pc' := 212) (by decide) ?_
        refine wp_seg C (M0 hw) [(.iload 12, 2)] (by decide +kernel) (pc' := 214) (L' := [.val (.int ls), .val (.int x0), .val (.int x1), .val (.int x2), .val (.int mx), .val (.int 2), .val (.int (c16 c0)), .val (.int (c16 c1)), .val (.int (c16 c2)), .val (.ref a6), .val (.int 1), .val (.int 1), .val (.int 0), .val (.int 0)]) (S' := [.int 0]) rfl ?_
        refine wp_ift C (M0 hw) d0_214 (XT.i0_eq_t (by decide)) (pc' := 234) (by decide) ?_
        refine wp_seg C (M0 hw) [(.iconst 0, 1), (.istore 13, 2)] (by decide +kernel) (pc' := 237) (L' := [.val (.int ls), .val (.int x0), .val (.int x1), .val (.int x2), .val (.int mx), .val (.int 2), .val (.int (c16 c0)), .val (.int (c16 c1)), .val (.int (c16 c2)), .val (.ref a6), .val (.int 1), .val (.int 1), .val (.int 0), .val (.int 0)]) (S' := []) rfl ?_
        exact J _ _ _ _ (bi_f (fun r => by have r0 := (vf_go (i := 0) (Nat.le_of_ble_eq_true rfl)).mp r; have r0s := r0.2.2; rw [show stp [c0, c1] 0 = 1 from g0] at r0s; have r1 := (vf_go (i := (0 + 1)) (Nat.le_of_ble_eq_true rfl)).mp r0s; exact r1.1 g1))
      · show WP κ y0 141 [.val (.int ls), .val (.int x0), .val (.int x1), .val (.int x2), .val (.int mx), .val (.int 2), .val (.int (c16 c0)), .val (.int (c16 c1)), .val (.int (c16 c2)), .val (.ref a6), .val (.int 1), .val (.int 1), .val (.int 1), .val (.int 1)] [.int 1] [] [(a6, true, .inr (.char, [.int (c16 c0), .int (c16 c1)]))] 1 2
        refine wp_seg C (M0 hw) [(.istore 13, 2), (.iload 13, 2)] (by decide +kernel) (pc' := 145) (L' := [.val (.int ls), .val (.int x0), .val (.int x1), .val (.int x2), .val (.int mx), .val (.int 2), .val (.int (c16 c0)), .val (.int (c16 c1)), .val (.int (c16 c2)), .val (.ref a6), .val (.int 1), .val (.int 1), .val (.int 1), .val (.int 1)]) (S' := [.int 1]) rfl ?_
        refine wp_ift C (M0 hw) d0_145 (XT.i0_ne_t (by decide)) (pc' := 154) (by decide) ?_
        refine wp_seg C (M0 hw) [(.iinc 11 1, 3), (.iload 10, 2), (.iload 13, 2), (.iadd, 1), (.istore 10, 2), (.iload 12, 2)] (by decide +kernel) (pc' := 166) (L' := [.val (.int ls), .val (.int x0), .val (.int x1), .val (.int x2), .val (.int mx), .val (.int 2), .val (.int (c16 c0)), .val (.int (c16 c1)), .val (.int (c16 c2)), .val (.ref a6), .val (.int 2), .val (.int 2), .val (.int 1), .val (.int 1)]) (S' := [.int 1]) rfl ?_
        refine wp_iff C (M0 hw) d0_166 (XT.i0_eq_f (by decide)) ?_
        refine wp_seg C (M0 hw) [(.iload 10, 2), (.iload 5, 2)] (by decide +kernel) (pc' := 173) (L' := [.val (.int ls), .val (.int x0), .val (.int x1), .val (.int x2), .val (.int mx), .val (.int 2), .val (.int (c16 c0)), .val (.int (c16 c1)), .val (.int (c16 c2)), .val (.ref a6), .val (.int 2), .val (.int 2), .val (.int 1), .val (.int 1)]) (S' := [.int 2, .int 2]) rfl ?_
        refine wp_ict C (M0 hw) d0_173 (XT.ii_ge_t (by decide)) (pc' := 212) (by decide) ?_
        refine wp_seg C (M0 hw) [(.iload 12, 2)] (by decide +kernel) (pc' := 214) (L' := [.val (.int ls), .val (.int x0), .val (.int x1), .val (.int x2), .val (.int mx), .val (.int 2), .val (.int (c16 c0)), .val (.int (c16 c1)), .val (.int (c16 c2)), .val (.ref a6), .val (.int 2), .val (.int 2), .val (.int 1), .val (.int 1)]) (S' := [.int 1]) rfl ?_
        refine wp_iff C (M0 hw) d0_214 (XT.i0_eq_f (by decide)) ?_
        refine wp_seg C (M0 hw) [(.iload 11, 2), (.iconst 1, 1)] (by decide +kernel) (pc' := 220) (L' := [.val (.int ls), .val (.int x0), .val (.int x1), .val (.int x2), .val (.int mx), .val (.int 2), .val (.int (c16 c0)), .val (.int (c16 c1)), .val (.int (c16 c2)), .val (.ref a6), .val (.int 2), .val (.int 2), .val (.int 1), .val (.int 1)]) (S' := [.int 1, .int 2]) rfl ?_
        refine wp_icf C (M0 hw) d0_220 (XT.ii_lt_f (by decide)) ?_
        refine wp_seg C (M0 hw) [(.iload 11, 2), (.iload 4, 2)] (by decide +kernel) (pc' := 227) (L' := [.val (.int ls), .val (.int x0), .val (.int x1), .val (.int x2), .val (.int mx), .val (.int 2), .val (.int (c16 c0)), .val (.int (c16 c1)), .val (.int (c16 c2)), .val (.ref a6), .val (.int 2), .val (.int 2), .val (.int 1), .val (.int 1)]) (S' := [.int mx, .int 2]) rfl ?_
        by_cases hm : mx < (2 : Int32)
        · refine wp_ict C (M0 hw) d0_227 (XT.ii_gt_t hm) (pc' := 234) (by decide) ?_
          refine wp_seg C (M0 hw) [(.iconst 0, 1), (.istore 13, 2)] (by decide +kernel) (pc' := 237) (L' := [.val (.int ls), .val (.int x0), .val (.int x1), .val (.int x2), .val (.int mx), .val (.int 2), .val (.int (c16 c0)), .val (.int (c16 c1)), .val (.int (c16 c2)), .val (.ref a6), .val (.int 2), .val (.int 2), .val (.int 1), .val (.int 0)]) (S' := []) rfl ?_
          exact J _ _ _ _ (bi_f (fun r => by have r0 := (vf_go (i := 0) (Nat.le_of_ble_eq_true rfl)).mp r; have r0s := r0.2.2; rw [show stp [c0, c1] 0 = 1 from g0] at r0s; have r1 := (vf_go (i := (0 + 1)) (Nat.le_of_ble_eq_true rfl)).mp r0s; exact r1.2.1 hm))
        · refine wp_icf C (M0 hw) d0_227 (XT.ii_gt_f hm) ?_
          refine wp_seg C (M0 hw) [(.iconst 1, 1), (.goto 4, 3), (.istore 13, 2)] (by decide +kernel) (pc' := 237) (L' := [.val (.int ls), .val (.int x0), .val (.int x1), .val (.int x2), .val (.int mx), .val (.int 2), .val (.int (c16 c0)), .val (.int (c16 c1)), .val (.int (c16 c2)), .val (.ref a6), .val (.int 2), .val (.int 2), .val (.int 1), .val (.int 1)]) (S' := []) rfl ?_
          exact J _ _ _ _ (bi_t ((vf_go (i := 0) (Nat.le_of_ble_eq_true rfl)).mpr ⟨(fun q => by rw [show stp [c0, c1] 0 = 1 from g0] at q; cases q), mx_mono (b := 2) hm (Nat.le_of_ble_eq_true rfl) (Nat.le_of_ble_eq_true rfl), by rw [show stp [c0, c1] 0 = 1 from g0]; exact (vf_go (i := (0 + 1)) (Nat.le_of_ble_eq_true rfl)).mpr ⟨(fun q => by rw [show stp [c0, c1] (0 + 1) = 1 from g1] at q; cases q), mx_mono (b := 2) hm (Nat.le_of_ble_eq_true rfl) (Nat.le_of_ble_eq_true rfl), by rw [show stp [c0, c1] (0 + 1) = 1 from g1]; exact (vf_end (Nat.not_lt.mpr (Nat.le_of_ble_eq_true rfl))).mpr (Nat.le_of_ble_eq_true rfl)⟩⟩))
      · show WP κ y0 141 [.val (.int ls), .val (.int x0), .val (.int x1), .val (.int x2), .val (.int mx), .val (.int 2), .val (.int (c16 c0)), .val (.int (c16 c1)), .val (.int (c16 c2)), .val (.ref a6), .val (.int 1), .val (.int 1), .val (.int 1), .val (.int 1)] [.int 2] [] [(a6, true, .inr (.char, [.int (c16 c0), .int (c16 c1)]))] 1 2
        refine wp_seg C (M0 hw) [(.istore 13, 2), (.iload 13, 2)] (by decide +kernel) (pc' := 145) (L' := [.val (.int ls), .val (.int x0), .val (.int x1), .val (.int x2), .val (.int mx), .val (.int 2), .val (.int (c16 c0)), .val (.int (c16 c1)), .val (.int (c16 c2)), .val (.ref a6), .val (.int 1), .val (.int 1), .val (.int 1), .val (.int 2)]) (S' := [.int 2]) rfl ?_
        refine wp_ift C (M0 hw) d0_145 (XT.i0_ne_t (by decide)) (pc' := 154) (by decide) ?_
        refine wp_seg C (M0 hw) [(.iinc 11 1, 3), (.iload 10, 2), (.iload 13, 2), (.iadd, 1), (.istore 10, 2), (.iload 12, 2)] (by decide +kernel) (pc' := 166) (L' := [.val (.int ls), .val (.int x0), .val (.int x1), .val (.int x2), .val (.int mx), .val (.int 2), .val (.int (c16 c0)), .val (.int (c16 c1)), .val (.int (c16 c2)), .val (.ref a6), .val (.int 3), .val (.int 2), .val (.int 1), .val (.int 2)]) (S' := [.int 1]) rfl ?_
        refine wp_iff C (M0 hw) d0_166 (XT.i0_eq_f (by decide)) ?_
        refine wp_seg C (M0 hw) [(.iload 10, 2), (.iload 5, 2)] (by decide +kernel) (pc' := 173) (L' := [.val (.int ls), .val (.int x0), .val (.int x1), .val (.int x2), .val (.int mx), .val (.int 2), .val (.int (c16 c0)), .val (.int (c16 c1)), .val (.int (c16 c2)), .val (.ref a6), .val (.int 3), .val (.int 2), .val (.int 1), .val (.int 2)]) (S' := [.int 2, .int 3]) rfl ?_
        refine wp_ict C (M0 hw) d0_173 (XT.ii_ge_t (by decide)) (pc' := 212) (by decide) ?_
        refine wp_seg C (M0 hw) [(.iload 12, 2)] (by decide +kernel) (pc' := 214) (L' := [.val (.int ls), .val (.int x0), .val (.int x1), .val (.int x2), .val (.int mx), .val (.int 2), .val (.int (c16 c0)), .val (.int (c16 c1)), .val (.int (c16 c2)), .val (.ref a6), .val (.int 3), .val (.int 2), .val (.int 1), .val (.int 2)]) (S' := [.int 1]) rfl ?_
        refine wp_iff C (M0 hw) d0_214 (XT.i0_eq_f (by decide)) ?_
        refine wp_seg C (M0 hw) [(.iload 11, 2), (.iconst 1, 1)] (by decide +kernel) (pc' := 220) (L' := [.val (.int ls), .val (.int x0), .val (.int x1), .val (.int x2), .val (.int mx), .val (.int 2), .val (.int (c16 c0)), .val (.int (c16 c1)), .val (.int (c16 c2)), .val (.ref a6), .val (.int 3), .val (.int 2), .val (.int 1), .val (.int 2)]) (S' := [.int 1, .int 2]) rfl ?_
        refine wp_icf C (M0 hw) d0_220 (XT.ii_lt_f (by decide)) ?_
        refine wp_seg C (M0 hw) [(.iload 11, 2), (.iload 4, 2)] (by decide +kernel) (pc' := 227) (L' := [.val (.int ls), .val (.int x0), .val (.int x1), .val (.int x2), .val (.int mx), .val (.int 2), .val (.int (c16 c0)), .val (.int (c16 c1)), .val (.int (c16 c2)), .val (.ref a6), .val (.int 3), .val (.int 2), .val (.int 1), .val (.int 2)]) (S' := [.int mx, .int 2]) rfl ?_
        by_cases hm : mx < (2 : Int32)
        · refine wp_ict C (M0 hw) d0_227 (XT.ii_gt_t hm) (pc' := 234) (by decide) ?_
          refine wp_seg C (M0 hw) [(.iconst 0, 1), (.istore 13, 2)] (by decide +kernel) (pc' := 237) (L' := [.val (.int ls), .val (.int x0), .val (.int x1), .val (.int x2), .val (.int mx), .val (.int 2), .val (.int (c16 c0)), .val (.int (c16 c1)), .val (.int (c16 c2)), .val (.ref a6), .val (.int 3), .val (.int 2), .val (.int 1), .val (.int 0)]) (S' := []) rfl ?_
          exact J _ _ _ _ (bi_f (fun r => by have r0 := (vf_go (i := 0) (Nat.le_of_ble_eq_true rfl)).mp r; have r0s := r0.2.2; rw [show stp [c0, c1] 0 = 1 from g0] at r0s; have r1 := (vf_go (i := (0 + 1)) (Nat.le_of_ble_eq_true rfl)).mp r0s; exact r1.2.1 hm))
        · refine wp_icf C (M0 hw) d0_227 (XT.ii_gt_f hm) ?_
          refine wp_seg C (M0 hw) [(.iconst 1, 1), (.goto 4, 3), (.istore 13, 2)] (by decide +kernel) (pc' := 237) (L' := [.val (.int ls), .val (.int x0), .val (.int x1), .val (.int x2), .val (.int mx), .val (.int 2), .val (.int (c16 c0)), .val (.int (c16 c1)), .val (.int (c16 c2)), .val (.ref a6), .val (.int 3), .val (.int 2), .val (.int 1), .val (.int 1)]) (S' := []) rfl ?_
          exact J _ _ _ _ (bi_t ((vf_go (i := 0) (Nat.le_of_ble_eq_true rfl)).mpr ⟨(fun q => by rw [show stp [c0, c1] 0 = 1 from g0] at q; cases q), mx_mono (b := 2) hm (Nat.le_of_ble_eq_true rfl) (Nat.le_of_ble_eq_true rfl), by rw [show stp [c0, c1] 0 = 1 from g0]; exact (vf_go (i := (0 + 1)) (Nat.le_of_ble_eq_true rfl)).mpr ⟨(fun q => by rw [show stp [c0, c1] (0 + 1) = 2 from g1] at q; cases q), mx_mono (b := 2) hm (Nat.le_of_ble_eq_true rfl) (Nat.le_of_ble_eq_true rfl), by rw [show stp [c0, c1] (0 + 1) = 2 from g1]; exact (vf_end (Nat.not_lt.mpr (Nat.le_of_ble_eq_true rfl))).mpr (Nat.le_of_ble_eq_true rfl)⟩⟩))
    · show WP κ y0 93 [.val (.int ls), .val (.int x0), .val (.int x1), .val (.int x2), .val (.int mx), .val (.int 2), .val (.int (c16 c0)), .val (.int (c16 c1)), .val (.int (c16 c2)), .val (.ref a6), .val (.int 0), .val (.int 0), .val (.int 1), .unset] [.int 2] [] [(a6, true, .inr (.char, [.int (c16 c0), .int (c16 c1)]))] 1 2
      refine wp_seg C (M0 hw) [(.istore 13, 2), (.iload 13, 2)] (by decide +kernel) (pc' := 97) (L' := [.val (.int ls), .val (.int x0), .val (.int x1), .val (.int x2), .val (.int mx), .val (.int 2), .val (.int (c16 c0)), .val (.int (c16 c1)), .val (.int (c16 c2)), .val (.ref a6), .val (.int 0), .val (.int 0), .val (.int 1), .val (.int 2)]) (S' := [.int 2]) rfl ?_
      refine wp_ift C (M0 hw) d0_97 (XT.i0_ne_t (by decide)) (pc' := 106) (by decide) ?_
      refine wp_seg C (M0 hw) [(.iinc 11 1, 3), (.iload 10, 2), (.iload 13, 2), (.iadd, 1), (.istore 10, 2), (.iload 12, 2)] (by decide +kernel) (pc' := 118) (L' := [.val (.int ls), .val (.int x0), .val (.int x1), .val (.int x2), .val (.int mx), .val (.int 2), .val (.int (c16 c0)), .val (.int (c16 c1)), .val (.int (c16 c2)), .val (.ref a6), .val (.int 2), .val (.int 1), .val (.int 1), .val (.int 2)]) (S' := [.int 1]) rfl ?_
      refine wp_iff C (M0 hw) d0_118 (XT.i0_eq_f (by decide)) ?_
      refine wp_seg C (M0 hw) [(.iload 10, 2), (.iload 5, 2)] (by decide +kernel) (pc' := 125) (L' := [.val (.int ls), .val (.int x0), .val (.int x1), .val (.int x2), .val (.int mx), .val (.int 2), .val (.int (c16 c0)), .val (.int (c16 c1)), .val (.int (c16 c2)), .val (.ref a6), .val (.int 2), .val (.int 1), .val (.int 1), .val (.int 2)]) (S' := [.int 2, .int 2]) rfl ?_
      refine wp_ict C (M0 hw) d0_125 (XT.ii_ge_t (by decide)) (pc' := 164) (by decide) ?_
      refine wp_seg C (M0 hw) [(.iload 12, 2)] (by decide +kernel) (pc' := 166) (L' := [.val (.int ls), .val (.int x0), .val (.int x1), .val (.int x2), .val (.int mx), .val (.int 2), .val (.int (c16 c0)), .val (.int (c16 c1)), .val (.int (c16 c2)), .val (.ref a6), .val (.int 2), .val (.int 1), .val (.int 1), .val (.int 2)]) (S' := [.int 1]) rfl ?_
      refine wp_iff C (M0 hw) d0_166 (XT.i0_eq_f (by decide)) ?_
      refine wp_seg C (M0 hw) [(.iload 10, 2), (.iload 5, 2)] (by decide +kernel) (pc' := 173) (L' := [.val (.int ls), .val (.int x0), .val (.int x1), .val (.int x2), .val (.int mx), .val (.int 2), .val (.int (c16 c0)), .val (.int (c16 c1)), .val (.int (c16 c2)), .val (.ref a6), .val (.int 2), .val (.int 1), .val (.int 1), .val (.int 2)]) (S' := [.int 2, .int 2]) rfl ?_
      refine wp_ict C (M0 hw) d0_173 (XT.ii_ge_t (by decide)) (pc' := 212) (by decide) ?_
      refine wp_seg C (M0 hw) [(.iload 12, 2)] (by decide +kernel) (pc' := 214) (L' := [.val (.int ls), .val (.int x0), .val (.int x1), .val (.int x2), .val (.int mx), .val (.int 2), .val (.int (c16 c0)), .val (.int (c16 c1)), .val (.int (c16 c2)), .val (.ref a6), .val (.int 2), .val (.int 1), .val (.int 1), .val (.int 2)]) (S' := [.int 1]) rfl ?_
      refine wp_iff C (M0 hw) d0_214 (XT.i0_eq_f (by decide)) ?_
      refine wp_seg C (M0 hw) [(.iload 11, 2), (.iconst 1, 1)] (by decide +kernel) (pc' := 220) (L' := [.val (.int ls), .val (.int x0), .val (.int x1), .val (.int x2), .val (.int mx), .val (.int 2), .val (.int (c16 c0)), .val (.int (c16 c1)), .val (.int (c16 c2)), .val (.ref a6), .val (.int 2), .val (.int 1), .val (.int 1), .val (.int 2)]) (S' := [.int 1, .int 1]) rfl ?_
      refine wp_icf C (M0 hw) d0_220 (XT.ii_lt_f (by decide)) ?_
      refine wp_seg C (M0 hw) [(.iload 11, 2), (.iload 4, 2)] (by decide +kernel) (pc' := 227) (L' := [.val (.int ls), .val (.int x0), .val (.int x1), .val (.int x2), .val (.int mx), .val (.int 2), .val (.int (c16 c0)), .val (.int (c16 c1)), .val (.int (c16 c2)), .val (.ref a6), .val (.int 2), .val (.int 1), .val (.int 1), .val (.int 2)]) (S' := [.int mx, .int 1]) rfl ?_
      by_cases hm : mx < (1 : Int32)
      · refine wp_ict C (M0 hw) d0_227 (XT.ii_gt_t hm) (pc' := 234) (by decide) ?_
        refine wp_seg C (M0 hw) [(.iconst 0, 1), (.istore 13, 2)] (by decide +kernel) (pc' := 237) (L' := [.val (.int ls), .val (.int x0), .val (.int x1), .val (.int x2), .val (.int mx), .val (.int 2), .val (.int (c16 c0)), .val (.int (c16 c1)), .val (.int (c16 c2)), .val (.ref a6), .val (.int 2), .val (.int 1), .val (.int 1), .val (.int 0)]) (S' := []) rfl ?_
        exact J _ _ _ _ (bi_f (fun r => by have r0 := (vf_go (i := 0) (Nat.le_of_ble_eq_true rfl)).mp r; exact r0.2.1 hm))
      · refine wp_icf C (M0 hw) d0_227 (XT.ii_gt_f hm) ?_
        refine wp_seg C (M0 hw) [(.iconst 1, 1), (.goto 4, 3), (.istore 13, 2)] (by decide +kernel) (pc' := 237) (L' := [.val (.int ls), .val (.int x0), .val (.int x1), .val (.int x2), .val (.int mx), .val (.int 2), .val (.int (c16 c0)), .val (.int (c16 c1)), .val (.int (c16 c2)), .val (.ref a6), .val (.int 2), .val (.int 1), .val (.int 1), .val (.int 1)]) (S' := []) rfl ?_
        exact J _ _ _ _ (bi_t ((vf_go (i := 0) (Nat.le_of_ble_eq_true rfl)).mpr ⟨(fun q => by rw [show stp [c0, c1] 0 = 2 from g0] at q; cases q), mx_mono (b := 1) hm (Nat.le_of_ble_eq_true rfl) (Nat.le_of_ble_eq_true rfl), by rw [show stp [c0, c1] 0 = 2 from g0]; exact (vf_end (Nat.not_lt.mpr (Nat.le_of_ble_eq_true rfl))).mpr (Nat.le_of_ble_eq_true rfl)⟩))
  · refine wp_seg C (M0 hw) [(.istore 5, 2), (.iload_n 1, 1)] (by decide +kernel) (pc' := 6) (L' := [.val (.int ls), .val (.int x0), .val (.int x1), .val (.int x2), .val (.int mx), .val (.int 3), .unset, .unset, .unset, .unset, .unset, .unset, .unset, .unset]) (S' := [.int x0]) rfl ?_
    refine wp_invokestatic C (M0 hw) d0_6 (M20 hw) (w1 hw) (w2 hw) (w3 hw) (by decide) (S' := []) [.int x0] (lenOf pd20 rfl) rfl (L' := [.val (.int x0), .unset]) rfl rfl (Rm.law (d := 1) (w := 13) hr hx (Nat.le_of_ble_eq_true rfl) (Nat.le_of_ble_eq_true rfl)) ?_
    refine c_draw C hw  (Meth.caller (M0 hw) d0_6)  fun c0 => ?_
    refine wp_seg C (M0 hw) [(.istore 6, 2), (.iload_n 2, 1)] (by decide +kernel) (pc' := 12) (L' := [.val (.int ls), .val (.int x0), .val (.int x1), .val (.int x2), .val (.int mx), .val (.int 3), .val (.int (c16 c0)), .unset, .unset, .unset, .unset, .unset, .unset, .unset]) (S' := [.int x1]) rfl ?_
    refine wp_invokestatic C (M0 hw) d0_12 (M20 hw) (w1 hw) (w2 hw) (w3 hw) (by decide) (S' := []) [.int x1] (lenOf pd20 rfl) rfl (L' := [.val (.int x1), .unset]) rfl rfl (Rm.law (d := 1) (w := 13) hr hx (Nat.le_of_ble_eq_true rfl) (Nat.le_of_ble_eq_true rfl)) ?_
    refine c_draw C hw  (Meth.caller (M0 hw) d0_12)  fun c1 => ?_
    refine wp_seg C (M0 hw) [(.istore 7, 2), (.iload_n 3, 1)] (by decide +kernel) (pc' := 18) (L' := [.val (.int ls), .val (.int x0), .val (.int x1), .val (.int x2), .val (.int mx), .val (.int 3), .val (.int (c16 c0)), .val (.int (c16 c1)), .unset, .unset, .unset, .unset, .unset, .unset]) (S' := [.int x2]) rfl ?_
    refine wp_invokestatic C (M0 hw) d0_18 (M20 hw) (w1 hw) (w2 hw) (w3 hw) (by decide) (S' := []) [.int x2] (lenOf pd20 rfl) rfl (L' := [.val (.int x2), .unset]) rfl rfl (Rm.law (d := 1) (w := 13) hr hx (Nat.le_of_ble_eq_true rfl) (Nat.le_of_ble_eq_true rfl)) ?_
    refine c_draw C hw  (Meth.caller (M0 hw) d0_18)  fun c2 => ?_
    refine wp_seg C (M0 hw) [(.istore 8, 2), (.iload 5, 2)] (by decide +kernel) (pc' := 25) (L' := [.val (.int ls), .val (.int x0), .val (.int x1), .val (.int x2), .val (.int mx), .val (.int 3), .val (.int (c16 c0)), .val (.int (c16 c1)), .val (.int (c16 c2)), .unset, .unset, .unset, .unset, .unset]) (S' := [.int 3]) rfl ?_
    refine wp_newarray C (M0 hw) d0_25 rfl (w6 hw) (len := 3) ⟨by decide, by decide⟩ (by decide) (rc hr (Nat.le_of_ble_eq_true rfl)) (rs hr (Nat.le_of_ble_eq_true rfl)) (vs := [.int 0, .int 0, .int 0]) rfl fun a8 => ?_
    refine wp_seg C (M0 hw) [(.astore 9, 2), (.iload 5, 2)] (by decide +kernel) (pc' := 31) (L' := [.val (.int ls), .val (.int x0), .val (.int x1), .val (.int x2), .val (.int mx), .val (.int 3), .val (.int (c16 c0)), .val (.int (c16 c1)), .val (.int (c16 c2)), .val (.ref a8), .unset, .unset, .unset, .unset]) (S' := [.int 3]) rfl ?_
    refine wp_iff C (M0 hw) d0_31 (XT.i0_le_f (by decide)) ?_
    refine wp_seg C (M0 hw) [(.aload 9, 2), (.iconst 0, 1), (.iload 6, 2)] (by decide +kernel) (pc' := 39) (L' := [.val (.int ls), .val (.int x0), .val (.int x1), .val (.int x2), .val (.int mx), .val (.int 3), .val (.int (c16 c0)), .val (.int (c16 c1)), .val (.int (c16 c2)), .val (.ref a8), .unset, .unset, .unset, .unset]) (S' := [.int (c16 c0), .int 0, .ref a8]) rfl ?_
    refine wp_castore C (M0 hw) d0_39 (i := 0) (j := 0) rfl ⟨by decide, by decide⟩ (Nat.le_of_ble_eq_true rfl) (v' := .int (c16 c0)) (congrArg Value.int (c16_i2c _)) (l' := [(a8, true, .inr (.char, [.int (c16 c0), .int 0, .int 0]))]) rfl ?_
    refine wp_seg C (M0 hw) [(.iload 5, 2), (.iconst 1, 1)] (by decide +kernel) (pc' := 43) (L' := [.val (.int ls), .val (.int x0), .val (.int x1), .val (.int x2), .val (.int mx), .val (.int 3), .val (.int (c16 c0)), .val (.int (c16 c1)), .val (.int (c16 c2)), .val (.ref a8), .unset, .unset, .unset, .unset]) (S' := [.int 1, .int 3]) rfl ?_
    refine wp_icf C (M0 hw) d0_43 (XT.ii_le_f (by decide)) ?_
    refine wp_seg C (M0 hw) [(.aload 9, 2), (.iconst 1, 1), (.iload 7, 2)] (by decide +kernel) (pc' := 51) (L' := [.val (.int ls), .val (.int x0), .val (.int x1), .val (.int x2), .val (.int mx), .val (.int 3), .val (.int (c16 c0)), .val (.int (c16 c1)), .val (.int (c16 c2)), .val (.ref a8), .unset, .unset, .unset, .unset]) (S' := [.int (c16 c1), .int 1, .ref a8]) rfl ?_
    refine wp_castore C (M0 hw) d0_51 (i := 0) (j := 1) rfl ⟨by decide, by decide⟩ (Nat.le_of_ble_eq_true rfl) (v' := .int (c16 c1)) (congrArg Value.int (c16_i2c _)) (l' := [(a8, true, .inr (.char, [.int (c16 c0), .int (c16 c1), .int 0]))]) rfl ?_
    refine wp_seg C (M0 hw) [(.iload 5, 2), (.iconst 2, 1)] (by decide +kernel) (pc' := 55) (L' := [.val (.int ls), .val (.int x0), .val (.int x1), .val (.int x2), .val (.int mx), .val (.int 3), .val (.int (c16 c0)), .val (.int (c16 c1)), .val (.int (c16 c2)), .val (.ref a8), .unset, .unset, .unset, .unset]) (S' := [.int 2, .int 3]) rfl ?_
    refine wp_icf C (M0 hw) d0_55 (XT.ii_le_f (by decide)) ?_
    refine wp_seg C (M0 hw) [(.aload 9, 2), (.iconst 2, 1), (.iload 8, 2)] (by decide +kernel) (pc' := 63) (L' := [.val (.int ls), .val (.int x0), .val (.int x1), .val (.int x2), .val (.int mx), .val (.int 3), .val (.int (c16 c0)), .val (.int (c16 c1)), .val (.int (c16 c2)), .val (.ref a8), .unset, .unset, .unset, .unset]) (S' := [.int (c16 c2), .int 2, .ref a8]) rfl ?_
    refine wp_castore C (M0 hw) d0_63 (i := 0) (j := 2) rfl ⟨by decide, by decide⟩ (Nat.le_of_ble_eq_true rfl) (v' := .int (c16 c2)) (congrArg Value.int (c16_i2c _)) (l' := [(a8, true, .inr (.char, [.int (c16 c0), .int (c16 c1), .int (c16 c2)]))]) rfl ?_
    have J : ∀ (vi vc vo E : Int32), bi (vf [c0, c1, c2] mx 4 0 0) = E → WP κ y0 237 [.val (.int ls), .val (.int x0), .val (.int x1), .val (.int x2), .val (.int mx), .val (.int 3), .val (.int (c16 c0)), .val (.int (c16 c1)), .val (.int (c16 c2)), .val (.ref a8), .val (.int vi), .val (.int vc), .val (.int vo), .val (.int E)] [] [] [(a8, true, .inr (.char, [.int (c16 c0), .int (c16 c1), .int (c16 c2)]))] 1 3 := by
      intro vi vc vo E hE2
      refine wp_new C (M0 hw) d0_237 (w7 hw) (w8 hw) (w9 hw) (cls_Str hw) (rc hr (Nat.le_of_ble_eq_true rfl)) (rs hr (Nat.le_of_ble_eq_true rfl)) fun a9 => ?_
      refine wp_seg C (M0 hw) [(.dup, 1), (.aload 9, 2)] (by decide +kernel) (pc' := 243) (L' := [.val (.int ls), .val (.int x0), .val (.int x1), .val (.int x2), .val (.int mx), .val (.int 3), .val (.int (c16 c0)), .val (.int (c16 c1)), .val (.int (c16 c2)), .val (.ref a8), .val (.int vi), .val (.int vc), .val (.int vo), .val (.int E)]) (S' := [.ref a8, .ref a9, .ref a9]) rfl ?_
      refine wp_init C (M0 hw) d0_243 (M10 hw) rfl (w10 hw) (w11 hw) (by decide) (S' := [.ref a9]) a9 [.ref a8] (lenOf pd10 rfl) rfl (L' := [.val (.ref a9), .val (.ref a8)]) rfl rfl (Rm.law (d := 1) (w := 13) hr hx (Nat.le_of_ble_eq_true rfl) (Nat.le_of_ble_eq_true rfl)) ?_
      refine c_initU C hw hs hu (cs := [c0, c1, c2]) (Nat.le_of_ble_eq_true rfl) (Nat.le_of_ble_eq_true rfl) (Meth.caller (M0 hw) d0_243) (Rm.law (d := 6) (w := 87) hr hx (Nat.le_of_ble_eq_true rfl) (Nat.le_of_ble_eq_true rfl)) (mc := true) (List.mem_of_getElem? (i := 0) rfl) (rc hr (Nat.le_of_ble_eq_true rfl)) (rs hr (Nat.le_of_ble_eq_true rfl)) fun q => ?_
      refine wp_seg C (M0 hw) [(.iload 4, 2)] (by decide +kernel) (pc' := 248) (L' := [.val (.int ls), .val (.int x0), .val (.int x1), .val (.int x2), .val (.int mx), .val (.int 3), .val (.int (c16 c0)), .val (.int (c16 c1)), .val (.int (c16 c2)), .val (.ref a8), .val (.int vi), .val (.int vc), .val (.int vo), .val (.int E)]) (S' := [.int mx, .ref a9]) rfl ?_
      refine wp_invokestatic C (M0 hw) d0_248 (M28 hw) (w28 hw) (w29 hw) (w30 hw) (by decide) (S' := []) [.ref a9, .int mx] (lenOf pd28 rfl) rfl (L' := [.val (.ref a9), .val (.int mx), .unset, .unset, .unset]) rfl rfl (Rm.law (d := 1) (w := 16) hr hx (Nat.le_of_ble_eq_true rfl) (Nat.le_of_ble_eq_true rfl)) ?_
      refine c_fv C hw (cs := [c0, c1, c2]) hs hu (Nat.le_of_ble_eq_true rfl) (Meth.caller (M0 hw) d0_248) (Rm.law (d := 5) (w := 74) hr hx (Nat.le_of_ble_eq_true rfl) (Nat.le_of_ble_eq_true rfl)) ⟨q, (List.mem_of_getElem? (i := 0) rfl), (List.mem_of_getElem? (i := 1) rfl)⟩ ?_
      refine wp_seg C (M0 hw) [(.iload 13, 2)] (by decide +kernel) (pc' := 253) (L' := [.val (.int ls), .val (.int x0), .val (.int x1), .val (.int x2), .val (.int mx), .val (.int 3), .val (.int (c16 c0)), .val (.int (c16 c1)), .val (.int (c16 c2)), .val (.ref a8), .val (.int vi), .val (.int vc), .val (.int vo), .val (.int E)]) (S' := [.int E, .int (bi (vf [c0, c1, c2] mx 4 0 0))]) rfl ?_
      refine wp_icf C (M0 hw) d0_253 (XT.ii_ne_f hE2) ?_
      refine wp_seg C (M0 hw) [(.iconst 1, 1), (.goto 4, 3)] (by decide +kernel) (pc' := 261) (L' := [.val (.int ls), .val (.int x0), .val (.int x1), .val (.int x2), .val (.int mx), .val (.int 3), .val (.int (c16 c0)), .val (.int (c16 c1)), .val (.int (c16 c2)), .val (.ref a8), .val (.int vi), .val (.int vc), .val (.int vo), .val (.int E)]) (S' := [.int 1]) rfl ?_
      exact wp_end C (M0 hw) d0_261
    refine wp_seg C (M0 hw) [(.iconst 0, 1), (.istore 10, 2), (.iconst 0, 1), (.istore 11, 2), (.iconst 1, 1), (.istore 12, 2), (.iload 10, 2), (.iload 5, 2)] (by decide +kernel) (pc' := 77) (L' := [.val (.int ls), .val (.int x0), .val (.int x1), .val (.int x2), .val (.int mx), .val (.int 3), .val (.int (c16 c0)), .val (.int (c16 c1)), .val (.int (c16 c2)), .val (.ref a8), .val (.int 0), .val (.int 0), .val (.int 1), .unset]) (S' := [.int 3, .int 0]) rfl ?_
    refine wp_icf C (M0 hw) d0_77 (XT.ii_ge_f (by decide)) ?_
    refine wp_seg C (M0 hw) [(.iload 6, 2), (.iload 7, 2), (.iload 8, 2), (.iload 5, 2), (.iload 10, 2)] (by decide +kernel) (pc' := 90) (L' := [.val (.int ls), .val (.int x0), .val (.int x1), .val (.int x2), .val (.int mx), .val (.int 3), .val (.int (c16 c0)), .val (.int (c16 c1)), .val (.int (c16 c2)), .val (.ref a8), .val (.int 0), .val (.int 0), .val (.int 1), .unset]) (S' := [.int 0, .int 3, .int (c16 c2), .int (c16 c1), .int (c16 c0)]) rfl ?_
    refine wp_invokestatic C (M0 hw) d0_90 (M22 hw) (w43 hw) (w44 hw) (w3 hw) (by decide) (S' := []) [.int (c16 c0), .int (c16 c1), .int (c16 c2), .int 3, .int 0] (lenOf pd22 rfl) rfl (L' := [.val (.int (c16 c0)), .val (.int (c16 c1)), .val (.int (c16 c2)), .val (.int 3), .val (.int 0), .unset]) rfl rfl (Rm.law (d := 1) (w := 17) hr hx (Nat.le_of_ble_eq_true rfl) (Nat.le_of_ble_eq_true rfl)) ?_
    refine c_step30 C hw  (Meth.caller (M0 hw) d0_90) (Rm.law (d := 2) (w := 32) hr hx (Nat.le_of_ble_eq_true rfl) (Nat.le_of_ble_eq_true rfl))  ?_
    rcases stp_cases [c0, c1, c2] 0 with g0 | g0 | g0 <;> rw [g0]
    · show WP κ y0 93 [.val (.int ls), .val (.int x0), .val (.int x1), .val (.int x2), .val (.int mx), .val (.int 3), .val (.int (c16 c0)), .val (.int (c16 c1)), .val (.int (c16 c2)), .val (.ref a8), .val (.int 0), .val (.int 0), .val (.int 1), .unset] [.int 0] [] [(a8, true, .inr (.char, [.int (c16 c0), .int (c16 c1), .int (c16 c2)]))] 1 3
      refine wp_seg C (M0 hw) [(.istore 13, 2), (.iload 13, 2)] (by decide +kernel) (pc' := 97) (L' := [.val (.int ls), .val (.int x0), .val (.int x1), .val (.int x2), .val (.int mx), .val (.int 3), .val (.int (c16 c0)), .val (.int (c16 c1)), .val (.int (c16 c2)), .val (.ref a8), .val (.int 0), .val (.int 0), .val (.int 1), .val (.int 0)]) (S' := [.int 0]) rfl ?_
      refine wp_iff C (M0 hw) d0_97 (XT.i0_ne_f (by decide)) ?_
      refine wp_seg C (M0 hw) [(.iconst 0, 1), (.istore 12, 2), (.goto 13, 3), (.iload 12, 2)] (by decide +kernel) (pc' := 118) (L' := [.val (.int ls), .val (.int x0), .val (.int x1), .val (.int x2), .val (.int mx), .val (.int 3), .val (.int (c16 c0)), .val (.int (c16 c1)), .val (.int (c16 c2)), .val (.ref a8), .val (.int 0), .val (.int 0), .val (.int 0), .val (.int 0)]) (S' := [.int 0]) rfl ?_
      refine wp_ift C (M0 hw) d0_118 (XT.i0_eq_t (by decide)) (pc' := 164) (by decide) ?_
      refine wp_seg C (M0 hw) [(.iload 12, 2)] (by decide +kernel) (pc' := 166) (L' := [.val (.int ls), .val (.int x0), .val (.int x1), .val (.int x2), .val (.int mx), .val (.int 3), .val (.int (c16 c0)), .val (.int (c16 c1)), .val (.int (c16 c2)), .val (.ref a8), .val (.int 0), .val (.int 0), .val (.int 0), .val (.int 0)]) (S' := [.int 0]) rfl ?_
      refine wp_ift C (M0 hw) d0_166 (XT.i0_eq_t (by decide)) (pc' := 212) (by decide) ?_
      refine wp_seg C (M0 hw) [(.iload 12, 2)] (by decide +kernel) (pc' := 214) (L' := [.val (.int ls), .val (.int x0), .val (.int x1), .val (.int x2), .val (.int mx), .val (.int 3), .val (.int (c16 c0)), .val (.int (c16 c1)), .val (.int (c16 c2)), .val (.ref a8), .val (.int 0), .val (.int 0), .val (.int 0), .val (.int 0)]) (S' := [.int 0]) rfl ?_
      refine wp_ift C (M0 hw) d0_214 (XT.i0_eq_t (by decide)) (pc' := 234) (by decide) ?_
      refine wp_seg C (M0 hw) [(.iconst 0, 1), (.istore 13, 2)] (by decide +kernel) (pc' := 237) (L' := [.val (.int ls), .val (.int x0), .val (.int x1), .val (.int x2), .val (.int mx), .val (.int 3), .val (.int (c16 c0)), .val (.int (c16 c1)), .val (.int (c16 c2)), .val (.ref a8), .val (.int 0), .val (.int 0), .val (.int 0), .val (.int 0)]) (S' := []) rfl ?_
      exact J _ _ _ _ (bi_f (fun r => by have r0 := (vf_go (i := 0) (Nat.le_of_ble_eq_true rfl)).mp r; exact r0.1 g0))
    · show WP κ y0 93 [.val (.int ls), .val (.int x0), .val (.int x1), .val (.int x2), .val (.int mx), .val (.int 3), .val (.int (c16 c0)), .val (.int (c16 c1)), .val (.int (c16 c2)), .val (.ref a8), .val (.int 0), .val (.int 0), .val (.int 1), .unset] [.int 1] [] [(a8, true, .inr (.char, [.int (c16 c0), .int (c16 c1), .int (c16 c2)]))] 1 3
      refine wp_seg C (M0 hw) [(.istore 13, 2), (.iload 13, 2)] (by decide +kernel) (pc' := 97) (L' := [.val (.int ls), .val (.int x0), .val (.int x1), .val (.int x2), .val (.int mx), .val (.int 3), .val (.int (c16 c0)), .val (.int (c16 c1)), .val (.int (c16 c2)), .val (.ref a8), .val (.int 0), .val (.int 0), .val (.int 1), .val (.int 1)]) (S' := [.int 1]) rfl ?_
      refine wp_ift C (M0 hw) d0_97 (XT.i0_ne_t (by decide)) (pc' := 106) (by decide) ?_
      refine wp_seg C (M0 hw) [(.iinc 11 1, 3), (.iload 10, 2), (.iload 13, 2), (.iadd, 1), (.istore 10, 2), (.iload 12, 2)] (by decide +kernel) (pc' := 118) (L' := [.val (.int ls), .val (.int x0), .val (.int x1), .val (.int x2), .val (.int mx), .val (.int 3), .val (.int (c16 c0)), .val (.int (c16 c1)), .val (.int (c16 c2)), .val (.ref a8), .val (.int 1), .val (.int 1), .val (.int 1), .val (.int 1)]) (S' := [.int 1]) rfl ?_
      refine wp_iff C (M0 hw) d0_118 (XT.i0_eq_f (by decide)) ?_
      refine wp_seg C (M0 hw) [(.iload 10, 2), (.iload 5, 2)] (by decide +kernel) (pc' := 125) (L' := [.val (.int ls), .val (.int x0), .val (.int x1), .val (.int x2), .val (.int mx), .val (.int 3), .val (.int (c16 c0)), .val (.int (c16 c1)), .val (.int (c16 c2)), .val (.ref a8), .val (.int 1), .val (.int 1), .val (.int 1), .val (.int 1)]) (S' := [.int 3, .int 1]) rfl ?_
      refine wp_icf C (M0 hw) d0_125 (XT.ii_ge_f (by decide)) ?_
      refine wp_seg C (M0 hw) [(.iload 6, 2), (.iload 7, 2), (.iload 8, 2), (.iload 5, 2), (.iload 10, 2)] (by decide +kernel) (pc' := 138) (L' := [.val (.int ls), .val (.int x0), .val (.int x1), .val (.int x2), .val (.int mx), .val (.int 3), .val (.int (c16 c0)), .val (.int (c16 c1)), .val (.int (c16 c2)), .val (.ref a8), .val (.int 1), .val (.int 1), .val (.int 1), .val (.int 1)]) (S' := [.int 1, .int 3, .int (c16 c2), .int (c16 c1), .int (c16 c0)]) rfl ?_
      refine wp_invokestatic C (M0 hw) d0_138 (M22 hw) (w43 hw) (w44 hw) (w3 hw) (by decide) (S' := []) [.int (c16 c0), .int (c16 c1), .int (c16 c2), .int 3, .int 1] (lenOf pd22 rfl) rfl (L' := [.val (.int (c16 c0)), .val (.int (c16 c1)), .val (.int (c16 c2)), .val (.int 3), .val (.int 1), .unset]) rfl rfl (Rm.law (d := 1) (w := 17) hr hx (Nat.le_of_ble_eq_true rfl) (Nat.le_of_ble_eq_true rfl)) ?_
      refine c_step31 C hw  (Meth.caller (M0 hw) d0_138) (Rm.law (d := 2) (w := 32) hr hx (Nat.le_of_ble_eq_true rfl) (Nat.le_of_ble_eq_true rfl))  ?_
      rcases stp_cases [c0, c1, c2] 1 with g1 | g1 | g1 <;> rw [g1]
      · show WP κ y0 141 [.val (.int ls), .val (.int x0), .val (.int x1), .val (.int x2), .val (.int mx), .val (.int 3), .val (.int (c16 c0)), .val (.int (c16 c1)), .val (.int (c16 c2)), .val (.ref a8), .val (.int 1), .val (.int 1), .val (.int 1), .val (.int 1)] [.int 0] [] [(a8, true, .inr (.char, [.int (c16 c0), .int (c16 c1), .int (c16 c2)]))] 1 3
        refine wp_seg C (M0 hw) [(.istore 13, 2), (.iload 13, 2)] (by decide +kernel) (pc' := 145) (L' := [.val (.int ls), .val (.int x0), .val (.int x1), .val (.int x2), .val (.int mx), .val (.int 3), .val (.int (c16 c0)), .val (.int (c16 c1)), .val (.int (c16 c2)), .val (.ref a8), .val (.int 1), .val (.int 1), .val (.int 1), .val (.int 0)]) (S' := [.int 0]) rfl ?_
        refine wp_iff C (M0 hw) d0_145 (XT.i0_ne_f (by decide)) ?_
        refine wp_seg C (M0 hw) [(.iconst 0, 1), (.istore 12, 2), (.goto 13, 3), (.iload 12, 2)] (by decide +kernel) (pc' := 166) (L' := [.val (.int ls), .val (.int x0), .val (.int x1), .val (.int x2), .val (.int mx), .val (.int 3), .val (.int (c16 c0)), .val (.int (c16 c1)), .val (.int (c16 c2)), .val (.ref a8), .val (.int 1), .val (.int 1), .val (.int 0), .val (.int 0)]) (S' := [.int 0]) rfl ?_
        refine wp_ift C (M0 hw) d0_166 (XT.i0_eq_t (by decide)) (pc' := 212) (by decide) ?_
        refine wp_seg C (M0 hw) [(.iload 12, 2)] (by decide +kernel) (pc' := 214) (L' := [.val (.int ls), .val (.int x0), .val (.int x1), .val (.int x2), .val (.int mx), .val (.int 3), .val (.int (c16 c0)), .val (.int (c16 c1)), .val (.int (c16 c2)), .val (.ref a8), .val (.int 1), .val (.int 1), .val (.int 0), .val (.int 0)]) (S' := [.int 0]) rfl ?_
        refine wp_ift C (M0 hw) d0_214 (XT.i0_eq_t (by decide)) (pc' := 234) (by decide) ?_
        refine wp_seg C (M0 hw) [(.iconst 0, 1), (.istore 13, 2)] (by decide +kernel) (pc' := 237) (L' := [.val (.int ls), .val (.int x0), .val (.int x1), .val (.int x2), .val (.int mx), .val (.int 3), .val (.int (c16 c0)), .val (.int (c16 c1)), .val (.int (c16 c2)), .val (.ref a8), .val (.int 1), .val (.int 1), .val (.int 0), .val (.int 0)]) (S' := []) rfl ?_
        exact J _ _ _ _ (bi_f (fun r => by have r0 := (vf_go (i := 0) (Nat.le_of_ble_eq_true rfl)).mp r; have r0s := r0.2.2; rw [show stp [c0, c1, c2] 0 = 1 from g0] at r0s; have r1 := (vf_go (i := (0 + 1)) (Nat.le_of_ble_eq_true rfl)).mp r0s; exact r1.1 g1))
      · show WP κ y0 141 [.val (.int ls), .val (.int x0), .val (.int x1), .val (.int x2), .val (.int mx), .val (.int 3), .val (.int (c16 c0)), .val (.int (c16 c1)), .val (.int (c16 c2)), .val (.ref a8), .val (.int 1), .val (.int 1), .val (.int 1), .val (.int 1)] [.int 1] [] [(a8, true, .inr (.char, [.int (c16 c0), .int (c16 c1), .int (c16 c2)]))] 1 3
        refine wp_seg C (M0 hw) [(.istore 13, 2), (.iload 13, 2)] (by decide +kernel) (pc' := 145) (L' := [.val (.int ls), .val (.int x0), .val (.int x1), .val (.int x2), .val (.int mx), .val (.int 3), .val (.int (c16 c0)), .val (.int (c16 c1)), .val (.int (c16 c2)), .val (.ref a8), .val (.int 1), .val (.int 1), .val (.int 1), .val (.int 1)]) (S' := [.int 1]) rfl ?_
        refine wp_ift C (M0 hw) d0_145 (XT.i0_ne_t (by decide)) (pc' := 154) (by decide) ?_
        refine wp_seg C (M0 hw) [(.iinc 11 1, 3), (.iload 10, 2), (.iload 13, 2), (.iadd, 1), (.istore 10, 2), (.iload 12, 2)] (by decide +kernel) (pc' := 166) (L' := [.val (.int ls), .val (.int x0), .val (.int x1), .val (.int x2), .val (.int mx), .val (.int 3), .val (.int (c16 c0)), .val (.int (c16 c1)), .val (.int (c16 c2)), .val (.ref a8), .val (.int 2), .val (.int 2), .val (.int 1), .val (.int 1)]) (S' := [.int 1]) rfl ?_
        refine wp_iff C (M0 hw) d0_166 (XT.i0_eq_f (by decide)) ?_
        refine wp_seg C (M0 hw) [(.iload 10, 2), (.iload 5, 2)] (by decide +kernel) (pc' := 173) (L' := [.val (.int ls), .val (.int x0), .val (.int x1), .val (.int x2), .val (.int mx), .val (.int 3), .val (.int (c16 c0)), .val (.int (c16 c1)), .val (.int (c16 c2)), .val (.ref a8), .val (.int 2), .val (.int 2), .val (.int 1), .val (.int 1)]) (S' := [.int 3, .int 2]) rfl ?_
        refine wp_icf C (M0 hw) d0_173 (XT.ii_ge_f (by decide)) ?_
        refine wp_seg C (M0 hw) [(.iload 6, 2), (.iload 7, 2), (.iload 8, 2), (.iload 5, 2), (.iload 10, 2)] (by decide +kernel) (pc' := 186) (L' := [.val (.int ls), .val (.int x0), .val (.int x1), .val (.int x2), .val (.int mx), .val (.int 3), .val (.int (c16 c0)), .val (.int (c16 c1)), .val (.int (c16 c2)), .val (.ref a8), .val (.int 2), .val (.int 2), .val (.int 1), .val (.int 1)]) (S' := [.int 2, .int 3, .int (c16 c2), .int (c16 c1), .int (c16 c0)]) rfl ?_
        refine wp_invokestatic C (M0 hw) d0_186 (M22 hw) (w43 hw) (w44 hw) (w3 hw) (by decide) (S' := []) [.int (c16 c0), .int (c16 c1), .int (c16 c2), .int 3, .int 2] (lenOf pd22 rfl) rfl (L' := [.val (.int (c16 c0)), .val (.int (c16 c1)), .val (.int (c16 c2)), .val (.int 3), .val (.int 2), .unset]) rfl rfl (Rm.law (d := 1) (w := 17) hr hx (Nat.le_of_ble_eq_true rfl) (Nat.le_of_ble_eq_true rfl)) ?_
        refine c_step32 C hw  (Meth.caller (M0 hw) d0_186) (Rm.law (d := 2) (w := 32) hr hx (Nat.le_of_ble_eq_true rfl) (Nat.le_of_ble_eq_true rfl))  ?_
        rcases stp_cases [c0, c1, c2] 2 with g2 | g2 | g2 <;> rw [g2]
        · show WP κ y0 189 [.val (.int ls), .val (.int x0), .val (.int x1), .val (.int x2), .val (.int mx), .val (.int 3), .val (.int (c16 c0)), .val (.int (c16 c1)), .val (.int (c16 c2)), .val (.ref a8), .val (.int 2), .val (.int 2), .val (.int 1), .val (.int 1)] [.int 0] [] [(a8, true, .inr (.char, [.int (c16 c0), .int (c16 c1), .int (c16 c2)]))] 1 3
          refine wp_seg C (M0 hw) [(.istore 13, 2), (.iload 13, 2)] (by decide +kernel) (pc' := 193) (L' := [.val (.int ls), .val (.int x0), .val (.int x1), .val (.int x2), .val (.int mx), .val (.int 3), .val (.int (c16 c0)), .val (.int (c16 c1)), .val (.int (c16 c2)), .val (.ref a8), .val (.int 2), .val (.int 2), .val (.int 1), .val (.int 0)]) (S' := [.int 0]) rfl ?_
          refine wp_iff C (M0 hw) d0_193 (XT.i0_ne_f (by decide)) ?_
          refine wp_seg C (M0 hw) [(.iconst 0, 1), (.istore 12, 2), (.goto 13, 3), (.iload 12, 2)] (by decide +kernel) (pc' := 214) (L' := [.val (.int ls), .val (.int x0), .val (.int x1), .val (.int x2), .val (.int mx), .val (.int 3), .val (.int (c16 c0)), .val (.int (c16 c1)), .val (.int (c16 c2)), .val (.ref a8), .val (.int 2), .val (.int 2), .val (.int 0), .val (.int 0)]) (S' := [.int 0]) rfl ?_
          refine wp_ift C (M0 hw) d0_214 (XT.i0_eq_t (by decide)) (pc' := 234) (by decide) ?_
          refine wp_seg C (M0 hw) [(.iconst 0, 1), (.istore 13, 2)] (by decide +kernel) (pc' := 237) (L' := [.val (.int ls), .val (.int x0), .val (.int x1), .val (.int x2), .val (.int mx), .val (.int 3), .val (.int (c16 c0)), .val (.int (c16 c1)), .val (.int (c16 c2)), .val (.ref a8), .val (.int 2), .val (.int 2), .val (.int 0), .val (.int 0)]) (S' := []) rfl ?_
          exact J _ _ _ _ (bi_f (fun r => by have r0 := (vf_go (i := 0) (Nat.le_of_ble_eq_true rfl)).mp r; have r0s := r0.2.2; rw [show stp [c0, c1, c2] 0 = 1 from g0] at r0s; have r1 := (vf_go (i := (0 + 1)) (Nat.le_of_ble_eq_true rfl)).mp r0s; have r1s := r1.2.2; rw [show stp [c0, c1, c2] (0 + 1) = 1 from g1] at r1s; have r2 := (vf_go (i := ((0 + 1) + 1)) (Nat.le_of_ble_eq_true rfl)).mp r1s; exact r2.1 g2))
        · show WP κ y0 189 [.val (.int ls), .val (.int x0), .val (.int x1), .val (.int x2), .val (.int mx), .val (.int 3), .val (.int (c16 c0)), .val (.int (c16 c1)), .val (.int (c16 c2)), .val (.ref a8), .val (.int 2), .val (.int 2), .val (.int 1), .val (.int 1)] [.int 1] [] [(a8, true, .inr (.char, [.int (c16 c0), .int (c16 c1), .int (c16 c2)]))] 1 3
          refine wp_seg C (M0 hw) [(.istore 13, 2), (.iload 13, 2)] (by decide +kernel) (pc' := 193) (L' := [.val (.int ls), .val (.int x0), .val (.int x1), .val (.int x2), .val (.int mx), .val (.int 3), .val (.int (c16 c0)), .val (.int (c16 c1)), .val (.int (c16 c2)), .val (.ref a8), .val (.int 2), .val (.int 2), .val (.int 1), .val (.int 1)]) (S' := [.int 1]) rfl ?_
          refine wp_ift C (M0 hw) d0_193 (XT.i0_ne_t (by decide)) (pc' := 202) (by decide) ?_
          refine wp_seg C (M0 hw) [(.iinc 11 1, 3), (.iload 10, 2), (.iload 13, 2), (.iadd, 1), (.istore 10, 2), (.iload 12, 2)] (by decide +kernel) (pc' := 214) (L' := [.val (.int ls), .val (.int x0), .val (.int x1), .val (.int x2), .val (.int mx), .val (.int 3), .val (.int (c16 c0)), .val (.int (c16 c1)), .val (.int (c16 c2)), .val (.ref a8), .val (.int 3), .val (.int 3), .val (.int 1), .val (.int 1)]) (S' := [.int 1]) rfl ?_
          refine wp_iff C (M0 hw) d0_214 (XT.i0_eq_f (by decide)) ?_
          refine wp_seg C (M0 hw) [(.iload 11, 2), (.iconst 1, 1)] (by decide +kernel) (pc' := 220) (L' := [.val (.int ls), .val (.int x0), .val (.int x1), .val (.int x2), .val (.int mx), .val (.int 3), .val (.int (c16 c0)), .val (.int (c16 c1)), .val (.int (c16 c2)), .val (.ref a8), .val (.int 3), .val (.int 3), .val (.int 1), .val (.int 1)]) (S' := [.int 1, .int 3]) rfl ?_
          refine wp_icf C (M0 hw) d0_220 (XT.ii_lt_f (by decide)) ?_
          refine wp_seg C (M0 hw) [(.iload 11, 2), (.iload 4, 2)] (by decide +kernel) (pc' := 227) (L' := [.val (.int ls), .val (.int x0), .val (.int x1), .val (.int x2), .val (.int mx), .val (.int 3), .val (.int (c16 c0)), .val (.int (c16 c1)), .val (.int (c16 c2)), .val (.ref a8), .val (.int 3), .val (.int 3), .val (.int 1), .val (.int 1)]) (S' := [.int mx, .int 3]) rfl ?_
          by_cases hm : mx < (3 : Int32)
          · refine wp_ict C (M0 hw) d0_227 (XT.ii_gt_t hm) (pc' := 234) (by decide) ?_
            refine wp_seg C (M0 hw) [(.iconst 0, 1), (.istore 13, 2)] (by decide +kernel) (pc' := 237) (L' := [.val (.int ls), .val (.int x0), .val (.int x1), .val (.int x2), .val (.int mx), .val (.int 3), .val (.int (c16 c0)), .val (.int (c16 c1)), .val (.int (c16 c2)), .val (.ref a8), .val (.int 3), .val (.int 3), .val (.int 1), .val (.int 0)]) (S' := []) rfl ?_
            exact J _ _ _ _ (bi_f (fun r => by have r0 := (vf_go (i := 0) (Nat.le_of_ble_eq_true rfl)).mp r; have r0s := r0.2.2; rw [show stp [c0, c1, c2] 0 = 1 from g0] at r0s; have r1 := (vf_go (i := (0 + 1)) (Nat.le_of_ble_eq_true rfl)).mp r0s; have r1s := r1.2.2; rw [show stp [c0, c1, c2] (0 + 1) = 1 from g1] at r1s; have r2 := (vf_go (i := ((0 + 1) + 1)) (Nat.le_of_ble_eq_true rfl)).mp r1s; exact r2.2.1 hm))
          · refine wp_icf C (M0 hw) d0_227 (XT.ii_gt_f hm) ?_
            refine wp_seg C (M0 hw) [(.iconst 1, 1), (.goto 4, 3), (.istore 13, 2)] (by decide +kernel) (pc' := 237) (L' := [.val (.int ls), .val (.int x0), .val (.int x1), .val (.int x2), .val (.int mx), .val (.int 3), .val (.int (c16 c0)), .val (.int (c16 c1)), .val (.int (c16 c2)), .val (.ref a8), .val (.int 3), .val (.int 3), .val (.int 1), .val (.int 1)]) (S' := []) rfl ?_
            exact J _ _ _ _ (bi_t ((vf_go (i := 0) (Nat.le_of_ble_eq_true rfl)).mpr ⟨(fun q => by rw [show stp [c0, c1, c2] 0 = 1 from g0] at q; cases q), mx_mono (b := 3) hm (Nat.le_of_ble_eq_true rfl) (Nat.le_of_ble_eq_true rfl), by rw [show stp [c0, c1, c2] 0 = 1 from g0]; exact (vf_go (i := (0 + 1)) (Nat.le_of_ble_eq_true rfl)).mpr ⟨(fun q => by rw [show stp [c0, c1, c2] (0 + 1) = 1 from g1] at q; cases q), mx_mono (b := 3) hm (Nat.le_of_ble_eq_true rfl) (Nat.le_of_ble_eq_true rfl), by rw [show stp [c0, c1, c2] (0 + 1) = 1 from g1]; exact (vf_go (i := ((0 + 1) + 1)) (Nat.le_of_ble_eq_true rfl)).mpr ⟨(fun q => by rw [show stp [c0, c1, c2] ((0 + 1) + 1) = 1 from g2] at q; cases q), mx_mono (b := 3) hm (Nat.le_of_ble_eq_true rfl) (Nat.le_of_ble_eq_true rfl), by rw [show stp [c0, c1, c2] ((0 + 1) + 1) = 1 from g2]; exact (vf_end (Nat.not_lt.mpr (Nat.le_of_ble_eq_true rfl))).mpr (Nat.le_of_ble_eq_true rfl)⟩⟩⟩))
        · show WP κ y0 189 [.val (.int ls), .val (.int x0), .val (.int x1), .val (.int x2), .val (.int mx), .val (.int 3), .val (.int (c16 c0)), .val (.int (c16 c1)), .val (.int (c16 c2)), .val (.ref a8), .val (.int 2), .val (.int 2), .val (.int 1), .val (.int 1)] [.int 2] [] [(a8, true, .inr (.char, [.int (c16 c0), .int (c16 c1), .int (c16 c2)]))] 1 3
          refine wp_seg C (M0 hw) [(.istore 13, 2), (.iload 13, 2)] (by decide +kernel) (pc' := 193) (L' := [.val (.int ls), .val (.int x0), .val (.int x1), .val (.int x2), .val (.int mx), .val (.int 3), .val (.int (c16 c0)), .val (.int (c16 c1)), .val (.int (c16 c2)), .val (.ref a8), .val (.int 2), .val (.int 2), .val (.int 1), .val (.int 2)]) (S' := [.int 2]) rfl ?_
          refine wp_ift C (M0 hw) d0_193 (XT.i0_ne_t (by decide)) (pc' := 202) (by decide) ?_
          refine wp_seg C (M0 hw) [(.iinc 11 1, 3), (.iload 10, 2), (.iload 13, 2), (.iadd, 1), (.istore 10, 2), (.iload 12, 2)] (by decide +kernel) (pc' := 214) (L' := [.val (.int ls), .val (.int x0), .val (.int x1), .val (.int x2), .val (.int mx), .val (.int 3), .val (.int (c16 c0)), .val (.int (c16 c1)), .val (.int (c16 c2)), .val (.ref a8), .val (.int 4), .val (.int 3), .val (.int 1), .val (.int 2)]) (S' := [.int 1]) rfl ?_
          refine wp_iff C (M0 hw) d0_214 (XT.i0_eq_f (by decide)) ?_
          refine wp_seg C (M0 hw) [(.iload 11, 2), (.iconst 1, 1)] (by decide +kernel) (pc' := 220) (L' := [.val (.int ls), .val (.int x0), .val (.int x1), .val (.int x2), .val (.int mx), .val (.int 3), .val (.int (c16 c0)), .val (.int (c16 c1)), .val (.int (c16 c2)), .val (.ref a8), .val (.int 4), .val (.int 3), .val (.int 1), .val (.int 2)]) (S' := [.int 1, .int 3]) rfl ?_
          refine wp_icf C (M0 hw) d0_220 (XT.ii_lt_f (by decide)) ?_
          refine wp_seg C (M0 hw) [(.iload 11, 2), (.iload 4, 2)] (by decide +kernel) (pc' := 227) (L' := [.val (.int ls), .val (.int x0), .val (.int x1), .val (.int x2), .val (.int mx), .val (.int 3), .val (.int (c16 c0)), .val (.int (c16 c1)), .val (.int (c16 c2)), .val (.ref a8), .val (.int 4), .val (.int 3), .val (.int 1), .val (.int 2)]) (S' := [.int mx, .int 3]) rfl ?_
          by_cases hm : mx < (3 : Int32)
          · refine wp_ict C (M0 hw) d0_227 (XT.ii_gt_t hm) (pc' := 234) (by decide) ?_
            refine wp_seg C (M0 hw) [(.iconst 0, 1), (.istore 13, 2)] (by decide +kernel) (pc' := 237) (L' := [.val (.int ls), .val (.int x0), .val (.int x1), .val (.int x2), .val (.int mx), .val (.int 3), .val (.int (c16 c0)), .val (.int (c16 c1)), .val (.int (c16 c2)), .val (.ref a8), .val (.int 4), .val (.int 3), .val (.int 1), .val (.int 0)]) (S' := []) rfl ?_
            exact J _ _ _ _ (bi_f (fun r => by have r0 := (vf_go (i := 0) (Nat.le_of_ble_eq_true rfl)).mp r; have r0s := r0.2.2; rw [show stp [c0, c1, c2] 0 = 1 from g0] at r0s; have r1 := (vf_go (i := (0 + 1)) (Nat.le_of_ble_eq_true rfl)).mp r0s; have r1s := r1.2.2; rw [show stp [c0, c1, c2] (0 + 1) = 1 from g1] at r1s; have r2 := (vf_go (i := ((0 + 1) + 1)) (Nat.le_of_ble_eq_true rfl)).mp r1s; exact r2.2.1 hm))
          · refine wp_icf C (M0 hw) d0_227 (XT.ii_gt_f hm) ?_
            refine wp_seg C (M0 hw) [(.iconst 1, 1), (.goto 4, 3), (.istore 13, 2)] (by decide +kernel) (pc' := 237) (L' := [.val (.int ls), .val (.int x0), .val (.int x1), .val (.int x2), .val (.int mx), .val (.int 3), .val (.int (c16 c0)), .val (.int (c16 c1)), .val (.int (c16 c2)), .val (.ref a8), .val (.int 4), .val (.int 3), .val (.int 1), .val (.int 1)]) (S' := []) rfl ?_
            exact J _ _ _ _ (bi_t ((vf_go (i := 0) (Nat.le_of_ble_eq_true rfl)).mpr ⟨(fun q => by rw [show stp [c0, c1, c2] 0 = 1 from g0] at q; cases q), mx_mono (b := 3) hm (Nat.le_of_ble_eq_true rfl) (Nat.le_of_ble_eq_true rfl), by rw [show stp [c0, c1, c2] 0 = 1 from g0]; exact (vf_go (i := (0 + 1)) (Nat.le_of_ble_eq_true rfl)).mpr ⟨(fun q => by rw [show stp [c0, c1, c2] (0 + 1) = 1 from g1] at q; cases q), mx_mono (b := 3) hm (Nat.le_of_ble_eq_true rfl) (Nat.le_of_ble_eq_true rfl), by rw [show stp [c0, c1, c2] (0 + 1) = 1 from g1]; exact (vf_go (i := ((0 + 1) + 1)) (Nat.le_of_ble_eq_true rfl)).mpr ⟨(fun q => by rw [show stp [c0, c1, c2] ((0 + 1) + 1) = 2 from g2] at q; cases q), mx_mono (b := 3) hm (Nat.le_of_ble_eq_true rfl) (Nat.le_of_ble_eq_true rfl), by rw [show stp [c0, c1, c2] ((0 + 1) + 1) = 2 from g2]; exact (vf_end (Nat.not_lt.mpr (Nat.le_of_ble_eq_true rfl))).mpr (Nat.le_of_ble_eq_true rfl)⟩⟩⟩))
      · show WP κ y0 141 [.val (.int ls), .val (.int x0), .val (.int x1), .val (.int x2), .val (.int mx), .val (.int 3), .val (.int (c16 c0)), .val (.int (c16 c1)), .val (.int (c16 c2)), .val (.ref a8), .val (.int 1), .val (.int 1), .val (.int 1), .val (.int 1)] [.int 2] [] [(a8, true, .inr (.char, [.int (c16 c0), .int (c16 c1), .int (c16 c2)]))] 1 3
        refine wp_seg C (M0 hw) [(.istore 13, 2), (.iload 13, 2)] (by decide +kernel) (pc' := 145) (L' := [.val (.int ls), .val (.int x0), .val (.int x1), .val (.int x2), .val (.int mx), .val (.int 3), .val (.int (c16 c0)), .val (.int (c16 c1)), .val (.int (c16 c2)), .val (.ref a8), .val (.int 1), .val (.int 1), .val (.int 1), .val (.int 2)]) (S' := [.int 2]) rfl ?_
        refine wp_ift C (M0 hw) d0_145 (XT.i0_ne_t (by decide)) (pc' := 154) (by decide) ?_
        refine wp_seg C (M0 hw) [(.iinc 11 1, 3), (.iload 10, 2), (.iload 13, 2), (.iadd, 1), (.istore 10, 2), (.iload 12, 2)] (by decide +kernel) (pc' := 166) (L' := [.val (.int ls), .val (.int x0), .val (.int x1), .val (.int x2), .val (.int mx), .val (.int 3), .val (.int (c16 c0)), .val (.int (c16 c1)), .val (.int (c16 c2)), .val (.ref a8), .val (.int 3), .val (.int 2), .val (.int 1), .val (.int 2)]) (S' := [.int 1]) rfl ?_
        refine wp_iff C (M0 hw) d0_166 (XT.i0_eq_f (by decide)) ?_
        refine wp_seg C (M0 hw) [(.iload 10, 2), (.iload 5, 2)] (by decide +kernel) (pc' := 173) (L' := [.val (.int ls), .val (.int x0), .val (.int x1), .val (.int x2), .val (.int mx), .val (.int 3), .val (.int (c16 c0)), .val (.int (c16 c1)), .val (.int (c16 c2)), .val (.ref a8), .val (.int 3), .val (.int 2), .val (.int 1), .val (.int 2)]) (S' := [.int 3, .int 3]) rfl ?_
        refine wp_ict C (M0 hw) d0_173 (XT.ii_ge_t (by decide)) (pc' := 212) (by decide) ?_
        refine wp_seg C (M0 hw) [(.iload 12, 2)] (by decide +kernel) (pc' := 214) (L' := [.val (.int ls), .val (.int x0), .val (.int x1), .val (.int x2), .val (.int mx), .val (.int 3), .val (.int (c16 c0)), .val (.int (c16 c1)), .val (.int (c16 c2)), .val (.ref a8), .val (.int 3), .val (.int 2), .val (.int 1), .val (.int 2)]) (S' := [.int 1]) rfl ?_
        refine wp_iff C (M0 hw) d0_214 (XT.i0_eq_f (by decide)) ?_
        refine wp_seg C (M0 hw) [(.iload 11, 2), (.iconst 1, 1)] (by decide +kernel) (pc' := 220) (L' := [.val (.int ls), .val (.int x0), .val (.int x1), .val (.int x2), .val (.int mx), .val (.int 3), .val (.int (c16 c0)), .val (.int (c16 c1)), .val (.int (c16 c2)), .val (.ref a8), .val (.int 3), .val (.int 2), .val (.int 1), .val (.int 2)]) (S' := [.int 1, .int 2]) rfl ?_
        refine wp_icf C (M0 hw) d0_220 (XT.ii_lt_f (by decide)) ?_
        refine wp_seg C (M0 hw) [(.iload 11, 2), (.iload 4, 2)] (by decide +kernel) (pc' := 227) (L' := [.val (.int ls), .val (.int x0), .val (.int x1), .val (.int x2), .val (.int mx), .val (.int 3), .val (.int (c16 c0)), .val (.int (c16 c1)), .val (.int (c16 c2)), .val (.ref a8), .val (.int 3), .val (.int 2), .val (.int 1), .val (.int 2)]) (S' := [.int mx, .int 2]) rfl ?_
        by_cases hm : mx < (2 : Int32)
        · refine wp_ict C (M0 hw) d0_227 (XT.ii_gt_t hm) (pc' := 234) (by decide) ?_
          refine wp_seg C (M0 hw) [(.iconst 0, 1), (.istore 13, 2)] (by decide +kernel) (pc' := 237) (L' := [.val (.int ls), .val (.int x0), .val (.int x1), .val (.int x2), .val (.int mx), .val (.int 3), .val (.int (c16 c0)), .val (.int (c16 c1)), .val (.int (c16 c2)), .val (.ref a8), .val (.int 3), .val (.int 2), .val (.int 1), .val (.int 0)]) (S' := []) rfl ?_
          exact J _ _ _ _ (bi_f (fun r => by have r0 := (vf_go (i := 0) (Nat.le_of_ble_eq_true rfl)).mp r; have r0s := r0.2.2; rw [show stp [c0, c1, c2] 0 = 1 from g0] at r0s; have r1 := (vf_go (i := (0 + 1)) (Nat.le_of_ble_eq_true rfl)).mp r0s; exact r1.2.1 hm))
        · refine wp_icf C (M0 hw) d0_227 (XT.ii_gt_f hm) ?_
          refine wp_seg C (M0 hw) [(.iconst 1, 1), (.goto 4, 3), (.istore 13, 2)] (by decide +kernel) (pc' := 237) (L' := [.val (.int ls), .val (.int x0), .val (.int x1), .val (.int x2), .val (.int mx), .val (.int 3), .val (.int (c16 c0)), .val (.int (c16 c1)), .val (.int (c16 c2)), .val (.ref a8), .val (.int 3), .val (.int 2), .val (.int 1), .val (.int 1)]) (S' := []) rfl ?_
          exact J _ _ _ _ (bi_t ((vf_go (i := 0) (Nat.le_of_ble_eq_true rfl)).mpr ⟨(fun q => by rw [show stp [c0, c1, c2] 0 = 1 from g0] at q; cases q), mx_mono (b := 2) hm (Nat.le_of_ble_eq_true rfl) (Nat.le_of_ble_eq_true rfl), by rw [show stp [c0, c1, c2] 0 = 1 from g0]; exact (vf_go (i := (0 + 1)) (Nat.le_of_ble_eq_true rfl)).mpr ⟨(fun q => by rw [show stp [c0, c1, c2] (0 + 1) = 2 from g1] at q; cases q), mx_mono (b := 2) hm (Nat.le_of_ble_eq_true rfl) (Nat.le_of_ble_eq_true rfl), by rw [show stp [c0, c1, c2] (0 + 1) = 2 from g1]; exact (vf_end (Nat.not_lt.mpr (Nat.le_of_ble_eq_true rfl))).mpr (Nat.le_of_ble_eq_true rfl)⟩⟩))
    · show WP κ y0 93 [.val (.int ls), .val (.int x0), .val (.int x1), .val (.int x2), .val (.int mx), .val (.int 3), .val (.int (c16 c0)), .val (.int (c16 c1)), .val (.int (c16 c2)), .val (.ref a8), .val (.int 0), .val (.int 0), .val (.int 1), .unset] [.int 2] [] [(a8, true, .inr (.char, [.int (c16 c0), .int (c16 c1), .int (c16 c2)]))] 1 3
      refine wp_seg C (M0 hw) [(.istore 13, 2), (.iload 13, 2)] (by decide +kernel) (pc' := 97) (L' := [.val (.int ls), .val (.int x0), .val (.int x1), .val (.int x2), .val (.int mx), .val (.int 3), .val (.int (c16 c0)), .val (.int (c16 c1)), .val (.int (c16 c2)), .val (.ref a8), .val (.int 0), .val (.int 0), .val (.int 1), .val (.int 2)]) (S' := [.int 2]) rfl ?_
      refine wp_ift C (M0 hw) d0_97 (XT.i0_ne_t (by decide)) (pc' := 106) (by decide) ?_
      refine wp_seg C (M0 hw) [(.iinc 11 1, 3), (.iload 10, 2), (.iload 13, 2), (.iadd, 1), (.istore 10, 2), (.iload 12, 2)] (by decide +kernel) (pc' := 118) (L' := [.val (.int ls), .val (.int x0), .val (.int x1), .val (.int x2), .val (.int mx), .val (.int 3), .val (.int (c16 c0)), .val (.int (c16 c1)), .val (.int (c16 c2)), .val (.ref a8), .val (.int 2), .val (.int 1), .val (.int 1), .val (.int 2)]) (S' := [.int 1]) rfl ?_
      refine wp_iff C (M0 hw) d0_118 (XT.i0_eq_f (by decide)) ?_
      refine wp_seg C (M0 hw) [(.iload 10, 2), (.iload 5, 2)] (by decide +kernel) (pc' := 125) (L' := [.val (.int ls), .val (.int x0), .val (.int x1), .val (.int x2), .val (.int mx), .val (.int 3), .val (.int (c16 c0)), .val (.int (c16 c1)), .val (.int (c16 c2)), .val (.ref a8), .val (.int 2), .val (.int 1), .val (.int 1), .val (.int 2)]) (S' := [.int 3, .int 2]) rfl ?_
      refine wp_icf C (M0 hw) d0_125 (XT.ii_ge_f (by decide)) ?_
      refine wp_seg C (M0 hw) [(.iload 6, 2), (.iload 7, 2), (.iload 8, 2), (.iload 5, 2), (.iload 10, 2)] (by decide +kernel) (pc' := 138) (L' := [.val (.int ls), .val (.int x0), .val (.int x1), .val (.int x2), .val (.int mx), .val (.int 3), .val (.int (c16 c0)), .val (.int (c16 c1)), .val (.int (c16 c2)), .val (.ref a8), .val (.int 2), .val (.int 1), .val (.int 1), .val (.int 2)]) (S' := [.int 2, .int 3, .int (c16 c2), .int (c16 c1), .int (c16 c0)]) rfl ?_
      refine wp_invokestatic C (M0 hw) d0_138 (M22 hw) (w43 hw) (w44 hw) (w3 hw) (by decide) (S' := []) [.int (c16 c0), .int (c16 c1), .int (c16 c2), .int 3, .int 2] (lenOf pd22 rfl) rfl (L' := [.val (.int (c16 c0)), .val (.int (c16 c1)), .val (.int (c16 c2)), .val (.int 3), .val (.int 2), .unset]) rfl rfl (Rm.law (d := 1) (w := 17) hr hx (Nat.le_of_ble_eq_true rfl) (Nat.le_of_ble_eq_true rfl)) ?_
      refine c_step32 C hw  (Meth.caller (M0 hw) d0_138) (Rm.law (d := 2) (w := 32) hr hx (Nat.le_of_ble_eq_true rfl) (Nat.le_of_ble_eq_true rfl))  ?_
      rcases stp_cases [c0, c1, c2] 2 with g1 | g1 | g1 <;> rw [g1]
      · show WP κ y0 141 [.val (.int ls), .val (.int x0), .val (.int x1), .val (.int x2), .val (.int mx), .val (.int 3), .val (.int (c16 c0)), .val (.int (c16 c1)), .val (.int (c16 c2)), .val (.ref a8), .val (.int 2), .val (.int 1), .val (.int 1), .val (.int 2)] [.int 0] [] [(a8, true, .inr (.char, [.int (c16 c0), .int (c16 c1), .int (c16 c2)]))] 1 3
        refine wp_seg C (M0 hw) [(.istore 13, 2), (.iload 13, 2)] (by decide +kernel) (pc' := 145) (L' := [.val (.int ls), .val (.int x0), .val (.int x1), .val (.int x2), .val (.int mx), .val (.int 3), .val (.int (c16 c0)), .val (.int (c16 c1)), .val (.int (c16 c2)), .val (.ref a8), .val (.int 2), .val (.int 1), .val (.int 1), .val (.int 0)]) (S' := [.int 0]) rfl ?_
        refine wp_iff C (M0 hw) d0_145 (XT.i0_ne_f (by decide)) ?_
        refine wp_seg C (M0 hw) [(.iconst 0, 1), (.istore 12, 2), (.goto 13, 3), (.iload 12, 2)] (by decide +kernel) (pc' := 166) (L' := [.val (.int ls), .val (.int x0), .val (.int x1), .val (.int x2), .val (.int mx), .val (.int 3), .val (.int (c16 c0)), .val (.int (c16 c1)), .val (.int (c16 c2)), .val (.ref a8), .val (.int 2), .val (.int 1), .val (.int 0), .val (.int 0)]) (S' := [.int 0]) rfl ?_
        refine wp_ift C (M0 hw) d0_166 (XT.i0_eq_t (by decide)) (pc' := 212) (by decide) ?_
        refine wp_seg C (M0 hw) [(.iload 12, 2)] (by decide +kernel) (pc' := 214) (L' := [.val (.int ls), .val (.int x0), .val (.int x1), .val (.int x2), .val (.int mx), .val (.int 3), .val (.int (c16 c0)), .val (.int (c16 c1)), .val (.int (c16 c2)), .val (.ref a8), .val (.int 2), .val (.int 1), .val (.int 0), .val (.int 0)]) (S' := [.int 0]) rfl ?_
        refine wp_ift C (M0 hw) d0_214 (XT.i0_eq_t (by decide)) (pc' := 234) (by decide) ?_
        refine wp_seg C (M0 hw) [(.iconst 0, 1), (.istore 13, 2)] (by decide +kernel) (pc' := 237) (L' := [.val (.int ls), .val (.int x0), .val (.int x1), .val (.int x2), .val (.int mx), .val (.int 3), .val (.int (c16 c0)), .val (.int (c16 c1)), .val (.int (c16 c2)), .val (.ref a8), .val (.int 2), .val (.int 1), .val (.int 0), .val (.int 0)]) (S' := []) rfl ?_
        exact J _ _ _ _ (bi_f (fun r => by have r0 := (vf_go (i := 0) (Nat.le_of_ble_eq_true rfl)).mp r; have r0s := r0.2.2; rw [show stp [c0, c1, c2] 0 = 2 from g0] at r0s; have r1 := (vf_go (i := (0 + 2)) (Nat.le_of_ble_eq_true rfl)).mp r0s; exact r1.1 g1))
      · show WP κ y0 141 [.val (.int ls), .val (.int x0), .val (.int x1), .val (.int x2), .val (.int mx), .val (.int 3), .val (.int (c16 c0)), .val (.int (c16 c1)), .val (.int (c16 c2)), .val (.ref a8), .val (.int 2), .val (.int 1), .val (.int 1), .val (.int 2)] [.int 1] [] [(a8, true, .inr (.char, [.int (c16 c0), .int (c16 c1), .int (c16 c2)]))] 1 3
        refine wp_seg C (M0 hw) [(.istore 13, 2), (.iload 13, 2)] (by decide +kernel) (pc' := 145) (L' := [.val (.int ls), .val (.int x0), .val (.int x1), .val (.int x2), .val (.int mx), .val (.int 3), .val (.int (c16 c0)), .val (.int (c16 c1)), .val (.int (c16 c2)), .val (.ref a8), .val (.int 2), .val (.int 1), .val (.int 1), .val (.int 1)]) (S' := [.int 1]) rfl ?_
        refine wp_ift C (M0 hw) d0_145 (XT.i0_ne_t (by decide)) (pc' := 154) (by decide) ?_
        refine wp_seg C (M0 hw) [(.iinc 11 1, 3), (.iload 10, 2), (.iload 13, 2), (.iadd, 1), (.istore 10, 2), (.iload 12, 2)] (by decide +kernel) (pc' := 166) (L' := [.val (.int ls), .val (.int x0), .val (.int x1), .val (.int x2), .val (.int mx), .val (.int 3), .val (.int (c16 c0)), .val (.int (c16 c1)), .val (.int (c16 c2)), .val (.ref a8), .val (.int 3), .val (.int 2), .val (.int 1), .val (.int 1)]) (S' := [.int 1]) rfl ?_
        refine wp_iff C (M0 hw) d0_166 (XT.i0_eq_f (by decide)) ?_
        refine wp_seg C (M0 hw) [(.iload 10, 2), (.iload 5, 2)] (by decide +kernel) (pc' := 173) (L' := [.val (.int ls), .val (.int x0), .val (.int x1), .val (.int x2), .val (.int mx), .val (.int 3), .val (.int (c16 c0)), .val (.int (c16 c1)), .val (.int (c16 c2)), .val (.ref a8), .val (.int 3), .val (.int 2), .val (.int 1), .val (.int 1)]) (S' := [.int 3, .int 3]) rfl ?_
        refine wp_ict C (M0 hw) d0_173 (XT.ii_ge_t (by decide)) (pc' := 212) (by decide) ?_
        refine wp_seg C (M0 hw) [(.iload 12, 2)] (by decide +kernel) (pc' := 214) (L' := [.val (.int ls), .val (.int x0), .val (.int x1), .val (.int x2), .val (.int mx), .val (.int 3), .val (.int (c16 c0)), .val (.int (c16 c1)), .val (.int (c16 c2)), .val (.ref a8), .val (.int 3), .val (.int 2), .val (.int 1), .val (.int 1)]) (S' := [.int 1]) rfl ?_
        refine wp_iff C (M0 hw) d0_214 (XT.i0_eq_f (by decide)) ?_
        refine wp_seg C (M0 hw) [(.iload 11, 2), (.iconst 1, 1)] (by decide +kernel) (pc' := 220) (L' := [.val (.int ls), .val (.int x0), .val (.int x1), .val (.int x2), .val (.int mx), .val (.int 3), .val (.int (c16 c0)), .val (.int (c16 c1)), .val (.int (c16 c2)), .val (.ref a8), .val (.int 3), .val (.int 2), .val (.int 1), .val (.int 1)]) (S' := [.int 1, .int 2]) rfl ?_
        refine wp_icf C (M0 hw) d0_220 (XT.ii_lt_f (by decide)) ?_
        refine wp_seg C (M0 hw) [(.iload 11, 2), (.iload 4, 2)] (by decide +kernel) (pc' := 227) (L' := [.val (.int ls), .val (.int x0), .val (.int x1), .val (.int x2), .val (.int mx), .val (.int 3), .val (.int (c16 c0)), .val (.int (c16 c1)), .val (.int (c16 c2)), .val (.ref a8), .val (.int 3), .val (.int 2), .val (.int 1), .val (.int 1)]) (S' := [.int mx, .int 2]) rfl ?_
        by_cases hm : mx < (2 : Int32)
        · refine wp_ict C (M0 hw) d0_227 (XT.ii_gt_t hm) (pc' := 234) (by decide) ?_
          refine wp_seg C (M0 hw) [(.iconst 0, 1), (.istore 13, 2)] (by decide +kernel) (pc' := 237) (L' := [.val (.int ls), .val (.int x0), .val (.int x1), .val (.int x2), .val (.int mx), .val (.int 3), .val (.int (c16 c0)), .val (.int (c16 c1)), .val (.int (c16 c2)), .val (.ref a8), .val (.int 3), .val (.int 2), .val (.int 1), .val (.int 0)]) (S' := []) rfl ?_
          exact J _ _ _ _ (bi_f (fun r => by have r0 := (vf_go (i := 0) (Nat.le_of_ble_eq_true rfl)).mp r; have r0s := r0.2.2; rw [show stp [c0, c1, c2] 0 = 2 from g0] at r0s; have r1 := (vf_go (i := (0 + 2)) (Nat.le_of_ble_eq_true rfl)).mp r0s; exact r1.2.1 hm))
        · refine wp_icf C (M0 hw) d0_227 (XT.ii_gt_f hm) ?_
          refine wp_seg C (M0 hw) [(.iconst 1, 1), (.goto 4, 3), (.istore 13, 2)] (by decide +kernel) (pc' := 237) (L' := [.val (.int ls), .val (.int x0), .val (.int x1), .val (.int x2), .val (.int mx), .val (.int 3), .val (.int (c16 c0)), .val (.int (c16 c1)), .val (.int (c16 c2)), .val (.ref a8), .val (.int 3), .val (.int 2), .val (.int 1), .val (.int 1)]) (S' := []) rfl ?_
          exact J _ _ _ _ (bi_t ((vf_go (i := 0) (Nat.le_of_ble_eq_true rfl)).mpr ⟨(fun q => by rw [show stp [c0, c1, c2] 0 = 2 from g0] at q; cases q), mx_mono (b := 2) hm (Nat.le_of_ble_eq_true rfl) (Nat.le_of_ble_eq_true rfl), by rw [show stp [c0, c1, c2] 0 = 2 from g0]; exact (vf_go (i := (0 + 2)) (Nat.le_of_ble_eq_true rfl)).mpr ⟨(fun q => by rw [show stp [c0, c1, c2] (0 + 2) = 1 from g1] at q; cases q), mx_mono (b := 2) hm (Nat.le_of_ble_eq_true rfl) (Nat.le_of_ble_eq_true rfl), by rw [show stp [c0, c1, c2] (0 + 2) = 1 from g1]; exact (vf_end (Nat.not_lt.mpr (Nat.le_of_ble_eq_true rfl))).mpr (Nat.le_of_ble_eq_true rfl)⟩⟩))
      · show WP κ y0 141 [.val (.int ls), .val (.int x0), .val (.int x1), .val (.int x2), .val (.int mx), .val (.int 3), .val (.int (c16 c0)), .val (.int (c16 c1)), .val (.int (c16 c2)), .val (.ref a8), .val (.int 2), .val (.int 1), .val (.int 1), .val (.int 2)] [.int 2] [] [(a8, true, .inr (.char, [.int (c16 c0), .int (c16 c1), .int (c16 c2)]))] 1 3
        refine wp_seg C (M0 hw) [(.istore 13, 2), (.iload 13, 2)] (by decide +kernel) (pc' := 145) (L' := [.val (.int ls), .val (.int x0), .val (.int x1), .val (.int x2), .val (.int mx), .val (.int 3), .val (.int (c16 c0)), .val (.int (c16 c1)), .val (.int (c16 c2)), .val (.ref a8), .val (.int 2), .val (.int 1), .val (.int 1), .val (.int 2)]) (S' := [.int 2]) rfl ?_
        refine wp_ift C (M0 hw) d0_145 (XT.i0_ne_t (by decide)) (pc' := 154) (by decide) ?_
        refine wp_seg C (M0 hw) [(.iinc 11 1, 3), (.iload 10, 2), (.iload 13, 2), (.iadd, 1), (.istore 10, 2), (.iload 12, 2)] (by decide +kernel) (pc' := 166) (L' := [.val (.int ls), .val (.int x0), .val (.int x1), .val (.int x2), .val (.int mx), .val (.int 3), .val (.int (c16 c0)), .val (.int (c16 c1)), .val (.int (c16 c2)), .val (.ref a8), .val (.int 4), .val (.int 2), .val (.int 1), .val (.int 2)]) (S' := [.int 1]) rfl ?_
        refine wp_iff C (M0 hw) d0_166 (XT.i0_eq_f (by decide)) ?_
        refine wp_seg C (M0 hw) [(.iload 10, 2), (.iload 5, 2)] (by decide +kernel) (pc' := 173) (L' := [.val (.int ls), .val (.int x0), .val (.int x1), .val (.int x2), .val (.int mx), .val (.int 3), .val (.int (c16 c0)), .val (.int (c16 c1)), .val (.int (c16 c2)), .val (.ref a8), .val (.int 4), .val (.int 2), .val (.int 1), .val (.int 2)]) (S' := [.int 3, .int 4]) rfl ?_
        refine wp_ict C (M0 hw) d0_173 (XT.ii_ge_t (by decide)) (pc' := 212) (by decide) ?_
        refine wp_seg C (M0 hw) [(.iload 12, 2)] (by decide +kernel) (pc' := 214) (L' := [.val (.int ls), .val (.int x0), .val (.int x1), .val (.int x2), .val (.int mx), .val (.int 3), .val (.int (c16 c0)), .val (.int (c16 c1)), .val (.int (c16 c2)), .val (.ref a8), .val (.int 4), .val (.int 2), .val (.int 1), .val (.int 2)]) (S' := [.int 1]) rfl ?_
        refine wp_iff C (M0 hw) d0_214 (XT.i0_eq_f (by decide)) ?_
        refine wp_seg C (M0 hw) [(.iload 11, 2), (.iconst 1, 1)] (by decide +kernel) (pc' := 220) (L' := [.val (.int ls), .val (.int x0), .val (.int x1), .val (.int x2), .val (.int mx), .val (.int 3), .val (.int (c16 c0)), .val (.int (c16 c1)), .val (.int (c16 c2)), .val (.ref a8), .val (.int 4), .val (.int 2), .val (.int 1), .val (.int 2)]) (S' := [.int 1, .int 2]) rfl ?_
        refine wp_icf C (M0 hw) d0_220 (XT.ii_lt_f (by decide)) ?_
        refine wp_seg C (M0 hw) [(.iload 11, 2), (.iload 4, 2)] (by decide +kernel) (pc' := 227) (L' := [.val (.int ls), .val (.int x0), .val (.int x1), .val (.int x2), .val (.int mx), .val (.int 3), .val (.int (c16 c0)), .val (.int (c16 c1)), .val (.int (c16 c2)), .val (.ref a8), .val (.int 4), .val (.int 2), .val (.int 1), .val (.int 2)]) (S' := [.int mx, .int 2]) rfl ?_
        by_cases hm : mx < (2 : Int32)
        · refine wp_ict C (M0 hw) d0_227 (XT.ii_gt_t hm) (pc' := 234) (by decide) ?_
          refine wp_seg C (M0 hw) [(.iconst 0, 1), (.istore 13, 2)] (by decide +kernel) (pc' := 237) (L' := [.val (.int ls), .val (.int x0), .val (.int x1), .val (.int x2), .val (.int mx), .val (.int 3), .val (.int (c16 c0)), .val (.int (c16 c1)), .val (.int (c16 c2)), .val (.ref a8), .val (.int 4), .val (.int 2), .val (.int 1), .val (.int 0)]) (S' := []) rfl ?_
          exact J _ _ _ _ (bi_f (fun r => by have r0 := (vf_go (i := 0) (Nat.le_of_ble_eq_true rfl)).mp r; have r0s := r0.2.2; rw [show stp [c0, c1, c2] 0 = 2 from g0] at r0s; have r1 := (vf_go (i := (0 + 2)) (Nat.le_of_ble_eq_true rfl)).mp r0s; exact r1.2.1 hm))
        · refine wp_icf C (M0 hw) d0_227 (XT.ii_gt_f hm) ?_
          refine wp_seg C (M0 hw) [(.iconst 1, 1), (.goto 4, 3), (.istore 13, 2)] (by decide +kernel) (pc' := 237) (L' := [.val (.int ls), .val (.int x0), .val (.int x1), .val (.int x2), .val (.int mx), .val (.int 3), .val (.int (c16 c0)), .val (.int (c16 c1)), .val (.int (c16 c2)), .val (.ref a8), .val (.int 4), .val (.int 2), .val (.int 1), .val (.int 1)]) (S' := []) rfl ?_
          exact J _ _ _ _ (bi_t ((vf_go (i := 0) (Nat.le_of_ble_eq_true rfl)).mpr ⟨(fun q => by rw [show stp [c0, c1, c2] 0 = 2 from g0] at q; cases q), mx_mono (b := 2) hm (Nat.le_of_ble_eq_true rfl) (Nat.le_of_ble_eq_true rfl), by rw [show stp [c0, c1, c2] 0 = 2 from g0]; exact (vf_go (i := (0 + 2)) (Nat.le_of_ble_eq_true rfl)).mpr ⟨(fun q => by rw [show stp [c0, c1, c2] (0 + 2) = 2 from g1] at q; cases q), mx_mono (b := 2) hm (Nat.le_of_ble_eq_true rfl) (Nat.le_of_ble_eq_true rfl), by rw [show stp [c0, c1, c2] (0 + 2) = 2 from g1]; exact (vf_end (Nat.not_lt.mpr (Nat.le_of_ble_eq_true rfl))).mpr (Nat.le_of_ble_eq_true rfl)⟩⟩))
def Pst (av : Array Value) (U : State) : Prop := (∃ (ls : Int32) (x0 : Int32) (x1 : Int32) (x2 : Int32) (mx : Int32), av = #[.int ls, .int x0, .int x1, .int x2, .int mx]) ∧ ((∃ cs : Int32, ¬ cs = 0 ∧ Sta U U.heap "java/lang/String" "COMPACT_STRINGS" "Z" (.int cs)) ∧
  ∃ v : Value, v.isRef = true ∧ Sta U U.heap "jdk/internal/util/Preconditions" "SIOOBE_FORMATTER" "Ljava/util/function/BiFunction;" v) ∧ EW U av consts_1 ∧ CHv U consts_1 U.vm U.heap ∧ (∀ d ∈ jdkStatics_1, d.before av U = true) ∧ narrow_1.before av U = true
theorem met_1 (l : Launch) : MetFree l x (head1 (Jvm.Cond.code x code maxLocals ret :: tables_1) room_1) Pst (fun _ _ _ _ _ => True) (fun _ U o U' => Left false room_1 U o U') :=
  start_wp (EL := consts_1) (strict := false) (by decide +kernel) Pst (fun _ _ h => h.2.2.1) (fun _ _ h => h.2.2.2.1) fun κ C hr hE hst hx hw hP => by
    obtain ⟨⟨ls, x0, x1, x2, mx, ha⟩, hs, -, -, hj, hnw⟩ := hP
    refine ⟨[.val (.int ls), .val (.int x0), .val (.int x1), .val (.int x2), .val (.int mx), .unset, .unset, .unset, .unset, .unset, .unset, .unset, .unset, .unset], ?_, rfl, law_wp C hw hr hx hst hE hs (str_W hw) hj ls x0 x1 x2 mx⟩
    rw [ha]; rfl
set_option maxRecDepth 65536 in
set_option maxHeartbeats 40000000 in
theorem comes_1 {Post : Tables → Env → Array Value → State → Outcome → State → Prop} (hpost : ∀ tb e args s v u, (limb_1_1.after args s (.returned v) u = true ∧ limb_1_2.after args s (.returned v) u = true ∧ True) → Jvm.D.FramedW s (.returned v) u (Jvm.fieldLocs frame_1_writes args s ++ Jvm.arrayLocs frame_1_arrays args s ++ Jvm.staticLocs frame_1_statics s) 24 1152 → Post tb e args s (.returned v) u) :
    Jvm.D.ArmFor flags0 classFile x code maxLocals ret World_1 tables_1 room_1 Calls_1 rest_1 Pre_1 Post := by
  intro l hfl _ _ p e ha hc hk s m args below hf hA hF happ hP
  obtain ⟨hcalls, hrest, hpre⟩ := hP
  obtain ⟨-, -, -, hnamed, -, -, -, hat⟩ := (Spec.applies_iff hf).mp happ
  obtain ⟨hg, hn⟩ := and_e (Cond.before_iff.mp (show (Jvm.Cond.and given_1 narrow_1).before args s = true from hpre))
  obtain ⟨g0, h1⟩ := and_e hg
  obtain ⟨g1, h2⟩ := and_e h1
  obtain ⟨g2, h3⟩ := and_e h2
  obtain ⟨g3, h4⟩ := and_e h3
  obtain ⟨g4, h5⟩ := and_e h4
  obtain ⟨w0_, w1_, w2_, w3_, w4_, rfl⟩ : ∃ w0_ w1_ w2_ w3_ w4_ : Value, args = #[w0_, w1_, w2_, w3_, w4_] := by
    have hs : args.size = 5 := by simpa [Cond.value, given_1] using g0
    obtain ⟨L⟩ := args
    match L, hs with
    | [w0_, w1_, w2_, w3_, w4_], _ => exact ⟨w0_, w1_, w2_, w3_, w4_, rfl⟩
  obtain ⟨i0_, e0_⟩ := is_v g1
  obtain rfl : w0_ = (.int i0_) := Option.some.inj e0_
  obtain ⟨i1_, e1_⟩ := is_v g2
  obtain rfl : w1_ = (.int i1_) := Option.some.inj e1_
  obtain ⟨i2_, e2_⟩ := is_v g3
  obtain rfl : w2_ = (.int i2_) := Option.some.inj e2_
  obtain ⟨i3_, e3_⟩ := is_v g4
  obtain rfl : w3_ = (.int i3_) := Option.some.inj e3_
  obtain ⟨i4_, e4_⟩ := is_v h5
  obtain rfl : w4_ = (.int i4_) := Option.some.inj e4_
  have hw := fun d (hd : d ∈ tables_1) => atoms_spec (ws := Jvm.Cond.code x code maxLocals ret :: tables_1) hat d (List.mem_cons_of_mem _ hd)
  obtain ⟨hsets, hown0⟩ := atoms_of _ (rest_1_c_eq ▸ (show rest_1_c.before _ s = true from hrest))
  have n5 := not_v (Cond.before_iff.mp (hsets _ (List.mem_of_getElem? (i := 2) rfl)))
  obtain ⟨i11, e10⟩ := is_v (Cond.before_iff.mp (hsets _ (List.mem_of_getElem? (i := 1) rfl)))
  have S12 : Sta s s.heap "java/lang/String" "COMPACT_STRINGS" "Z" (.int i11) := Sta.start e10 (Or.inl (hsets _ (List.mem_of_getElem? (i := 0) rfl)))
  obtain ⟨v13, e14, r15⟩ := isR_v (Cond.before_iff.mp (hsets _ (List.mem_of_getElem? (i := 8) rfl)))
  have S16 : Sta s s.heap "jdk/internal/util/Preconditions" "SIOOBE_FORMATTER" "Ljava/util/function/BiFunction;" v13 := Sta.start e14 (Or.inl (hsets _ (List.mem_of_getElem? (i := 7) rfl)))
  have c17 : ¬ (i11 = (0 : Int32)) := gotF (Cond.eq_ints e10 (Term.int_eval (0))) n5
  have ew : EW s #[.int i0_, .int i1_, .int i2_, .int i3_, .int i4_] consts_1 := EW.cons (text := "") (hw _ (List.mem_of_getElem? (i := 19) rfl)) (by decide +kernel) (EW.nil)
  have ch : CHv s consts_1 s.vm s.heap := CHv.start ew (fun p hp => hcalls.1 p hp) (hsets _ (List.mem_of_getElem? (i := 2) rfl)) (hw _ (List.mem_of_getElem? (i := 20) rfl)) (hw _ (List.mem_of_getElem? (i := 7) rfl))
  obtain ⟨n, o, h1, h2, h3, rfl, q1, q2, q3⟩ := met_1 l p e ha hc hk s m _ below hf ((Spec.applies_iff_loose hf).mp happ).1 ⟨⟨i0_, i1_, i2_, i3_, i4_, rfl⟩, ⟨⟨i11, c17, S12⟩, v13, r15, S16⟩, ew, ch, hsets, Cond.before_iff.mpr hn⟩ trivial
  refine ⟨n, _, h1, h2, h3, hpost _ _ _ _ _ _ ⟨Cond.after_iff.mpr rfl, Cond.after_iff.mpr (eq_i res_at (Term.int_eval (1)) rfl), trivial⟩ ⟨⟨_, rfl⟩, q1.1, q1.2, q3⟩⟩
theorem main_1_1 : Claimed_1_1 := comes_1 fun _ _ _ _ _ _ h hF => ⟨h.1, hF⟩
theorem main_1_2 : Claimed_1_2 := comes_1 fun _ _ _ _ _ _ h hF => ⟨h.2.1, hF⟩
end Jvm.Pilot.@@N@@
namespace Jvm.Pilot.@@N@@
open Jvm Jvm.ClassFile Sem Op Lib Jvm.Free Jvm.Stand Jvm.Pilot.@@N@@.Jvm.D
/-! MADE BY PROGRAM (witnessworld.py) out of the Statement's table words and the real class files: 21 classes; the members and pool entries that the words name. The judged class is class 1, her method 6. -/
namespace start1
open Jvm.ClassFile
def u (s : String) : CpInfo := .utf8 (stringToUtf16 s)
/-- a pool by its gaps: so many unusable entries, then the entry; so many at the end -/
def gap : Nat → List CpInfo → List CpInfo
  | 0, r => r
  | n + 1, r => .unusable :: gap n r
def poolList (es : List (Nat × CpInfo)) (last : Nat) : List CpInfo := es.foldr (fun e r => gap e.1 (e.2 :: r)) (gap last [])
def pool (es : List (Nat × CpInfo)) (last : Nat) : Array CpInfo := ⟨poolList es last⟩
def fileOf (pool : Array CpInfo) (this : Nat) (attrs : Array Attribute := #[]) (ms : Array MethodInfo := #[]) (fl : Nat := 33) (sup : Nat := 0) (ifs : Array Nat := #[]) (fds : Array FieldInfo := #[]) : ClassFile where
  minorVersion := 0
  majorVersion := 65
  constantPool := pool
  accessFlags := fl
  thisClass := this
  superClass := sup
  interfaces := ifs
  fields := fds
  methods := ms
  attributes := attrs
def plain (name : String) (sup : Option ClassId) : Class where
  name := name
  kind := .ordinary
  loader := none
  accessFlags := 33
  super := sup
  interfaces := #[]
  cf := none
  fields := #[]
  methods := #[]
  instanceTypes := #[]
  staticTypes := #[]
  resolved := #[]
  callSites := []
  init := .initialized
  statics := none
  mirror := none

def pool0 : Array CpInfo := pool [(5, u "<init>"), (0, u "()V"), (1, .class_ 10), (1, u "java/lang/Object")] 113

def k0c0 : Code := { maxStack := 0, maxLocals := 1, code := object_method_1_code, exceptionTable := #[], attributes := #[] }
def k0m0 : Method := { name := "<init>", desc := "()V", sig := { parameters := [], returnType := none }, accessFlags := 1, code := some k0c0 }
/-- java/lang/Object -/
def k0 : Class := { plain "java/lang/Object" none with
  accessFlags := 33
  interfaces := #[]
  cf := some (fileOf pool0 8 #[] #[{ accessFlags := 1, nameIndex := 5, descriptorIndex := 6, attributes := #[] }] 33 0 #[] #[])
  fields := #[]
  methods := #[k0m0]
  instanceTypes := #[]
  staticTypes := #[]
  resolved := Array.replicate 124 none
  statics := none }

def pool1 : Array CpInfo := pool [(2, .class_ 4), (1, u "java/lang/Object"), (0, u "<init>"), (0, u "()V"), (0, .integer 55296), (0, .integer 56320), (0, .integer 65535), (0, .integer 56319), (0, .integer 57343), (0, .methodref 13 14), (0, .class_ 15), (0, .nameAndType 16 17), (0, u "com/example/pedido/pedido/http/FreeTextIsValidPinLaw"), (0, u "at"), (0, u "(CCCI)C"), (0, .methodref 13 19), (0, .nameAndType 20 21), (0, u "isHigh"), (0, u "(C)Z"), (0, .methodref 13 23), (0, .nameAndType 24 21), (0, u "isLow"), (0, .methodref 13 26), (0, .nameAndType 27 28), (0, u "draw"), (0, u "(I)C"), (0, .methodref 13 30), (0, .nameAndType 31 32), (0, u "step"), (0, u "(CCCII)I"), (0, .class_ 34), (0, u "java/lang/String"), (0, .methodref 33 36), (0, .nameAndType 5 37), (0, u "([C)V"), (0, .methodref 39 40), (0, .class_ 41), (0, .nameAndType 42 43), (0, u "com/example/pedido/pedido/http/FreeText"), (0, u "isValid"), (0, u "(Ljava/lang/String;I)Z"), (3, u "law"), (0, u "(IIIII)Z")] 4

def k1m0 : Method := { name := "<init>", desc := "()V", sig := { parameters := [], returnType := none }, accessFlags := 2, code := none }
def k1c1 : Code := { maxStack := 3, maxLocals := 2, code := method_2_code, exceptionTable := #[], attributes := #[] }
def k1m1 : Method := { name := "draw", desc := "(I)C", sig := { parameters := [.int], returnType := some .char }, accessFlags := 10, code := some k1c1 }
def k1c2 : Code := { maxStack := 2, maxLocals := 1, code := method_3_code, exceptionTable := #[], attributes := #[] }
def k1m2 : Method := { name := "isHigh", desc := "(C)Z", sig := { parameters := [.char], returnType := some .boolean }, accessFlags := 10, code := some k1c2 }
def k1c3 : Code := { maxStack := 2, maxLocals := 1, code := method_4_code, exceptionTable := #[], attributes := #[] }
def k1m3 : Method := { name := "isLow", desc := "(C)Z", sig := { parameters := [.char], returnType := some .boolean }, accessFlags := 10, code := some k1c3 }
def k1c4 : Code := { maxStack := 2, maxLocals := 4, code := method_5_code, exceptionTable := #[], attributes := #[] }
def k1m4 : Method := { name := "at", desc := "(CCCI)C", sig := { parameters := [.char, .char, .char, .int], returnType := some .char }, accessFlags := 10, code := some k1c4 }
def k1c5 : Code := { maxStack := 5, maxLocals := 6, code := method_6_code, exceptionTable := #[], attributes := #[] }
def k1m5 : Method := { name := "step", desc := "(CCCII)I", sig := { parameters := [.char, .char, .char, .int, .int], returnType := some .int }, accessFlags := 10, code := some k1c5 }
def k1c6 : Code := { maxStack := 5, maxLocals := 14, code := code, exceptionTable := #[], attributes := #[] }
def k1m6 : Method := { name := "law", desc := "(IIIII)Z", sig := { parameters := [.int, .int, .int, .int, .int], returnType := some .boolean }, accessFlags := 9, code := some k1c6 }
/-- com/example/pedido/pedido/http/FreeTextIsValidPinLaw -/
def k1 : Class := { plain "com/example/pedido/pedido/http/FreeTextIsValidPinLaw" (some 0) with
  accessFlags := 49
  interfaces := #[]
  cf := some (fileOf pool1 13 #[] #[{ accessFlags := 2, nameIndex := 5, descriptorIndex := 6, attributes := #[] }, { accessFlags := 10, nameIndex := 27, descriptorIndex := 28, attributes := #[] }, { accessFlags := 10, nameIndex := 20, descriptorIndex := 21, attributes := #[] }, { accessFlags := 10, nameIndex := 24, descriptorIndex := 21, attributes := #[] }, { accessFlags := 10, nameIndex := 16, descriptorIndex := 17, attributes := #[] }, { accessFlags := 10, nameIndex := 31, descriptorIndex := 32, attributes := #[] }, { accessFlags := 9, nameIndex := 47, descriptorIndex := 48, attributes := #[] }] 49 2 #[] #[])
  fields := #[]
  methods := #[k1m0, k1m1, k1m2, k1m3, k1m4, k1m5, k1m6]
  instanceTypes := #[]
  staticTypes := #[]
  resolved := Array.replicate 53 none
  statics := none }

def pool2 : Array CpInfo := pool [(1, .class_ 2), (0, u "java/io/Serializable"), (0, .class_ 4), (0, u "java/lang/Object")] 2

/-- java/io/Serializable -/
def k2 : Class := { plain "java/io/Serializable" (some 0) with
  accessFlags := 1537
  interfaces := #[]
  cf := some (fileOf pool2 1 #[] #[] 1537 3 #[] #[])
  fields := #[]
  methods := #[]
  instanceTypes := #[]
  staticTypes := #[]
  resolved := Array.replicate 7 none
  statics := none }

def pool3 : Array CpInfo := pool [(1, .class_ 2), (0, u "java/lang/Comparable"), (0, .class_ 4), (0, u "java/lang/Object")] 7

/-- java/lang/Comparable -/
def k3 : Class := { plain "java/lang/Comparable" (some 0) with
  accessFlags := 1537
  interfaces := #[]
  cf := some (fileOf pool3 1 #[] #[] 1537 3 #[] #[])
  fields := #[]
  methods := #[]
  instanceTypes := #[]
  staticTypes := #[]
  resolved := Array.replicate 12 none
  statics := none }

def pool4 : Array CpInfo := pool [(2, .class_ 4), (1, u "java/lang/CharSequence"), (42, .class_ 48), (0, u "java/lang/CharSequence$1CodePointIterator"), (10, .class_ 60), (0, u "java/lang/CharSequence$1CharIterator"), (5, .class_ 67), (0, u "java/lang/Object")] 63

/-- java/lang/CharSequence -/
def k4 : Class := { plain "java/lang/CharSequence" (some 0) with
  accessFlags := 1537
  interfaces := #[]
  cf := some (fileOf pool4 2 #[.nestMembers #[47, 59]] #[] 1537 66 #[] #[])
  fields := #[]
  methods := #[]
  instanceTypes := #[]
  staticTypes := #[]
  resolved := Array.replicate 131 none
  statics := none }

def pool5 : Array CpInfo := pool [(1, .class_ 2), (0, u "java/lang/constant/Constable"), (0, .class_ 4), (0, u "java/lang/Object")] 6

/-- java/lang/constant/Constable -/
def k5 : Class := { plain "java/lang/constant/Constable" (some 0) with
  accessFlags := 1537
  interfaces := #[]
  cf := some (fileOf pool5 1 #[] #[] 1537 3 #[] #[])
  fields := #[]
  methods := #[]
  instanceTypes := #[]
  staticTypes := #[]
  resolved := Array.replicate 11 none
  statics := none }

def pool6 : Array CpInfo := pool [(1, .class_ 2), (0, u "java/lang/constant/ConstantDesc"), (0, .class_ 4), (0, u "java/lang/Object")] 32

/-- java/lang/constant/ConstantDesc -/
def k6 : Class := { plain "java/lang/constant/ConstantDesc" (some 0) with
  accessFlags := 1537
  interfaces := #[]
  cf := some (fileOf pool6 1 #[] #[] 1537 3 #[] #[])
  fields := #[]
  methods := #[]
  instanceTypes := #[]
  staticTypes := #[]
  resolved := Array.replicate 37 none
  statics := none }

def pool7 : Array CpInfo := pool [(1, .methodref 2 3), (0, .class_ 4), (0, .nameAndType 5 6), (0, u "java/lang/Object"), (0, u "<init>"), (0, u "()V"), (0, .string 8), (0, u ""), (0, .fieldref 10 11), (0, .class_ 12), (0, .nameAndType 13 14), (0, u "java/lang/String"), (0, u "value"), (0, u "[B"), (0, .fieldref 10 16), (0, .nameAndType 17 18), (0, u "coder"), (0, u "B"), (2, u "hash"), (0, u "I"), (2, u "hashIsZero"), (0, u "Z"), (0, .methodref 10 28), (0, .nameAndType 5 29), (0, u "([CIILjava/lang/Void;)V"), (8, .fieldref 10 39), (0, .nameAndType 40 26), (0, u "COMPACT_STRINGS"), (1, .class_ 44), (1, u "java/lang/StringUTF16"), (0, u "compress"), (1, .methodref 42 48), (0, .nameAndType 49 50), (0, u "coderFromArrayLen"), (0, u "([BI)B"), (46, u "([BII)I"), (44, u "()Z"), (34, .methodref 42 178), (0, .nameAndType 45 179), (0, u "([CII)[B"), (154, u "()I"), (0, .methodref 10 336), (0, .nameAndType 17 337), (0, u "()B"), (53, u "(II)V"), (100, .methodref 10 493), (0, .nameAndType 494 142), (0, u "isLatin1"), (4, .methodref 10 500), (0, .nameAndType 501 391), (0, u "checkIndex"), (0, .methodref 42 503), (0, .nameAndType 504 97), (0, u "codePointAt"), (2, u "length"), (67, .class_ 576), (0, u "java/lang/CharSequence"), (22, u "CASE_INSENSITIVE_ORDER"), (0, u "Ljava/util/Comparator;"), (164, u "(I)I"), (244, u "([C)V"), (42, .fieldref 1054 1055), (0, .class_ 1056), (0, .nameAndType 1057 1058), (0, u "jdk/internal/util/Preconditions"), (0, u "SIOOBE_FORMATTER"), (0, u "Ljava/util/function/BiFunction;"), (0, .methodref 1054 1060), (0, .nameAndType 501 1061), (0, u "(IILjava/util/function/BiFunction;)I"), (39, u "serialPersistentFields"), (0, u "[Ljava/io/ObjectStreamField;"), (0, .class_ 1104), (0, u "java/lang/String$CaseInsensitiveComparator"), (1, .class_ 1107), (0, u "java/io/Serializable"), (0, .class_ 1109), (0, u "java/lang/Comparable"), (0, .class_ 1111), (0, u "java/lang/constant/Constable"), (0, .class_ 1113), (0, u "java/lang/constant/ConstantDesc"), (2, u "serialVersionUID"), (0, u "J"), (3, u "REPL"), (0, u "C"), (2, u "LATIN1"), (1, u "UTF16")] 323

def k7m0 : Method := { name := "<init>", desc := "()V", sig := { parameters := [], returnType := none }, accessFlags := 1, code := none }
def k7c1 : Code := { maxStack := 5, maxLocals := 2, code := jdk_42_method_3_code, exceptionTable := #[], attributes := #[] }
def k7m1 : Method := { name := "<init>", desc := "([C)V", sig := { parameters := [(.array .char)], returnType := none }, accessFlags := 1, code := some k7c1 }
def k7c2 : Code := { maxStack := 2, maxLocals := 1, code := jdk_42_method_54_code, exceptionTable := #[], attributes := #[] }
def k7m2 : Method := { name := "length", desc := "()I", sig := { parameters := [], returnType := some .int }, accessFlags := 1, code := some k7c2 }
def k7c3 : Code := { maxStack := 3, maxLocals := 3, code := jdk_42_method_57_code, exceptionTable := #[], attributes := #[] }
def k7m3 : Method := { name := "codePointAt", desc := "(I)I", sig := { parameters := [.int], returnType := some .int }, accessFlags := 1, code := some k7c3 }
def k7c4 : Code := { maxStack := 4, maxLocals := 6, code := jdk_42_method_149_code, exceptionTable := #[], attributes := #[] }
def k7m4 : Method := { name := "<init>", desc := "([CIILjava/lang/Void;)V", sig := { parameters := [(.array .char), .int, .int, (.object "java/lang/Void")], returnType := none }, accessFlags := 2, code := some k7c4 }
def k7c5 : Code := { maxStack := 1, maxLocals := 1, code := jdk_42_method_152_code, exceptionTable := #[], attributes := #[] }
def k7m5 : Method := { name := "coder", desc := "()B", sig := { parameters := [], returnType := some .byte }, accessFlags := 0, code := some k7c5 }
def k7c6 : Code := { maxStack := 1, maxLocals := 1, code := jdk_42_method_154_code, exceptionTable := #[], attributes := #[] }
def k7m6 : Method := { name := "isLatin1", desc := "()Z", sig := { parameters := [], returnType := some .boolean }, accessFlags := 0, code := some k7c6 }
def k7c7 : Code := { maxStack := 3, maxLocals := 2, code := jdk_42_method_155_code, exceptionTable := #[], attributes := #[] }
def k7m7 : Method := { name := "checkIndex", desc := "(II)V", sig := { parameters := [.int, .int], returnType := none }, accessFlags := 8, code := some k7c7 }
/-- java/lang/String -/
def k7 : Class := { plain "java/lang/String" (some 0) with
  accessFlags := 49
  interfaces := #[2, 3, 4, 5, 6]
  cf := some (fileOf pool7 10 #[.nestMembers #[1103]] #[{ accessFlags := 1, nameIndex := 5, descriptorIndex := 6, attributes := #[] }, { accessFlags := 1, nameIndex := 5, descriptorIndex := 1010, attributes := #[] }, { accessFlags := 1, nameIndex := 507, descriptorIndex := 334, attributes := #[] }, { accessFlags := 1, nameIndex := 504, descriptorIndex := 765, attributes := #[] }, { accessFlags := 2, nameIndex := 5, descriptorIndex := 29, attributes := #[] }, { accessFlags := 0, nameIndex := 17, descriptorIndex := 337, attributes := #[] }, { accessFlags := 0, nameIndex := 494, descriptorIndex := 142, attributes := #[] }, { accessFlags := 8, nameIndex := 501, descriptorIndex := 391, attributes := #[] }] 49 2 #[1106, 1108, 575, 1110, 1112] #[{ accessFlags := 18, nameIndex := 13, descriptorIndex := 14, attributes := #[] }, { accessFlags := 18, nameIndex := 17, descriptorIndex := 18, attributes := #[] }, { accessFlags := 2, nameIndex := 21, descriptorIndex := 22, attributes := #[] }, { accessFlags := 2, nameIndex := 25, descriptorIndex := 26, attributes := #[] }, { accessFlags := 26, nameIndex := 1116, descriptorIndex := 1117, attributes := #[] }, { accessFlags := 24, nameIndex := 40, descriptorIndex := 26, attributes := #[] }, { accessFlags := 26, nameIndex := 1101, descriptorIndex := 1102, attributes := #[] }, { accessFlags := 26, nameIndex := 1121, descriptorIndex := 1122, attributes := #[] }, { accessFlags := 25, nameIndex := 599, descriptorIndex := 600, attributes := #[] }, { accessFlags := 24, nameIndex := 1125, descriptorIndex := 18, attributes := #[] }, { accessFlags := 24, nameIndex := 1127, descriptorIndex := 18, attributes := #[] }])
  fields := #[{ name := "value", type := (.array .byte), accessFlags := 18, slot := 0, constantValue := 0 }, { name := "coder", type := .byte, accessFlags := 18, slot := 1, constantValue := 0 }, { name := "hash", type := .int, accessFlags := 2, slot := 2, constantValue := 0 }, { name := "hashIsZero", type := .boolean, accessFlags := 2, slot := 3, constantValue := 0 }, { name := "serialVersionUID", type := .long, accessFlags := 26, slot := 0, constantValue := 0 }, { name := "COMPACT_STRINGS", type := .boolean, accessFlags := 24, slot := 1, constantValue := 0 }, { name := "serialPersistentFields", type := (.array (.object "java/io/ObjectStreamField")), accessFlags := 26, slot := 2, constantValue := 0 }, { name := "REPL", type := .char, accessFlags := 26, slot := 3, constantValue := 0 }, { name := "CASE_INSENSITIVE_ORDER", type := (.object "java/util/Comparator"), accessFlags := 25, slot := 4, constantValue := 0 }, { name := "LATIN1", type := .byte, accessFlags := 24, slot := 5, constantValue := 0 }, { name := "UTF16", type := .byte, accessFlags := 24, slot := 6, constantValue := 0 }]
  methods := #[k7m0, k7m1, k7m2, k7m3, k7m4, k7m5, k7m6, k7m7]
  instanceTypes := #[(.array .byte), .byte, .int, .boolean]
  staticTypes := #[.long, .boolean, (.array (.object "java/io/ObjectStreamField")), .char, (.object "java/util/Comparator"), .byte, .byte]
  resolved := Array.replicate 1451 none
  statics := some 0 }

def pool8 : Array CpInfo := pool [(2, .class_ 4), (1, u "java/lang/Object"), (0, u "<init>"), (0, u "()V"), (0, .methodref 8 9), (0, .class_ 10), (0, .nameAndType 11 12), (0, u "java/lang/String"), (0, u "length"), (0, u "()I"), (0, .methodref 8 14), (0, .nameAndType 15 16), (0, u "codePointAt"), (0, u "(I)I"), (0, .class_ 18), (0, u "java/lang/Character"), (0, .integer 55296), (0, .integer 57343), (0, .methodref 17 22), (0, .nameAndType 23 16), (0, u "charCount"), (4, .class_ 29), (0, u "com/example/pedido/pedido/http/FreeText"), (2, u "isValid"), (0, u "(Ljava/lang/String;I)Z")] 19

def k8m0 : Method := { name := "<init>", desc := "()V", sig := { parameters := [], returnType := none }, accessFlags := 2, code := none }
def k8c1 : Code := { maxStack := 2, maxLocals := 5, code := prog_19_method_2_code, exceptionTable := #[], attributes := #[] }
def k8m1 : Method := { name := "isValid", desc := "(Ljava/lang/String;I)Z", sig := { parameters := [(.object "java/lang/String"), .int], returnType := some .boolean }, accessFlags := 8, code := some k8c1 }
/-- com/example/pedido/pedido/http/FreeText -/
def k8 : Class := { plain "com/example/pedido/pedido/http/FreeText" (some 0) with
  accessFlags := 48
  interfaces := #[]
  cf := some (fileOf pool8 28 #[] #[{ accessFlags := 2, nameIndex := 5, descriptorIndex := 6, attributes := #[] }, { accessFlags := 8, nameIndex := 32, descriptorIndex := 33, attributes := #[] }] 48 2 #[] #[])
  fields := #[]
  methods := #[k8m0, k8m1]
  instanceTypes := #[]
  staticTypes := #[]
  resolved := Array.replicate 53 none
  statics := none }

def pool9 : Array CpInfo := pool [(6, .class_ 8), (1, u "java/lang/Object"), (0, u "<init>"), (0, u "()V"), (0, .methodref 12 13), (0, .class_ 14), (0, .nameAndType 15 16), (0, u "java/lang/StringUTF16"), (0, u "newBytesLength"), (0, u "(I)I"), (3, .integer 1073741823), (23, .fieldref 12 45), (0, .nameAndType 46 47), (0, u "$assertionsDisabled"), (0, u "Z"), (11, .fieldref 12 60), (0, .nameAndType 61 62), (0, u "HI_BYTE_SHIFT"), (0, u "I"), (0, .fieldref 12 64), (0, .nameAndType 65 62), (0, u "LO_BYTE_SHIFT"), (5, .methodref 12 72), (0, .nameAndType 73 74), (0, u "getChar"), (0, u "([BI)C"), (0, .methodref 76 77), (0, .class_ 78), (0, .nameAndType 79 80), (0, u "java/lang/Character"), (0, u "isHighSurrogate"), (0, u "(C)Z"), (0, .methodref 76 82), (0, .nameAndType 83 80), (0, u "isLowSurrogate"), (0, .methodref 76 85), (0, .nameAndType 86 87), (0, u "toCodePoint"), (0, u "(CC)I"), (0, .methodref 12 89), (0, .nameAndType 90 91), (0, u "codePointAt"), (0, u "([BIIZ)I"), (15, .methodref 12 108), (0, .nameAndType 109 110), (0, u "newBytesFor"), (0, u "(I)[B"), (0, .methodref 12 112), (0, .nameAndType 113 114), (0, u "putChar"), (0, u "([BII)V"), (0, .methodref 12 116), (0, .nameAndType 117 118), (0, u "compress"), (0, u "([CI[BII)I"), (0, .methodref 12 120), (0, .nameAndType 121 122), (0, u "toBytes"), (0, u "([CII)[B"), (127, u "([BII)I"), (10, u "coderFromArrayLen"), (0, u "([BI)B"), (106, .class_ 371), (1, u "java/lang/StringUTF16$LinesSpliterator"), (58, u "MAX_LENGTH"), (196, .class_ 628), (0, u "java/lang/StringUTF16$CodePointsSpliterator"), (0, .class_ 630), (0, u "java/lang/StringUTF16$CharsSpliterator")] 4

def k9m0 : Method := { name := "<init>", desc := "()V", sig := { parameters := [], returnType := none }, accessFlags := 0, code := none }
def k9c1 : Code := { maxStack := 1, maxLocals := 1, code := jdk_52_method_2_code, exceptionTable := #[], attributes := #[] }
def k9m1 : Method := { name := "newBytesFor", desc := "(I)[B", sig := { parameters := [.int], returnType := some (.array .byte) }, accessFlags := 9, code := some k9c1 }
def k9c2 : Code := { maxStack := 4, maxLocals := 1, code := jdk_52_method_3_code, exceptionTable := #[], attributes := #[] }
def k9m2 : Method := { name := "newBytesLength", desc := "(I)I", sig := { parameters := [.int], returnType := some .int }, accessFlags := 9, code := some k9c2 }
def k9c3 : Code := { maxStack := 4, maxLocals := 3, code := jdk_52_method_4_code, exceptionTable := #[], attributes := #[] }
def k9m3 : Method := { name := "putChar", desc := "([BII)V", sig := { parameters := [(.array .byte), .int, .int], returnType := none }, accessFlags := 8, code := some k9c3 }
def k9c4 : Code := { maxStack := 3, maxLocals := 2, code := jdk_52_method_5_code, exceptionTable := #[], attributes := #[] }
def k9m4 : Method := { name := "getChar", desc := "([BI)C", sig := { parameters := [(.array .byte), .int], returnType := some .char }, accessFlags := 8, code := some k9c4 }
def k9c5 : Code := { maxStack := 2, maxLocals := 6, code := jdk_52_method_7_code, exceptionTable := #[], attributes := #[] }
def k9m5 : Method := { name := "codePointAt", desc := "([BIIZ)I", sig := { parameters := [(.array .byte), .int, .int, .boolean], returnType := some .int }, accessFlags := 10, code := some k9c5 }
def k9c6 : Code := { maxStack := 4, maxLocals := 3, code := jdk_52_method_8_code, exceptionTable := #[], attributes := #[] }
def k9m6 : Method := { name := "codePointAt", desc := "([BII)I", sig := { parameters := [(.array .byte), .int, .int], returnType := some .int }, accessFlags := 9, code := some k9c6 }
def k9c7 : Code := { maxStack := 4, maxLocals := 5, code := jdk_52_method_14_code, exceptionTable := #[], attributes := #[] }
def k9m7 : Method := { name := "toBytes", desc := "([CII)[B", sig := { parameters := [(.array .char), .int, .int], returnType := some (.array .byte) }, accessFlags := 9, code := some k9c7 }
def k9c8 : Code := { maxStack := 2, maxLocals := 2, code := jdk_52_method_15_code, exceptionTable := #[], attributes := #[] }
def k9m8 : Method := { name := "coderFromArrayLen", desc := "([BI)B", sig := { parameters := [(.array .byte), .int], returnType := some .byte }, accessFlags := 8, code := some k9c8 }
def k9c9 : Code := { maxStack := 5, maxLocals := 6, code := jdk_52_method_16_code, exceptionTable := #[], attributes := #[] }
def k9m9 : Method := { name := "compress", desc := "([CII)[B", sig := { parameters := [(.array .char), .int, .int], returnType := some (.array .byte) }, accessFlags := 9, code := some k9c9 }
def k9c10 : Code := { maxStack := 3, maxLocals := 7, code := jdk_52_method_21_code, exceptionTable := #[], attributes := #[] }
def k9m10 : Method := { name := "compress", desc := "([CI[BII)I", sig := { parameters := [(.array .char), .int, (.array .byte), .int, .int], returnType := some .int }, accessFlags := 9, code := some k9c10 }
/-- java/lang/StringUTF16 -/
def k9 : Class := { plain "java/lang/StringUTF16" (some 0) with
  accessFlags := 48
  interfaces := #[]
  cf := some (fileOf pool9 12 #[.nestMembers #[627, 629, 369]] #[{ accessFlags := 0, nameIndex := 9, descriptorIndex := 10, attributes := #[] }, { accessFlags := 9, nameIndex := 109, descriptorIndex := 110, attributes := #[] }, { accessFlags := 9, nameIndex := 15, descriptorIndex := 16, attributes := #[] }, { accessFlags := 8, nameIndex := 113, descriptorIndex := 114, attributes := #[] }, { accessFlags := 8, nameIndex := 73, descriptorIndex := 74, attributes := #[] }, { accessFlags := 10, nameIndex := 90, descriptorIndex := 91, attributes := #[] }, { accessFlags := 9, nameIndex := 90, descriptorIndex := 250, attributes := #[] }, { accessFlags := 9, nameIndex := 121, descriptorIndex := 122, attributes := #[] }, { accessFlags := 8, nameIndex := 261, descriptorIndex := 262, attributes := #[] }, { accessFlags := 9, nameIndex := 117, descriptorIndex := 122, attributes := #[] }, { accessFlags := 9, nameIndex := 117, descriptorIndex := 118, attributes := #[] }] 48 6 #[] #[{ accessFlags := 26, nameIndex := 61, descriptorIndex := 62, attributes := #[] }, { accessFlags := 26, nameIndex := 65, descriptorIndex := 62, attributes := #[] }, { accessFlags := 24, nameIndex := 430, descriptorIndex := 62, attributes := #[] }, { accessFlags := 4120, nameIndex := 46, descriptorIndex := 47, attributes := #[] }])
  fields := #[{ name := "HI_BYTE_SHIFT", type := .int, accessFlags := 26, slot := 0, constantValue := 0 }, { name := "LO_BYTE_SHIFT", type := .int, accessFlags := 26, slot := 1, constantValue := 0 }, { name := "MAX_LENGTH", type := .int, accessFlags := 24, slot := 2, constantValue := 0 }, { name := "$assertionsDisabled", type := .boolean, accessFlags := 4120, slot := 3, constantValue := 0 }]
  methods := #[k9m0, k9m1, k9m2, k9m3, k9m4, k9m5, k9m6, k9m7, k9m8, k9m9, k9m10]
  instanceTypes := #[]
  staticTypes := #[.int, .int, .int, .boolean]
  resolved := Array.replicate 635 none
  statics := some 1 }

def pool10 : Array CpInfo := pool [(2, .class_ 4), (1, u "java/lang/Object"), (0, u "<init>"), (0, u "()V"), (17, .class_ 26), (1, u "jdk/internal/util/Preconditions"), (6, u "checkIndex"), (21, .class_ 56), (0, u "jdk/internal/util/Preconditions$4"), (57, .class_ 115), (0, u "jdk/internal/util/Preconditions$1"), (7, u "SIOOBE_FORMATTER"), (0, u "Ljava/util/function/BiFunction;"), (0, .class_ 126), (0, u "jdk/internal/util/Preconditions$2"), (3, u "AIOOBE_FORMATTER"), (0, .class_ 132), (0, u "jdk/internal/util/Preconditions$3"), (3, u "IOOBE_FORMATTER"), (41, u "(IILjava/util/function/BiFunction;)I")] 15

def k10m0 : Method := { name := "<init>", desc := "()V", sig := { parameters := [], returnType := none }, accessFlags := 1, code := none }
def k10c1 : Code := { maxStack := 3, maxLocals := 3, code := jdk_41_method_11_code, exceptionTable := #[], attributes := #[] }
def k10m1 : Method := { name := "checkIndex", desc := "(IILjava/util/function/BiFunction;)I", sig := { parameters := [.int, .int, (.object "java/util/function/BiFunction")], returnType := some .int }, accessFlags := 9, code := some k10c1 }
/-- jdk/internal/util/Preconditions -/
def k10 : Class := { plain "jdk/internal/util/Preconditions" (some 0) with
  accessFlags := 33
  interfaces := #[]
  cf := some (fileOf pool10 24 #[.nestMembers #[55, 131, 125, 114]] #[{ accessFlags := 1, nameIndex := 5, descriptorIndex := 6, attributes := #[] }, { accessFlags := 9, nameIndex := 33, descriptorIndex := 178, attributes := #[] }] 33 2 #[] #[{ accessFlags := 25, nameIndex := 123, descriptorIndex := 124, attributes := #[] }, { accessFlags := 25, nameIndex := 130, descriptorIndex := 124, attributes := #[] }, { accessFlags := 25, nameIndex := 136, descriptorIndex := 124, attributes := #[] }])
  fields := #[{ name := "SIOOBE_FORMATTER", type := (.object "java/util/function/BiFunction"), accessFlags := 25, slot := 0, constantValue := 0 }, { name := "AIOOBE_FORMATTER", type := (.object "java/util/function/BiFunction"), accessFlags := 25, slot := 1, constantValue := 0 }, { name := "IOOBE_FORMATTER", type := (.object "java/util/function/BiFunction"), accessFlags := 25, slot := 2, constantValue := 0 }]
  methods := #[k10m0, k10m1]
  instanceTypes := #[]
  staticTypes := #[(.object "java/util/function/BiFunction"), (.object "java/util/function/BiFunction"), (.object "java/util/function/BiFunction")]
  resolved := Array.replicate 194 none
  statics := some 2 }

def pool11 : Array CpInfo := pool [(1, .class_ 2), (0, u "java/lang/Character"), (18, u "value"), (0, u "C"), (19, .class_ 44), (1, u "java/lang/Object"), (3, .class_ 50), (1, u "java/lang/Character$CharacterCache"), (22, .integer 65536), (1, .integer 55296), (0, .integer 56320), (0, .integer 57344), (2, u "isHighSurrogate"), (0, u "(C)Z"), (2, u "isLowSurrogate"), (0, .integer 4238353408), (12, u "toCodePoint"), (0, u "(CC)I"), (74, u "(I)I"), (109, u "$assertionsDisabled"), (0, u "Z"), (21, .class_ 309), (1, u "java/lang/Character$UnicodeBlock"), (73, u "TYPE"), (0, u "Ljava/lang/Class;"), (0, .class_ 386), (0, u "java/io/Serializable"), (0, .class_ 388), (0, u "java/lang/Comparable"), (0, .class_ 390), (0, u "java/lang/constant/Constable"), (0, u "MIN_RADIX"), (0, u "I"), (2, u "MAX_RADIX"), (1, u "MIN_VALUE"), (1, u "MAX_VALUE"), (3, u "UNASSIGNED"), (0, u "B"), (0, u "UPPERCASE_LETTER"), (1, u "LOWERCASE_LETTER"), (0, u "TITLECASE_LETTER"), (1, u "MODIFIER_LETTER"), (1, u "OTHER_LETTER"), (1, u "NON_SPACING_MARK"), (1, u "ENCLOSING_MARK"), (1, u "COMBINING_SPACING_MARK"), (1, u "DECIMAL_DIGIT_NUMBER"), (1, u "LETTER_NUMBER"), (1, u "OTHER_NUMBER"), (1, u "SPACE_SEPARATOR"), (1, u "LINE_SEPARATOR"), (1, u "PARAGRAPH_SEPARATOR"), (1, u "CONTROL"), (1, u "FORMAT"), (1, u "PRIVATE_USE"), (1, u "SURROGATE"), (1, u "DASH_PUNCTUATION"), (1, u "START_PUNCTUATION"), (1, u "END_PUNCTUATION"), (1, u "CONNECTOR_PUNCTUATION"), (1, u "OTHER_PUNCTUATION"), (1, u "MATH_SYMBOL"), (1, u "CURRENCY_SYMBOL"), (1, u "MODIFIER_SYMBOL"), (1, u "OTHER_SYMBOL"), (1, u "INITIAL_QUOTE_PUNCTUATION"), (1, u "FINAL_QUOTE_PUNCTUATION"), (1, u "ERROR"), (1, u "DIRECTIONALITY_UNDEFINED"), (0, u "DIRECTIONALITY_LEFT_TO_RIGHT"), (0, u "DIRECTIONALITY_RIGHT_TO_LEFT"), (0, u "DIRECTIONALITY_RIGHT_TO_LEFT_ARABIC"), (0, u "DIRECTIONALITY_EUROPEAN_NUMBER"), (0, u "DIRECTIONALITY_EUROPEAN_NUMBER_SEPARATOR"), (0, u "DIRECTIONALITY_EUROPEAN_NUMBER_TERMINATOR"), (0, u "DIRECTIONALITY_ARABIC_NUMBER"), (0, u "DIRECTIONALITY_COMMON_NUMBER_SEPARATOR"), (0, u "DIRECTIONALITY_NONSPACING_MARK"), (0, u "DIRECTIONALITY_BOUNDARY_NEUTRAL"), (0, u "DIRECTIONALITY_PARAGRAPH_SEPARATOR"), (0, u "DIRECTIONALITY_SEGMENT_SEPARATOR"), (0, u "DIRECTIONALITY_WHITESPACE"), (0, u "DIRECTIONALITY_OTHER_NEUTRALS"), (0, u "DIRECTIONALITY_LEFT_TO_RIGHT_EMBEDDING"), (0, u "DIRECTIONALITY_LEFT_TO_RIGHT_OVERRIDE"), (0, u "DIRECTIONALITY_RIGHT_TO_LEFT_EMBEDDING"), (0, u "DIRECTIONALITY_RIGHT_TO_LEFT_OVERRIDE"), (1, u "DIRECTIONALITY_POP_DIRECTIONAL_FORMAT"), (0, u "DIRECTIONALITY_LEFT_TO_RIGHT_ISOLATE"), (0, u "DIRECTIONALITY_RIGHT_TO_LEFT_ISOLATE"), (0, u "DIRECTIONALITY_FIRST_STRONG_ISOLATE"), (0, u "DIRECTIONALITY_POP_DIRECTIONAL_ISOLATE"), (0, u "MIN_HIGH_SURROGATE"), (0, u "MAX_HIGH_SURROGATE"), (1, u "MIN_LOW_SURROGATE"), (0, u "MAX_LOW_SURROGATE"), (1, u "MIN_SURROGATE"), (0, u "MAX_SURROGATE"), (0, u "MIN_SUPPLEMENTARY_CODE_POINT"), (0, u "MIN_CODE_POINT"), (0, u "MAX_CODE_POINT"), (1, u "serialVersionUID"), (0, u "J"), (2, u "SIZE"), (0, u "BYTES"), (29, u "charCount"), (58, .class_ 596), (0, u "java/lang/Character$UnicodeScript"), (0, .class_ 598), (0, u "java/lang/Character$Subset")] 5

def k11c0 : Code := { maxStack := 2, maxLocals := 1, code := jdk_89_method_14_code, exceptionTable := #[], attributes := #[] }
def k11m0 : Method := { name := "isHighSurrogate", desc := "(C)Z", sig := { parameters := [.char], returnType := some .boolean }, accessFlags := 9, code := some k11c0 }
def k11c1 : Code := { maxStack := 2, maxLocals := 1, code := jdk_89_method_15_code, exceptionTable := #[], attributes := #[] }
def k11m1 : Method := { name := "isLowSurrogate", desc := "(C)Z", sig := { parameters := [.char], returnType := some .boolean }, accessFlags := 9, code := some k11c1 }
def k11c2 : Code := { maxStack := 2, maxLocals := 1, code := jdk_89_method_18_code, exceptionTable := #[], attributes := #[] }
def k11m2 : Method := { name := "charCount", desc := "(I)I", sig := { parameters := [.int], returnType := some .int }, accessFlags := 9, code := some k11c2 }
def k11c3 : Code := { maxStack := 2, maxLocals := 2, code := jdk_89_method_19_code, exceptionTable := #[], attributes := #[] }
def k11m3 : Method := { name := "toCodePoint", desc := "(CC)I", sig := { parameters := [.char, .char], returnType := some .int }, accessFlags := 9, code := some k11c3 }
/-- java/lang/Character -/
def k11 : Class := { plain "java/lang/Character" (some 0) with
  accessFlags := 49
  interfaces := #[2, 3, 5]
  cf := some (fileOf pool11 1 #[.nestMembers #[48, 595, 307, 597]] #[{ accessFlags := 9, nameIndex := 80, descriptorIndex := 81, attributes := #[] }, { accessFlags := 9, nameIndex := 84, descriptorIndex := 81, attributes := #[] }, { accessFlags := 9, nameIndex := 536, descriptorIndex := 174, attributes := #[] }, { accessFlags := 9, nameIndex := 98, descriptorIndex := 99, attributes := #[] }] 49 42 #[385, 387, 389] #[{ accessFlags := 25, nameIndex := 391, descriptorIndex := 392, attributes := #[] }, { accessFlags := 25, nameIndex := 395, descriptorIndex := 392, attributes := #[] }, { accessFlags := 25, nameIndex := 397, descriptorIndex := 22, attributes := #[] }, { accessFlags := 25, nameIndex := 399, descriptorIndex := 22, attributes := #[] }, { accessFlags := 25, nameIndex := 383, descriptorIndex := 384, attributes := #[] }, { accessFlags := 25, nameIndex := 403, descriptorIndex := 404, attributes := #[] }, { accessFlags := 25, nameIndex := 405, descriptorIndex := 404, attributes := #[] }, { accessFlags := 25, nameIndex := 407, descriptorIndex := 404, attributes := #[] }, { accessFlags := 25, nameIndex := 408, descriptorIndex := 404, attributes := #[] }, { accessFlags := 25, nameIndex := 410, descriptorIndex := 404, attributes := #[] }, { accessFlags := 25, nameIndex := 412, descriptorIndex := 404, attributes := #[] }, { accessFlags := 25, nameIndex := 414, descriptorIndex := 404, attributes := #[] }, { accessFlags := 25, nameIndex := 416, descriptorIndex := 404, attributes := #[] }, { accessFlags := 25, nameIndex := 418, descriptorIndex := 404, attributes := #[] }, { accessFlags := 25, nameIndex := 420, descriptorIndex := 404, attributes := #[] }, { accessFlags := 25, nameIndex := 422, descriptorIndex := 404, attributes := #[] }, { accessFlags := 25, nameIndex := 424, descriptorIndex := 404, attributes := #[] }, { accessFlags := 25, nameIndex := 426, descriptorIndex := 404, attributes := #[] }, { accessFlags := 25, nameIndex := 428, descriptorIndex := 404, attributes := #[] }, { accessFlags := 25, nameIndex := 430, descriptorIndex := 404, attributes := #[] }, { accessFlags := 25, nameIndex := 432, descriptorIndex := 404, attributes := #[] }, { accessFlags := 25, nameIndex := 434, descriptorIndex := 404, attributes := #[] }, { accessFlags := 25, nameIndex := 436, descriptorIndex := 404, attributes := #[] }, { accessFlags := 25, nameIndex := 438, descriptorIndex := 404, attributes := #[] }, { accessFlags := 25, nameIndex := 440, descriptorIndex := 404, attributes := #[] }, { accessFlags := 25, nameIndex := 442, descriptorIndex := 404, attributes := #[] }, { accessFlags := 25, nameIndex := 444, descriptorIndex := 404, attributes := #[] }, { accessFlags := 25, nameIndex := 446, descriptorIndex := 404, attributes := #[] }, { accessFlags := 25, nameIndex := 448, descriptorIndex := 404, attributes := #[] }, { accessFlags := 25, nameIndex := 450, descriptorIndex := 404, attributes := #[] }, { accessFlags := 25, nameIndex := 452, descriptorIndex := 404, attributes := #[] }, { accessFlags := 25, nameIndex := 454, descriptorIndex := 404, attributes := #[] }, { accessFlags := 25, nameIndex := 456, descriptorIndex := 404, attributes := #[] }, { accessFlags := 25, nameIndex := 458, descriptorIndex := 404, attributes := #[] }, { accessFlags := 25, nameIndex := 460, descriptorIndex := 404, attributes := #[] }, { accessFlags := 24, nameIndex := 462, descriptorIndex := 392, attributes := #[] }, { accessFlags := 25, nameIndex := 464, descriptorIndex := 404, attributes := #[] }, { accessFlags := 25, nameIndex := 465, descriptorIndex := 404, attributes := #[] }, { accessFlags := 25, nameIndex := 466, descriptorIndex := 404, attributes := #[] }, { accessFlags := 25, nameIndex := 467, descriptorIndex := 404, attributes := #[] }, { accessFlags := 25, nameIndex := 468, descriptorIndex := 404, attributes := #[] }, { accessFlags := 25, nameIndex := 469, descriptorIndex := 404, attributes := #[] }, { accessFlags := 25, nameIndex := 470, descriptorIndex := 404, attributes := #[] }, { accessFlags := 25, nameIndex := 471, descriptorIndex := 404, attributes := #[] }, { accessFlags := 25, nameIndex := 472, descriptorIndex := 404, attributes := #[] }, { accessFlags := 25, nameIndex := 473, descriptorIndex := 404, attributes := #[] }, { accessFlags := 25, nameIndex := 474, descriptorIndex := 404, attributes := #[] }, { accessFlags := 25, nameIndex := 475, descriptorIndex := 404, attributes := #[] }, { accessFlags := 25, nameIndex := 476, descriptorIndex := 404, attributes := #[] }, { accessFlags := 25, nameIndex := 477, descriptorIndex := 404, attributes := #[] }, { accessFlags := 25, nameIndex := 478, descriptorIndex := 404, attributes := #[] }, { accessFlags := 25, nameIndex := 479, descriptorIndex := 404, attributes := #[] }, { accessFlags := 25, nameIndex := 480, descriptorIndex := 404, attributes := #[] }, { accessFlags := 25, nameIndex := 481, descriptorIndex := 404, attributes := #[] }, { accessFlags := 25, nameIndex := 482, descriptorIndex := 404, attributes := #[] }, { accessFlags := 25, nameIndex := 484, descriptorIndex := 404, attributes := #[] }, { accessFlags := 25, nameIndex := 485, descriptorIndex := 404, attributes := #[] }, { accessFlags := 25, nameIndex := 486, descriptorIndex := 404, attributes := #[] }, { accessFlags := 25, nameIndex := 487, descriptorIndex := 404, attributes := #[] }, { accessFlags := 25, nameIndex := 488, descriptorIndex := 404, attributes := #[] }, { accessFlags := 25, nameIndex := 489, descriptorIndex := 22, attributes := #[] }, { accessFlags := 25, nameIndex := 490, descriptorIndex := 22, attributes := #[] }, { accessFlags := 25, nameIndex := 492, descriptorIndex := 22, attributes := #[] }, { accessFlags := 25, nameIndex := 493, descriptorIndex := 22, attributes := #[] }, { accessFlags := 25, nameIndex := 495, descriptorIndex := 22, attributes := #[] }, { accessFlags := 25, nameIndex := 496, descriptorIndex := 22, attributes := #[] }, { accessFlags := 25, nameIndex := 497, descriptorIndex := 392, attributes := #[] }, { accessFlags := 25, nameIndex := 498, descriptorIndex := 392, attributes := #[] }, { accessFlags := 25, nameIndex := 499, descriptorIndex := 392, attributes := #[] }, { accessFlags := 18, nameIndex := 21, descriptorIndex := 22, attributes := #[] }, { accessFlags := 26, nameIndex := 501, descriptorIndex := 502, attributes := #[] }, { accessFlags := 25, nameIndex := 505, descriptorIndex := 392, attributes := #[] }, { accessFlags := 25, nameIndex := 506, descriptorIndex := 392, attributes := #[] }, { accessFlags := 4120, nameIndex := 284, descriptorIndex := 285, attributes := #[] }])
  fields := #[{ name := "MIN_RADIX", type := .int, accessFlags := 25, slot := 0, constantValue := 0 }, { name := "MAX_RADIX", type := .int, accessFlags := 25, slot := 1, constantValue := 0 }, { name := "MIN_VALUE", type := .char, accessFlags := 25, slot := 2, constantValue := 0 }, { name := "MAX_VALUE", type := .char, accessFlags := 25, slot := 3, constantValue := 0 }, { name := "TYPE", type := (.object "java/lang/Class"), accessFlags := 25, slot := 4, constantValue := 0 }, { name := "UNASSIGNED", type := .byte, accessFlags := 25, slot := 5, constantValue := 0 }, { name := "UPPERCASE_LETTER", type := .byte, accessFlags := 25, slot := 6, constantValue := 0 }, { name := "LOWERCASE_LETTER", type := .byte, accessFlags := 25, slot := 7, constantValue := 0 }, { name := "TITLECASE_LETTER", type := .byte, accessFlags := 25, slot := 8, constantValue := 0 }, { name := "MODIFIER_LETTER", type := .byte, accessFlags := 25, slot := 9, constantValue := 0 }, { name := "OTHER_LETTER", type := .byte, accessFlags := 25, slot := 10, constantValue := 0 }, { name := "NON_SPACING_MARK", type := .byte, accessFlags := 25, slot := 11, constantValue := 0 }, { name := "ENCLOSING_MARK", type := .byte, accessFlags := 25, slot := 12, constantValue := 0 }, { name := "COMBINING_SPACING_MARK", type := .byte, accessFlags := 25, slot := 13, constantValue := 0 }, { name := "DECIMAL_DIGIT_NUMBER", type := .byte, accessFlags := 25, slot := 14, constantValue := 0 }, { name := "LETTER_NUMBER", type := .byte, accessFlags := 25, slot := 15, constantValue := 0 }, { name := "OTHER_NUMBER", type := .byte, accessFlags := 25, slot := 16, constantValue := 0 }, { name := "SPACE_SEPARATOR", type := .byte, accessFlags := 25, slot := 17, constantValue := 0 }, { name := "LINE_SEPARATOR", type := .byte, accessFlags := 25, slot := 18, constantValue := 0 }, { name := "PARAGRAPH_SEPARATOR", type := .byte, accessFlags := 25, slot := 19, constantValue := 0 }, { name := "CONTROL", type := .byte, accessFlags := 25, slot := 20, constantValue := 0 }, { name := "FORMAT", type := .byte, accessFlags := 25, slot := 21, constantValue := 0 }, { name := "PRIVATE_USE", type := .byte, accessFlags := 25, slot := 22, constantValue := 0 }, { name := "SURROGATE", type := .byte, accessFlags := 25, slot := 23, constantValue := 0 }, { name := "DASH_PUNCTUATION", type := .byte, accessFlags := 25, slot := 24, constantValue := 0 }, { name := "START_PUNCTUATION", type := .byte, accessFlags := 25, slot := 25, constantValue := 0 }, { name := "END_PUNCTUATION", type := .byte, accessFlags := 25, slot := 26, constantValue := 0 }, { name := "CONNECTOR_PUNCTUATION", type := .byte, accessFlags := 25, slot := 27, constantValue := 0 }, { name := "OTHER_PUNCTUATION", type := .byte, accessFlags := 25, slot := 28, constantValue := 0 }, { name := "MATH_SYMBOL", type := .byte, accessFlags := 25, slot := 29, constantValue := 0 }, { name := "CURRENCY_SYMBOL", type := .byte, accessFlags := 25, slot := 30, constantValue := 0 }, { name := "MODIFIER_SYMBOL", type := .byte, accessFlags := 25, slot := 31, constantValue := 0 }, { name := "OTHER_SYMBOL", type := .byte, accessFlags := 25, slot := 32, constantValue := 0 }, { name := "INITIAL_QUOTE_PUNCTUATION", type := .byte, accessFlags := 25, slot := 33, constantValue := 0 }, { name := "FINAL_QUOTE_PUNCTUATION", type := .byte, accessFlags := 25, slot := 34, constantValue := 0 }, { name := "ERROR", type := .int, accessFlags := 24, slot := 35, constantValue := 0 }, { name := "DIRECTIONALITY_UNDEFINED", type := .byte, accessFlags := 25, slot := 36, constantValue := 0 }, { name := "DIRECTIONALITY_LEFT_TO_RIGHT", type := .byte, accessFlags := 25, slot := 37, constantValue := 0 }, { name := "DIRECTIONALITY_RIGHT_TO_LEFT", type := .byte, accessFlags := 25, slot := 38, constantValue := 0 }, { name := "DIRECTIONALITY_RIGHT_TO_LEFT_ARABIC", type := .byte, accessFlags := 25, slot := 39, constantValue := 0 }, { name := "DIRECTIONALITY_EUROPEAN_NUMBER", type := .byte, accessFlags := 25, slot := 40, constantValue := 0 }, { name := "DIRECTIONALITY_EUROPEAN_NUMBER_SEPARATOR", type := .byte, accessFlags := 25, slot := 41, constantValue := 0 }, { name := "DIRECTIONALITY_EUROPEAN_NUMBER_TERMINATOR", type := .byte, accessFlags := 25, slot := 42, constantValue := 0 }, { name := "DIRECTIONALITY_ARABIC_NUMBER", type := .byte, accessFlags := 25, slot := 43, constantValue := 0 }, { name := "DIRECTIONALITY_COMMON_NUMBER_SEPARATOR", type := .byte, accessFlags := 25, slot := 44, constantValue := 0 }, { name := "DIRECTIONALITY_NONSPACING_MARK", type := .byte, accessFlags := 25, slot := 45, constantValue := 0 }, { name := "DIRECTIONALITY_BOUNDARY_NEUTRAL", type := .byte, accessFlags := 25, slot := 46, constantValue := 0 }, { name := "DIRECTIONALITY_PARAGRAPH_SEPARATOR", type := .byte, accessFlags := 25, slot := 47, constantValue := 0 }, { name := "DIRECTIONALITY_SEGMENT_SEPARATOR", type := .byte, accessFlags := 25, slot := 48, constantValue := 0 }, { name := "DIRECTIONALITY_WHITESPACE", type := .byte, accessFlags := 25, slot := 49, constantValue := 0 }, { name := "DIRECTIONALITY_OTHER_NEUTRALS", type := .byte, accessFlags := 25, slot := 50, constantValue := 0 }, { name := "DIRECTIONALITY_LEFT_TO_RIGHT_EMBEDDING", type := .byte, accessFlags := 25, slot := 51, constantValue := 0 }, { name := "DIRECTIONALITY_LEFT_TO_RIGHT_OVERRIDE", type := .byte, accessFlags := 25, slot := 52, constantValue := 0 }, { name := "DIRECTIONALITY_RIGHT_TO_LEFT_EMBEDDING", type := .byte, accessFlags := 25, slot := 53, constantValue := 0 }, { name := "DIRECTIONALITY_RIGHT_TO_LEFT_OVERRIDE", type := .byte, accessFlags := 25, slot := 54, constantValue := 0 }, { name := "DIRECTIONALITY_POP_DIRECTIONAL_FORMAT", type := .byte, accessFlags := 25, slot := 55, constantValue := 0 }, { name := "DIRECTIONALITY_LEFT_TO_RIGHT_ISOLATE", type := .byte, accessFlags := 25, slot := 56, constantValue := 0 }, { name := "DIRECTIONALITY_RIGHT_TO_LEFT_ISOLATE", type := .byte, accessFlags := 25, slot := 57, constantValue := 0 }, { name := "DIRECTIONALITY_FIRST_STRONG_ISOLATE", type := .byte, accessFlags := 25, slot := 58, constantValue := 0 }, { name := "DIRECTIONALITY_POP_DIRECTIONAL_ISOLATE", type := .byte, accessFlags := 25, slot := 59, constantValue := 0 }, { name := "MIN_HIGH_SURROGATE", type := .char, accessFlags := 25, slot := 60, constantValue := 0 }, { name := "MAX_HIGH_SURROGATE", type := .char, accessFlags := 25, slot := 61, constantValue := 0 }, { name := "MIN_LOW_SURROGATE", type := .char, accessFlags := 25, slot := 62, constantValue := 0 }, { name := "MAX_LOW_SURROGATE", type := .char, accessFlags := 25, slot := 63, constantValue := 0 }, { name := "MIN_SURROGATE", type := .char, accessFlags := 25, slot := 64, constantValue := 0 }, { name := "MAX_SURROGATE", type := .char, accessFlags := 25, slot := 65, constantValue := 0 }, { name := "MIN_SUPPLEMENTARY_CODE_POINT", type := .int, accessFlags := 25, slot := 66, constantValue := 0 }, { name := "MIN_CODE_POINT", type := .int, accessFlags := 25, slot := 67, constantValue := 0 }, { name := "MAX_CODE_POINT", type := .int, accessFlags := 25, slot := 68, constantValue := 0 }, { name := "value", type := .char, accessFlags := 18, slot := 0, constantValue := 0 }, { name := "serialVersionUID", type := .long, accessFlags := 26, slot := 69, constantValue := 0 }, { name := "SIZE", type := .int, accessFlags := 25, slot := 70, constantValue := 0 }, { name := "BYTES", type := .int, accessFlags := 25, slot := 71, constantValue := 0 }, { name := "$assertionsDisabled", type := .boolean, accessFlags := 4120, slot := 72, constantValue := 0 }]
  methods := #[k11m0, k11m1, k11m2, k11m3]
  instanceTypes := #[.char]
  staticTypes := #[.int, .int, .char, .char, (.object "java/lang/Class"), .byte, .byte, .byte, .byte, .byte, .byte, .byte, .byte, .byte, .byte, .byte, .byte, .byte, .byte, .byte, .byte, .byte, .byte, .byte, .byte, .byte, .byte, .byte, .byte, .byte, .byte, .byte, .byte, .byte, .byte, .int, .byte, .byte, .byte, .byte, .byte, .byte, .byte, .byte, .byte, .byte, .byte, .byte, .byte, .byte, .byte, .byte, .byte, .byte, .byte, .byte, .byte, .byte, .byte, .byte, .char, .char, .char, .char, .char, .char, .int, .int, .int, .long, .int, .int, .boolean]
  resolved := Array.replicate 604 none
  statics := none }

def pool12 : Array CpInfo := pool [(4, .class_ 6), (1, u "java/lang/Object"), (0, u "<init>"), (0, u "()V"), (5, .class_ 16), (1, u "java/lang/StringLatin1"), (104, u "$assertionsDisabled"), (0, u "Z"), (98, .class_ 223), (1, u "java/lang/StringLatin1$LinesSpliterator"), (166, .class_ 391), (0, u "java/lang/StringLatin1$CharsSpliterator")] 3

def k12m0 : Method := { name := "<init>", desc := "()V", sig := { parameters := [], returnType := none }, accessFlags := 0, code := none }
/-- java/lang/StringLatin1 -/
def k12 : Class := { plain "java/lang/StringLatin1" (some 0) with
  accessFlags := 48
  interfaces := #[]
  cf := some (fileOf pool12 14 #[.nestMembers #[390, 221]] #[{ accessFlags := 0, nameIndex := 7, descriptorIndex := 8, attributes := #[] }] 48 4 #[] #[{ accessFlags := 4120, nameIndex := 121, descriptorIndex := 122, attributes := #[] }])
  fields := #[{ name := "$assertionsDisabled", type := .boolean, accessFlags := 4120, slot := 0, constantValue := 0 }]
  methods := #[k12m0]
  instanceTypes := #[]
  staticTypes := #[.boolean]
  resolved := Array.replicate 395 none
  statics := none }

def pool13 : Array CpInfo := pool [(9, u "<init>"), (6, .class_ 18), (1, u "java/lang/Object"), (0, u "()V"), (1, .class_ 23), (1, u "jdk/internal/util/ArraysSupport"), (0, u "LOG2_ARRAY_LONG_INDEX_SCALE"), (0, u "I"), (2, u "U"), (0, u "Ljdk/internal/misc/Unsafe;"), (8, u "BIG_ENDIAN"), (0, u "Z"), (8, u "LOG2_BYTE_BIT_SIZE"), (4, u "LOG2_ARRAY_INT_INDEX_SCALE"), (54, u "JLA"), (0, u "Ljdk/internal/access/JavaLangAccess;"), (11, u "LOG2_ARRAY_BOOLEAN_INDEX_SCALE"), (9, u "LOG2_ARRAY_BYTE_INDEX_SCALE"), (5, u "LOG2_ARRAY_CHAR_INDEX_SCALE"), (5, u "LOG2_ARRAY_SHORT_INDEX_SCALE"), (18, u "LOG2_ARRAY_FLOAT_INDEX_SCALE"), (24, u "LOG2_ARRAY_DOUBLE_INDEX_SCALE"), (89, u "T_BOOLEAN"), (2, u "T_CHAR"), (1, u "T_FLOAT"), (1, u "T_DOUBLE"), (1, u "T_BYTE"), (1, u "T_SHORT"), (1, u "T_INT"), (1, u "T_LONG"), (1, u "SOFT_MAX_ARRAY_LENGTH")] 83

def k13m0 : Method := { name := "<init>", desc := "()V", sig := { parameters := [], returnType := none }, accessFlags := 2, code := none }
/-- jdk/internal/util/ArraysSupport -/
def k13 : Class := { plain "jdk/internal/util/ArraysSupport" (some 0) with
  accessFlags := 33
  interfaces := #[]
  cf := some (fileOf pool13 21 #[] #[{ accessFlags := 2, nameIndex := 9, descriptorIndex := 19, attributes := #[] }] 33 16 #[] #[{ accessFlags := 24, nameIndex := 28, descriptorIndex := 29, attributes := #[] }, { accessFlags := 26, nameIndex := 38, descriptorIndex := 39, attributes := #[] }, { accessFlags := 25, nameIndex := 121, descriptorIndex := 25, attributes := #[] }, { accessFlags := 25, nameIndex := 131, descriptorIndex := 25, attributes := #[] }, { accessFlags := 25, nameIndex := 137, descriptorIndex := 25, attributes := #[] }, { accessFlags := 25, nameIndex := 143, descriptorIndex := 25, attributes := #[] }, { accessFlags := 25, nameIndex := 53, descriptorIndex := 25, attributes := #[] }, { accessFlags := 25, nameIndex := 24, descriptorIndex := 25, attributes := #[] }, { accessFlags := 25, nameIndex := 162, descriptorIndex := 25, attributes := #[] }, { accessFlags := 25, nameIndex := 187, descriptorIndex := 25, attributes := #[] }, { accessFlags := 26, nameIndex := 48, descriptorIndex := 25, attributes := #[] }, { accessFlags := 25, nameIndex := 277, descriptorIndex := 25, attributes := #[] }, { accessFlags := 25, nameIndex := 280, descriptorIndex := 25, attributes := #[] }, { accessFlags := 25, nameIndex := 282, descriptorIndex := 25, attributes := #[] }, { accessFlags := 25, nameIndex := 284, descriptorIndex := 25, attributes := #[] }, { accessFlags := 25, nameIndex := 286, descriptorIndex := 25, attributes := #[] }, { accessFlags := 25, nameIndex := 288, descriptorIndex := 25, attributes := #[] }, { accessFlags := 25, nameIndex := 290, descriptorIndex := 25, attributes := #[] }, { accessFlags := 25, nameIndex := 292, descriptorIndex := 25, attributes := #[] }, { accessFlags := 26, nameIndex := 108, descriptorIndex := 109, attributes := #[] }, { accessFlags := 25, nameIndex := 294, descriptorIndex := 25, attributes := #[] }])
  fields := #[{ name := "U", type := (.object "jdk/internal/misc/Unsafe"), accessFlags := 24, slot := 0, constantValue := 0 }, { name := "BIG_ENDIAN", type := .boolean, accessFlags := 26, slot := 1, constantValue := 0 }, { name := "LOG2_ARRAY_BOOLEAN_INDEX_SCALE", type := .int, accessFlags := 25, slot := 2, constantValue := 0 }, { name := "LOG2_ARRAY_BYTE_INDEX_SCALE", type := .int, accessFlags := 25, slot := 3, constantValue := 0 }, { name := "LOG2_ARRAY_CHAR_INDEX_SCALE", type := .int, accessFlags := 25, slot := 4, constantValue := 0 }, { name := "LOG2_ARRAY_SHORT_INDEX_SCALE", type := .int, accessFlags := 25, slot := 5, constantValue := 0 }, { name := "LOG2_ARRAY_INT_INDEX_SCALE", type := .int, accessFlags := 25, slot := 6, constantValue := 0 }, { name := "LOG2_ARRAY_LONG_INDEX_SCALE", type := .int, accessFlags := 25, slot := 7, constantValue := 0 }, { name := "LOG2_ARRAY_FLOAT_INDEX_SCALE", type := .int, accessFlags := 25, slot := 8, constantValue := 0 }, { name := "LOG2_ARRAY_DOUBLE_INDEX_SCALE", type := .int, accessFlags := 25, slot := 9, constantValue := 0 }, { name := "LOG2_BYTE_BIT_SIZE", type := .int, accessFlags := 26, slot := 10, constantValue := 0 }, { name := "T_BOOLEAN", type := .int, accessFlags := 25, slot := 11, constantValue := 0 }, { name := "T_CHAR", type := .int, accessFlags := 25, slot := 12, constantValue := 0 }, { name := "T_FLOAT", type := .int, accessFlags := 25, slot := 13, constantValue := 0 }, { name := "T_DOUBLE", type := .int, accessFlags := 25, slot := 14, constantValue := 0 }, { name := "T_BYTE", type := .int, accessFlags := 25, slot := 15, constantValue := 0 }, { name := "T_SHORT", type := .int, accessFlags := 25, slot := 16, constantValue := 0 }, { name := "T_INT", type := .int, accessFlags := 25, slot := 17, constantValue := 0 }, { name := "T_LONG", type := .int, accessFlags := 25, slot := 18, constantValue := 0 }, { name := "JLA", type := (.object "jdk/internal/access/JavaLangAccess"), accessFlags := 26, slot := 19, constantValue := 0 }, { name := "SOFT_MAX_ARRAY_LENGTH", type := .int, accessFlags := 25, slot := 20, constantValue := 0 }]
  methods := #[k13m0]
  instanceTypes := #[]
  staticTypes := #[(.object "jdk/internal/misc/Unsafe"), .boolean, .int, .int, .int, .int, .int, .int, .int, .int, .int, .int, .int, .int, .int, .int, .int, .int, .int, (.object "jdk/internal/access/JavaLangAccess"), .int]
  resolved := Array.replicate 378 none
  statics := none }

def pool14 : Array CpInfo := pool [(1, u "java/lang/Cloneable"), (0, .class_ 1), (0, u "java/lang/Object"), (0, .class_ 3)] 3

/-- java/lang/Cloneable -/
def k14 : Class := { plain "java/lang/Cloneable" (some 0) with
  accessFlags := 1537
  interfaces := #[]
  cf := some (fileOf pool14 2 #[] #[] 1537 4 #[] #[])
  fields := #[]
  methods := #[]
  instanceTypes := #[]
  staticTypes := #[]
  resolved := Array.replicate 8 none
  statics := none }

/-- the primitive byte -/
def k15 : Class := { plain "byte" none with kind := .primitive 'B', accessFlags := 0x411 }
/-- [B -/
def k16 : Class := { plain "[B" (some 0) with kind := .array 15 .byte, interfaces := #[14, 2], accessFlags := 1041 }

/-- the primitive char -/
def k17 : Class := { plain "char" none with kind := .primitive 'C', accessFlags := 0x411 }
/-- [C -/
def k18 : Class := { plain "[C" (some 0) with kind := .array 17 .char, interfaces := #[14, 2], accessFlags := 1041 }

/-- the primitive int -/
def k19 : Class := { plain "int" none with kind := .primitive 'I', accessFlags := 0x411 }
/-- [I -/
def k20 : Class := { plain "[I" (some 0) with kind := .array 19 .int, interfaces := #[14, 2], accessFlags := 1041 }

def heap : Heap := #[{ cls := 7, slots := #[.long 0, .int 1, .null, .int 0, .null, .int 0, .int 0], vm := .statics 7 },
  { cls := 9, slots := #[.int 0, .int 8, .int 0, .int 1], vm := .statics 9 },
  { cls := 10, slots := #[.null, .null, .null], vm := .statics 10 }]
def classes : Array Class := #[k0, k1, k2, k3, k4, k5, k6, k7, k8, k9, k10, k11, k12, k13, k14, k15, k16, k17, k18, k19, k20]
def interned : List (Array UInt16 × Addr) := []
def slotsUsed : Nat := 14
def theMethod : MethodId := ⟨1, 6⟩
def args0 : Array Value := #[.int 2, .int 6, .int 7, .int 2, .int 3]
def aboutOver (below : List Frame) : State where
  vm := { classes := classes, interned := interned.toArray }
  heap := heap
  slotsUsed := slotsUsed
  threads := #[{ frames := .invoking theMethod args0 :: below }]
def below0 : List Frame := [.native { method := ⟨0, 0⟩, args := #[] }]
def about1 : State := aboutOver below0
def p0 : Program := .bare "" "" ""
def e0 : Env := launch0.env 0 0 0
theorem w_frames : about1.frames = Frame.invoking theMethod args0 :: below0 := rfl
set_option maxRecDepth 65536 in
theorem w_args : argsFit about1.vm theMethod args0 = true := by decide +kernel
set_option maxRecDepth 65536 in
theorem w_heap : heapFits about1 = true := by decide +kernel
set_option maxRecDepth 65536 in
theorem w_runnable : about1.curStatus? = some .runnable := by decide +kernel
set_option maxRecDepth 65536 in
theorem w_alone : about1.alone = true := by decide +kernel
set_option maxRecDepth 65536 in
theorem w_named : about1.methodNamed? x = some theMethod := by decide +kernel
set_option maxRecDepth 65536 in
theorem w_hears : about1.hears theMethod below0 = true := by decide +kernel
set_option maxRecDepth 65536 in
theorem w_ripe : about1.ripe theMethod args0 below0 = true := by decide +kernel
theorem w_running : about1.status = .running := rfl
set_option maxRecDepth 65536 in
theorem w_room : about1.hasRoom e0.platform room_1 = true :=
  launch0.hasRoom_least _ room_1 (by decide +kernel) (by decide +kernel) (by decide +kernel) (by decide +kernel) (by decide +kernel) (by decide +kernel)
theorem allAtoms_all (ts : List Jvm.Cond) (a : Array Jvm.Value) (st : Jvm.State) : (allAtoms ts).before a st = ts.all (fun c => c.before a st) := by
  induction ts with
  | nil => rfl
  | cons c t ih =>
    show (Jvm.Cond.and c (allAtoms t)).before a st = _
    rw [Jvm.Cond.before_and, ih, List.all_cons]
def words1 : List Jvm.Cond := Jvm.Cond.code x code maxLocals ret :: tables_1
/-- a 'code' word, met by the world's own term for the bytes: nothing is compared byte by byte -/
theorem code_word {y : MethodName} {bytes : ByteArray} {mx : Nat} {rt : Option FieldType} {a : Array Value} {s : State} {m : MethodId} {meth : Method} {c : Code} (h1 : s.methodNamed? y = some m) (h2 : s.vm.method? m = some meth) (h3 : meth.code = some c) (h4 : c.code = bytes)
    (h5 : (c.maxLocals == mx && c.exceptionTable.isEmpty && decide (c.maxStack ≤ mostOperands) && decide (meth.sig.returnType = rt) && !meth.locks && decide (parseMethodDescriptor y.desc = some meth.sig)) = true) : (Jvm.Cond.code y bytes mx rt).before a s = true := by
  simp only [Bool.and_eq_true, beq_iff_eq, Bool.not_eq_true', decide_eq_true_eq] at h5
  obtain ⟨⟨⟨⟨⟨g1, g2⟩, g3⟩, g4⟩, g5⟩, g6⟩ := h5
  simp [Cond.before, Cond.holds, Cond.value, h1, h2, h3, h4, g1, g2, g3, g4, g5, g6]
def isCode : Jvm.Cond → Bool
  | .code _ _ _ _ => true
  | _ => false
theorem all_split {L : List Jvm.Cond} {P : Jvm.Cond → Bool} (h1 : L.all (fun c => isCode c || P c) = true) (h2 : ∀ c ∈ L.filter isCode, P c = true) : L.all P = true := by
  refine List.all_eq_true.mpr fun c hc => ?_
  have h := List.all_eq_true.mp h1 c hc
  rcases Bool.eq_false_or_eq_true (isCode c) with hi | hi
  · exact h2 c (List.mem_filter.mpr ⟨hc, hi⟩)
  · simpa [hi] using h
set_option maxRecDepth 65536 in
theorem w_c0 : (Jvm.Cond.code x code maxLocals ret).before args0 about1 = true := code_word (m := ⟨1, 6⟩) (meth := k1m6) (c := k1c6) (by decide +kernel) rfl rfl rfl (by decide +kernel)
set_option maxRecDepth 65536 in
theorem w_c1 : (Jvm.Cond.code ({ cls := "com/example/pedido/pedido/http/FreeTextIsValidPinLaw", name := "draw", desc := "(I)C" } : Jvm.MethodName) method_2_code (2 : Nat) (Option.some Jvm.ClassFile.FieldType.char)).before args0 about1 = true := code_word (m := ⟨1, 1⟩) (meth := k1m1) (c := k1c1) (by decide +kernel) rfl rfl rfl (by decide +kernel)
set_option maxRecDepth 65536 in
theorem w_c2 : (Jvm.Cond.code ({ cls := "java/lang/String", name := "<init>", desc := "([C)V" } : Jvm.MethodName) jdk_42_method_3_code (2 : Nat) (Option.none : Option Jvm.ClassFile.FieldType)).before args0 about1 = true := code_word (m := ⟨7, 1⟩) (meth := k7m1) (c := k7c1) (by decide +kernel) rfl rfl rfl (by decide +kernel)
set_option maxRecDepth 65536 in
theorem w_c3 : (Jvm.Cond.code ({ cls := "java/lang/String", name := "<init>", desc := "([CIILjava/lang/Void;)V" } : Jvm.MethodName) jdk_42_method_149_code (6 : Nat) (Option.none : Option Jvm.ClassFile.FieldType)).before args0 about1 = true := code_word (m := ⟨7, 4⟩) (meth := k7m4) (c := k7c4) (by decide +kernel) rfl rfl rfl (by decide +kernel)
set_option maxRecDepth 65536 in
theorem w_c4 : (Jvm.Cond.code ({ cls := "java/lang/Object", name := "<init>", desc := "()V" } : Jvm.MethodName) object_method_1_code (1 : Nat) (Option.none : Option Jvm.ClassFile.FieldType)).before args0 about1 = true := code_word (m := ⟨0, 0⟩) (meth := k0m0) (c := k0c0) (by decide +kernel) rfl rfl rfl (by decide +kernel)
set_option maxRecDepth 65536 in
theorem w_c5 : (Jvm.Cond.code ({ cls := "com/example/pedido/pedido/http/FreeText", name := "isValid", desc := "(Ljava/lang/String;I)Z" } : Jvm.MethodName) prog_19_method_2_code (5 : Nat) (Option.some Jvm.ClassFile.FieldType.boolean)).before args0 about1 = true := code_word (m := ⟨8, 1⟩) (meth := k8m1) (c := k8c1) (by decide +kernel) rfl rfl rfl (by decide +kernel)
set_option maxRecDepth 65536 in
theorem w_c6 : (Jvm.Cond.code ({ cls := "java/lang/String", name := "length", desc := "()I" } : Jvm.MethodName) jdk_42_method_54_code (1 : Nat) (Option.some Jvm.ClassFile.FieldType.int)).before args0 about1 = true := code_word (m := ⟨7, 2⟩) (meth := k7m2) (c := k7c2) (by decide +kernel) rfl rfl rfl (by decide +kernel)
set_option maxRecDepth 65536 in
theorem w_c7 : (Jvm.Cond.code ({ cls := "java/lang/String", name := "coder", desc := "()B" } : Jvm.MethodName) jdk_42_method_152_code (1 : Nat) (Option.some Jvm.ClassFile.FieldType.byte)).before args0 about1 = true := code_word (m := ⟨7, 5⟩) (meth := k7m5) (c := k7c5) (by decide +kernel) rfl rfl rfl (by decide +kernel)
set_option maxRecDepth 65536 in
theorem w_c8 : (Jvm.Cond.code ({ cls := "com/example/pedido/pedido/http/FreeTextIsValidPinLaw", name := "step", desc := "(CCCII)I" } : Jvm.MethodName) method_6_code (6 : Nat) (Option.some Jvm.ClassFile.FieldType.int)).before args0 about1 = true := code_word (m := ⟨1, 5⟩) (meth := k1m5) (c := k1c5) (by decide +kernel) rfl rfl rfl (by decide +kernel)
set_option maxRecDepth 65536 in
theorem w_c9 : (Jvm.Cond.code ({ cls := "com/example/pedido/pedido/http/FreeTextIsValidPinLaw", name := "at", desc := "(CCCI)C" } : Jvm.MethodName) method_5_code (4 : Nat) (Option.some Jvm.ClassFile.FieldType.char)).before args0 about1 = true := code_word (m := ⟨1, 4⟩) (meth := k1m4) (c := k1c4) (by decide +kernel) rfl rfl rfl (by decide +kernel)
set_option maxRecDepth 65536 in
theorem w_c10 : (Jvm.Cond.code ({ cls := "com/example/pedido/pedido/http/FreeTextIsValidPinLaw", name := "isHigh", desc := "(C)Z" } : Jvm.MethodName) method_3_code (1 : Nat) (Option.some Jvm.ClassFile.FieldType.boolean)).before args0 about1 = true := code_word (m := ⟨1, 2⟩) (meth := k1m2) (c := k1c2) (by decide +kernel) rfl rfl rfl (by decide +kernel)
set_option maxRecDepth 65536 in
theorem w_c11 : (Jvm.Cond.code ({ cls := "com/example/pedido/pedido/http/FreeTextIsValidPinLaw", name := "isLow", desc := "(C)Z" } : Jvm.MethodName) method_4_code (1 : Nat) (Option.some Jvm.ClassFile.FieldType.boolean)).before args0 about1 = true := code_word (m := ⟨1, 3⟩) (meth := k1m3) (c := k1c3) (by decide +kernel) rfl rfl rfl (by decide +kernel)
set_option maxRecDepth 65536 in
theorem w_c12 : (Jvm.Cond.code ({ cls := "java/lang/StringUTF16", name := "compress", desc := "([CII)[B" } : Jvm.MethodName) jdk_52_method_16_code (6 : Nat) (Option.some (Jvm.ClassFile.FieldType.array Jvm.ClassFile.FieldType.byte))).before args0 about1 = true := code_word (m := ⟨9, 9⟩) (meth := k9m9) (c := k9c9) (by decide +kernel) rfl rfl rfl (by decide +kernel)
set_option maxRecDepth 65536 in
theorem w_c13 : (Jvm.Cond.code ({ cls := "java/lang/StringUTF16", name := "compress", desc := "([CI[BII)I" } : Jvm.MethodName) jdk_52_method_21_code (7 : Nat) (Option.some Jvm.ClassFile.FieldType.int)).before args0 about1 = true := code_word (m := ⟨9, 10⟩) (meth := k9m10) (c := k9c10) (by decide +kernel) rfl rfl rfl (by decide +kernel)
set_option maxRecDepth 65536 in
theorem w_c14 : (Jvm.Cond.code ({ cls := "java/lang/StringUTF16", name := "coderFromArrayLen", desc := "([BI)B" } : Jvm.MethodName) jdk_52_method_15_code (2 : Nat) (Option.some Jvm.ClassFile.FieldType.byte)).before args0 about1 = true := code_word (m := ⟨9, 8⟩) (meth := k9m8) (c := k9c8) (by decide +kernel) rfl rfl rfl (by decide +kernel)
set_option maxRecDepth 65536 in
theorem w_c15 : (Jvm.Cond.code ({ cls := "java/lang/String", name := "codePointAt", desc := "(I)I" } : Jvm.MethodName) jdk_42_method_57_code (3 : Nat) (Option.some Jvm.ClassFile.FieldType.int)).before args0 about1 = true := code_word (m := ⟨7, 3⟩) (meth := k7m3) (c := k7c3) (by decide +kernel) rfl rfl rfl (by decide +kernel)
set_option maxRecDepth 65536 in
theorem w_c16 : (Jvm.Cond.code ({ cls := "java/lang/String", name := "isLatin1", desc := "()Z" } : Jvm.MethodName) jdk_42_method_154_code (1 : Nat) (Option.some Jvm.ClassFile.FieldType.boolean)).before args0 about1 = true := code_word (m := ⟨7, 6⟩) (meth := k7m6) (c := k7c6) (by decide +kernel) rfl rfl rfl (by decide +kernel)
set_option maxRecDepth 65536 in
theorem w_c17 : (Jvm.Cond.code ({ cls := "java/lang/String", name := "checkIndex", desc := "(II)V" } : Jvm.MethodName) jdk_42_method_155_code (2 : Nat) (Option.none : Option Jvm.ClassFile.FieldType)).before args0 about1 = true := code_word (m := ⟨7, 7⟩) (meth := k7m7) (c := k7c7) (by decide +kernel) rfl rfl rfl (by decide +kernel)
set_option maxRecDepth 65536 in
theorem w_c18 : (Jvm.Cond.code ({ cls := "jdk/internal/util/Preconditions", name := "checkIndex", desc := "(IILjava/util/function/BiFunction;)I" } : Jvm.MethodName) jdk_41_method_11_code (3 : Nat) (Option.some Jvm.ClassFile.FieldType.int)).before args0 about1 = true := code_word (m := ⟨10, 1⟩) (meth := k10m1) (c := k10c1) (by decide +kernel) rfl rfl rfl (by decide +kernel)
set_option maxRecDepth 65536 in
theorem w_c19 : (Jvm.Cond.code ({ cls := "java/lang/Character", name := "charCount", desc := "(I)I" } : Jvm.MethodName) jdk_89_method_18_code (1 : Nat) (Option.some Jvm.ClassFile.FieldType.int)).before args0 about1 = true := code_word (m := ⟨11, 2⟩) (meth := k11m2) (c := k11c2) (by decide +kernel) rfl rfl rfl (by decide +kernel)
set_option maxRecDepth 65536 in
theorem w_c20 : (Jvm.Cond.code ({ cls := "java/lang/StringUTF16", name := "toBytes", desc := "([CII)[B" } : Jvm.MethodName) jdk_52_method_14_code (5 : Nat) (Option.some (Jvm.ClassFile.FieldType.array Jvm.ClassFile.FieldType.byte))).before args0 about1 = true := code_word (m := ⟨9, 7⟩) (meth := k9m7) (c := k9c7) (by decide +kernel) rfl rfl rfl (by decide +kernel)
set_option maxRecDepth 65536 in
theorem w_c21 : (Jvm.Cond.code ({ cls := "java/lang/StringUTF16", name := "newBytesFor", desc := "(I)[B" } : Jvm.MethodName) jdk_52_method_2_code (1 : Nat) (Option.some (Jvm.ClassFile.FieldType.array Jvm.ClassFile.FieldType.byte))).before args0 about1 = true := code_word (m := ⟨9, 1⟩) (meth := k9m1) (c := k9c1) (by decide +kernel) rfl rfl rfl (by decide +kernel)
set_option maxRecDepth 65536 in
theorem w_c22 : (Jvm.Cond.code ({ cls := "java/lang/StringUTF16", name := "newBytesLength", desc := "(I)I" } : Jvm.MethodName) jdk_52_method_3_code (1 : Nat) (Option.some Jvm.ClassFile.FieldType.int)).before args0 about1 = true := code_word (m := ⟨9, 2⟩) (meth := k9m2) (c := k9c2) (by decide +kernel) rfl rfl rfl (by decide +kernel)
set_option maxRecDepth 65536 in
theorem w_c23 : (Jvm.Cond.code ({ cls := "java/lang/StringUTF16", name := "putChar", desc := "([BII)V" } : Jvm.MethodName) jdk_52_method_4_code (3 : Nat) (Option.none : Option Jvm.ClassFile.FieldType)).before args0 about1 = true := code_word (m := ⟨9, 3⟩) (meth := k9m3) (c := k9c3) (by decide +kernel) rfl rfl rfl (by decide +kernel)
set_option maxRecDepth 65536 in
theorem w_c24 : (Jvm.Cond.code ({ cls := "java/lang/StringUTF16", name := "getChar", desc := "([BI)C" } : Jvm.MethodName) jdk_52_method_5_code (2 : Nat) (Option.some Jvm.ClassFile.FieldType.char)).before args0 about1 = true := code_word (m := ⟨9, 4⟩) (meth := k9m4) (c := k9c4) (by decide +kernel) rfl rfl rfl (by decide +kernel)
set_option maxRecDepth 65536 in
theorem w_c25 : (Jvm.Cond.code ({ cls := "java/lang/StringUTF16", name := "codePointAt", desc := "([BII)I" } : Jvm.MethodName) jdk_52_method_8_code (3 : Nat) (Option.some Jvm.ClassFile.FieldType.int)).before args0 about1 = true := code_word (m := ⟨9, 6⟩) (meth := k9m6) (c := k9c6) (by decide +kernel) rfl rfl rfl (by decide +kernel)
set_option maxRecDepth 65536 in
theorem w_c26 : (Jvm.Cond.code ({ cls := "java/lang/StringUTF16", name := "codePointAt", desc := "([BIIZ)I" } : Jvm.MethodName) jdk_52_method_7_code (6 : Nat) (Option.some Jvm.ClassFile.FieldType.int)).before args0 about1 = true := code_word (m := ⟨9, 5⟩) (meth := k9m5) (c := k9c5) (by decide +kernel) rfl rfl rfl (by decide +kernel)
set_option maxRecDepth 65536 in
theorem w_c27 : (Jvm.Cond.code ({ cls := "java/lang/Character", name := "isHighSurrogate", desc := "(C)Z" } : Jvm.MethodName) jdk_89_method_14_code (1 : Nat) (Option.some Jvm.ClassFile.FieldType.boolean)).before args0 about1 = true := code_word (m := ⟨11, 0⟩) (meth := k11m0) (c := k11c0) (by decide +kernel) rfl rfl rfl (by decide +kernel)
set_option maxRecDepth 65536 in
theorem w_c28 : (Jvm.Cond.code ({ cls := "java/lang/Character", name := "isLowSurrogate", desc := "(C)Z" } : Jvm.MethodName) jdk_89_method_15_code (1 : Nat) (Option.some Jvm.ClassFile.FieldType.boolean)).before args0 about1 = true := code_word (m := ⟨11, 1⟩) (meth := k11m1) (c := k11c1) (by decide +kernel) rfl rfl rfl (by decide +kernel)
set_option maxRecDepth 65536 in
theorem w_c29 : (Jvm.Cond.code ({ cls := "java/lang/Character", name := "toCodePoint", desc := "(CC)I" } : Jvm.MethodName) jdk_89_method_19_code (2 : Nat) (Option.some Jvm.ClassFile.FieldType.int)).before args0 about1 = true := code_word (m := ⟨11, 3⟩) (meth := k11m3) (c := k11c3) (by decide +kernel) rfl rfl rfl (by decide +kernel)
def codes1 : List Jvm.Cond := [Jvm.Cond.code x code maxLocals ret, Jvm.Cond.code ({ cls := "com/example/pedido/pedido/http/FreeTextIsValidPinLaw", name := "draw", desc := "(I)C" } : Jvm.MethodName) method_2_code (2 : Nat) (Option.some Jvm.ClassFile.FieldType.char), Jvm.Cond.code ({ cls := "java/lang/String", name := "<init>", desc := "([C)V" } : Jvm.MethodName) jdk_42_method_3_code (2 : Nat) (Option.none : Option Jvm.ClassFile.FieldType), Jvm.Cond.code ({ cls := "java/lang/String", name := "<init>", desc := "([CIILjava/lang/Void;)V" } : Jvm.MethodName) jdk_42_method_149_code (6 : Nat) (Option.none : Option Jvm.ClassFile.FieldType), Jvm.Cond.code ({ cls := "java/lang/Object", name := "<init>", desc := "()V" } : Jvm.MethodName) object_method_1_code (1 : Nat) (Option.none : Option Jvm.ClassFile.FieldType), Jvm.Cond.code ({ cls := "com/example/pedido/pedido/http/FreeText", name := "isValid", desc := "(Ljava/lang/String;I)Z" } : Jvm.MethodName) prog_19_method_2_code (5 : Nat) (Option.some Jvm.ClassFile.FieldType.boolean), Jvm.Cond.code ({ cls := "java/lang/String", name := "length", desc := "()I" } : Jvm.MethodName) jdk_42_method_54_code (1 : Nat) (Option.some Jvm.ClassFile.FieldType.int), Jvm.Cond.code ({ cls := "java/lang/String", name := "coder", desc := "()B" } : Jvm.MethodName) jdk_42_method_152_code (1 : Nat) (Option.some Jvm.ClassFile.FieldType.byte), Jvm.Cond.code ({ cls := "com/example/pedido/pedido/http/FreeTextIsValidPinLaw", name := "step", desc := "(CCCII)I" } : Jvm.MethodName) method_6_code (6 : Nat) (Option.some Jvm.ClassFile.FieldType.int), Jvm.Cond.code ({ cls := "com/example/pedido/pedido/http/FreeTextIsValidPinLaw", name := "at", desc := "(CCCI)C" } : Jvm.MethodName) method_5_code (4 : Nat) (Option.some Jvm.ClassFile.FieldType.char), Jvm.Cond.code ({ cls := "com/example/pedido/pedido/http/FreeTextIsValidPinLaw", name := "isHigh", desc := "(C)Z" } : Jvm.MethodName) method_3_code (1 : Nat) (Option.some Jvm.ClassFile.FieldType.boolean), Jvm.Cond.code ({ cls := "com/example/pedido/pedido/http/FreeTextIsValidPinLaw", name := "isLow", desc := "(C)Z" } : Jvm.MethodName) method_4_code (1 : Nat) (Option.some Jvm.ClassFile.FieldType.boolean), Jvm.Cond.code ({ cls := "java/lang/StringUTF16", name := "compress", desc := "([CII)[B" } : Jvm.MethodName) jdk_52_method_16_code (6 : Nat) (Option.some (Jvm.ClassFile.FieldType.array Jvm.ClassFile.FieldType.byte)), Jvm.Cond.code ({ cls := "java/lang/StringUTF16", name := "compress", desc := "([CI[BII)I" } : Jvm.MethodName) jdk_52_method_21_code (7 : Nat) (Option.some Jvm.ClassFile.FieldType.int), Jvm.Cond.code ({ cls := "java/lang/StringUTF16", name := "coderFromArrayLen", desc := "([BI)B" } : Jvm.MethodName) jdk_52_method_15_code (2 : Nat) (Option.some Jvm.ClassFile.FieldType.byte), Jvm.Cond.code ({ cls := "java/lang/String", name := "codePointAt", desc := "(I)I" } : Jvm.MethodName) jdk_42_method_57_code (3 : Nat) (Option.some Jvm.ClassFile.FieldType.int), Jvm.Cond.code ({ cls := "java/lang/String", name := "isLatin1", desc := "()Z" } : Jvm.MethodName) jdk_42_method_154_code (1 : Nat) (Option.some Jvm.ClassFile.FieldType.boolean), Jvm.Cond.code ({ cls := "java/lang/String", name := "checkIndex", desc := "(II)V" } : Jvm.MethodName) jdk_42_method_155_code (2 : Nat) (Option.none : Option Jvm.ClassFile.FieldType), Jvm.Cond.code ({ cls := "jdk/internal/util/Preconditions", name := "checkIndex", desc := "(IILjava/util/function/BiFunction;)I" } : Jvm.MethodName) jdk_41_method_11_code (3 : Nat) (Option.some Jvm.ClassFile.FieldType.int), Jvm.Cond.code ({ cls := "java/lang/Character", name := "charCount", desc := "(I)I" } : Jvm.MethodName) jdk_89_method_18_code (1 : Nat) (Option.some Jvm.ClassFile.FieldType.int), Jvm.Cond.code ({ cls := "java/lang/StringUTF16", name := "toBytes", desc := "([CII)[B" } : Jvm.MethodName) jdk_52_method_14_code (5 : Nat) (Option.some (Jvm.ClassFile.FieldType.array Jvm.ClassFile.FieldType.byte)), Jvm.Cond.code ({ cls := "java/lang/StringUTF16", name := "newBytesFor", desc := "(I)[B" } : Jvm.MethodName) jdk_52_method_2_code (1 : Nat) (Option.some (Jvm.ClassFile.FieldType.array Jvm.ClassFile.FieldType.byte)), Jvm.Cond.code ({ cls := "java/lang/StringUTF16", name := "newBytesLength", desc := "(I)I" } : Jvm.MethodName) jdk_52_method_3_code (1 : Nat) (Option.some Jvm.ClassFile.FieldType.int), Jvm.Cond.code ({ cls := "java/lang/StringUTF16", name := "putChar", desc := "([BII)V" } : Jvm.MethodName) jdk_52_method_4_code (3 : Nat) (Option.none : Option Jvm.ClassFile.FieldType), Jvm.Cond.code ({ cls := "java/lang/StringUTF16", name := "getChar", desc := "([BI)C" } : Jvm.MethodName) jdk_52_method_5_code (2 : Nat) (Option.some Jvm.ClassFile.FieldType.char), Jvm.Cond.code ({ cls := "java/lang/StringUTF16", name := "codePointAt", desc := "([BII)I" } : Jvm.MethodName) jdk_52_method_8_code (3 : Nat) (Option.some Jvm.ClassFile.FieldType.int), Jvm.Cond.code ({ cls := "java/lang/StringUTF16", name := "codePointAt", desc := "([BIIZ)I" } : Jvm.MethodName) jdk_52_method_7_code (6 : Nat) (Option.some Jvm.ClassFile.FieldType.int), Jvm.Cond.code ({ cls := "java/lang/Character", name := "isHighSurrogate", desc := "(C)Z" } : Jvm.MethodName) jdk_89_method_14_code (1 : Nat) (Option.some Jvm.ClassFile.FieldType.boolean), Jvm.Cond.code ({ cls := "java/lang/Character", name := "isLowSurrogate", desc := "(C)Z" } : Jvm.MethodName) jdk_89_method_15_code (1 : Nat) (Option.some Jvm.ClassFile.FieldType.boolean), Jvm.Cond.code ({ cls := "java/lang/Character", name := "toCodePoint", desc := "(CC)I" } : Jvm.MethodName) jdk_89_method_19_code (2 : Nat) (Option.some Jvm.ClassFile.FieldType.int)]
set_option maxRecDepth 65536 in
theorem codes_eq : words1.filter isCode = codes1 := rfl
theorem w_codes : ∀ c ∈ words1.filter isCode, c.before args0 about1 = true := by
  rw [codes_eq]
  intro c hc
  simp only [codes1, List.mem_cons, List.not_mem_nil, or_false] at hc
  rcases hc with rfl | rfl | rfl | rfl | rfl | rfl | rfl | rfl | rfl | rfl | rfl | rfl | rfl | rfl | rfl | rfl | rfl | rfl | rfl | rfl | rfl | rfl | rfl | rfl | rfl | rfl | rfl | rfl | rfl | rfl
  · exact w_c0
  · exact w_c1
  · exact w_c2
  · exact w_c3
  · exact w_c4
  · exact w_c5
  · exact w_c6
  · exact w_c7
  · exact w_c8
  · exact w_c9
  · exact w_c10
  · exact w_c11
  · exact w_c12
  · exact w_c13
  · exact w_c14
  · exact w_c15
  · exact w_c16
  · exact w_c17
  · exact w_c18
  · exact w_c19
  · exact w_c20
  · exact w_c21
  · exact w_c22
  · exact w_c23
  · exact w_c24
  · exact w_c25
  · exact w_c26
  · exact w_c27
  · exact w_c28
  · exact w_c29
set_option maxRecDepth 65536 in
theorem w_t1 : (words1.take 24).all (fun c => isCode c || c.before args0 about1) = true := by decide +kernel
set_option maxRecDepth 65536 in
theorem w_t2 : ((words1.drop 24).take 24).all (fun c => isCode c || c.before args0 about1) = true := by decide +kernel
set_option maxRecDepth 65536 in
theorem w_t3 : (((words1.drop 24).drop 24).take 24).all (fun c => isCode c || c.before args0 about1) = true := by decide +kernel
set_option maxRecDepth 65536 in
theorem w_t4 : ((((words1.drop 24).drop 24).drop 24).take 24).all (fun c => isCode c || c.before args0 about1) = true := by decide +kernel
set_option maxRecDepth 65536 in
theorem w_t5 : (((((words1.drop 24).drop 24).drop 24).drop 24).take 24).all (fun c => isCode c || c.before args0 about1) = true := by decide +kernel
set_option maxRecDepth 65536 in
theorem w_t6 : (((((words1.drop 24).drop 24).drop 24).drop 24).drop 24).all (fun c => isCode c || c.before args0 about1) = true := by decide +kernel
theorem w_tables : (allAtoms (Jvm.Cond.code x code maxLocals ret :: tables_1)).before args0 about1 = true := by
  rw [allAtoms_all]
  show words1.all (fun c => c.before args0 about1) = true
  refine all_split ?_ w_codes
  rw [← List.take_append_drop 24 words1, List.all_append, w_t1, ← List.take_append_drop 24 (words1.drop 24), List.all_append, w_t2, ← List.take_append_drop 24 ((words1.drop 24).drop 24), List.all_append, w_t3, ← List.take_append_drop 24 (((words1.drop 24).drop 24).drop 24), List.all_append, w_t4, ← List.take_append_drop 24 ((((words1.drop 24).drop 24).drop 24).drop 24), List.all_append, w_t5, w_t6]
  rfl
set_option maxRecDepth 65536 in
theorem w_rest : rest_1_c.before args0 about1 = true := by decide +kernel
set_option maxRecDepth 65536 in
theorem w_case : (Jvm.Cond.and given_1 narrow_1).before args0 about1 = true := by decide +kernel
set_option maxRecDepth 65536 in
theorem w_consts : constsHeld consts_1 about1 := Jvm.Lit.constsHeldB_iff.mp (by decide +kernel)
theorem w_applies : (headSpec (Jvm.Cond.code x code maxLocals ret :: tables_1) room_1).applies x e0.platform about1 = true :=
  (Spec.applies_iff w_frames).mpr ⟨w_running, w_runnable, w_alone, w_named, w_hears, w_ripe, w_room, w_tables⟩
theorem atStart : AtStart classFile x code maxLocals ret World_1 tables_1 room_1 Calls_1 rest_1 Pre_1 launch0 p0 e0 about1 theMethod args0 below0 :=
  ⟨lists_1, trivial, launch0.admits_env _ _ _, launch0.least_env, fairChoices_fair.cas, fairChoices_fair.clock, w_frames, w_args, w_heap, w_applies, ⟨w_consts, trivial⟩, w_rest, w_case⟩
end start1
theorem witness_1 : WitnessClaimed_1 := ⟨start1.p0, start1.e0, start1.about1, start1.theMethod, start1.args0, start1.below0, start1.atStart⟩
end Jvm.Pilot.@@N@@
