import JvmDerived
import JvmDerived.Pilot.@@N@@Statement
import JvmDerived.Pilot.@@N@@Code
set_option linter.unusedVariables false
set_option linter.unusedSimpArgs false
namespace Jvm.WK
open Sem ClassFile Op Lib Jvm.Stand Jvm.Free Jvm.LawKit Jvm.RoadKit
/-! ## 1. the context of one law's run, and what is known of its heap -/
/-- program, launch, environment, start, the law's arguments, the frames below, the law's own method, its String constants, no constant may be interned, room, the law's local variables -/
abbrev Cx := Program × Launch × Env × State × Array Value × List Frame × MethodId × List (String × Nat) × Bool × Room × Nat × List (String × Nat)
def kp (κ : Cx) : Program := κ.1
def kl (κ : Cx) : Launch := κ.2.1
def ke (κ : Cx) : Env := κ.2.2.1
def kZ (κ : Cx) : State := κ.2.2.2.1
def ka (κ : Cx) : Array Value := κ.2.2.2.2.1
def kb (κ : Cx) : List Frame := κ.2.2.2.2.2.1
def km (κ : Cx) : MethodId := κ.2.2.2.2.2.2.1
def kE (κ : Cx) : List (String × Nat) := κ.2.2.2.2.2.2.2.1
def kS (κ : Cx) : Bool := κ.2.2.2.2.2.2.2.2.1
def kR (κ : Cx) : Room := κ.2.2.2.2.2.2.2.2.2.1
def kx (κ : Cx) : Nat := κ.2.2.2.2.2.2.2.2.2.2.1
/-- the constants that are paid for at the start -/
def kP (κ : Cx) : List (String × Nat) := κ.2.2.2.2.2.2.2.2.2.2.2
def resd (vm : Vm) (p : String × Nat) : Bool := match vm.findClass p.1 with
  | none => false
  | some c => match vm.classes[c]? with
    | none => false
    | some k => match k.resolved[p.2]? with
      | some (some (.string _)) => true
      | _ => false
def pend (κ : Cx) (vm : Vm) : Nat := (kP κ).countP fun p => !resd vm p
def Used (κ : Cx) (T : State) (k n : Nat) : Prop := ∃ k0 n0, (kZ κ).sameButNew (T.setVm (kZ κ).vm) [] k0 n0 ∧ k0 + 2 * pend κ T.vm ≤ k ∧ n0 + 100 * pend κ T.vm ≤ n
/-- a word of the tables -/
def Wd (κ : Cx) (d : Jvm.Cond) : Prop := d.before (ka κ) (kZ κ) = true
/-- the method called y has these bytes -/
def Meth (κ : Cx) (y : MethodName) (bytes : ByteArray) (mx : Nat) (rt : Option FieldType) : Prop := plainFor y = true ∧ Wd κ (.code y bytes mx rt)
def mid (κ : Cx) (y : MethodName) : MethodId := ((kZ κ).methodNamed? y).getD ⟨0, 0⟩
def fr (κ : Cx) (y : MethodName) (pc : Nat) (L : List Slot) (S : List Value) : Frame := .java (mkF (mid κ y) pc L.toArray S)
def cats (S : List Value) : Nat := (S.map fun v => v.category).sum
def wt (F : List Frame) : Nat := stackWeight F
/-- a frame that waits for a callee's answer -/
def Waits (κ : Cx) (f : Frame) : Prop := ∃ (y : MethodName) (bytes : ByteArray) (rt : Option FieldType) (pc : Nat) (L : List Slot) (S : List Value) (i : Instr) (len : Nat), f = fr κ y pc L S ∧ Meth κ y bytes L.length rt ∧ decode bytes pc = .ok (i, len)
/-- room for so many frames more and so many words, over the frames F (which lie above the law's invoker's) -/
def Rm (κ : Cx) (F : List Frame) (d w : Nat) : Prop := F.length + d ≤ (kR κ).frames + 1 ∧ wt F + w ≤ (kR κ).locals + (kx κ + 11)
def Under (κ : Cx) (F : List Frame) : Prop := ∀ f ∈ F, Waits κ f
/-- address; may be written; an object (its class; its fields: declarer, name, descriptor, value) or an array (its components) -/
abbrev Chunk := Addr × Bool × (String × List (String × String × String × Value) ⊕ FieldType × List Value)
def fslot (κ : Cx) (f : String × String × String × Value) : Nat := RoadKit.slotOf (kZ κ) f.1 f.2.1 f.2.2.1
def Holds (κ : Cx) (h : Heap) : Chunk → Prop
  | (a, _, .inl (C, fs)) => Exa (kZ κ) h a C ∧ (∀ f ∈ fs, Fld (kZ κ) h a f.1 f.2.1 f.2.2.1 f.2.2.2) ∧ (fs.map (fslot κ)).Nodup
  | (a, mu, .inr (ty, vs)) => ∃ c : Cell, Arr (kZ κ) h a c ty ∧ c.slots.toList = vs ∧ (∀ C, ty = .object C → Ovr (kZ κ) c.cls C) ∧ (mu = true → ty = .byte → Exa (kZ κ) h a "[B")
def key (x : Chunk) : Addr × Bool := (x.1, x.2.1)
def Apart (x y : Addr × Bool) : Prop := (x.2 = true ∨ y.2 = true) → x.1 ≠ y.1
def Hp (κ : Cx) (vm : Vm) (h : Heap) (l : List Chunk) : Prop :=
  (∀ x ∈ l, Holds κ h x) ∧ (l.map key).Pairwise Apart ∧ (∀ x ∈ l, x.2.1 = true → (kZ κ).heap.size ≤ x.1 ∧ Safe (kZ κ) (kE κ) vm h x.1)
/-- what is the same all along -/
def Ok (κ : Cx) : Prop :=
  (kl κ).admits (ke κ) ∧ FairCas (ke κ).choices ∧ FairClock (ke κ).choices ∧ (kp κ).tables.exec = Jvm.exec ∧ (kZ κ).frames = .invoking (km κ) (ka κ) :: kb κ ∧ (kZ κ).hasRoom (ke κ).platform (kR κ) = true ∧
    (kZ κ).hears (km κ) (kb κ) = true ∧ (kZ κ).status = .running ∧ (kZ κ).curStatus? = some .runnable ∧ (kZ κ).alone = true ∧ EW (kZ κ) (ka κ) (kE κ) ∧ ∃ (x : MethodName) (bytes : ByteArray), Meth κ x bytes (kx κ) (some .boolean) ∧ mid κ x = km κ
def Good (κ : Cx) (T : State) (y : MethodName) (pc : Nat) (L : List Slot) (S : List Value) (F : List Frame) (l : List Chunk) (k n : Nat) : Prop :=
  T.frames = fr κ y pc L S :: (F ++ kb κ) ∧ Used κ T k n ∧ (kZ κ).Since T.vm T.heap.size ∧ (kS κ = true → (kZ κ).WarmedH T.vm) ∧ CHv (kZ κ) (kE κ) T.vm T.heap ∧ Hp κ T.vm T.heap l ∧
    k ≤ (kR κ).cells ∧ n ≤ (kR κ).slots ∧ Under κ F ∧ Rm κ F 1 (L.length + 11) ∧ ∃ bytes rt, Meth κ y bytes L.length rt
/-- the end that the law owes -/
def Ends (κ : Cx) (t : State) : Prop :=
  t.status = .running ∧ Ended t (kb κ) (.returned (some (.int 1))) ∧ (kZ κ).Since t.vm t.heap.size ∧ (kS κ = true → (kZ κ).WarmedH t.vm) ∧ (kZ κ).sameButNew { t with vm := (kZ κ).vm } [] (kR κ).cells (kR κ).slots
def Done (κ : Cx) (T : State) : Prop := ∃ t, Steps (kp κ).tables (ke κ) (kb κ) T t ∧ Ends κ t
/-- **from every state that looks like this the law comes to its end** -/
def WP (κ : Cx) (y : MethodName) (pc : Nat) (L : List Slot) (S : List Value) (F : List Frame) (l : List Chunk) (k n : Nat) : Prop := ∀ T, Good κ T y pc L S F l k n → Done κ T
/-! ## 2. small facts -/
theorem steps_weaken {tb : Tables} {e : Env} {mid below : List Frame} {a b : State} (h : Steps tb e (mid ++ below) a b) : Steps tb e below a b := by
  obtain ⟨n, hn, hw⟩ := h
  refine ⟨n, hn, fun k hk => ?_⟩
  obtain ⟨above, h1, h2, h3⟩ := hw k hk
  refine ⟨above ++ mid, by rw [h1, List.append_assoc], by simp [h2], fun x hx => ?_⟩
  cases above with
  | nil => exact h2 rfl
  | cons y r =>
    cases r with
    | nil => cases mid with
      | nil => exact h3 x (by simpa using hx)
      | cons _ _ => simp at hx
    | cons _ _ => simp at hx
theorem wt_nil : wt [] = 0 := rfl
theorem wt_cons (f : Frame) (F : List Frame) : wt (f :: F) = f.weight + wt F := by simp [wt, stackWeight]
theorem wt_append (F G : List Frame) : wt (F ++ G) = wt F + wt G := by simp [wt, stackWeight]
theorem fr_weight (κ : Cx) (y : MethodName) (pc : Nat) (L : List Slot) (S : List Value) : (fr κ y pc L S).weight = 11 + L.length + cats S := by simp [fr, Frame.weight, cats]
theorem Rm.mono {κ : Cx} {F : List Frame} {d w d' w' : Nat} (h : Rm κ F d w) (h1 : d' ≤ d) (h2 : w' ≤ w) : Rm κ F d' w' := ⟨by have := h.1; omega, by have := h.2; omega⟩
theorem Rm.push {κ : Cx} {F : List Frame} {d w d' w' : Nat} {y : MethodName} {pc : Nat} {L : List Slot} {S : List Value} (h : Rm κ F d w) (h1 : d' + 1 ≤ d) (h2 : w' + (11 + L.length + cats S) ≤ w) : Rm κ (fr κ y pc L S :: F) d' w' :=
  ⟨by have := h.1; simp only [List.length_cons]; omega, by have := h.2; rw [wt_cons, fr_weight]; omega⟩
theorem Meth.get {κ : Cx} {y : MethodName} {bytes : ByteArray} {mx : Nat} {rt : Option FieldType} (M : Meth κ y bytes mx rt) :
    ∃ (meth : Method) (c : Code), (kZ κ).methodNamed? y = some (mid κ y) ∧ (kZ κ).vm.method? (mid κ y) = some meth ∧ meth.code = some c ∧ c.code = bytes ∧ c.maxLocals = mx ∧ meth.sig.returnType = rt ∧ meth.locks = false ∧ c.exceptionTable.isEmpty = true ∧ parseMethodDescriptor y.desc = some meth.sig := by
  obtain ⟨m, hn⟩ := Cond.code_named M.2
  obtain ⟨meth, c, h1, h2, h3, h4, h5, h6, h7, h8⟩ := Cond.code_spec hn M.2
  have e : mid κ y = m := by simp [mid, hn]
  rw [e]
  exact ⟨meth, c, hn, h1, h2, h3, h4, h5, h6, h7, h8⟩
theorem Meth.cls {κ : Cx} {y : MethodName} {bytes : ByteArray} {mx : Nat} {rt : Option FieldType} (M : Meth κ y bytes mx rt) : (kZ κ).vm.findClass y.cls = some (mid κ y).cls := by
  obtain ⟨_, _, h, _⟩ := M.get
  exact findClass_of_methodNamed h
section G
variable {κ : Cx} {T : State} {y : MethodName} {pc : Nat} {L : List Slot} {S : List Value} {F : List Frame} {l : List Chunk} {k n : Nat} {bytes : ByteArray} {mx : Nat} {rt : Option FieldType}
theorem Good.alike (G : Good κ T y pc L S F l k n) : (kZ κ).vm.Alike T.vm := G.2.2.1.1.alike
theorem Good.warm (G : Good κ T y pc L S F l k n) : (kZ κ).Warmed39 T.vm := G.2.2.1.1
theorem Good.sb (G : Good κ T y pc L S F l k n) : (kZ κ).sameButNew (T.setVm (kZ κ).vm) [] k n := by
  obtain ⟨k0, n0, h, h1, h2⟩ := G.2.1
  exact h.mono (by omega) (by omega)
theorem Good.eqT (G : Good κ T y pc L S F l k n) : T.setVm (kZ κ).vm = { (kZ κ).setFrames T.frames with heap := T.heap, slotsUsed := T.slotsUsed } := G.sb.1
theorem Good.status (G : Good κ T y pc L S F l k n) : T.status = (kZ κ).status := by
  have q := congrArg State.status G.eqT
  exact q
theorem Good.threads (G : Good κ T y pc L S F l k n) : T.threads = ((kZ κ).setFrames T.frames).threads := by
  have q := congrArg State.threads G.eqT
  exact q
theorem Good.curEq (G : Good κ T y pc L S F l k n) : T.cur = (kZ κ).cur := by
  have q := congrArg State.cur G.eqT
  exact q
theorem Good.curStatus (G : Good κ T y pc L S F l k n) : T.curStatus? = (kZ κ).curStatus? := by
  rw [← State.curStatus?_setFrames (kZ κ) T.frames]
  show (T.threads[T.cur]?).map _ = (((kZ κ).setFrames T.frames).threads[(kZ κ).cur]?).map _
  rw [G.threads, G.curEq]
theorem Good.alone (G : Good κ T y pc L S F l k n) : T.alone = (kZ κ).alone := by
  rw [← State.alone_setFrames (kZ κ) T.frames]
  show State.alone T = State.alone ((kZ κ).setFrames T.frames)
  unfold State.alone
  rw [G.threads, G.curEq]
  rfl
theorem Good.me (G : Good κ T y pc L S F l k n) : T.me = ((kZ κ).setFrames T.frames).me := by
  unfold State.me
  rw [G.threads, G.curEq]
  rfl
theorem Good.limits (G : Good κ T y pc L S F l k n) (pl : Platform) : pl.stackLimits T.me = pl.stackLimits (kZ κ).me := by rw [G.me, State.stackLimits_setFrames]
theorem Good.sbytes (G : Good κ T y pc L S F l k n) : T.me.stackBytes = (kZ κ).me.stackBytes := by rw [G.me, State.stackBytes_setFrames]
theorem Good.len (G : Good κ T y pc L S F l k n) (M : Meth κ y bytes mx rt) : L.length = mx := by
  obtain ⟨b', rt', M'⟩ := G.2.2.2.2.2.2.2.2.2.2
  obtain ⟨m1, c1, -, h1, h2, -, h3, -⟩ := M.get
  obtain ⟨m2, c2, -, g1, g2, -, g3, -⟩ := M'.get
  cases h1.symm.trans g1
  cases h2.symm.trans g2
  exact g3.symm.trans h3
theorem Good.hears (C : Ok κ) (G : Good κ T y pc L S F l k n) (m : MethodId) : T.hears m (F ++ kb κ) = true := by
  obtain ⟨-, -, -, -, -, -, hh, -, -, -, -, x, bx, Mx, hmx⟩ := C
  obtain ⟨m0, c0, -, q1, -, -, -, q5, -⟩ := Mx.get
  rw [hmx] at q1
  cases F with
  | cons f F' =>
    obtain ⟨yc, bc, rc, pcc, Lc, Sc, i, len, rfl, Mc, hd⟩ := G.2.2.2.2.2.2.2.2.1 f (by simp)
    obtain ⟨mc, cc, -, n2, n3, n4, -⟩ := Mc.get
    have hm : T.vm.method? (mid κ yc) = some mc := by rw [G.alike.method?]; exact n2
    show ((T.code? (mid κ yc)).bind fun c => (decode c.code pcc).toOption).isSome = true
    rw [State.code?_eq, hm]
    simp [n3, n4, hd, Except.toOption]
  | nil =>
    show T.hears m (kb κ) = true
    cases hb : kb κ with
    | nil => rw [hb] at hh; simp [State.hears, q1, q5] at hh
    | cons f r =>
      rw [hb] at hh
      cases f
      case java g =>
        have e : T.code? g.method = (kZ κ).code? g.method := by rw [State.code?_eq, State.code?_eq, G.alike.method?]
        show ((T.code? g.method).bind fun c => (decode c.code g.pc).toOption).isSome = true
        rw [e]; exact hh
      case native g => rfl
      case proc g => rfl
      all_goals (simp [State.hears, q1, q5] at hh)
abbrev base (κ : Cx) (T : State) (y : MethodName) (F : List Frame) : State := T.setFrames (.invoking (mid κ y) (ka κ) :: (F ++ kb κ))
theorem Good.stand (C : Ok κ) (G : Good κ T y pc L S F l k n) (M : Meth κ y bytes mx rt) {d w : Nat} (hR : Rm κ F (d + 1) (L.length + 11 + w)) :
    ∃ meth c, Stand (kp κ) (kl κ) (ke κ) ⟨d, (kR κ).cells - k, (kR κ).slots - n, w⟩ (base κ T y F) (mid κ y) (ka κ) (F ++ kb κ) meth c T [] 0 0 ∧ c.code = bytes ∧ c.maxLocals = L.length ∧ meth.sig.returnType = rt ∧ meth.locks = false ∧ parseMethodDescriptor y.desc = some meth.sig := by
  have eL := G.len M
  obtain ⟨meth, c, h1, h2, h3, h4, h5, h6, h7, -, h8⟩ := M.get
  have hf := G.1
  have hcur := State.cur_lt_of_frames hf
  have hal := G.alike
  have hm : T.vm.method? (mid κ y) = some meth := by rw [hal.method?]; exact h2
  have hH := G.hears C (mid κ y)
  obtain ⟨c1, c2, c3, c4, c5, c6, c7, c8, c9, c10, c11, x, bx, Mx, hmx⟩ := C
  obtain ⟨m0, c0, -, q1, q2, -, q4, q5, -⟩ := Mx.get
  rw [hmx] at q1
  have hname : T.methodNamed? y = some (mid κ y) := by
    have q : ((kZ κ).setVm T.vm).methodNamed? y = some (mid κ y) := by rw [State.methodNamed?_setVm hal]; exact h1
    exact q
  have hfs : (base κ T y F).frames = .invoking (mid κ y) (ka κ) :: (F ++ kb κ) := State.frames_setFrames _ hcur
  obtain ⟨t, ht, -⟩ := State.frames_cons hfs
  refine ⟨meth, c, ⟨c1, c2, c3, hfs, ?_, ?_, hm, h3, ⟨?_, ⟨[], by rw [hf]; rfl⟩, G.status.trans c8, G.curStatus.trans c9, G.alone.trans c10, ?_, ?_⟩, by rw [hf]; rfl, State.WarmedH.refl (base κ T y F), ?_, ?_, ?_⟩, h4, by rw [h5, eL], h6, h7, h8⟩
  · have r := c6
    have e1 := State.localsInUse_invoking c5 q1 q2
    have e2 := State.localsInUse_invoking (s := base κ T y F) hfs hm h3
    have e3 : stackWeight (F ++ kb κ) = wt F + stackWeight (kb κ) := wt_append F (kb κ)
    have b1 : (ke κ).platform.stackLimits (base κ T y F).me = (ke κ).platform.stackLimits (kZ κ).me := by rw [State.stackLimits_setFrames]; exact G.limits _
    have b2 : (base κ T y F).me.stackBytes = (kZ κ).me.stackBytes := by rw [State.stackBytes_setFrames]; exact G.sbytes
    have b3 : (base κ T y F).slotsTrue = true := by
      simp only [State.hasRoom, Bool.and_eq_true] at r
      have q := State.slotsTrue_of_sameButNew r.2 G.sb
      exact q
    have b4 : (base κ T y F).heap.size ≤ (kZ κ).heap.size + k := G.sb.2.2.1
    have b5 : (base κ T y F).slotsUsed ≤ (kZ κ).slotsUsed + n := by
      have u1 : T.slotsUsed = (kZ κ).slotsUsed + _ := G.sb.2.2.2.1
      have u2 := G.sb.2.2.2.2.1
      show T.slotsUsed ≤ _
      rw [u1]; exact Nat.add_le_add_left u2 _
    have b6 := G.2.2.2.2.2.2.1
    have b7 := G.2.2.2.2.2.2.2.1
    have b8 : (base κ T y F).frames.length = F.length + (kb κ).length + 1 := by rw [hfs]; simp
    have b9 : (kZ κ).frames.length = (kb κ).length + 1 := by rw [c5]; simp
    have r1 := hR.1
    have r2 := hR.2
    simp only [State.hasRoom, Bool.and_eq_true, decide_eq_true_eq] at r ⊢
    rw [e1, b9] at r
    rw [e2, e3, b8, b1, b2]
    rw [h5, ← eL]
    rw [q4] at r
    refine ⟨⟨⟨⟨?_, ⟨?_, ?_, ?_, ?_, r.1.1.1.2.2.2.2.2⟩⟩, ?_⟩, ?_⟩, b3⟩
    · have := r.1.1.1.1; omega
    · have := r.1.1.1.2.1; omega
    · have := r.1.1.1.2.2.1; omega
    · have := r.1.1.1.2.2.2.1; omega
    · have := r.1.1.1.2.2.2.2.1; omega
    · have := r.1.1.2; omega
    · have := r.1.2; omega
  · have e : (base κ T y F).hears (mid κ y) (F ++ kb κ) = T.hears (mid κ y) (F ++ kb κ) := by
      cases F ++ kb κ with
      | nil => rfl
      | cons f r => cases f <;> rfl
    rw [e]; exact hH
  · rw [State.topJava?_of_frames hf]; rfl
  · rw [State.code?_eq, hm]; simp [h3]
  · exact State.plainMethod.of_named M.1 hname hm
  · rw [State.stackLimits_setFrames]
  · rw [State.stackBytes_setFrames]
  · have q := (State.sameButNew.refl (base κ T y F) ht).setFrames T.frames (State.cur_lt_of_frames hfs)
    have e : (base κ T y F).setFrames T.frames = T := by
      show (T.setFrames _).setFrames T.frames = T
      rw [State.setFrames_setFrames, hf]
      have e2 := State.setTop_of_frames (mkF (mid κ y) pc L.toArray S) hf
      rw [State.setTop_self (State.topJava?_of_frames hf)] at e2
      exact e2.symm
    rw [e] at q
    exact q
end G
end Jvm.WK
namespace Jvm.WK
open Sem ClassFile Op Lib Jvm.Stand Jvm.Free Jvm.LawKit Jvm.RoadKit
/-! ## 3. the instructions that touch the frame alone, by evaluation -/
abbrev Pr := Option (Nat × List Slot × List Value)
def pK (len w pc : Nat) (L : List Slot) (S : List Value) (v : Value) : Pr := if len = w then some (pc + w, L, v :: S) else none
def kindOf : Value → Nat
  | .int _ => 0
  | .long _ => 1
  | .null => 2
  | .ref _ => 2
  | _ => 9
def pLd (len w pc : Nat) (L : List Slot) (S : List Value) (k kd : Nat) : Pr := match L[k]? with
  | some (.val v) => if len = w ∧ kindOf v = kd then some (pc + w, L, v :: S) else none
  | _ => none
def pSt (len w pc : Nat) (L : List Slot) (S : List Value) (k kd : Nat) : Pr := match S with
  | v :: r => if len = w ∧ kindOf v = kd then (match storeLocals L.toArray k v with
    | some l' => if l'.size = L.length then some (pc + w, l'.toList, r) else none
    | none => none) else none
  | [] => none
def pInc (len pc : Nat) (L : List Slot) (S : List Value) (k : Nat) (cst : Int) : Pr := match L[k]? with
  | some (.val (.int x)) => if len = 3 then (match storeLocals L.toArray k (.int (x + Int32.ofInt cst)) with
    | some l' => if l'.size = L.length then some (pc + 3, l'.toList, S) else none
    | none => none) else none
  | _ => none
def pI2 (len pc : Nat) (L : List Slot) (S : List Value) (f : Int32 → Int32 → Int32) : Pr := match S with
  | .int y :: .int x :: r => if len = 1 then some (pc + 1, L, .int (f x y) :: r) else none
  | _ => none
def pL2 (len pc : Nat) (L : List Slot) (S : List Value) (f : Int64 → Int64 → Value) : Pr := match S with
  | .long y :: .long x :: r => if len = 1 then some (pc + 1, L, f x y :: r) else none
  | _ => none
def pLI (len pc : Nat) (L : List Slot) (S : List Value) (f : Int64 → Int32 → Int64) : Pr := match S with
  | .int y :: .long x :: r => if len = 1 then some (pc + 1, L, .long (f x y) :: r) else none
  | _ => none
def pI1 (len pc : Nat) (L : List Slot) (S : List Value) (f : Int32 → Value) : Pr := match S with
  | .int x :: r => if len = 1 then some (pc + 1, L, f x :: r) else none
  | _ => none
def pL1 (len pc : Nat) (L : List Slot) (S : List Value) (f : Int64 → Value) : Pr := match S with
  | .long x :: r => if len = 1 then some (pc + 1, L, f x :: r) else none
  | _ => none
def pPop (len pc : Nat) (L : List Slot) (S : List Value) : Pr := match S with
  | x :: r => if len = 1 ∧ x.category = 1 then some (pc + 1, L, r) else none
  | _ => none
def pDup (len pc : Nat) (L : List Slot) (S : List Value) : Pr := match S with
  | x :: r => if len = 1 ∧ x.category = 1 then some (pc + 1, L, x :: x :: r) else none
  | _ => none
def pDupX1 (len pc : Nat) (L : List Slot) (S : List Value) : Pr := match S with
  | x :: y :: r => if len = 1 ∧ x.category = 1 ∧ y.category = 1 then some (pc + 1, L, x :: y :: x :: r) else none
  | _ => none
def pDup2 (len pc : Nat) (L : List Slot) (S : List Value) : Pr := match S with
  | .long x :: r => if len = 1 then some (pc + 1, L, .long x :: .long x :: r) else none
  | x :: y :: r => if len = 1 ∧ x.category = 1 ∧ y.category = 1 then some (pc + 1, L, x :: y :: x :: y :: r) else none
  | _ => none
def pGo (len pc : Nat) (L : List Slot) (S : List Value) (o : Int) : Pr := if len = 3 ∧ 0 ≤ (pc : Int) + o then some (((pc : Int) + o).toNat, L, S) else none
/-- one instruction of the frame's own -/
def ps (i : Instr) (len pc : Nat) (L : List Slot) (S : List Value) : Pr := match i with
  | .iconst v => pK len 1 pc L S (.int (Int32.ofInt v))
  | .bipush v => pK len 2 pc L S (.int (Int8.ofInt v).toInt32)
  | .sipush v => pK len 3 pc L S (.int (Int16.ofInt v).toInt32)
  | .lconst k => pK len 1 pc L S (.long (Int64.ofNat k))
  | .aconst_null => pK len 1 pc L S .null
  | .iload_n k => pLd len 1 pc L S k.val 0
  | .iload k => pLd len 2 pc L S k 0
  | .lload_n k => pLd len 1 pc L S k.val 1
  | .lload k => pLd len 2 pc L S k 1
  | .aload_n k => pLd len 1 pc L S k.val 2
  | .aload k => pLd len 2 pc L S k 2
  | .istore_n k => pSt len 1 pc L S k.val 0
  | .istore k => pSt len 2 pc L S k 0
  | .lstore_n k => pSt len 1 pc L S k.val 1
  | .lstore k => pSt len 2 pc L S k 1
  | .astore_n k => pSt len 1 pc L S k.val 2
  | .astore k => pSt len 2 pc L S k 2
  | .iinc k cst => pInc len pc L S k cst
  | .iadd => pI2 len pc L S (fun x y => x + y)
  | .isub => pI2 len pc L S (fun x y => x - y)
  | .imul => pI2 len pc L S (fun x y => x * y)
  | .iand => pI2 len pc L S (fun x y => x &&& y)
  | .ior => pI2 len pc L S (fun x y => x ||| y)
  | .ixor => pI2 len pc L S (fun x y => x ^^^ y)
  | .ishl => pI2 len pc L S (fun x y => x <<< (y &&& 31))
  | .ishr => pI2 len pc L S (fun x y => x >>> (y &&& 31))
  | .iushr => pI2 len pc L S (fun x y => XT.ushr x y)
  | .ladd => pL2 len pc L S (fun x y => .long (x + y))
  | .lsub => pL2 len pc L S (fun x y => .long (x - y))
  | .lmul => pL2 len pc L S (fun x y => .long (x * y))
  | .land => pL2 len pc L S (fun x y => .long (x &&& y))
  | .lor => pL2 len pc L S (fun x y => .long (x ||| y))
  | .lxor => pL2 len pc L S (fun x y => .long (x ^^^ y))
  | .lcmp => pL2 len pc L S (fun x y => .int (XT.cmpL x y))
  | .lshl => pLI len pc L S (fun x y => x <<< (y.toInt64 &&& 63))
  | .lshr => pLI len pc L S (fun x y => x >>> (y.toInt64 &&& 63))
  | .lushr => pLI len pc L S (fun x y => XT.ushrL x y)
  | .i2l => pI1 len pc L S (fun x => .long x.toInt64)
  | .i2b => pI1 len pc L S (fun x => .int x.toInt8.toInt32)
  | .i2c => pI1 len pc L S (fun x => .int x.toUInt32.toUInt16.toUInt32.toInt32)
  | .i2s => pI1 len pc L S (fun x => .int x.toInt16.toInt32)
  | .ineg => pI1 len pc L S (fun x => .int (-x))
  | .l2i => pL1 len pc L S (fun x => .int x.toInt32)
  | .lneg => pL1 len pc L S (fun x => .long (-x))
  | .pop => pPop len pc L S
  | .dup => pDup len pc L S
  | .dup_x1 => pDupX1 len pc L S
  | .dup2 => pDup2 len pc L S
  | .goto o => pGo len pc L S o
  | _ => none
/-- a stretch of them -/
def runs : List (Instr × Nat) → Nat → List Slot → List Value → Pr
  | [], pc, L, S => some (pc, L, S)
  | (i, len) :: r, pc, L, S => match ps i len pc L S with
    | some (pc', L', S') => runs r pc' L' S'
    | none => none
/-- where it goes on -/
def npc (i : Instr) (len pc : Nat) : Nat := match i with
  | .goto o => ((pc : Int) + o).toNat
  | _ => pc + len
/-- the bytes hold that stretch from pc on -/
def seg (bytes : ByteArray) : List (Instr × Nat) → Nat → Bool
  | [], _ => true
  | (i, len) :: r, pc => (match decode bytes pc with
    | .ok (j, n) => decide (j = i ∧ n = len)
    | _ => false) && seg bytes r (npc i len pc)
section P
variable {tb : Tables} [Ours tb] {e : Env} {below : List Frame} {T : State} {m : MethodId} {c : Code} {pc len : Nat} {L L' : List Slot} {S S' : List Value} {pc' : Nat}
theorem kind0 {v : Value} (h : kindOf v = 0) : ∃ x, v = .int x := by cases v <;> simp [kindOf] at h ⊢
theorem kind1 {v : Value} (h : kindOf v = 1) : ∃ x, v = .long x := by cases v <;> simp [kindOf] at h ⊢
theorem kind2 {v : Value} (h : kindOf v = 2) : v.isRef = true := by cases v <;> simp [kindOf, Value.isRef] at h ⊢
theorem toA {k : Nat} {o : Option Slot} (h : L[k]? = o) : L.toArray[k]? = o := by simpa using h
theorem s_nop1 (h : At T m c below) (hx : tb.exec = Jvm.exec) {v : Int} (hd : decode c.code pc = .ok (.iconst v, len)) (hp : ps (.iconst v) len pc L S = some (pc', L', S')) : Steps tb e below (T.setTop (mkF m pc L.toArray S)) (T.setTop (mkF m pc' L'.toArray S')) ∧ L'.length = L.length ∧ npc (.iconst v) len pc = pc' := by
  simp only [ps, pK] at hp
  split at hp
  · rename_i hc
    subst hc
    cases hp
    exact ⟨XS.iconst h hx rfl hd (Steps.refl _), rfl, rfl⟩
  · cases hp
theorem s_bipush (h : At T m c below) (hx : tb.exec = Jvm.exec) {v : Int} (hd : decode c.code pc = .ok (.bipush v, len)) (hp : ps (.bipush v) len pc L S = some (pc', L', S')) : Steps tb e below (T.setTop (mkF m pc L.toArray S)) (T.setTop (mkF m pc' L'.toArray S')) ∧ L'.length = L.length ∧ npc (.bipush v) len pc = pc' := by
  simp only [ps, pK] at hp
  split at hp
  · rename_i hc
    subst hc
    cases hp
    exact ⟨XS.bipush h hx rfl hd (Steps.refl _), rfl, rfl⟩
  · cases hp
theorem s_sipush (h : At T m c below) (hx : tb.exec = Jvm.exec) {v : Int} (hd : decode c.code pc = .ok (.sipush v, len)) (hp : ps (.sipush v) len pc L S = some (pc', L', S')) : Steps tb e below (T.setTop (mkF m pc L.toArray S)) (T.setTop (mkF m pc' L'.toArray S')) ∧ L'.length = L.length ∧ npc (.sipush v) len pc = pc' := by
  simp only [ps, pK] at hp
  split at hp
  · rename_i hc
    subst hc
    cases hp
    exact ⟨XS.sipush h hx rfl hd (Steps.refl _), rfl, rfl⟩
  · cases hp
theorem s_lconst (h : At T m c below) (hx : tb.exec = Jvm.exec) {k : Fin 2} (hd : decode c.code pc = .ok (.lconst k, len)) (hp : ps (.lconst k) len pc L S = some (pc', L', S')) : Steps tb e below (T.setTop (mkF m pc L.toArray S)) (T.setTop (mkF m pc' L'.toArray S')) ∧ L'.length = L.length ∧ npc (.lconst k) len pc = pc' := by
  simp only [ps, pK] at hp
  split at hp
  · rename_i hc
    subst hc
    cases hp
    exact ⟨XT.lconst h hx rfl hd (Steps.refl _), rfl, rfl⟩
  · cases hp
theorem s_anull (h : At T m c below) (hx : tb.exec = Jvm.exec) (hd : decode c.code pc = .ok (.aconst_null, len)) (hp : ps (.aconst_null) len pc L S = some (pc', L', S')) : Steps tb e below (T.setTop (mkF m pc L.toArray S)) (T.setTop (mkF m pc' L'.toArray S')) ∧ L'.length = L.length ∧ npc (.aconst_null) len pc = pc' := by
  simp only [ps, pK] at hp
  split at hp
  · rename_i hc
    subst hc
    cases hp
    exact ⟨XS.aconstNull h hx rfl hd (Steps.refl _), rfl, rfl⟩
  · cases hp
theorem s_iloadN (h : At T m c below) (hx : tb.exec = Jvm.exec) {k : Fin 4} (hd : decode c.code pc = .ok (.iload_n k, len)) (hp : ps (.iload_n k) len pc L S = some (pc', L', S')) : Steps tb e below (T.setTop (mkF m pc L.toArray S)) (T.setTop (mkF m pc' L'.toArray S')) ∧ L'.length = L.length ∧ npc (.iload_n k) len pc = pc' := by
  simp only [ps, pLd] at hp
  split at hp
  · rename_i v hv
    split at hp
    · rename_i hc
      obtain ⟨rfl, hk⟩ := hc
      cases hp
      obtain ⟨x, rfl⟩ := kind0 hk
      exact ⟨XS.iloadN h hx rfl hd (toA hv) (Steps.refl _), rfl, rfl⟩
    · cases hp
  · cases hp
theorem s_iload (h : At T m c below) (hx : tb.exec = Jvm.exec) {k : Nat} (hd : decode c.code pc = .ok (.iload k, len)) (hp : ps (.iload k) len pc L S = some (pc', L', S')) : Steps tb e below (T.setTop (mkF m pc L.toArray S)) (T.setTop (mkF m pc' L'.toArray S')) ∧ L'.length = L.length ∧ npc (.iload k) len pc = pc' := by
  simp only [ps, pLd] at hp
  split at hp
  · rename_i v hv
    split at hp
    · rename_i hc
      obtain ⟨rfl, hk⟩ := hc
      cases hp
      obtain ⟨x, rfl⟩ := kind0 hk
      exact ⟨XS.iload h hx rfl hd (toA hv) (Steps.refl _), rfl, rfl⟩
    · cases hp
  · cases hp
theorem s_lloadN (h : At T m c below) (hx : tb.exec = Jvm.exec) {k : Fin 4} (hd : decode c.code pc = .ok (.lload_n k, len)) (hp : ps (.lload_n k) len pc L S = some (pc', L', S')) : Steps tb e below (T.setTop (mkF m pc L.toArray S)) (T.setTop (mkF m pc' L'.toArray S')) ∧ L'.length = L.length ∧ npc (.lload_n k) len pc = pc' := by
  simp only [ps, pLd] at hp
  split at hp
  · rename_i v hv
    split at hp
    · rename_i hc
      obtain ⟨rfl, hk⟩ := hc
      cases hp
      obtain ⟨x, rfl⟩ := kind1 hk
      exact ⟨XT.lloadN h hx rfl hd (toA hv) (Steps.refl _), rfl, rfl⟩
    · cases hp
  · cases hp
theorem s_lload (h : At T m c below) (hx : tb.exec = Jvm.exec) {k : Nat} (hd : decode c.code pc = .ok (.lload k, len)) (hp : ps (.lload k) len pc L S = some (pc', L', S')) : Steps tb e below (T.setTop (mkF m pc L.toArray S)) (T.setTop (mkF m pc' L'.toArray S')) ∧ L'.length = L.length ∧ npc (.lload k) len pc = pc' := by
  simp only [ps, pLd] at hp
  split at hp
  · rename_i v hv
    split at hp
    · rename_i hc
      obtain ⟨rfl, hk⟩ := hc
      cases hp
      obtain ⟨x, rfl⟩ := kind1 hk
      exact ⟨XT.lload h hx rfl hd (toA hv) (Steps.refl _), rfl, rfl⟩
    · cases hp
  · cases hp
theorem s_aloadN (h : At T m c below) (hx : tb.exec = Jvm.exec) {k : Fin 4} (hd : decode c.code pc = .ok (.aload_n k, len)) (hp : ps (.aload_n k) len pc L S = some (pc', L', S')) : Steps tb e below (T.setTop (mkF m pc L.toArray S)) (T.setTop (mkF m pc' L'.toArray S')) ∧ L'.length = L.length ∧ npc (.aload_n k) len pc = pc' := by
  simp only [ps, pLd] at hp
  split at hp
  · rename_i v hv
    split at hp
    · rename_i hc
      obtain ⟨rfl, hk⟩ := hc
      cases hp
      exact ⟨XS.aloadN h hx rfl hd (toA hv) (kind2 hk) (Steps.refl _), rfl, rfl⟩
    · cases hp
  · cases hp
theorem s_aload (h : At T m c below) (hx : tb.exec = Jvm.exec) {k : Nat} (hd : decode c.code pc = .ok (.aload k, len)) (hp : ps (.aload k) len pc L S = some (pc', L', S')) : Steps tb e below (T.setTop (mkF m pc L.toArray S)) (T.setTop (mkF m pc' L'.toArray S')) ∧ L'.length = L.length ∧ npc (.aload k) len pc = pc' := by
  simp only [ps, pLd] at hp
  split at hp
  · rename_i v hv
    split at hp
    · rename_i hc
      obtain ⟨rfl, hk⟩ := hc
      cases hp
      exact ⟨XS.aload h hx rfl hd (toA hv) (kind2 hk) (Steps.refl _), rfl, rfl⟩
    · cases hp
  · cases hp
theorem s_istoreN (h : At T m c below) (hx : tb.exec = Jvm.exec) {k : Fin 4} (hd : decode c.code pc = .ok (.istore_n k, len)) (hp : ps (.istore_n k) len pc L S = some (pc', L', S')) : Steps tb e below (T.setTop (mkF m pc L.toArray S)) (T.setTop (mkF m pc' L'.toArray S')) ∧ L'.length = L.length ∧ npc (.istore_n k) len pc = pc' := by
  simp only [ps, pSt] at hp
  split at hp
  · split at hp
    · rename_i hc
      obtain ⟨rfl, hk⟩ := hc
      split at hp
      · rename_i l' hl
        split at hp
        · rename_i hs
          cases hp
          obtain ⟨x, rfl⟩ := kind0 hk
          exact ⟨XS.istoreN h hx rfl hd rfl hl (Steps.refl _), by simpa using hs, rfl⟩
        · cases hp
      · cases hp
    · cases hp
  · cases hp
theorem s_istore (h : At T m c below) (hx : tb.exec = Jvm.exec) {k : Nat} (hd : decode c.code pc = .ok (.istore k, len)) (hp : ps (.istore k) len pc L S = some (pc', L', S')) : Steps tb e below (T.setTop (mkF m pc L.toArray S)) (T.setTop (mkF m pc' L'.toArray S')) ∧ L'.length = L.length ∧ npc (.istore k) len pc = pc' := by
  simp only [ps, pSt] at hp
  split at hp
  · split at hp
    · rename_i hc
      obtain ⟨rfl, hk⟩ := hc
      split at hp
      · rename_i l' hl
        split at hp
        · rename_i hs
          cases hp
          obtain ⟨x, rfl⟩ := kind0 hk
          exact ⟨XS.istore h hx rfl hd rfl hl (Steps.refl _), by simpa using hs, rfl⟩
        · cases hp
      · cases hp
    · cases hp
  · cases hp
theorem s_lstoreN (h : At T m c below) (hx : tb.exec = Jvm.exec) {k : Fin 4} (hd : decode c.code pc = .ok (.lstore_n k, len)) (hp : ps (.lstore_n k) len pc L S = some (pc', L', S')) : Steps tb e below (T.setTop (mkF m pc L.toArray S)) (T.setTop (mkF m pc' L'.toArray S')) ∧ L'.length = L.length ∧ npc (.lstore_n k) len pc = pc' := by
  simp only [ps, pSt] at hp
  split at hp
  · split at hp
    · rename_i hc
      obtain ⟨rfl, hk⟩ := hc
      split at hp
      · rename_i l' hl
        split at hp
        · rename_i hs
          cases hp
          obtain ⟨x, rfl⟩ := kind1 hk
          exact ⟨XT.lstoreN h hx rfl hd rfl hl (Steps.refl _), by simpa using hs, rfl⟩
        · cases hp
      · cases hp
    · cases hp
  · cases hp
theorem s_lstore (h : At T m c below) (hx : tb.exec = Jvm.exec) {k : Nat} (hd : decode c.code pc = .ok (.lstore k, len)) (hp : ps (.lstore k) len pc L S = some (pc', L', S')) : Steps tb e below (T.setTop (mkF m pc L.toArray S)) (T.setTop (mkF m pc' L'.toArray S')) ∧ L'.length = L.length ∧ npc (.lstore k) len pc = pc' := by
  simp only [ps, pSt] at hp
  split at hp
  · split at hp
    · rename_i hc
      obtain ⟨rfl, hk⟩ := hc
      split at hp
      · rename_i l' hl
        split at hp
        · rename_i hs
          cases hp
          obtain ⟨x, rfl⟩ := kind1 hk
          exact ⟨XT.lstore h hx rfl hd rfl hl (Steps.refl _), by simpa using hs, rfl⟩
        · cases hp
      · cases hp
    · cases hp
  · cases hp
theorem s_astoreN (h : At T m c below) (hx : tb.exec = Jvm.exec) {k : Fin 4} (hd : decode c.code pc = .ok (.astore_n k, len)) (hp : ps (.astore_n k) len pc L S = some (pc', L', S')) : Steps tb e below (T.setTop (mkF m pc L.toArray S)) (T.setTop (mkF m pc' L'.toArray S')) ∧ L'.length = L.length ∧ npc (.astore_n k) len pc = pc' := by
  simp only [ps, pSt] at hp
  split at hp
  · split at hp
    · rename_i hc
      obtain ⟨rfl, hk⟩ := hc
      split at hp
      · rename_i l' hl
        split at hp
        · rename_i hs
          cases hp
          exact ⟨XS.astoreN h hx rfl hd rfl (kind2 hk) hl (Steps.refl _), by simpa using hs, rfl⟩
        · cases hp
      · cases hp
    · cases hp
  · cases hp
theorem s_astore (h : At T m c below) (hx : tb.exec = Jvm.exec) {k : Nat} (hd : decode c.code pc = .ok (.astore k, len)) (hp : ps (.astore k) len pc L S = some (pc', L', S')) : Steps tb e below (T.setTop (mkF m pc L.toArray S)) (T.setTop (mkF m pc' L'.toArray S')) ∧ L'.length = L.length ∧ npc (.astore k) len pc = pc' := by
  simp only [ps, pSt] at hp
  split at hp
  · split at hp
    · rename_i hc
      obtain ⟨rfl, hk⟩ := hc
      split at hp
      · rename_i l' hl
        split at hp
        · rename_i hs
          cases hp
          exact ⟨XS.astore h hx rfl hd rfl (kind2 hk) hl (Steps.refl _), by simpa using hs, rfl⟩
        · cases hp
      · cases hp
    · cases hp
  · cases hp
theorem s_iinc (h : At T m c below) (hx : tb.exec = Jvm.exec) {k : Nat} {cst : Int} (hd : decode c.code pc = .ok (.iinc k cst, len)) (hp : ps (.iinc k cst) len pc L S = some (pc', L', S')) : Steps tb e below (T.setTop (mkF m pc L.toArray S)) (T.setTop (mkF m pc' L'.toArray S')) ∧ L'.length = L.length ∧ npc (.iinc k cst) len pc = pc' := by
  simp only [ps, pInc] at hp
  split at hp
  · rename_i x hv
    split at hp
    · rename_i hc
      subst hc
      split at hp
      · rename_i l' hl
        split at hp
        · rename_i hs
          cases hp
          exact ⟨XS.iinc h hx rfl hd (toA hv) hl (Steps.refl _), by simpa using hs, rfl⟩
        · cases hp
      · cases hp
    · cases hp
  · cases hp
theorem s_iadd (h : At T m c below) (hx : tb.exec = Jvm.exec) (hd : decode c.code pc = .ok (.iadd, len)) (hp : ps (.iadd) len pc L S = some (pc', L', S')) : Steps tb e below (T.setTop (mkF m pc L.toArray S)) (T.setTop (mkF m pc' L'.toArray S')) ∧ L'.length = L.length ∧ npc (.iadd) len pc = pc' := by
  simp only [ps, pI2] at hp
  split at hp
  · split at hp
    · rename_i hc
      subst hc
      cases hp
      exact ⟨XS.iadd h hx rfl hd rfl (Steps.refl _), rfl, rfl⟩
    · cases hp
  · cases hp
theorem s_isub (h : At T m c below) (hx : tb.exec = Jvm.exec) (hd : decode c.code pc = .ok (.isub, len)) (hp : ps (.isub) len pc L S = some (pc', L', S')) : Steps tb e below (T.setTop (mkF m pc L.toArray S)) (T.setTop (mkF m pc' L'.toArray S')) ∧ L'.length = L.length ∧ npc (.isub) len pc = pc' := by
  simp only [ps, pI2] at hp
  split at hp
  · split at hp
    · rename_i hc
      subst hc
      cases hp
      exact ⟨XS.isub h hx rfl hd rfl (Steps.refl _), rfl, rfl⟩
    · cases hp
  · cases hp
theorem s_imul (h : At T m c below) (hx : tb.exec = Jvm.exec) (hd : decode c.code pc = .ok (.imul, len)) (hp : ps (.imul) len pc L S = some (pc', L', S')) : Steps tb e below (T.setTop (mkF m pc L.toArray S)) (T.setTop (mkF m pc' L'.toArray S')) ∧ L'.length = L.length ∧ npc (.imul) len pc = pc' := by
  simp only [ps, pI2] at hp
  split at hp
  · split at hp
    · rename_i hc
      subst hc
      cases hp
      exact ⟨XS.imul h hx rfl hd rfl (Steps.refl _), rfl, rfl⟩
    · cases hp
  · cases hp
theorem s_iand (h : At T m c below) (hx : tb.exec = Jvm.exec) (hd : decode c.code pc = .ok (.iand, len)) (hp : ps (.iand) len pc L S = some (pc', L', S')) : Steps tb e below (T.setTop (mkF m pc L.toArray S)) (T.setTop (mkF m pc' L'.toArray S')) ∧ L'.length = L.length ∧ npc (.iand) len pc = pc' := by
  simp only [ps, pI2] at hp
  split at hp
  · split at hp
    · rename_i hc
      subst hc
      cases hp
      exact ⟨XS.iand h hx rfl hd rfl (Steps.refl _), rfl, rfl⟩
    · cases hp
  · cases hp
theorem s_ior (h : At T m c below) (hx : tb.exec = Jvm.exec) (hd : decode c.code pc = .ok (.ior, len)) (hp : ps (.ior) len pc L S = some (pc', L', S')) : Steps tb e below (T.setTop (mkF m pc L.toArray S)) (T.setTop (mkF m pc' L'.toArray S')) ∧ L'.length = L.length ∧ npc (.ior) len pc = pc' := by
  simp only [ps, pI2] at hp
  split at hp
  · split at hp
    · rename_i hc
      subst hc
      cases hp
      exact ⟨XT.ior h hx rfl hd rfl (Steps.refl _), rfl, rfl⟩
    · cases hp
  · cases hp
theorem s_ixor (h : At T m c below) (hx : tb.exec = Jvm.exec) (hd : decode c.code pc = .ok (.ixor, len)) (hp : ps (.ixor) len pc L S = some (pc', L', S')) : Steps tb e below (T.setTop (mkF m pc L.toArray S)) (T.setTop (mkF m pc' L'.toArray S')) ∧ L'.length = L.length ∧ npc (.ixor) len pc = pc' := by
  simp only [ps, pI2] at hp
  split at hp
  · split at hp
    · rename_i hc
      subst hc
      cases hp
      exact ⟨XT.ixor h hx rfl hd rfl (Steps.refl _), rfl, rfl⟩
    · cases hp
  · cases hp
theorem s_ishl (h : At T m c below) (hx : tb.exec = Jvm.exec) (hd : decode c.code pc = .ok (.ishl, len)) (hp : ps (.ishl) len pc L S = some (pc', L', S')) : Steps tb e below (T.setTop (mkF m pc L.toArray S)) (T.setTop (mkF m pc' L'.toArray S')) ∧ L'.length = L.length ∧ npc (.ishl) len pc = pc' := by
  simp only [ps, pI2] at hp
  split at hp
  · split at hp
    · rename_i hc
      subst hc
      cases hp
      exact ⟨XT.ishl h hx rfl hd rfl (Steps.refl _), rfl, rfl⟩
    · cases hp
  · cases hp
theorem s_ishr (h : At T m c below) (hx : tb.exec = Jvm.exec) (hd : decode c.code pc = .ok (.ishr, len)) (hp : ps (.ishr) len pc L S = some (pc', L', S')) : Steps tb e below (T.setTop (mkF m pc L.toArray S)) (T.setTop (mkF m pc' L'.toArray S')) ∧ L'.length = L.length ∧ npc (.ishr) len pc = pc' := by
  simp only [ps, pI2] at hp
  split at hp
  · split at hp
    · rename_i hc
      subst hc
      cases hp
      exact ⟨XT.ishr h hx rfl hd rfl (Steps.refl _), rfl, rfl⟩
    · cases hp
  · cases hp
theorem s_iushr (h : At T m c below) (hx : tb.exec = Jvm.exec) (hd : decode c.code pc = .ok (.iushr, len)) (hp : ps (.iushr) len pc L S = some (pc', L', S')) : Steps tb e below (T.setTop (mkF m pc L.toArray S)) (T.setTop (mkF m pc' L'.toArray S')) ∧ L'.length = L.length ∧ npc (.iushr) len pc = pc' := by
  simp only [ps, pI2] at hp
  split at hp
  · split at hp
    · rename_i hc
      subst hc
      cases hp
      exact ⟨XT.iushr h hx rfl hd rfl (Steps.refl _), rfl, rfl⟩
    · cases hp
  · cases hp
theorem s_ladd (h : At T m c below) (hx : tb.exec = Jvm.exec) (hd : decode c.code pc = .ok (.ladd, len)) (hp : ps (.ladd) len pc L S = some (pc', L', S')) : Steps tb e below (T.setTop (mkF m pc L.toArray S)) (T.setTop (mkF m pc' L'.toArray S')) ∧ L'.length = L.length ∧ npc (.ladd) len pc = pc' := by
  simp only [ps, pL2] at hp
  split at hp
  · split at hp
    · rename_i hc
      subst hc
      cases hp
      exact ⟨XT.ladd h hx rfl hd rfl (Steps.refl _), rfl, rfl⟩
    · cases hp
  · cases hp
theorem s_lsub (h : At T m c below) (hx : tb.exec = Jvm.exec) (hd : decode c.code pc = .ok (.lsub, len)) (hp : ps (.lsub) len pc L S = some (pc', L', S')) : Steps tb e below (T.setTop (mkF m pc L.toArray S)) (T.setTop (mkF m pc' L'.toArray S')) ∧ L'.length = L.length ∧ npc (.lsub) len pc = pc' := by
  simp only [ps, pL2] at hp
  split at hp
  · split at hp
    · rename_i hc
      subst hc
      cases hp
      exact ⟨XT.lsub h hx rfl hd rfl (Steps.refl _), rfl, rfl⟩
    · cases hp
  · cases hp
theorem s_lmul (h : At T m c below) (hx : tb.exec = Jvm.exec) (hd : decode c.code pc = .ok (.lmul, len)) (hp : ps (.lmul) len pc L S = some (pc', L', S')) : Steps tb e below (T.setTop (mkF m pc L.toArray S)) (T.setTop (mkF m pc' L'.toArray S')) ∧ L'.length = L.length ∧ npc (.lmul) len pc = pc' := by
  simp only [ps, pL2] at hp
  split at hp
  · split at hp
    · rename_i hc
      subst hc
      cases hp
      exact ⟨XT.lmul h hx rfl hd rfl (Steps.refl _), rfl, rfl⟩
    · cases hp
  · cases hp
theorem s_land (h : At T m c below) (hx : tb.exec = Jvm.exec) (hd : decode c.code pc = .ok (.land, len)) (hp : ps (.land) len pc L S = some (pc', L', S')) : Steps tb e below (T.setTop (mkF m pc L.toArray S)) (T.setTop (mkF m pc' L'.toArray S')) ∧ L'.length = L.length ∧ npc (.land) len pc = pc' := by
  simp only [ps, pL2] at hp
  split at hp
  · split at hp
    · rename_i hc
      subst hc
      cases hp
      exact ⟨XT.land h hx rfl hd rfl (Steps.refl _), rfl, rfl⟩
    · cases hp
  · cases hp
theorem s_lor (h : At T m c below) (hx : tb.exec = Jvm.exec) (hd : decode c.code pc = .ok (.lor, len)) (hp : ps (.lor) len pc L S = some (pc', L', S')) : Steps tb e below (T.setTop (mkF m pc L.toArray S)) (T.setTop (mkF m pc' L'.toArray S')) ∧ L'.length = L.length ∧ npc (.lor) len pc = pc' := by
  simp only [ps, pL2] at hp
  split at hp
  · split at hp
    · rename_i hc
      subst hc
      cases hp
      exact ⟨XT.lor h hx rfl hd rfl (Steps.refl _), rfl, rfl⟩
    · cases hp
  · cases hp
theorem s_lxor (h : At T m c below) (hx : tb.exec = Jvm.exec) (hd : decode c.code pc = .ok (.lxor, len)) (hp : ps (.lxor) len pc L S = some (pc', L', S')) : Steps tb e below (T.setTop (mkF m pc L.toArray S)) (T.setTop (mkF m pc' L'.toArray S')) ∧ L'.length = L.length ∧ npc (.lxor) len pc = pc' := by
  simp only [ps, pL2] at hp
  split at hp
  · split at hp
    · rename_i hc
      subst hc
      cases hp
      exact ⟨XT.lxor h hx rfl hd rfl (Steps.refl _), rfl, rfl⟩
    · cases hp
  · cases hp
theorem s_lcmp (h : At T m c below) (hx : tb.exec = Jvm.exec) (hd : decode c.code pc = .ok (.lcmp, len)) (hp : ps (.lcmp) len pc L S = some (pc', L', S')) : Steps tb e below (T.setTop (mkF m pc L.toArray S)) (T.setTop (mkF m pc' L'.toArray S')) ∧ L'.length = L.length ∧ npc (.lcmp) len pc = pc' := by
  simp only [ps, pL2] at hp
  split at hp
  · split at hp
    · rename_i hc
      subst hc
      cases hp
      exact ⟨XT.lcmp h hx rfl hd rfl (Steps.refl _), rfl, rfl⟩
    · cases hp
  · cases hp
theorem s_lshl (h : At T m c below) (hx : tb.exec = Jvm.exec) (hd : decode c.code pc = .ok (.lshl, len)) (hp : ps (.lshl) len pc L S = some (pc', L', S')) : Steps tb e below (T.setTop (mkF m pc L.toArray S)) (T.setTop (mkF m pc' L'.toArray S')) ∧ L'.length = L.length ∧ npc (.lshl) len pc = pc' := by
  simp only [ps, pLI] at hp
  split at hp
  · split at hp
    · rename_i hc
      subst hc
      cases hp
      exact ⟨XT.lshl h hx rfl hd rfl (Steps.refl _), rfl, rfl⟩
    · cases hp
  · cases hp
theorem s_lshr (h : At T m c below) (hx : tb.exec = Jvm.exec) (hd : decode c.code pc = .ok (.lshr, len)) (hp : ps (.lshr) len pc L S = some (pc', L', S')) : Steps tb e below (T.setTop (mkF m pc L.toArray S)) (T.setTop (mkF m pc' L'.toArray S')) ∧ L'.length = L.length ∧ npc (.lshr) len pc = pc' := by
  simp only [ps, pLI] at hp
  split at hp
  · split at hp
    · rename_i hc
      subst hc
      cases hp
      exact ⟨XT.lshr h hx rfl hd rfl (Steps.refl _), rfl, rfl⟩
    · cases hp
  · cases hp
theorem s_lushr (h : At T m c below) (hx : tb.exec = Jvm.exec) (hd : decode c.code pc = .ok (.lushr, len)) (hp : ps (.lushr) len pc L S = some (pc', L', S')) : Steps tb e below (T.setTop (mkF m pc L.toArray S)) (T.setTop (mkF m pc' L'.toArray S')) ∧ L'.length = L.length ∧ npc (.lushr) len pc = pc' := by
  simp only [ps, pLI] at hp
  split at hp
  · split at hp
    · rename_i hc
      subst hc
      cases hp
      exact ⟨XT.lushr h hx rfl hd rfl (Steps.refl _), rfl, rfl⟩
    · cases hp
  · cases hp
theorem s_i2l (h : At T m c below) (hx : tb.exec = Jvm.exec) (hd : decode c.code pc = .ok (.i2l, len)) (hp : ps (.i2l) len pc L S = some (pc', L', S')) : Steps tb e below (T.setTop (mkF m pc L.toArray S)) (T.setTop (mkF m pc' L'.toArray S')) ∧ L'.length = L.length ∧ npc (.i2l) len pc = pc' := by
  simp only [ps, pI1] at hp
  split at hp
  · split at hp
    · rename_i hc
      subst hc
      cases hp
      exact ⟨XT.i2l h hx rfl hd rfl (Steps.refl _), rfl, rfl⟩
    · cases hp
  · cases hp
theorem s_i2b (h : At T m c below) (hx : tb.exec = Jvm.exec) (hd : decode c.code pc = .ok (.i2b, len)) (hp : ps (.i2b) len pc L S = some (pc', L', S')) : Steps tb e below (T.setTop (mkF m pc L.toArray S)) (T.setTop (mkF m pc' L'.toArray S')) ∧ L'.length = L.length ∧ npc (.i2b) len pc = pc' := by
  simp only [ps, pI1] at hp
  split at hp
  · split at hp
    · rename_i hc
      subst hc
      cases hp
      exact ⟨XT.i2b h hx rfl hd rfl (Steps.refl _), rfl, rfl⟩
    · cases hp
  · cases hp
theorem s_i2c (h : At T m c below) (hx : tb.exec = Jvm.exec) (hd : decode c.code pc = .ok (.i2c, len)) (hp : ps (.i2c) len pc L S = some (pc', L', S')) : Steps tb e below (T.setTop (mkF m pc L.toArray S)) (T.setTop (mkF m pc' L'.toArray S')) ∧ L'.length = L.length ∧ npc (.i2c) len pc = pc' := by
  simp only [ps, pI1] at hp
  split at hp
  · split at hp
    · rename_i hc
      subst hc
      cases hp
      exact ⟨XT.i2c h hx rfl hd rfl (Steps.refl _), rfl, rfl⟩
    · cases hp
  · cases hp
theorem s_i2s (h : At T m c below) (hx : tb.exec = Jvm.exec) (hd : decode c.code pc = .ok (.i2s, len)) (hp : ps (.i2s) len pc L S = some (pc', L', S')) : Steps tb e below (T.setTop (mkF m pc L.toArray S)) (T.setTop (mkF m pc' L'.toArray S')) ∧ L'.length = L.length ∧ npc (.i2s) len pc = pc' := by
  simp only [ps, pI1] at hp
  split at hp
  · split at hp
    · rename_i hc
      subst hc
      cases hp
      exact ⟨XT.i2s h hx rfl hd rfl (Steps.refl _), rfl, rfl⟩
    · cases hp
  · cases hp
theorem s_ineg (h : At T m c below) (hx : tb.exec = Jvm.exec) (hd : decode c.code pc = .ok (.ineg, len)) (hp : ps (.ineg) len pc L S = some (pc', L', S')) : Steps tb e below (T.setTop (mkF m pc L.toArray S)) (T.setTop (mkF m pc' L'.toArray S')) ∧ L'.length = L.length ∧ npc (.ineg) len pc = pc' := by
  simp only [ps, pI1] at hp
  split at hp
  · split at hp
    · rename_i hc
      subst hc
      cases hp
      exact ⟨XS.ineg h hx rfl hd rfl (Steps.refl _), rfl, rfl⟩
    · cases hp
  · cases hp
theorem s_l2i (h : At T m c below) (hx : tb.exec = Jvm.exec) (hd : decode c.code pc = .ok (.l2i, len)) (hp : ps (.l2i) len pc L S = some (pc', L', S')) : Steps tb e below (T.setTop (mkF m pc L.toArray S)) (T.setTop (mkF m pc' L'.toArray S')) ∧ L'.length = L.length ∧ npc (.l2i) len pc = pc' := by
  simp only [ps, pL1] at hp
  split at hp
  · split at hp
    · rename_i hc
      subst hc
      cases hp
      exact ⟨XT.l2i h hx rfl hd rfl (Steps.refl _), rfl, rfl⟩
    · cases hp
  · cases hp
theorem s_lneg (h : At T m c below) (hx : tb.exec = Jvm.exec) (hd : decode c.code pc = .ok (.lneg, len)) (hp : ps (.lneg) len pc L S = some (pc', L', S')) : Steps tb e below (T.setTop (mkF m pc L.toArray S)) (T.setTop (mkF m pc' L'.toArray S')) ∧ L'.length = L.length ∧ npc (.lneg) len pc = pc' := by
  simp only [ps, pL1] at hp
  split at hp
  · split at hp
    · rename_i hc
      subst hc
      cases hp
      exact ⟨XT.lneg h hx rfl hd rfl (Steps.refl _), rfl, rfl⟩
    · cases hp
  · cases hp
theorem s_pop (h : At T m c below) (hx : tb.exec = Jvm.exec) (hd : decode c.code pc = .ok (.pop, len)) (hp : ps (.pop) len pc L S = some (pc', L', S')) : Steps tb e below (T.setTop (mkF m pc L.toArray S)) (T.setTop (mkF m pc' L'.toArray S')) ∧ L'.length = L.length ∧ npc (.pop) len pc = pc' := by
  simp only [ps, pPop] at hp
  split at hp
  · split at hp
    · rename_i hc
      obtain ⟨rfl, h1⟩ := hc
      cases hp
      exact ⟨XT.pop h hx rfl hd rfl h1 (Steps.refl _), rfl, rfl⟩
    · cases hp
  · cases hp
theorem s_dup (h : At T m c below) (hx : tb.exec = Jvm.exec) (hd : decode c.code pc = .ok (.dup, len)) (hp : ps (.dup) len pc L S = some (pc', L', S')) : Steps tb e below (T.setTop (mkF m pc L.toArray S)) (T.setTop (mkF m pc' L'.toArray S')) ∧ L'.length = L.length ∧ npc (.dup) len pc = pc' := by
  simp only [ps, pDup] at hp
  split at hp
  · split at hp
    · rename_i hc
      obtain ⟨rfl, h1⟩ := hc
      cases hp
      exact ⟨XS.dup h hx rfl hd rfl h1 (Steps.refl _), rfl, rfl⟩
    · cases hp
  · cases hp
theorem s_dupx1 (h : At T m c below) (hx : tb.exec = Jvm.exec) (hd : decode c.code pc = .ok (.dup_x1, len)) (hp : ps (.dup_x1) len pc L S = some (pc', L', S')) : Steps tb e below (T.setTop (mkF m pc L.toArray S)) (T.setTop (mkF m pc' L'.toArray S')) ∧ L'.length = L.length ∧ npc (.dup_x1) len pc = pc' := by
  simp only [ps, pDupX1] at hp
  split at hp
  · split at hp
    · rename_i hc
      obtain ⟨rfl, h1, h2⟩ := hc
      cases hp
      exact ⟨XT.dupX1 h hx rfl hd rfl h1 h2 (Steps.refl _), rfl, rfl⟩
    · cases hp
  · cases hp
theorem s_dup2 (h : At T m c below) (hx : tb.exec = Jvm.exec) (hd : decode c.code pc = .ok (.dup2, len)) (hp : ps (.dup2) len pc L S = some (pc', L', S')) : Steps tb e below (T.setTop (mkF m pc L.toArray S)) (T.setTop (mkF m pc' L'.toArray S')) ∧ L'.length = L.length ∧ npc (.dup2) len pc = pc' := by
  simp only [ps, pDup2] at hp
  split at hp
  · split at hp
    · rename_i hc
      subst hc
      cases hp
      exact ⟨XT.dup2L h hx rfl hd rfl (Steps.refl _), rfl, rfl⟩
    · cases hp
  · split at hp
    · rename_i hc
      obtain ⟨rfl, h1, h2⟩ := hc
      cases hp
      exact ⟨XT.dup2 h hx rfl hd rfl h1 h2 (Steps.refl _), rfl, rfl⟩
    · cases hp
  · cases hp
theorem s_goto (h : At T m c below) (hx : tb.exec = Jvm.exec) {o : Int} (hd : decode c.code pc = .ok (.goto o, len)) (hp : ps (.goto o) len pc L S = some (pc', L', S')) : Steps tb e below (T.setTop (mkF m pc L.toArray S)) (T.setTop (mkF m pc' L'.toArray S')) ∧ L'.length = L.length ∧ npc (.goto o) len pc = pc' := by
  simp only [ps, pGo] at hp
  split at hp
  · rename_i hc
    obtain ⟨rfl, h1⟩ := hc
    cases hp
    exact ⟨XS.goto h hx rfl (pc0 := pc) rfl hd h1 rfl (Steps.refl _), rfl, rfl⟩
  · cases hp
theorem ps_sound (h : At T m c below) (hx : tb.exec = Jvm.exec) {i : Instr} (hd : decode c.code pc = .ok (i, len)) (hp : ps i len pc L S = some (pc', L', S')) : Steps tb e below (T.setTop (mkF m pc L.toArray S)) (T.setTop (mkF m pc' L'.toArray S')) ∧ L'.length = L.length ∧ npc i len pc = pc' := by
  cases i
  case iconst => exact s_nop1 h hx hd hp
  case bipush => exact s_bipush h hx hd hp
  case sipush => exact s_sipush h hx hd hp
  case lconst => exact s_lconst h hx hd hp
  case aconst_null => exact s_anull h hx hd hp
  case iload_n => exact s_iloadN h hx hd hp
  case iload => exact s_iload h hx hd hp
  case lload_n => exact s_lloadN h hx hd hp
  case lload => exact s_lload h hx hd hp
  case aload_n => exact s_aloadN h hx hd hp
  case aload => exact s_aload h hx hd hp
  case istore_n => exact s_istoreN h hx hd hp
  case istore => exact s_istore h hx hd hp
  case lstore_n => exact s_lstoreN h hx hd hp
  case lstore => exact s_lstore h hx hd hp
  case astore_n => exact s_astoreN h hx hd hp
  case astore => exact s_astore h hx hd hp
  case iinc => exact s_iinc h hx hd hp
  case iadd => exact s_iadd h hx hd hp
  case isub => exact s_isub h hx hd hp
  case imul => exact s_imul h hx hd hp
  case iand => exact s_iand h hx hd hp
  case ior => exact s_ior h hx hd hp
  case ixor => exact s_ixor h hx hd hp
  case ishl => exact s_ishl h hx hd hp
  case ishr => exact s_ishr h hx hd hp
  case iushr => exact s_iushr h hx hd hp
  case ladd => exact s_ladd h hx hd hp
  case lsub => exact s_lsub h hx hd hp
  case lmul => exact s_lmul h hx hd hp
  case land => exact s_land h hx hd hp
  case lor => exact s_lor h hx hd hp
  case lxor => exact s_lxor h hx hd hp
  case lcmp => exact s_lcmp h hx hd hp
  case lshl => exact s_lshl h hx hd hp
  case lshr => exact s_lshr h hx hd hp
  case lushr => exact s_lushr h hx hd hp
  case i2l => exact s_i2l h hx hd hp
  case i2b => exact s_i2b h hx hd hp
  case i2c => exact s_i2c h hx hd hp
  case i2s => exact s_i2s h hx hd hp
  case ineg => exact s_ineg h hx hd hp
  case l2i => exact s_l2i h hx hd hp
  case lneg => exact s_lneg h hx hd hp
  case pop => exact s_pop h hx hd hp
  case dup => exact s_dup h hx hd hp
  case dup_x1 => exact s_dupx1 h hx hd hp
  case dup2 => exact s_dup2 h hx hd hp
  case goto => exact s_goto h hx hd hp
  all_goals (exact absurd hp (by simp [ps]))
end P
theorem runs_sound {tb : Tables} [Ours tb] {e : Env} {below : List Frame} {T : State} {m : MethodId} {c : Code} (h : At T m c below) (hx : tb.exec = Jvm.exec) : ∀ (is : List (Instr × Nat)) {pc : Nat} {L : List Slot} {S : List Value} {pc' : Nat} {L' : List Slot} {S' : List Value},
    seg c.code is pc = true → runs is pc L S = some (pc', L', S') → Steps tb e below (T.setTop (mkF m pc L.toArray S)) (T.setTop (mkF m pc' L'.toArray S')) ∧ L'.length = L.length
  | [], pc, L, S, pc', L', S', _, hr => by cases hr; exact ⟨Steps.refl _, rfl⟩
  | (i, len) :: r, pc, L, S, pc', L', S', hs, hr => by
    simp only [seg, Bool.and_eq_true] at hs
    obtain ⟨h1, h2⟩ := hs
    simp only [runs] at hr
    split at hr
    · rename_i pc1 L1 S1 hp
      split at h1
      · rename_i j n hd
        simp only [decide_eq_true_eq] at h1
        obtain ⟨rfl, rfl⟩ := h1
        obtain ⟨q1, q2, e⟩ := ps_sound h hx hd hp
        rw [e] at h2
        obtain ⟨q3, q4⟩ := runs_sound h hx r h2 hr
        exact ⟨q1.trans q3, q4.trans q2⟩
      · cases h1
    · cases hr
end Jvm.WK
namespace Jvm.WK
open Sem ClassFile Op Lib Jvm.Stand Jvm.Free Jvm.LawKit Jvm.RoadKit
/-! ## 4. the heap's list over a step -/
section H
variable {κ : Cx} {vm vm1 : Vm} {h h' : Heap} {l : List Chunk} {a : Addr} {sl : Nat} {v : Value}
theorem Holds.lt : ∀ {x : Chunk}, Holds κ h x → x.1 < h.size
  | (a, _, .inl (C, fs)), H => H.1.lt
  | (a, _, .inr (ty, vs)), ⟨c, A, _, _⟩ => A.lt
theorem Holds.ext (E : Ext h h') : ∀ {x : Chunk}, Holds κ h x → Holds κ h' x
  | (a, _, .inl (C, fs)), H => ⟨H.1.ext E, fun f hf => (H.2.1 f hf).ext E, H.2.2⟩
  | (a, _, .inr (ty, vs)), ⟨c, A, e, o, q⟩ => ⟨c, A.ext E, e, o, fun a b => (q a b).ext E⟩
theorem Holds.other (W : Wr h h' a sl v) : ∀ {x : Chunk}, Holds κ h x → x.1 ≠ a → Holds κ h' x
  | (b, _, .inl (C, fs)), H, hne => ⟨H.1.wr W, fun f hf => (H.2.1 f hf).other W (Or.inl hne), H.2.2⟩
  | (b, _, .inr (ty, vs)), ⟨c, A, e, o, q⟩, hne => ⟨c, A.other W hne, e, o, fun a b => (q a b).wr W⟩
theorem Hp.ext (E : Ext h h') (A : CHr (kZ κ) (kE κ) vm h vm1 h') (H : Hp κ vm h l) : Hp κ vm1 h' l :=
  ⟨fun x hx => (H.1 x hx).ext E, H.2.1, fun x hx hm => ⟨(H.2.2 x hx hm).1, A.safe (H.1 x hx).lt (H.2.2 x hx hm).2⟩⟩
theorem Ext.rfl' : Ext h h := ⟨Nat.le_refl _, fun _ _ q => q⟩
theorem Hp.warm (A : CHr (kZ κ) (kE κ) vm h vm1 h) (H : Hp κ vm h l) : Hp κ vm1 h l := H.ext Ext.rfl' A
theorem Hp.add (H : Hp κ vm h l) {x : Chunk} (hx : Holds κ h x) (hne : ∀ z ∈ l, (x.2.1 = true ∨ z.2.1 = true) → x.1 ≠ z.1) (hs : x.2.1 = true → (kZ κ).heap.size ≤ x.1 ∧ Safe (kZ κ) (kE κ) vm h x.1) : Hp κ vm h (x :: l) := by
  refine ⟨fun z hz => ?_, ?_, fun z hz hm => ?_⟩
  · rcases List.mem_cons.mp hz with rfl | hz
    · exact hx
    · exact H.1 z hz
  · rw [List.map_cons, List.pairwise_cons]
    refine ⟨fun q hq => ?_, H.2.1⟩
    obtain ⟨z, hz, rfl⟩ := List.mem_map.mp hq
    exact hne z hz
  · rcases List.mem_cons.mp hz with rfl | hz
    · exact hs hm
    · exact H.2.2 z hz hm
/-- a new cell, at the heap's end -/
theorem Hp.new (E : Ext h h') (A : CHr (kZ κ) (kE κ) vm h vm1 h') (H : Hp κ vm h l) (hn : (kZ κ).heap.size ≤ h.size) {mu : Bool} {c : String × List (String × String × String × Value) ⊕ FieldType × List Value} (hx : Holds κ h' (h.size, mu, c)) (hS : Safe (kZ κ) (kE κ) vm1 h' h.size) : Hp κ vm1 h' ((h.size, mu, c) :: l) :=
  (H.ext E A).add hx (fun z hz _ => Nat.ne_of_gt (H.1 z hz).lt) (fun _ => ⟨hn, hS⟩)
theorem getElem?_set_ne' {α : Type} {l : List α} {i j : Nat} {x : α} (h : i ≠ j) : (l.set i x)[j]? = l[j]? := List.getElem?_set_ne h
theorem Hp.apart (H : Hp κ vm h l) {i j : Nat} {x z : Chunk} (hi : l[i]? = some x) (hj : l[j]? = some z) (hne : i ≠ j) (hm : x.2.1 = true ∨ z.2.1 = true) : x.1 ≠ z.1 := by
  obtain ⟨hi', ei⟩ := List.getElem?_eq_some_iff.mp hi
  obtain ⟨hj', ej⟩ := List.getElem?_eq_some_iff.mp hj
  have P := List.pairwise_iff_getElem.mp H.2.1
  rcases Nat.lt_or_gt_of_ne hne with q | q
  · have := P i j (by simpa using hi') (by simpa using hj') q
    simp only [List.getElem_map, ei, ej] at this
    exact this hm
  · have := P j i (by simpa using hj') (by simpa using hi') q
    simp only [List.getElem_map, ei, ej] at this
    exact Ne.symm (this hm.symm)
/-- one slot of one cell that may be written -/
theorem Hp.wr (H : Hp κ vm h l) (hC : CHv (kZ κ) (kE κ) vm h) {i : Nat} {c c' : String × List (String × String × String × Value) ⊕ FieldType × List Value} (hi : l[i]? = some (a, true, c)) (W : Wr h h' a sl v) (hnew : Holds κ h' (a, true, c')) :
    Hp κ vm h' (l.set i (a, true, c')) ∧ CHv (kZ κ) (kE κ) vm h' := by
  have hS := (H.2.2 _ (List.mem_of_getElem? hi) rfl)
  have hW := hC.wrStep W hS.2
  refine ⟨⟨fun z hz => ?_, ?_, fun z hz hm => ?_⟩, hW.1⟩
  · obtain ⟨j, hj⟩ := List.mem_iff_getElem?.mp hz
    by_cases e : i = j
    · subst e
      have hlt := (List.getElem?_eq_some_iff.mp hi).1
      rw [List.getElem?_set_self hlt] at hj
      cases hj; exact hnew
    · rw [getElem?_set_ne' e] at hj
      exact (H.1 z (List.mem_of_getElem? hj)).other W (Ne.symm (H.apart hi hj e (Or.inl rfl)))
  · have e : (l.set i (a, true, c')).map key = l.map key := by
      apply List.ext_getElem?
      intro j
      simp only [List.getElem?_map]
      by_cases e : i = j
      · subst e
        rw [List.getElem?_set_self (List.getElem?_eq_some_iff.mp hi).1, hi]; rfl
      · rw [getElem?_set_ne' e]
    rw [e]; exact H.2.1
  · obtain ⟨j, hj⟩ := List.mem_iff_getElem?.mp hz
    by_cases e : i = j
    · subst e
      rw [List.getElem?_set_self (List.getElem?_eq_some_iff.mp hi).1] at hj
      cases hj
      exact ⟨hS.1, fun B => hS.2 (hW.2 _ B)⟩
    · rw [getElem?_set_ne' e] at hj
      have q := H.2.2 z (List.mem_of_getElem? hj) hm
      exact ⟨q.1, fun B => q.2 (hW.2 _ B)⟩
/-- chunks forgotten, turned round, no more to be written -/
theorem Hp.perm {l' : List Chunk} (H : Hp κ vm h l) (p : l.Perm l') : Hp κ vm h l' :=
  ⟨fun x hx => H.1 x (p.mem_iff.mpr hx), (List.Perm.pairwise_iff (fun {x y} (q : Apart x y) (m : y.2 = true ∨ x.2 = true) => Ne.symm (q m.symm)) (p.map key)).mp H.2.1, fun x hx => H.2.2 x (p.mem_iff.mpr hx)⟩
theorem Hp.drop {x : Chunk} (H : Hp κ vm h (x :: l)) : Hp κ vm h l :=
  ⟨fun z hz => H.1 z (List.mem_cons_of_mem _ hz), (List.pairwise_cons.mp H.2.1).2, fun z hz => H.2.2 z (List.mem_cons_of_mem _ hz)⟩
theorem Holds.mu {mu : Bool} {c : String × List (String × String × String × Value) ⊕ FieldType × List Value} (H : Holds κ h (a, mu, c)) : Holds κ h (a, false, c) := by
  rcases c with ⟨C, fs⟩ | ⟨ty, vs⟩
  · exact H
  · obtain ⟨c, A, e, o, q⟩ := H
    exact ⟨c, A, e, o, fun a => by cases a⟩
theorem Hp.freeze {mu : Bool} {c : String × List (String × String × String × Value) ⊕ FieldType × List Value} (H : Hp κ vm h ((a, mu, c) :: l)) : Hp κ vm h ((a, false, c) :: l) := by
  refine Hp.add H.drop (Holds.mu (H.1 _ (List.mem_cons_self ..))) (fun z hz hm => ?_) (fun q => by cases q)
  have P := (List.pairwise_cons.mp H.2.1).1 (key z) (List.mem_map_of_mem hz)
  refine P (Or.inr ?_)
  rcases hm with hm | hm
  · cases hm
  · exact hm
end H
/-! ## 5. from one state to the next -/
section N
variable {κ : Cx} {T : State} {y : MethodName} {pc pc' : Nat} {L L' : List Slot} {S S' : List Value} {F : List Frame} {l l' : List Chunk} {k n : Nat} {bytes : ByteArray} {mx : Nat} {rt : Option FieldType}
theorem Ok.exec (C : Ok κ) : (kp κ).tables.exec = Jvm.exec := C.2.2.2.1
theorem Ok.ew (C : Ok κ) : EW (kZ κ) (ka κ) (kE κ) := C.2.2.2.2.2.2.2.2.2.2.1
theorem Good.hp (G : Good κ T y pc L S F l k n) : Hp κ T.vm T.heap l := G.2.2.2.2.2.1
theorem Good.ch (G : Good κ T y pc L S F l k n) : CHv (kZ κ) (kE κ) T.vm T.heap := G.2.2.2.2.1
theorem Good.room (G : Good κ T y pc L S F l k n) : Rm κ F (0 + 1) (L.length + 11 + 0) := G.2.2.2.2.2.2.2.2.2.1
theorem Good.size (G : Good κ T y pc L S F l k n) : (kZ κ).heap.size ≤ T.heap.size := G.sb.2.1
theorem Good.cells (G : Good κ T y pc L S F l k n) : k ≤ (kR κ).cells := G.2.2.2.2.2.2.1
theorem Good.slots (G : Good κ T y pc L S F l k n) : n ≤ (kR κ).slots := G.2.2.2.2.2.2.2.1
theorem Good.old (G : Good κ T y pc L S F l k n) : Ext (kZ κ).heap T.heap := ⟨G.size, fun a c h => State.sameButNew.old_cell G.sb h⟩
theorem Good.own (G : Good κ T y pc L S F l k n) (M : Meth κ y bytes mx rt) : (base κ T y F).vm.findClass y.cls = some (mid κ y).cls := by
  show T.vm.findClass y.cls = _
  rw [G.alike.findClass]; exact M.cls
theorem Good.go (G : Good κ T y pc L S F l k n) {T' : State} {g' : JFrame} (st : ∀ target, Steps (kp κ).tables (ke κ) (F ++ kb κ) (T'.setTop g') target → Steps (kp κ).tables (ke κ) (F ++ kb κ) (T.setTop (mkF (mid κ y) pc L.toArray S)) target) (D : Done κ (T'.setTop g')) : Done κ T := by
  obtain ⟨t, h1, h2⟩ := D
  have q := st _ (Steps.refl _)
  have e : T.setTop (mkF (mid κ y) pc L.toArray S) = T := State.setTop_self (State.topJava?_of_frames G.1)
  rw [e] at q
  exact ⟨t, (steps_weaken q).trans h1, h2⟩
theorem resd_mono {s : State} {vm' : Vm} (h : s.Warmed39 vm') {p : String × Nat} (r : resd s.vm p = true) : resd vm' p = true := by
  unfold resd at r ⊢
  rw [h.alike.findClass]
  cases hc : s.vm.findClass p.1 with
  | none => simp [hc] at r
  | some c =>
    simp only [hc] at r ⊢
    cases hk : s.vm.classes[c]? with
    | none => simp [hk] at r
    | some k =>
      simp only [hk] at r
      obtain ⟨k', hk', -, -, ee, -⟩ := h.2.2.2 _ k hk
      rw [hk']
      rcases ee p.2 with e0 | ⟨hop, -⟩
      · simp only [e0]; exact r
      · simp only [hop] at r; cases r
theorem pend_mono {s : State} {vm' : Vm} (h : s.Warmed39 vm') : pend κ vm' ≤ pend κ s.vm := by
  unfold pend
  apply List.countP_mono_left
  intro p _ q
  simp only [Bool.not_eq_true'] at q ⊢
  cases r : resd s.vm p with
  | false => rfl
  | true => rw [resd_mono h r] at q; cases q
theorem Good.same' (G : Good κ T y pc L S F l k n) {U : State} {locs : List Loc} {cells slots : Nat} (hU : pend κ U.vm ≤ pend κ T.vm) (h : (base κ T y F).sameButNew (U.setVm (base κ T y F).vm) locs cells slots) (hlocs : ∀ x ∈ locs, (kZ κ).heap.size ≤ x.base) : Used κ U (k + cells) (n + slots) := by
  have q1 : T.sameButNew (U.setVm T.vm) locs cells slots := State.sameButNew.of_setFrames h
  obtain ⟨k0, n0, g, g1, g2⟩ := G.2.1
  have q2 := g.trans (q1.setVm (kZ κ).vm)
  have q3 : (kZ κ).sameButNew (U.setVm (kZ κ).vm) ([] ++ locs) (k0 + cells) (n0 + slots) := q2
  exact ⟨k0 + cells, n0 + slots, q3.sift fun x hx => Or.inr (hlocs x (by simpa using hx)), by omega, by omega⟩
theorem Used.setFrames {fs : List Frame} (h : Used κ T k n) (hcur : (kZ κ).cur < (kZ κ).threads.size) : Used κ (T.setFrames fs) k n := by
  obtain ⟨k0, n0, g, g1, g2⟩ := h
  exact ⟨k0, n0, g.setFrames _ hcur, g1, g2⟩
theorem Used.mono {k' n' : Nat} (h : Used κ T k n) (hk : k ≤ k') (hn : n ≤ n') : Used κ T k' n' := by
  obtain ⟨k0, n0, g, g1, g2⟩ := h
  exact ⟨k0, n0, g, by omega, by omega⟩
theorem Used.vm {vm' : Vm} (h : Used κ T k n) (hv : pend κ vm' ≤ pend κ T.vm) : Used κ (T.setVm vm') k n := by
  obtain ⟨k0, n0, g, g1, g2⟩ := h
  have e : pend κ (T.setVm vm').vm = pend κ vm' := rfl
  exact ⟨k0, n0, g, by omega, by omega⟩
theorem Good.since' (G : Good κ T y pc L S F l k n) {vm' : Vm} {n' : Nat} (hW : (base κ T y F).WarmedH vm') (hs : T.heap.size ≤ n') : (kZ κ).Since vm' n' := by
  have q : ((kZ κ).setVm T.vm).WarmedH vm' := State.WarmedH.of_rootvm (s := base κ T y F) rfl hW
  exact G.2.2.1.trans (q.since n') hs
theorem Good.strict' (G : Good κ T y pc L S F l k n) {vm' : Vm} (hW : (base κ T y F).WarmedH vm') (h : kS κ = true) : (kZ κ).WarmedH vm' :=
  State.WarmedH.trans (G.2.2.2.1 h) (State.WarmedH.of_rootvm (s := base κ T y F) (u := T) rfl hW)
theorem Good.next (G : Good κ T y pc L S F l k n) {R' : Room} {meth : Method} {c : Code} {T' : State} {locs : List Loc} {cells slots : Nat} (X' : Stand (kp κ) (kl κ) (ke κ) R' (base κ T y F) (mid κ y) (ka κ) (F ++ kb κ) meth c T' locs cells slots)
    (hlocs : ∀ x ∈ locs, (kZ κ).heap.size ≤ x.base) (hk : k + cells ≤ (kR κ).cells) (hn : n + slots ≤ (kR κ).slots) (hL : L'.length = L.length) (hC : CHv (kZ κ) (kE κ) T'.vm T'.heap) (hH : Hp κ T'.vm T'.heap l') :
    Good κ (T'.setTop (mkF (mid κ y) pc' L'.toArray S')) y pc' L' S' F l' (k + cells) (n + slots) := by
  obtain ⟨g₀, hfr⟩ := X'.frames_eq
  have q4 := G.same' (pend_mono (s := base κ T y F) X'.warmed.wide) X'.same hlocs
  have hsz : T.heap.size ≤ T'.heap.size := X'.same.2.1
  refine ⟨State.frames_setTop _ hfr, ?_, ?_, fun h => ?_, ?_, ?_, hk, hn, G.2.2.2.2.2.2.2.2.1, by rw [hL]; exact G.2.2.2.2.2.2.2.2.2.1, by rw [hL]; exact G.2.2.2.2.2.2.2.2.2.2⟩
  · have hcur : (kZ κ).cur < (kZ κ).threads.size := by
      have q := State.cur_lt_of_frames G.1
      have e1 := G.threads
      have e2 := G.curEq
      rw [e1, e2] at q
      simpa [State.setFrames] using q
    rw [State.setTop_of_frames _ hfr]
    exact q4.setFrames hcur
  · show (kZ κ).Since T'.vm T'.heap.size
    exact G.since' X'.warmed hsz
  · show (kZ κ).WarmedH T'.vm
    exact G.strict' X'.warmed h
  · exact hC
  · exact hH
/-- a step that has only warmed the tables -/
theorem Good.warmed (C : Ok κ) (G : Good κ T y pc L S F l k n) {R' : Room} {meth : Method} {c : Code} {T' : State} {locs : List Loc} {cells slots : Nat} (X' : Stand (kp κ) (kl κ) (ke κ) R' (base κ T y F) (mid κ y) (ka κ) (F ++ kb κ) meth c T' locs cells slots) : CHr (kZ κ) (kE κ) T.vm T.heap T'.vm T.heap :=
  CHv.at (s := base κ T y F) (vm0 := T.vm) X' G.warm C.ew G.ch
theorem nolocs {κ : Cx} : ∀ x ∈ ([] : List Loc), (kZ κ).heap.size ≤ x.base := fun _ h => nomatch h
theorem one_loc {κ : Cx} {a : Addr} {i : Nat} (h : (kZ κ).heap.size ≤ a) : ∀ x ∈ ([] ++ [(⟨a, i⟩ : Loc)]), (kZ κ).heap.size ≤ x.base := fun x hx => by
  simp only [List.nil_append, List.mem_singleton] at hx
  subst hx; exact h
/-- the pure stretch -/
theorem wp_seg (C : Ok κ) (M : Meth κ y bytes mx rt) (is : List (Instr × Nat)) (hs : seg bytes is pc = true) (hr : runs is pc L S = some (pc', L', S')) (K : WP κ y pc' L' S' F l k n) : WP κ y pc L S F l k n := fun T G => by
  obtain ⟨meth, c, X, hb, -⟩ := G.stand C M (d := 0) (w := 0) G.room
  obtain ⟨q1, q2⟩ := runs_sound X.here C.exec is (by rw [hb]; exact hs) hr
  exact G.go (T' := T) (fun target h => q1.trans h) (K _ (G.next X nolocs G.cells G.slots q2 G.ch G.hp))
end N
end Jvm.WK
namespace Jvm.WK
open Sem ClassFile Op Lib Jvm.Stand Jvm.Free Jvm.LawKit Jvm.RoadKit
/-! ## 6. the rules -/
/-- j is the place i of an array -/
def Ix (j : Int32) (i : Nat) : Prop := ¬ j < 0 ∧ j.toNatClampNeg = i
section R
variable {κ : Cx} {y : MethodName} {pc pc' : Nat} {L L' : List Slot} {S S' : List Value} {F : List Frame} {l l' : List Chunk} {k n : Nat} {bytes : ByteArray} {mx : Nat} {rt : Option FieldType}
theorem wp_ift (C : Ok κ) (M : Meth κ y bytes mx rt) {cd : ClassFile.Cond} {x : Int32} {o : Int} (hd : decode bytes pc = .ok (.ifCond cd o, 3)) (hc : ifCond.holds cd x = true) (hp : 0 ≤ (pc : Int) + o ∧ ((pc : Int) + o).toNat = pc') (K : WP κ y pc' L S F l k n) : WP κ y pc L (.int x :: S) F l k n := fun T G => by
  obtain ⟨meth, c, X, hb, -⟩ := G.stand C M (d := 0) (w := 0) G.room
  subst hb
  exact G.go (T' := T) (fun target h => XS.ifYes X.here C.exec rfl (pc0 := pc) rfl hd rfl hc hp.1 hp.2 h) (K _ (G.next X nolocs G.cells G.slots rfl G.ch G.hp))
theorem wp_iff (C : Ok κ) (M : Meth κ y bytes mx rt) {cd : ClassFile.Cond} {x : Int32} {o : Int} (hd : decode bytes pc = .ok (.ifCond cd o, 3)) (hc : ifCond.holds cd x = false) (K : WP κ y (pc + 3) L S F l k n) : WP κ y pc L (.int x :: S) F l k n := fun T G => by
  obtain ⟨meth, c, X, hb, -⟩ := G.stand C M (d := 0) (w := 0) G.room
  subst hb
  exact G.go (T' := T) (fun target h => XS.ifNo X.here C.exec rfl hd rfl hc h) (K _ (G.next X nolocs G.cells G.slots rfl G.ch G.hp))
theorem wp_ict (C : Ok κ) (M : Meth κ y bytes mx rt) {cd : ClassFile.Cond} {x z : Int32} {o : Int} (hd : decode bytes pc = .ok (.if_icmp cd o, 3)) (hc : if_icmp.holds cd x z = true) (hp : 0 ≤ (pc : Int) + o ∧ ((pc : Int) + o).toNat = pc') (K : WP κ y pc' L S F l k n) : WP κ y pc L (.int z :: .int x :: S) F l k n := fun T G => by
  obtain ⟨meth, c, X, hb, -⟩ := G.stand C M (d := 0) (w := 0) G.room
  subst hb
  exact G.go (T' := T) (fun target h => XS.icmpYes X.here C.exec rfl (pc0 := pc) rfl hd rfl hc hp.1 hp.2 h) (K _ (G.next X nolocs G.cells G.slots rfl G.ch G.hp))
theorem wp_icf (C : Ok κ) (M : Meth κ y bytes mx rt) {cd : ClassFile.Cond} {x z : Int32} {o : Int} (hd : decode bytes pc = .ok (.if_icmp cd o, 3)) (hc : if_icmp.holds cd x z = false) (K : WP κ y (pc + 3) L S F l k n) : WP κ y pc L (.int z :: .int x :: S) F l k n := fun T G => by
  obtain ⟨meth, c, X, hb, -⟩ := G.stand C M (d := 0) (w := 0) G.room
  subst hb
  exact G.go (T' := T) (fun target h => XS.icmpNo X.here C.exec rfl hd rfl hc h) (K _ (G.next X nolocs G.cells G.slots rfl G.ch G.hp))
theorem wp_nullt (C : Ok κ) (M : Meth κ y bytes mx rt)  {o : Int} (hd : decode bytes pc = .ok (.ifnull o, 3))  (hp : 0 ≤ (pc : Int) + o ∧ ((pc : Int) + o).toNat = pc') (K : WP κ y pc' L S F l k n) : WP κ y pc L (.null :: S) F l k n := fun T G => by
  obtain ⟨meth, c, X, hb, -⟩ := G.stand C M (d := 0) (w := 0) G.room
  subst hb
  exact G.go (T' := T) (fun target h => XS.ifnullYes X.here C.exec rfl (pc0 := pc) rfl hd rfl hp.1 hp.2 h) (K _ (G.next X nolocs G.cells G.slots rfl G.ch G.hp))
theorem wp_nullf (C : Ok κ) (M : Meth κ y bytes mx rt) {b : Addr} {o : Int} (hd : decode bytes pc = .ok (.ifnull o, 3))  (K : WP κ y (pc + 3) L S F l k n) : WP κ y pc L (.ref b :: S) F l k n := fun T G => by
  obtain ⟨meth, c, X, hb, -⟩ := G.stand C M (d := 0) (w := 0) G.room
  subst hb
  exact G.go (T' := T) (fun target h => XS.ifnullNo X.here C.exec rfl hd rfl h) (K _ (G.next X nolocs G.cells G.slots rfl G.ch G.hp))
theorem wp_nonnullt (C : Ok κ) (M : Meth κ y bytes mx rt) {b : Addr} {o : Int} (hd : decode bytes pc = .ok (.ifnonnull o, 3))  (hp : 0 ≤ (pc : Int) + o ∧ ((pc : Int) + o).toNat = pc') (K : WP κ y pc' L S F l k n) : WP κ y pc L (.ref b :: S) F l k n := fun T G => by
  obtain ⟨meth, c, X, hb, -⟩ := G.stand C M (d := 0) (w := 0) G.room
  subst hb
  exact G.go (T' := T) (fun target h => XT.ifnonnullYes X.here C.exec rfl (pc0 := pc) rfl hd rfl hp.1 hp.2 h) (K _ (G.next X nolocs G.cells G.slots rfl G.ch G.hp))
theorem wp_nonnullf (C : Ok κ) (M : Meth κ y bytes mx rt)  {o : Int} (hd : decode bytes pc = .ok (.ifnonnull o, 3))  (K : WP κ y (pc + 3) L S F l k n) : WP κ y pc L (.null :: S) F l k n := fun T G => by
  obtain ⟨meth, c, X, hb, -⟩ := G.stand C M (d := 0) (w := 0) G.room
  subst hb
  exact G.go (T' := T) (fun target h => XT.ifnonnullNo X.here C.exec rfl hd rfl h) (K _ (G.next X nolocs G.cells G.slots rfl G.ch G.hp))
theorem wp_act (C : Ok κ) (M : Meth κ y bytes mx rt) {cd : ClassFile.ACond} {x z : Value} {o : Int} (hd : decode bytes pc = .ok (.if_acmp cd o, 3)) (h1 : x.isRef = true) (h2 : z.isRef = true) (hc : XT.acmp cd x z = true) (hp : 0 ≤ (pc : Int) + o ∧ ((pc : Int) + o).toNat = pc') (K : WP κ y pc' L S F l k n) : WP κ y pc L (z :: x :: S) F l k n := fun T G => by
  obtain ⟨meth, c, X, hb, -⟩ := G.stand C M (d := 0) (w := 0) G.room
  subst hb
  exact G.go (T' := T) (fun target h => XT.acmpYes X.here C.exec rfl (pc0 := pc) rfl hd rfl h1 h2 hc hp.1 hp.2 h) (K _ (G.next X nolocs G.cells G.slots rfl G.ch G.hp))
theorem wp_acf (C : Ok κ) (M : Meth κ y bytes mx rt) {cd : ClassFile.ACond} {x z : Value} {o : Int} (hd : decode bytes pc = .ok (.if_acmp cd o, 3)) (h1 : x.isRef = true) (h2 : z.isRef = true) (hc : XT.acmp cd x z = false) (K : WP κ y (pc + 3) L S F l k n) : WP κ y pc L (z :: x :: S) F l k n := fun T G => by
  obtain ⟨meth, c, X, hb, -⟩ := G.stand C M (d := 0) (w := 0) G.room
  subst hb
  exact G.go (T' := T) (fun target h => XT.acmpNo X.here C.exec rfl hd rfl h1 h2 hc h) (K _ (G.next X nolocs G.cells G.slots rfl G.ch G.hp))
theorem wp_tsw (C : Ok κ) (M : Meth κ y bytes mx rt) {dflt low high : Int} {offs : Array Int} {len : Nat} {i : Int32} {o : Int} (hd : decode bytes pc = .ok (.tableswitch dflt low high offs, len)) (hin : ¬ (i.toInt < low ∨ i.toInt > high)) (hoff : offs[(i.toInt - low).toNat]? = some o) (hp : 0 ≤ (pc : Int) + o ∧ ((pc : Int) + o).toNat = pc') (K : WP κ y pc' L S F l k n) : WP κ y pc L (.int i :: S) F l k n := fun T G => by
  obtain ⟨meth, c, X, hb, -⟩ := G.stand C M (d := 0) (w := 0) G.room
  subst hb
  exact G.go (T' := T) (fun target h => XS.tswIn X.here C.exec rfl (pc0 := pc) rfl hd rfl hin hoff hp.1 hp.2 h) (K _ (G.next X nolocs G.cells G.slots rfl G.ch G.hp))
theorem wp_tswd (C : Ok κ) (M : Meth κ y bytes mx rt) {dflt low high : Int} {offs : Array Int} {len : Nat} {i : Int32} (hd : decode bytes pc = .ok (.tableswitch dflt low high offs, len)) (hout : i.toInt < low ∨ i.toInt > high) (hp : 0 ≤ (pc : Int) + dflt ∧ ((pc : Int) + dflt).toNat = pc') (K : WP κ y pc' L S F l k n) : WP κ y pc L (.int i :: S) F l k n := fun T G => by
  obtain ⟨meth, c, X, hb, -⟩ := G.stand C M (d := 0) (w := 0) G.room
  subst hb
  exact G.go (T' := T) (fun target h => XS.tswOut X.here C.exec rfl (pc0 := pc) rfl hd rfl hout hp.1 hp.2 h) (K _ (G.next X nolocs G.cells G.slots rfl G.ch G.hp))
theorem wp_irem (C : Ok κ) (M : Meth κ y bytes mx rt) {x z : Int32} (hd : decode bytes pc = .ok (.irem, 1)) (hz : z ≠ 0) (K : WP κ y (pc + 1) L (.int (x % z) :: S) F l k n) : WP κ y pc L (.int z :: .int x :: S) F l k n := fun T G => by
  obtain ⟨meth, c, X, hb, -⟩ := G.stand C M (d := 0) (w := 0) G.room
  subst hb
  exact G.go (T' := T) (fun target h => iremM X C.exec rfl hd rfl hz h) (K _ (G.next X nolocs G.cells G.slots rfl G.ch G.hp))
theorem wp_lrem (C : Ok κ) (M : Meth κ y bytes mx rt) {x z : Int64} (hd : decode bytes pc = .ok (.lrem, 1)) (hz : z ≠ 0) (K : WP κ y (pc + 1) L (.long (x - (x / z) * z) :: S) F l k n) : WP κ y pc L (.long z :: .long x :: S) F l k n := fun T G => by
  obtain ⟨meth, c, X, hb, -⟩ := G.stand C M (d := 0) (w := 0) G.room
  subst hb
  exact G.go (T' := T) (fun target h => XT.lrem X.here C.exec rfl hd rfl hz h) (K _ (G.next X nolocs G.cells G.slots rfl G.ch G.hp))
theorem wp_pop2 (C : Ok κ) (M : Meth κ y bytes mx rt) {x : Int64} (hd : decode bytes pc = .ok (.pop2, 1)) (K : WP κ y (pc + 1) L S F l k n) : WP κ y pc L (.long x :: S) F l k n := fun T G => by
  obtain ⟨meth, c, X, hb, -⟩ := G.stand C M (d := 0) (w := 0) G.room
  subst hb
  refine G.go (T' := T) (fun target h => ?_) (K _ (G.next X nolocs G.cells G.slots rfl G.ch G.hp))
  have hA := X.here
  jvm_step hA [hA.top, C.exec, hd, Value.category]
  exact h
theorem wp_ldcI (C : Ok κ) (M : Meth κ y bytes mx rt) {ix : Nat} {v : Int32} (hd : decode bytes pc = .ok (.ldc ix, 2)) (w : Wd κ (.constant y.cls ix v)) (K : WP κ y (pc + 2) L (.int v :: S) F l k n) : WP κ y pc L S F l k n := fun T G => by
  obtain ⟨meth, c, X, hb, -⟩ := G.stand C M (d := 0) (w := 0) G.room
  subst hb
  exact G.go (T' := T) (fun target h => ldcI X C.exec (G.own M) (mv (s := base κ T y F) G.warm w) rfl hd h) (K _ (G.next X nolocs G.cells G.slots rfl G.ch G.hp))
theorem wp_ldcWI (C : Ok κ) (M : Meth κ y bytes mx rt) {ix : Nat} {v : Int32} (hd : decode bytes pc = .ok (.ldc_w ix, 3)) (w : Wd κ (.constant y.cls ix v)) (K : WP κ y (pc + 3) L (.int v :: S) F l k n) : WP κ y pc L S F l k n := fun T G => by
  obtain ⟨meth, c, X, hb, -⟩ := G.stand C M (d := 0) (w := 0) G.room
  subst hb
  exact G.go (T' := T) (fun target h => ldcWI X C.exec (G.own M) (mv (s := base κ T y F) G.warm w) rfl hd h) (K _ (G.next X nolocs G.cells G.slots rfl G.ch G.hp))
theorem wp_ldc2 (C : Ok κ) (M : Meth κ y bytes mx rt) {ix : Nat} {v : Int64} (hd : decode bytes pc = .ok (.ldc2_w ix, 3)) (w : Wd κ (.constantLong y.cls ix v)) (K : WP κ y (pc + 3) L (.long v :: S) F l k n) : WP κ y pc L S F l k n := fun T G => by
  obtain ⟨meth, c, X, hb, -⟩ := G.stand C M (d := 0) (w := 0) G.room
  subst hb
  exact G.go (T' := T) (fun target h => ldc2J X C.exec (G.own M) (mv (s := base κ T y F) G.warm w) rfl hd h) (K _ (G.next X nolocs G.cells G.slots rfl G.ch G.hp))
/-- the pool's name of the field leads to its declarer's -/
def ViaW (κ : Cx) (R0 O nm d : String) : Prop := R0 = O ∨ Wd κ (.sameField R0 O nm d)
theorem ViaW.via {R0 O nm d : String} (h : ViaW κ R0 O nm d) : Via (kZ κ) R0 O nm d := by
  rcases h with rfl | h
  · exact Via.refl
  · exact Via.of h
theorem wp_getfield (C : Ok κ) (M : Meth κ y bytes mx rt) {ix : Nat} (hd : decode bytes pc = .ok (.getfield ix, 3)) {R0 O nm d : String} (w : Wd κ (.fieldLink y.cls ix R0 nm d)) (via : ViaW κ R0 O nm d) {a : Addr} {mu : Bool} {Cl : String} {fs : List (String × String × String × Value)} (hm : (a, mu, .inl (Cl, fs)) ∈ l) {v : Value} (hf : (O, nm, d, v) ∈ fs)
    (K : WP κ y (pc + 3) L (v :: S) F l k n) : WP κ y pc L (.ref a :: S) F l k n := fun T G => by
  obtain ⟨meth, c, X, hb, -⟩ := G.stand C M (d := 0) (w := 0) G.room
  subst hb
  have H := G.hp.1 _ hm
  obtain ⟨T', X', e', st⟩ := getF X C.exec G.warm (G.own M) (host := "") (Or.inl w) via.via rfl (H.2.1 _ hf) (g := mkF (mid κ y) pc L.toArray (.ref a :: S)) rfl rfl hd
  have A := G.warmed C X'
  exact G.go st (K _ (G.next X' nolocs G.cells G.slots rfl (e' ▸ A.1) (e' ▸ G.hp.warm A)))
theorem wp_getstatic (C : Ok κ) (M : Meth κ y bytes mx rt) {ix : Nat} (hd : decode bytes pc = .ok (.getstatic ix, 3)) {R0 O nm d : String} (w : Wd κ (.fieldLink y.cls ix R0 nm d)) (via : ViaW κ R0 O nm d) {v : Value} (hs : Sta (kZ κ) (kZ κ).heap O nm d v)
    (K : WP κ y (pc + 3) L (v :: S) F l k n) : WP κ y pc L S F l k n := fun T G => by
  obtain ⟨meth, c, X, hb, -⟩ := G.stand C M (d := 0) (w := 0) G.room
  subst hb
  obtain ⟨T', X', e', st⟩ := getS X C.exec G.warm (G.own M) (host := "") w via.via rfl (hs.ext G.old) (g := mkF (mid κ y) pc L.toArray S) rfl hd
  have A := G.warmed C X'
  exact G.go st (K _ (G.next X' nolocs G.cells G.slots rfl (e' ▸ A.1) (e' ▸ G.hp.warm A)))
theorem Holds.put {h h' : Heap} {a : Addr} {mu : Bool} {Cl O nm d : String} {fs : List (String × String × String × Value)} {j : Nat} {old v : Value} (H : Holds κ h (a, mu, .inl (Cl, fs))) (hj : fs[j]? = some (O, nm, d, old)) (W : Wr h h' a (RoadKit.slotOf (kZ κ) O nm d) v) : Holds κ h' (a, mu, .inl (Cl, fs.set j (O, nm, d, v))) := by
  have hlt := (List.getElem?_eq_some_iff.mp hj).1
  have e : (fs.set j (O, nm, d, v)).map (fslot κ) = fs.map (fslot κ) := by
    apply List.ext_getElem?
    intro i
    simp only [List.getElem?_map]
    by_cases q : j = i
    · subst q; rw [List.getElem?_set_self hlt, hj]; rfl
    · rw [getElem?_set_ne' q]
  refine ⟨H.1.wr W, fun f hf => ?_, by rw [e]; exact H.2.2⟩
  obtain ⟨i, hi⟩ := List.mem_iff_getElem?.mp hf
  by_cases q : j = i
  · subst q
    rw [List.getElem?_set_self hlt] at hi
    cases hi
    exact (H.2.1 _ (List.mem_of_getElem? hj)).same W
  · rw [getElem?_set_ne' q] at hi
    refine (H.2.1 f (List.mem_of_getElem? hi)).other W (Or.inr fun es => ?_)
    have N := List.pairwise_iff_getElem.mp H.2.2
    have hil := (List.getElem?_eq_some_iff.mp hi)
    have hjl := (List.getElem?_eq_some_iff.mp hj)
    rcases Nat.lt_or_gt_of_ne q with r | r
    · have := N j i (by simpa using hlt) (by simpa using hil.1) r
      simp only [List.getElem_map, hil.2, hjl.2] at this
      exact this es.symm
    · have := N i j (by simpa using hil.1) (by simpa using hlt) r
      simp only [List.getElem_map, hil.2, hjl.2] at this
      exact this es
theorem wp_putfield (C : Ok κ) (M : Meth κ y bytes mx rt) {ix : Nat} (hd : decode bytes pc = .ok (.putfield ix, 3)) {R0 O nm d : String} (w : Wd κ (.fieldLink y.cls ix R0 nm d)) (via : ViaW κ R0 O nm d) {a : Addr} {Cl : String} {fs : List (String × String × String × Value)} {i j kk : Nat} {old v : Value} {ty : FieldType}
    (hi : l[i]? = some (a, true, .inl (Cl, fs))) (hj : fs[j]? = some (O, nm, d, old)) (hl : Wd κ (.lays Cl O nm d) ∨ (Wd κ (.laysFinal Cl O nm d) ∧ y.cls = O ∧ y.name = "<init>")) (wi : Wd κ (.instantiable Cl kk)) (hty : parseFieldDescriptor d = some ty) (hn : narrow ty v = v) (hf : fits ty v = true) (hl' : l.set i (a, true, .inl (Cl, fs.set j (O, nm, d, v))) = l')
    (K : WP κ y (pc + 3) L S F l' k n) : WP κ y pc L (v :: .ref a :: S) F l k n := fun T G => by
  obtain ⟨meth, c, X, hb, -⟩ := G.stand C M (d := 0) (w := 0) G.room
  subst hb
  have H := G.hp.1 _ (List.mem_of_getElem? hi)
  have hS := G.hp.2.2 _ (List.mem_of_getElem? hi) rfl
  obtain ⟨m1, c1, h1, h2, -⟩ := M.get
  have hname : meth.name = y.name := by
    have q : (kZ κ).vm.method? (mid κ y) = some meth := by
      have q := X.method'
      rw [G.alike.method?] at q; exact q
    exact (name_of_methodNamed h1 q).1
  obtain ⟨T', h', X', e', W, st⟩ := putF X C.exec G.warm (G.own M) (host := "") (Or.inl w) via.via rfl (H.2.1 _ (List.mem_of_getElem? hj)) H.1 (hl.imp id fun q => ⟨q.1, q.2.1, hname.trans q.2.2⟩) wi hty hn hf (g := mkF (mid κ y) pc L.toArray (v :: .ref a :: S)) rfl rfl hd
  have A := G.warmed C X'
  subst e'
  obtain ⟨q1, q2⟩ := (G.hp.warm A).wr A.1 hi W (H.put hj W)
  rw [hl'] at q1
  exact G.go st (K _ (G.next X' (one_loc hS.1) G.cells G.slots rfl q2 q1))
/-- what 'new' needs to know of a class -/
def Cls (κ : Cx) (Cl : String) (fs : List (String × String × String × Value)) : Prop :=
  (∀ f ∈ fs, Laid (kZ κ) (ka κ) Cl f.1 f.2.1 f.2.2.1 ∧ ∃ ty, parseFieldDescriptor f.2.2.1 = some ty ∧ f.2.2.2 = defaultValue ty) ∧ (fs.map (fslot κ)).Nodup
theorem wp_new (C : Ok κ) (M : Meth κ y bytes mx rt) {ix : Nat} (hd : decode bytes pc = .ok (.new ix, 3)) {Cl : String} {nn : Nat} (w1 : Wd κ (.classLink y.cls ix Cl)) (w2 : Wd κ (.instantiable Cl nn)) (w3 : Wd κ (.initialized Cl)) {fs : List (String × String × String × Value)} (hc : Cls κ Cl fs) (hk : k + 1 ≤ (kR κ).cells) (hn : n + nn ≤ (kR κ).slots)
    (K : ∀ a, WP κ y (pc + 3) L (.ref a :: S) F ((a, true, .inl (Cl, fs)) :: l) (k + 1) (n + nn)) : WP κ y pc L S F l k n := fun T G => by
  obtain ⟨meth, c, X, hb, -⟩ := G.stand C M (d := 0) (w := 0) G.room
  subst hb
  obtain ⟨T', h', X', e', E, A, D, -, st⟩ := newO X C.exec G.warm (G.own M) w1 w2 w3 rfl (g := mkF (mid κ y) pc L.toArray S) rfl hd (by show 0 + 1 ≤ (kR κ).cells - k; omega) (by show 0 + nn ≤ (kR κ).slots - n; omega)
  have B := G.warmed C X'
  have B2 : CHr (kZ κ) (kE κ) T.vm T.heap T'.vm h' := B.trans (CHr.ext E B.1)
  subst e'
  have hx : Holds κ T'.heap (T.heap.size, true, .inl (Cl, fs)) := ⟨A, fun f hf => by
    obtain ⟨hL, ty, ht, hv⟩ := hc.1 f hf
    rw [hv]; exact D hL ht, hc.2⟩
  have hS : Safe (kZ κ) (kE κ) T'.vm T'.heap T.heap.size := fun Bk => by
    have q := (B.1.step fun _ _ _ q => E.2 _ _ q).2 _ Bk
    obtain ⟨cell, hcell⟩ := q.there
    exact absurd (Array.getElem?_eq_some_iff.mp hcell).1 (Nat.lt_irrefl _)
  simp only [Nat.zero_add] at X'
  exact G.go st (K _ _ (G.next X' nolocs hk hn rfl B2.1 (Hp.new E B2 G.hp G.size hx hS)))
theorem wp_newarray (C : Ok κ) (M : Meth κ y bytes mx rt) {aty : ArrayType} (hd : decode bytes pc = .ok (.newarray aty, 2)) {ty : FieldType} (hty : newarray.typeOf aty = ty) (w : Wd κ (.arrayClass ty)) {z : Int32} {len : Nat} (hz : Ix z len) (hb : len * 8 ≤ 536870912) (hk : k + 1 ≤ (kR κ).cells) (hn : n + len ≤ (kR κ).slots) {vs : List Value} (hv : List.replicate len (defaultValue ty) = vs)
    (K : ∀ a, WP κ y (pc + 2) L (.ref a :: S) F ((a, true, .inr (ty, vs)) :: l) (k + 1) (n + len)) : WP κ y pc L (.int z :: S) F l k n := fun T G => by
  obtain ⟨meth, c, X, hbb, -⟩ := G.stand C M (d := 0) (w := 0) G.room
  subst hbb hty hv
  obtain ⟨T', h', cA, X', e', E, A, EB, st⟩ := newPE X C.exec G.warm w rfl (g := mkF (mid κ y) pc L.toArray (.int z :: S)) rfl hd rfl hz.1 (cap := len) (Nat.le_of_eq hz.2) hb (by show 0 + 1 ≤ (kR κ).cells - k; omega) (by show 0 + len ≤ (kR κ).slots - n; omega) rfl
  have B := G.warmed C X'
  have B2 : CHr (kZ κ) (kE κ) T.vm T.heap T'.vm h' := B.trans (CHr.ext E B.1)
  subst e'
  have hx : Holds κ T'.heap (T.heap.size, true, .inr (newarray.typeOf aty, List.replicate len (defaultValue (newarray.typeOf aty)))) := ⟨_, A, by simp [newA, hz.2], (fun C h => by cases aty <;> cases h), fun _ h => (by cases aty <;> first | cases h; done | exact EB)⟩
  have hS : Safe (kZ κ) (kE κ) T'.vm T'.heap T.heap.size := fun Bk => by
    have q := (B.1.step fun _ _ _ q => E.2 _ _ q).2 _ Bk
    obtain ⟨cell, hcell⟩ := q.there
    exact absurd (Array.getElem?_eq_some_iff.mp hcell).1 (Nat.lt_irrefl _)
  simp only [Nat.zero_add] at X'
  exact G.go st (K _ _ (G.next X' nolocs hk hn rfl B2.1 (Hp.new E B2 G.hp G.size hx hS)))
theorem wp_arraylength (C : Ok κ) (M : Meth κ y bytes mx rt) (hd : decode bytes pc = .ok (.arraylength, 1)) {a : Addr} {mu : Bool} {ty : FieldType} {vs : List Value} (hm : (a, mu, .inr (ty, vs)) ∈ l) {z : Int32} (hz : vs.length.toInt32 = z)
    (K : WP κ y (pc + 1) L (.int z :: S) F l k n) : WP κ y pc L (.ref a :: S) F l k n := fun T G => by
  obtain ⟨meth, c, X, hb, -⟩ := G.stand C M (d := 0) (w := 0) G.room
  subst hb
  obtain ⟨cl, A, ev, ov⟩ := G.hp.1 _ hm
  have e : cl.slots.size.toInt32 = z := by rw [← hz, ← ev]; simp
  refine G.go (T' := T) (fun target h => X.arraylength C.exec A.1 (State.isArrayOf_alike (T := base κ T y F) G.alike A.2.1) (g := mkF (mid κ y) pc L.toArray (.ref a :: S)) rfl rfl hd target ?_) (K _ (G.next X nolocs G.cells G.slots rfl G.ch G.hp))
  rw [e]; exact h
theorem ix_in {cl : Cell} {vs : List Value} {j : Int32} {i : Nat} {v : Value} (ev : cl.slots.toList = vs) (hj : Ix j i) (hv : vs[i]? = some v) : ¬ (j < 0 ∨ cl.slots.size ≤ j.toNatClampNeg) ∧ cl.slots[j.toNatClampNeg]? = some v := by
  subst ev
  have q : cl.slots[i]? = some v := by simpa using hv
  have q2 := (Array.getElem?_eq_some_iff.mp q).1
  rw [hj.2]
  refine ⟨fun r => ?_, q⟩
  rcases r with r | r
  · exact hj.1 r
  · omega
theorem wp_iaload (C : Ok κ) (M : Meth κ y bytes mx rt) (hd : decode bytes pc = .ok (.iaload, 1)) {a : Addr} {mu : Bool} {vs : List Value} (hm : (a, mu, .inr (.int, vs)) ∈ l) {j : Int32} {i : Nat} {v : Value} (hj : Ix j i) (hv : vs[i]? = some v)
    (K : WP κ y (pc + 1) L (v :: S) F l k n) : WP κ y pc L (.int j :: .ref a :: S) F l k n := fun T G => by
  obtain ⟨meth, c, X, hb, -⟩ := G.stand C M (d := 0) (w := 0) G.room
  subst hb
  obtain ⟨cl, A, ev, ov⟩ := G.hp.1 _ hm
  obtain ⟨q1, q2⟩ := ix_in ev hj hv
  exact G.go (T' := T) (fun target h => X.iaload C.exec A.1 (State.isArrayOf_alike (T := base κ T y F) G.alike A.2.1) A.2.2 q1 q2 (g := mkF (mid κ y) pc L.toArray (.int j :: .ref a :: S)) rfl rfl hd target h) (K _ (G.next X nolocs G.cells G.slots rfl G.ch G.hp))
theorem wp_laload (C : Ok κ) (M : Meth κ y bytes mx rt) (hd : decode bytes pc = .ok (.laload, 1)) {a : Addr} {mu : Bool} {vs : List Value} (hm : (a, mu, .inr (.long, vs)) ∈ l) {j : Int32} {i : Nat} {v : Value} (hj : Ix j i) (hv : vs[i]? = some v)
    (K : WP κ y (pc + 1) L (v :: S) F l k n) : WP κ y pc L (.int j :: .ref a :: S) F l k n := fun T G => by
  obtain ⟨meth, c, X, hb, -⟩ := G.stand C M (d := 0) (w := 0) G.room
  subst hb
  obtain ⟨cl, A, ev, ov⟩ := G.hp.1 _ hm
  obtain ⟨q1, q2⟩ := ix_in ev hj hv
  exact G.go (T' := T) (fun target h => X.laload C.exec A.1 (State.isArrayOf_alike (T := base κ T y F) G.alike A.2.1) A.2.2 q1 q2 (g := mkF (mid κ y) pc L.toArray (.int j :: .ref a :: S)) rfl rfl hd target h) (K _ (G.next X nolocs G.cells G.slots rfl G.ch G.hp))
theorem wp_caload (C : Ok κ) (M : Meth κ y bytes mx rt) (hd : decode bytes pc = .ok (.caload, 1)) {a : Addr} {mu : Bool} {vs : List Value} (hm : (a, mu, .inr (.char, vs)) ∈ l) {j : Int32} {i : Nat} {v : Value} (hj : Ix j i) (hv : vs[i]? = some v)
    (K : WP κ y (pc + 1) L (v :: S) F l k n) : WP κ y pc L (.int j :: .ref a :: S) F l k n := fun T G => by
  obtain ⟨meth, c, X, hb, -⟩ := G.stand C M (d := 0) (w := 0) G.room
  subst hb
  obtain ⟨cl, A, ev, ov⟩ := G.hp.1 _ hm
  obtain ⟨q1, q2⟩ := ix_in ev hj hv
  exact G.go (T' := T) (fun target h => X.caload C.exec A.1 (State.isArrayOf_alike (T := base κ T y F) G.alike A.2.1) A.2.2 q1 q2 (g := mkF (mid κ y) pc L.toArray (.int j :: .ref a :: S)) rfl rfl hd target h) (K _ (G.next X nolocs G.cells G.slots rfl G.ch G.hp))
theorem wp_baload (C : Ok κ) (M : Meth κ y bytes mx rt) (hd : decode bytes pc = .ok (.baload, 1)) {a : Addr} {mu : Bool} {vs : List Value} (hm : (a, mu, .inr (.byte, vs)) ∈ l) {j : Int32} {i : Nat} {v : Value} (hj : Ix j i) (hv : vs[i]? = some v)
    (K : WP κ y (pc + 1) L (v :: S) F l k n) : WP κ y pc L (.int j :: .ref a :: S) F l k n := fun T G => by
  obtain ⟨meth, c, X, hb, -⟩ := G.stand C M (d := 0) (w := 0) G.room
  subst hb
  obtain ⟨cl, A, ev, ov⟩ := G.hp.1 _ hm
  obtain ⟨q1, q2⟩ := ix_in ev hj hv
  exact G.go (T' := T) (fun target h => X.baloadBytes C.exec A.1 (State.isArrayOf_alike (T := base κ T y F) G.alike A.2.1) A.2.2 q1 q2 (g := mkF (mid κ y) pc L.toArray (.int j :: .ref a :: S)) rfl rfl hd target h) (K _ (G.next X nolocs G.cells G.slots rfl G.ch G.hp))
theorem wp_aaload (C : Ok κ) (M : Meth κ y bytes mx rt) (hd : decode bytes pc = .ok (.aaload, 1)) {a : Addr} {mu : Bool} {ty : FieldType} {vs : List Value} (hty : ty.isReference = true) (hm : (a, mu, .inr (ty, vs)) ∈ l) {j : Int32} {i : Nat} {v : Value} (hj : Ix j i) (hv : vs[i]? = some v)
    (K : WP κ y (pc + 1) L (v :: S) F l k n) : WP κ y pc L (.int j :: .ref a :: S) F l k n := fun T G => by
  obtain ⟨meth, c, X, hb, -⟩ := G.stand C M (d := 0) (w := 0) G.room
  subst hb
  obtain ⟨cl, A, ev, ov⟩ := G.hp.1 _ hm
  obtain ⟨q1, q2⟩ := ix_in ev hj hv
  exact G.go (T' := T) (fun target h => X.aaload C.exec A.1 (State.isArrayOf_alike (T := base κ T y F) G.alike A.2.1) hty A.2.2 q1 q2 (g := mkF (mid κ y) pc L.toArray (.int j :: .ref a :: S)) rfl rfl hd target h) (K _ (G.next X nolocs G.cells G.slots rfl G.ch G.hp))
theorem Holds.store {h h' : Heap} {a : Addr} {mu : Bool} {ty : FieldType} {vs : List Value} {i : Nat} {v : Value} (H : Holds κ h (a, mu, .inr (ty, vs))) (W : Wr h h' a i v) : Holds κ h' (a, mu, .inr (ty, vs.set i v)) := by
  obtain ⟨cl, A, ev, ov⟩ := H
  exact ⟨_, A.same W, by rw [← ev]; simp [Cell.setSlot], ov.1, fun a b => (ov.2 a b).wr W⟩
theorem wp_iastore (C : Ok κ) (M : Meth κ y bytes mx rt) (hd : decode bytes pc = .ok (.iastore, 1)) {a : Addr} {vs : List Value} {i j : Nat} {z : Int32} {x : Int32} {v' : Value} (hi : l[i]? = some (a, true, .inr (.int, vs))) (hj : Ix z j) (hv : j < vs.length) (hx : (.int x : Value) = v') (hl' : l.set i (a, true, .inr (.int, vs.set j v')) = l')
    (K : WP κ y (pc + 1) L S F l' k n) : WP κ y pc L (.int x :: .int z :: .ref a :: S) F l k n := fun T G => by
  obtain ⟨meth, c, X, hb, -⟩ := G.stand C M (d := 0) (w := 0) G.room
  subst hb hx
  have H := G.hp.1 _ (List.mem_of_getElem? hi)
  have hS := G.hp.2.2 _ (List.mem_of_getElem? hi) rfl
  obtain ⟨cl, A, ev, ov⟩ := H
  obtain ⟨q1, -⟩ := ix_in ev hj (List.getElem?_eq_getElem hv)
  obtain ⟨T', h', X', e', W, st⟩ := stI X C.exec (Z := kZ κ) G.warm rfl A (j := z) (x := x) q1 (g := mkF (mid κ y) pc L.toArray (.int x :: .int z :: .ref a :: S)) rfl rfl hd
  have B := G.warmed C X'
  subst e'
  rw [hj.2] at W
  obtain ⟨r1, r2⟩ := (G.hp.warm B).wr B.1 hi W (Holds.store ⟨cl, A, ev, ov⟩ W)
  have r1 : Hp κ T'.vm T'.heap l' := hl' ▸ r1
  exact G.go st (K _ (G.next X' (one_loc hS.1) G.cells G.slots rfl r2 r1))
theorem wp_lastore (C : Ok κ) (M : Meth κ y bytes mx rt) (hd : decode bytes pc = .ok (.lastore, 1)) {a : Addr} {vs : List Value} {i j : Nat} {z : Int32} {x : Int64} {v' : Value} (hi : l[i]? = some (a, true, .inr (.long, vs))) (hj : Ix z j) (hv : j < vs.length) (hx : (.long x : Value) = v') (hl' : l.set i (a, true, .inr (.long, vs.set j v')) = l')
    (K : WP κ y (pc + 1) L S F l' k n) : WP κ y pc L (.long x :: .int z :: .ref a :: S) F l k n := fun T G => by
  obtain ⟨meth, c, X, hb, -⟩ := G.stand C M (d := 0) (w := 0) G.room
  subst hb hx
  have H := G.hp.1 _ (List.mem_of_getElem? hi)
  have hS := G.hp.2.2 _ (List.mem_of_getElem? hi) rfl
  obtain ⟨cl, A, ev, ov⟩ := H
  obtain ⟨q1, -⟩ := ix_in ev hj (List.getElem?_eq_getElem hv)
  obtain ⟨T', h', X', e', W, st⟩ := stJ X C.exec (Z := kZ κ) G.warm rfl A (j := z) (x := x) q1 (g := mkF (mid κ y) pc L.toArray (.long x :: .int z :: .ref a :: S)) rfl rfl hd
  have B := G.warmed C X'
  subst e'
  rw [hj.2] at W
  obtain ⟨r1, r2⟩ := (G.hp.warm B).wr B.1 hi W (Holds.store ⟨cl, A, ev, ov⟩ W)
  have r1 : Hp κ T'.vm T'.heap l' := hl' ▸ r1
  exact G.go st (K _ (G.next X' (one_loc hS.1) G.cells G.slots rfl r2 r1))
theorem wp_castore (C : Ok κ) (M : Meth κ y bytes mx rt) (hd : decode bytes pc = .ok (.castore, 1)) {a : Addr} {vs : List Value} {i j : Nat} {z : Int32} {x : Int32} {v' : Value} (hi : l[i]? = some (a, true, .inr (.char, vs))) (hj : Ix z j) (hv : j < vs.length) (hx : (.int x.toUInt32.toUInt16.toUInt32.toInt32 : Value) = v') (hl' : l.set i (a, true, .inr (.char, vs.set j v')) = l')
    (K : WP κ y (pc + 1) L S F l' k n) : WP κ y pc L (.int x :: .int z :: .ref a :: S) F l k n := fun T G => by
  obtain ⟨meth, c, X, hb, -⟩ := G.stand C M (d := 0) (w := 0) G.room
  subst hb hx
  have H := G.hp.1 _ (List.mem_of_getElem? hi)
  have hS := G.hp.2.2 _ (List.mem_of_getElem? hi) rfl
  obtain ⟨cl, A, ev, ov⟩ := H
  obtain ⟨q1, -⟩ := ix_in ev hj (List.getElem?_eq_getElem hv)
  obtain ⟨T', h', X', e', W, st⟩ := stC X C.exec (Z := kZ κ) G.warm rfl A (j := z) (x := x) q1 (g := mkF (mid κ y) pc L.toArray (.int x :: .int z :: .ref a :: S)) rfl rfl hd
  have B := G.warmed C X'
  subst e'
  rw [hj.2] at W
  obtain ⟨r1, r2⟩ := (G.hp.warm B).wr B.1 hi W (Holds.store ⟨cl, A, ev, ov⟩ W)
  have r1 : Hp κ T'.vm T'.heap l' := hl' ▸ r1
  exact G.go st (K _ (G.next X' (one_loc hS.1) G.cells G.slots rfl r2 r1))
theorem wp_bastore (C : Ok κ) (M : Meth κ y bytes mx rt) (hd : decode bytes pc = .ok (.bastore, 1)) {a : Addr} {vs : List Value} {i j : Nat} {z : Int32} {x : Int32} {v' : Value} (hi : l[i]? = some (a, true, .inr (.byte, vs))) (hj : Ix z j) (hv : j < vs.length) (hx : (.int x.toInt8.toInt32 : Value) = v') (hl' : l.set i (a, true, .inr (.byte, vs.set j v')) = l')
    (K : WP κ y (pc + 1) L S F l' k n) : WP κ y pc L (.int x :: .int z :: .ref a :: S) F l k n := fun T G => by
  obtain ⟨meth, c, X, hb, -⟩ := G.stand C M (d := 0) (w := 0) G.room
  subst hb hx
  have H := G.hp.1 _ (List.mem_of_getElem? hi)
  have hS := G.hp.2.2 _ (List.mem_of_getElem? hi) rfl
  obtain ⟨cl, A, ev, ov⟩ := H
  obtain ⟨q1, -⟩ := ix_in ev hj (List.getElem?_eq_getElem hv)
  obtain ⟨T', h', X', e', W, st⟩ := stB X C.exec (Z := kZ κ) G.warm rfl A (j := z) (x := x) q1 (g := mkF (mid κ y) pc L.toArray (.int x :: .int z :: .ref a :: S)) rfl rfl hd
  have B := G.warmed C X'
  subst e'
  rw [hj.2] at W
  obtain ⟨r1, r2⟩ := (G.hp.warm B).wr B.1 hi W (Holds.store ⟨cl, A, ev, ov⟩ W)
  have r1 : Hp κ T'.vm T'.heap l' := hl' ▸ r1
  exact G.go st (K _ (G.next X' (one_loc hS.1) G.cells G.slots rfl r2 r1))
theorem perm_erase {α : Type} : ∀ {l : List α} {i : Nat} {x : α}, l[i]? = some x → l.Perm (x :: l.eraseIdx i)
  | [], i, x, h => by simp at h
  | a :: r, 0, x, h => by
    simp at h
    subst h
    exact List.Perm.refl _
  | a :: r, i + 1, x, h => ((perm_erase (l := r) (i := i) (by simpa using h)).cons a).trans (List.Perm.swap x a _)
/-- chunks turned round, dropped, shut -/
theorem wp_weaken (h : ∀ vm h, Hp κ vm h l → Hp κ vm h l') (K : WP κ y pc L S F l' k n) : WP κ y pc L S F l k n := fun T G => K T ⟨G.1, G.2.1, G.2.2.1, G.2.2.2.1, G.2.2.2.2.1, h _ _ G.hp, G.2.2.2.2.2.2⟩
theorem wp_front (i : Nat) {x : Chunk} {r : List Chunk} (hi : l[i]? = some x) (hr : l.eraseIdx i = r) (K : WP κ y pc L S F (x :: r) k n) : WP κ y pc L S F l k n := wp_weaken (fun vm h H => H.perm (by subst hr; exact perm_erase hi)) K
theorem wp_drop {x : Chunk} (K : WP κ y pc L S F l k n) : WP κ y pc L S F (x :: l) k n := wp_weaken (fun vm h H => H.drop) K
theorem wp_freeze {a : Addr} {mu : Bool} {c : String × List (String × String × String × Value) ⊕ FieldType × List Value} (K : WP κ y pc L S F ((a, false, c) :: l) k n) : WP κ y pc L S F ((a, mu, c) :: l) k n := wp_weaken (fun vm h H => H.freeze) K
theorem wp_room {k' n' : Nat} (hk : k ≤ k') (hn : n ≤ n') (hk' : k' ≤ (kR κ).cells) (hn' : n' ≤ (kR κ).slots) (K : WP κ y pc L S F l k' n') : WP κ y pc L S F l k n := fun T G => K T ⟨G.1, G.2.1.mono hk hn, G.2.2.1, G.2.2.2.1, G.2.2.2.2.1, G.2.2.2.2.2.1, hk', hn', G.2.2.2.2.2.2.2.2⟩
/-- two cells of the list that may be written are apart -/
theorem wp_ne {i j : Nat} {x z : Chunk} (hi : l[i]? = some x) (hj : l[j]? = some z) (hne : i ≠ j) (hm : x.2.1 = true ∨ z.2.1 = true) (K : x.1 ≠ z.1 → WP κ y pc L S F l k n) : WP κ y pc L S F l k n := fun T G => K (G.hp.apart hi hj hne hm) T G
end R
end Jvm.WK
namespace Jvm.WK
open Sem ClassFile Op Lib Jvm.Stand Jvm.Free Jvm.LawKit Jvm.RoadKit
/-! ## 7. calls and returns -/
/-- a frame of yc waits at pcc, its call so many bytes long -/
def Caller (κ : Cx) (yc : MethodName) (pcc len : Nat) : Prop := ∃ (bc : ByteArray) (mxc : Nat) (rc : Option FieldType) (ic : Instr), Meth κ yc bc mxc rc ∧ decode bc pcc = .ok (ic, len)
/-- how arguments are laid into a frame -/
def lay : List Value → Nat → List Slot
  | [], n => List.replicate n .unset
  | .long v :: vs, n => .val (.long v) :: .second :: lay vs (n - 2)
  | .double v :: vs, n => .val (.double v) :: .second :: lay vs (n - 2)
  | v :: vs, n => .val v :: lay vs (n - 1)
theorem lay_eq : ∀ (vs : List Value) (n : Nat), lay vs n = Jvm.Sym.laidSlots vs ++ List.replicate (n - (Jvm.Sym.laidSlots vs).length) .unset
  | [], n => rfl
  | v :: vs, n => by
    have h1 := lay_eq vs (n - 1)
    have h2 := lay_eq vs (n - 2)
    cases v <;> simp only [lay, Jvm.Sym.laidSlots, Value.category, h1, h2, if_true, List.cons_append, List.length_cons] <;> simp [Nat.sub_sub, Nat.add_comm] <;> omega
theorem args_lay {vs : List Value} {n : Nat} {L : List Slot} (h : lay vs n = L) : argsToLocals vs.toArray n = L.toArray := by
  apply Array.toList_inj.mp
  rw [Jvm.Sym.argsToLocals_toList, ← h, lay_eq]
section R
variable {κ : Cx} {T : State} {y : MethodName} {pc pc' : Nat} {L L' : List Slot} {S S' : List Value} {F : List Frame} {l l' : List Chunk} {k n : Nat} {bytes : ByteArray} {mx : Nat} {rt : Option FieldType}
theorem Meth.caller (M : Meth κ y bytes mx rt) {i : Instr} {len : Nat} (hd : decode bytes pc = .ok (i, len)) : Caller κ y pc len := ⟨bytes, mx, rt, i, M, hd⟩
theorem Good.goU (G : Good κ T y pc L S F l k n) {U : State} (st : Steps (kp κ).tables (ke κ) (F ++ kb κ) (T.setTop (mkF (mid κ y) pc L.toArray S)) U) (D : Done κ U) : Done κ T := by
  obtain ⟨t, h1, h2⟩ := D
  have e : T.setTop (mkF (mid κ y) pc L.toArray S) = T := State.setTop_self (State.topJava?_of_frames G.1)
  rw [e] at st
  exact ⟨t, (steps_weaken st).trans h1, h2⟩
theorem Good.zcur (G : Good κ T y pc L S F l k n) : (kZ κ).cur < (kZ κ).threads.size := by
  have q := State.cur_lt_of_frames G.1
  rw [G.threads, G.curEq] at q
  simpa [State.setFrames] using q
theorem Good.room2 (G : Good κ T y pc L S F l k n) {mx' : Nat} (hR : Rm κ (fr κ y pc L S' :: F) 1 (mx' + 11)) : Rm κ F (1 + 1) (L.length + 11 + (cats S' + (mx' + 11))) := by
  refine ⟨by have := hR.1; simp only [List.length_cons] at this; omega, ?_⟩
  have := hR.2
  rw [wt_cons, fr_weight] at this
  omega
/-- into the callee -/
theorem Good.enter (C : Ok κ) (G : Good κ T y pc L S F l k n) (M : Meth κ y bytes mx rt) {i : Instr} {il : Nat} (hd : decode bytes pc = .ok (i, il)) {y' : MethodName} {bytes' : ByteArray} {mx' : Nat} {rt' : Option FieldType} (M' : Meth κ y' bytes' mx' rt') {args : List Value}
    (hL : argsToLocals args.toArray mx' = L'.toArray) (hL' : L'.length = mx') (hR : Rm κ (fr κ y pc L S' :: F) 1 (mx' + 11)) {a b : Nat} {meth : Method} {c : Code} {vm₁ : Vm}
    (X₁ : Stand (kp κ) (kl κ) (ke κ) ⟨1, a, b, cats S' + (mx' + 11)⟩ (base κ T y F) (mid κ y) (ka κ) (F ++ kb κ) meth c (T.setVm vm₁) [] 0 0) (hml : c.maxLocals = L.length)
    (K : WP κ y' 0 L' [] (fr κ y pc L S' :: F) l k n) : Done κ (doInvoke (ke κ) ((T.setVm vm₁).setTop (mkF (mid κ y) pc L.toArray S')) [] (mid κ y') args.toArray).1 := by
  obtain ⟨meth', c', h1, h2, h3, h4, h5, h6, h7, -⟩ := M'.get
  have hal : (kZ κ).vm.Alike vm₁ := G.alike.trans (X₁.warmed.alike)
  have hm' : vm₁.method? (mid κ y') = some meth' := by rw [hal.method?]; exact h2
  have hfrT : (T.setVm vm₁).frames = .java (mkF (mid κ y) pc L.toArray S) :: (F ++ kb κ) := G.1
  have hfull := X₁.notFull (g := mkF (mid κ y) pc L.toArray S') (by show L.toArray.size = c.maxLocals; rw [hml]; simp) (vars := c'.maxLocals) (Nat.le_refl 1) (by
    show 2 * 0 + cats S' + (c'.maxLocals + 11) ≤ cats S' + (mx' + 11)
    rw [h5]; omega)
  have eU : (doInvoke (ke κ) ((T.setVm vm₁).setTop (mkF (mid κ y) pc L.toArray S')) [] (mid κ y') args.toArray).1 = (T.setVm vm₁).setFrames (fr κ y' 0 L' [] :: fr κ y pc L S' :: (F ++ kb κ)) := by
    rw [(doInvoke_java (s := (T.setVm vm₁).setTop (mkF (mid κ y) pc L.toArray S')) (e := ke κ) (acts := []) (args := args.toArray) (meth := meth') (code := c') hm' h3 h7 hfull).1]
    have e2 : ((T.setVm vm₁).setTop (mkF (mid κ y) pc L.toArray S')).frames = .java (mkF (mid κ y) pc L.toArray S') :: (F ++ kb κ) := State.frames_setTop _ hfrT
    unfold State.pushFrame
    rw [e2, State.setTop_of_frames _ hfrT, State.setFrames_setFrames, h5, hL]
    rfl
  rw [eU]
  have hcurT : (T.setVm vm₁).cur < (T.setVm vm₁).threads.size := State.cur_lt_of_frames hfrT
  have A := G.warmed C X₁
  have eL := G.len M
  refine K _ ⟨State.frames_setFrames _ hcurT, ?_, G.since' X₁.warmed (Nat.le_refl _), fun h => G.strict' X₁.warmed h, A.1, G.hp.warm A, G.cells, G.slots, fun f hf => ?_, by rw [hL']; exact hR, ⟨bytes', rt', by rw [hL']; exact M'⟩⟩
  · exact (G.2.1.vm (pend_mono (s := base κ T y F) X₁.warmed.wide)).setFrames G.zcur
  · rcases List.mem_cons.mp hf with rfl | hf
    · exact ⟨y, bytes, rt, pc, L, S', i, il, rfl, by rw [eL]; exact M, hd⟩
    · exact G.2.2.2.2.2.2.2.2.1 f hf
theorem wp_invokestatic (C : Ok κ) (M : Meth κ y bytes mx rt) {ix : Nat} (hd : decode bytes pc = .ok (.invokestatic ix, 3)) {y' : MethodName} {bytes' : ByteArray} {mx' : Nat} {rt' : Option FieldType} (M' : Meth κ y' bytes' mx' rt') (w1 : Wd κ (.methodLink y.cls ix y')) (w2 : Wd κ (.static y')) (w3 : Wd κ (.initialized y'.cls))
    (hy : y'.cls ≠ "java/lang/invoke/MethodHandle" ∧ y'.cls ≠ "java/lang/invoke/VarHandle") (args : List Value) (hlen : ∀ sig, parseMethodDescriptor y'.desc = some sig → args.length = sig.parameters.length) (hS : S = args.reverse ++ S') (hL : lay args mx' = L') (hL' : L'.length = mx') (hR : Rm κ (fr κ y pc L S' :: F) 1 (mx' + 11))
    (K : WP κ y' 0 L' [] (fr κ y pc L S' :: F) l k n) : WP κ y pc L S F l k n := fun T G => by
  obtain ⟨meth, c, X, hb, hml, -⟩ := G.stand C M (d := 1) (w := cats S' + (mx' + 11)) (G.room2 hR)
  subst hb
  obtain ⟨meth', c', h1, h2, h3, h4, h5, h6, h7, -, h8⟩ := M'.get
  have hn : (base κ T y F).methodNamed? y' = some (mid κ y') := by
    have q : ((kZ κ).setVm T.vm).methodNamed? y' = some (mid κ y') := by rw [State.methodNamed?_setVm G.alike]; exact h1
    exact q
  have hm : (base κ T y F).vm.method? (mid κ y') = some meth' := by show T.vm.method? _ = _; rw [G.alike.method?]; exact h2
  obtain ⟨kP, hkP, -⟩ := className_of_methodNamed hn
  have hinitP : kP.init = .initialized := Cond.initialized_spec (args := ka κ) (findClass_of_methodNamed hn) hkP (mv (s := base κ T y F) G.warm w3)
  have hst : meth'.isStatic = true := Cond.static_spec hn hm (mv (s := base κ T y F) (args := ka κ) G.warm w2)
  obtain ⟨vm₁, X₁, hstep⟩ := X.invokestatic C.exec (G.own M) (mv (s := base κ T y F) G.warm w1) hn hm hst hkP hinitP hy (g := mkF (mid κ y) pc L.toArray S) rfl (argsL := args) (rest := S') (hlen _ h8) hS hd
  exact G.goU (hstep _ fun acts => by rw [doInvoke_state]; exact Steps.refl _) (G.enter C M hd M' (args_lay hL) hL' hR X₁ hml K)
theorem wp_init (C : Ok κ) (M : Meth κ y bytes mx rt) {ix : Nat} (hd : decode bytes pc = .ok (.invokespecial ix, 3)) {y' : MethodName} {bytes' : ByteArray} {mx' : Nat} (M' : Meth κ y' bytes' mx' none) (hi : y'.name = "<init>") (w1 : Wd κ (.methodLink y.cls ix y')) (w2 : Wd κ (.instanceMethod y'))
    (hy : y'.cls ≠ "java/lang/invoke/MethodHandle" ∧ y'.cls ≠ "java/lang/invoke/VarHandle") (a : Addr) (args : List Value) (hlen : ∀ sig, parseMethodDescriptor y'.desc = some sig → args.length = sig.parameters.length) (hS : S = args.reverse ++ .ref a :: S') (hL : lay (.ref a :: args) mx' = L') (hL' : L'.length = mx') (hR : Rm κ (fr κ y pc L S' :: F) 1 (mx' + 11))
    (K : WP κ y' 0 L' [] (fr κ y pc L S' :: F) l k n) : WP κ y pc L S F l k n := fun T G => by
  obtain ⟨meth, c, X, hb, hml, -⟩ := G.stand C M (d := 1) (w := cats S' + (mx' + 11)) (G.room2 hR)
  subst hb
  obtain ⟨meth', c', h1, h2, h3, h4, h5, h6, h7, -, h8⟩ := M'.get
  have hpl : (ke κ).platform.magicAccessors = ({} : Platform).magicAccessors := by rw [X.admits.platform]
  obtain ⟨mk, methM, cM, kP, vm₁, hnamed, hmethM, -, -, -, -, hkP, -, hW₁, hstep⟩ := Steps.initColdArgs (e := ke κ) X.here C.exec X.warmed hpl (G.own M) hi hy (mv (s := base κ T y F) (args := ka κ) G.warm w1) (mv (s := base κ T y F) G.warm w2) (mv (s := base κ T y F) G.warm M'.2) (f := mkF (mid κ y) pc L.toArray S) rfl hlen hS hd
  have hn : (base κ T y F).methodNamed? y' = some (mid κ y') := by
    have q : ((kZ κ).setVm T.vm).methodNamed? y' = some (mid κ y') := by rw [State.methodNamed?_setVm G.alike]; exact h1
    exact q
  cases hnamed.symm.trans hn
  have X₁ := X.noted hW₁
  exact G.goU (hstep _ fun acts => by rw [doInvoke_state]; exact Steps.refl _) (G.enter C M hd M' (args_lay hL) hL' hR X₁ hml K)
theorem wp_initObject (C : Ok κ) (M : Meth κ y bytes mx rt) {ix : Nat} (hd : decode bytes pc = .ok (.invokespecial ix, 3)) (w1 : Wd κ (.methodLink y.cls ix Lib.objectInit)) (w2 : Wd κ (.instanceMethod Lib.objectInit)) (w3 : Wd κ (.code Lib.objectInit ⟨#[0xb1]⟩ 1 none)) {a : Addr} (hR : Rm κ (fr κ y pc L S :: F) 1 12)
    (K : WP κ y (pc + 3) L S F l k n) : WP κ y pc L (.ref a :: S) F l k n := fun T G => by
  obtain ⟨meth, c, X, hb, hml, -⟩ := G.stand C M (d := 1) (w := cats S + (1 + 11)) (G.room2 hR)
  subst hb
  obtain ⟨T', X', e', st⟩ := initO X C.exec G.warm (G.own M) w1 w2 w3 rfl (g := mkF (mid κ y) pc L.toArray (.ref a :: S)) rfl (by show L.toArray.size = c.maxLocals; rw [hml]; simp) rfl hd (Nat.le_refl 1) (W := cats S) (by show 2 * 0 + cats S ≤ _; omega) (Nat.le_refl _)
  have A := G.warmed C X'
  exact G.go st (K _ (G.next X' nolocs G.cells G.slots rfl (e' ▸ A.1) (e' ▸ G.hp.warm A)))
/-- the class of a receiver -/
theorem Good.recv (G : Good κ T y pc L S F l k n) {b : Addr} {mu : Bool} {Cl : String} {fs : List (String × String × String × Value)} (hm : (b, mu, .inl (Cl, fs)) ∈ l) : ∃ cB kB, (base κ T y F).vm.findClass Cl = some cB ∧ (base κ T y F).vm.classes[cB]? = some kB ∧ IsOf cB T b :=
  isOf (s := base κ T y F) (T := T) G.warm rfl (G.hp.1 _ hm).1
/-- the class that a call names is no interface -/
def NfW (κ : Cx) (y0 : MethodName) : Prop := (∃ D, Wd κ (.selects D y0 y0)) ∨ (∃ D, Wd κ (.superclass y0.cls D)) ∨ Wd κ (.noSuperclass y0.cls) ∨ ∃ y2 : MethodName, y2.cls = y0.cls ∧ Wd κ (.instanceMethod y2) ∧ ∃ D, Wd κ (.selects D y2 y2)
theorem NfW.at {y0 : MethodName} {s : State} (h : NfW κ y0) (hZ : (kZ κ).Warmed39 s.vm) : NotFace s y0 := by
  rcases h with ⟨D, h⟩ | ⟨D, h⟩ | h | ⟨y2, hc2, hi, D, h⟩
  · exact notFace_of_selects (args := ka κ) (mv hZ h)
  · exact nf_super (args := ka κ) (mv hZ h)
  · exact nf_top (args := ka κ) (mv hZ h)
  · intro r0 hn
    obtain ⟨m2, -, hn2, -⟩ := Cond.instanceMethod_spec (mv (s := s) (args := ka κ) hZ hi)
    obtain ⟨kr, hkr, hni⟩ := notFace_of_selects (args := ka κ) (mv hZ h) m2 hn2
    have e1 := findClass_of_methodNamed hn
    have e2 := findClass_of_methodNamed hn2
    rw [hc2] at e2
    have ec : m2.cls = r0.cls := Option.some.inj (e2.symm.trans e1)
    rw [ec] at hkr
    exact ⟨kr, hkr, hni⟩
theorem wp_invokevirtual (C : Ok κ) (M : Meth κ y bytes mx rt) {ix : Nat} (hd : decode bytes pc = .ok (.invokevirtual ix, 3)) {y0 y' : MethodName} {bytes' : ByteArray} {mx' : Nat} {rt' : Option FieldType} (M' : Meth κ y' bytes' mx' rt') {Cl : String} (w1 : Wd κ (.methodLink y.cls ix y0)) (w2 : Wd κ (.declares y0)) (w3 : Wd κ (.selects Cl y0 y')) (w4 : Wd κ (.instanceMethod y')) (nf : NfW κ y0)
    (hy : y0.cls ≠ "java/lang/invoke/MethodHandle" ∧ y0.cls ≠ "java/lang/invoke/VarHandle") {b : Addr} {mu : Bool} {fs : List (String × String × String × Value)} (hm : (b, mu, .inl (Cl, fs)) ∈ l) (args : List Value) (hlen : ∀ sig, parseMethodDescriptor y0.desc = some sig → args.length = sig.parameters.length) (hS : S = args.reverse ++ .ref b :: S') (hL : lay (.ref b :: args) mx' = L') (hL' : L'.length = mx') (hR : Rm κ (fr κ y pc L S' :: F) 1 (mx' + 11))
    (K : WP κ y' 0 L' [] (fr κ y pc L S' :: F) l k n) : WP κ y pc L S F l k n := fun T G => by
  obtain ⟨meth, c, X, hb, hml, -⟩ := G.stand C M (d := 1) (w := cats S' + (mx' + 11)) (G.room2 hR)
  subst hb
  obtain ⟨meth', c', h1, h2, -⟩ := M'.get
  obtain ⟨cB, kB, hcB, -, cellB, hcellT, hclsB, hstatB⟩ := G.recv hm
  have v1 := mv (s := base κ T y F) (args := ka κ) G.warm w1
  have v2 := mv (s := base κ T y F) (args := ka κ) G.warm w2
  have v3 := mv (s := base κ T y F) (args := ka κ) G.warm w3
  have v4 := mv (s := base κ T y F) (args := ka κ) G.warm w4
  obtain ⟨r0, r, hn, hrm, hstR, hsigR⟩ := Cond.declares_spec v2
  obtain ⟨mk, methM, hnamed, hmethM, -, habM⟩ := Cond.instanceMethod_spec v4
  obtain ⟨c2, r2, m2, q1, q2, q3, q4, kP, hkP, hkPi⟩ := Cond.selects_spec v3
  cases hcB.symm.trans q1
  cases (State.methodFound?_of_named hn hy).symm.trans q2
  cases hnamed.symm.trans q3
  have hselP : selectMethod (ke κ).platform (base κ T y F).vm cellB.cls r0 = .method mk := by rw [Launch.admits_selectMethod X.admits, hclsB]; exact q4
  obtain ⟨kr, hkr, hni⟩ := nf.at (s := base κ T y F) G.warm r0 hn
  obtain ⟨vm₁, X₁, hstep⟩ := X.invokevirtual C.exec (G.own M) v1 hn hrm hstR hkr hni hy (a := b) (cell := cellB) hcellT (fun z h => by rw [h] at hstatB; cases hstatB) hselP hmethM habM hkP hkPi (g := mkF (mid κ y) pc L.toArray S) rfl (argsL := args) (rest := S') (hlen _ hsigR) hS hd
  have hn' : (base κ T y F).methodNamed? y' = some (mid κ y') := by
    have q : ((kZ κ).setVm T.vm).methodNamed? y' = some (mid κ y') := by rw [State.methodNamed?_setVm G.alike]; exact h1
    exact q
  cases hnamed.symm.trans hn'
  exact G.goU (hstep _ fun acts => by rw [doInvoke_state]; exact Steps.refl _) (G.enter C M hd M' (args_lay hL) hL' hR X₁ hml K)
/-- back to the caller -/
theorem Good.back (C : Ok κ) {yc : MethodName} {pcc len : Nat} {Lc : List Slot} {Sc : List Value} (G : Good κ T y pc L S (fr κ yc pcc Lc Sc :: F) l k n) (Cr : Caller κ yc pcc len) (v : Option Value) (K : WP κ yc (pcc + len) Lc (v.toList ++ Sc) F l k n) :
    ∃ fs, handOver T v ((fr κ yc pcc Lc Sc :: F) ++ kb κ) = some fs ∧ Done κ (T.setFrames fs) := by
  obtain ⟨bc, mxc, rc, ic, Mc, hdc⟩ := Cr
  obtain ⟨mc, cc, -, n2, n3, n4, n5, -⟩ := Mc.get
  have hm : T.vm.method? (mid κ yc) = some mc := by rw [G.alike.method?]; exact n2
  have hcode : T.code? (mid κ yc) = some cc := by rw [State.code?_eq, hm]; simp [n3]
  have hcur := State.cur_lt_of_frames G.1
  have hrm := G.2.2.2.2.2.2.2.2.2.1
  obtain ⟨yq, bq, rq, pq, Lq, Sq, iq, lq, eq, Mq, hdq⟩ := G.2.2.2.2.2.2.2.2.1 (fr κ yc pcc Lc Sc) (by simp)
  have eL : Lq = Lc := by
    have q := eq
    simp only [fr, Frame.java.injEq, mkF, JFrame.mk.injEq, Array.mk.injEq] at q
    have q2 := q.2.2.1
    first | exact q2.symm | (simp at q2; exact q2.symm)
  have eM : mid κ yq = mid κ yc := by
    have q := eq
    simp only [fr, Frame.java.injEq, mkF, JFrame.mk.injEq] at q
    exact q.1.symm
  have hLen : Lc.length = mxc := by
    obtain ⟨m2, c2, -, g2, g3, -, g5, -⟩ := Mq.get
    rw [eM] at g2
    cases g2.symm.trans n2
    cases g3.symm.trans n3
    rw [← eL, ← g5, n5]
  refine ⟨fr κ yc (pcc + len) Lc (v.toList ++ Sc) :: (F ++ kb κ), ?_, ?_⟩
  · show ((T.code? (mid κ yc)).bind fun c => (decode c.code pcc).toOption).map _ = _
    rw [hcode]
    simp [n4, hdc, Except.toOption]
    rfl
  · refine K _ ⟨State.frames_setFrames _ hcur, G.2.1.setFrames G.zcur, G.2.2.1, G.2.2.2.1, G.2.2.2.2.1, G.hp, G.cells, G.slots, fun f hf => G.2.2.2.2.2.2.2.2.1 f (List.mem_cons_of_mem _ hf), ?_, ⟨bc, rc, by rw [hLen]; exact Mc⟩⟩
    refine ⟨by have := hrm.1; simp only [List.length_cons] at this; omega, ?_⟩
    have := hrm.2
    rw [wt_cons, fr_weight] at this
    omega
theorem wp_ret (C : Ok κ) (M : Meth κ y bytes mx rt) {i : Instr} (hd : decode bytes pc = .ok (i, 1)) {t : FieldType} (hrt : rt = some t) {v : Value} (hn : narrow t v = v)
    (hi : (i = .ireturn ∧ (t = .int ∨ t = .boolean ∨ t = .byte ∨ t = .char ∨ t = .short) ∧ ∃ z, v = .int z) ∨ (i = .lreturn ∧ t = .long ∧ ∃ z, v = .long z) ∨ (i = .dreturn ∧ t = .double ∧ ∃ z, v = .double z) ∨ (i = .freturn ∧ t = .float ∧ ∃ z, v = .float z) ∨ (i = .areturn ∧ t.isReference = true ∧ v.isRef = true))
    {yc : MethodName} {pcc len : Nat} {Lc : List Slot} {Sc : List Value} (Cr : Caller κ yc pcc len) (K : WP κ yc (pcc + len) Lc (v :: Sc) F l k n) : WP κ y pc L (v :: S) (fr κ yc pcc Lc Sc :: F) l k n := fun T G => by
  obtain ⟨meth, c, X, hb, hml, hr, hlk, -⟩ := G.stand C M (d := 0) (w := 0) G.room
  subst hb
  obtain ⟨fs, hfs, D⟩ := G.back C Cr (some v) K
  exact G.goU (retOut X C.exec (hr.trans hrt) hn hi hd fun f acts h1 h2 h3 => ret_to G.1 (by rw [h1]; exact X.method') hlk h2 h3 hfs acts) D
theorem wp_iret (C : Ok κ) (M : Meth κ y bytes mx rt) (hd : decode bytes pc = .ok (.ireturn, 1)) {t : FieldType} (hrt : rt = some t) {z : Int32} (ht : t = .int ∨ t = .boolean ∨ t = .byte ∨ t = .char ∨ t = .short) (hn : narrow t (.int z) = .int z)
    {yc : MethodName} {pcc len : Nat} {Lc : List Slot} {Sc : List Value} (Cr : Caller κ yc pcc len) (K : WP κ yc (pcc + len) Lc (.int z :: Sc) F l k n) : WP κ y pc L (.int z :: S) (fr κ yc pcc Lc Sc :: F) l k n := wp_ret C M hd hrt hn (Or.inl ⟨rfl, ht, z, rfl⟩) Cr K
theorem wp_lret (C : Ok κ) (M : Meth κ y bytes mx rt) (hd : decode bytes pc = .ok (.lreturn, 1)) (hrt : rt = some .long) {z : Int64}
    {yc : MethodName} {pcc len : Nat} {Lc : List Slot} {Sc : List Value} (Cr : Caller κ yc pcc len) (K : WP κ yc (pcc + len) Lc (.long z :: Sc) F l k n) : WP κ y pc L (.long z :: S) (fr κ yc pcc Lc Sc :: F) l k n := wp_ret C M hd hrt rfl (Or.inr (Or.inl ⟨rfl, rfl, z, rfl⟩)) Cr K
theorem wp_aret (C : Ok κ) (M : Meth κ y bytes mx rt) (hd : decode bytes pc = .ok (.areturn, 1)) {t : FieldType} (hrt : rt = some t) (ht : t.isReference = true) {v : Value} (hv : v.isRef = true) 
    {yc : MethodName} {pcc len : Nat} {Lc : List Slot} {Sc : List Value} (Cr : Caller κ yc pcc len) (K : WP κ yc (pcc + len) Lc (v :: Sc) F l k n) : WP κ y pc L (v :: S) (fr κ yc pcc Lc Sc :: F) l k n :=
  wp_ret C M hd hrt (by cases t <;> cases v <;> first | rfl | (cases ht; done) | (cases hv; done)) (Or.inr (Or.inr (Or.inr (Or.inr ⟨rfl, ht, hv⟩)))) Cr K
theorem wp_vret (C : Ok κ) (M : Meth κ y bytes mx none) (hd : decode bytes pc = .ok (.return_, 1))
    {yc : MethodName} {pcc len : Nat} {Lc : List Slot} {Sc : List Value} (Cr : Caller κ yc pcc len) (K : WP κ yc (pcc + len) Lc Sc F l k n) : WP κ y pc L [] (fr κ yc pcc Lc Sc :: F) l k n := fun T G => by
  obtain ⟨meth, c, X, hb, hml, hr, hlk, -⟩ := G.stand C M (d := 0) (w := 0) G.room
  subst hb
  obtain ⟨fs, hfs, D⟩ := G.back C Cr none K
  refine G.goU (U := T.setFrames fs) ?_ D
  have hl : ∀ (f : JFrame) (acts : List Action), f.method = mid κ y → f.locked = none → f.entered = [] → (doReturn (ke κ) (T.setTop f) acts none).1 = T.setFrames fs := fun f acts h1 h2 h3 => ret_to G.1 (by rw [h1]; exact X.method') hlk h2 h3 hfs acts
  exact X.returnOut C.exec hr hd hl
/-- the law's own return -/
theorem wp_end (C : Ok κ) (M : Meth κ y bytes mx (some .boolean)) (hd : decode bytes pc = .ok (.ireturn, 1)) : WP κ y pc L (.int 1 :: S) [] l k n := fun T G => by
  obtain ⟨meth, c, X, hb, hml, hr, hlk, -⟩ := G.stand C M (d := 0) (w := 0) G.room
  subst hb
  obtain ⟨fs, hrr, hrun, hended, hW, hsame⟩ := X.leave (v := some (.int 1)) (fun h => by rw [hr] at h; cases h) hlk
  refine G.goU (retOut X C.exec hr (by decide) (Or.inl ⟨rfl, Or.inr (Or.inl rfl), 1, rfl⟩) hd hrr) ⟨_, Steps.refl _, hrun, hended, G.2.2.1, G.2.2.2.1, ?_⟩
  exact (G.sb.setFrames fs G.zcur).mono G.cells G.slots
end R
end Jvm.WK
namespace Jvm.WK
open Sem ClassFile Op Lib Jvm.Stand Jvm.Free Jvm.LawKit Jvm.RoadKit
/-! ## 8. Strings' constants, casts, arrays of references, copies -/
/-- a byte as an array of bytes holds it -/
def byv (u : UInt8) : Value := .int u.toInt8.toInt32
abbrev strO (a b : Addr) (z : Int32) : Chunk := (a, false, .inl ("java/lang/String", [("java/lang/String", "value", "[B", .ref b), ("java/lang/String", "coder", "B", .int z)]))
abbrev strB (b : Addr) (u : List UInt8) : Chunk := (b, false, .inr (.byte, u.map byv))
theorem byv_fits (u : UInt8) : fits .byte (byv u) = true := by
  have h := fits_nar_byte u.toInt8.toInt32
  simpa [byv] using h
/-- the words of a String that a constant makes -/
def StrW (κ : Cx) : Prop := ∀ a ∈ Bundle.stringAtoms, Wd κ a
theorem StrW.nodup {κ : Cx} (w : StrW κ) (v c : Value) : (([("java/lang/String", "value", "[B", v), ("java/lang/String", "coder", "B", c)] : List (String × String × String × Value)).map (fslot κ)).Nodup := by
  have h1 : Wd κ (.laysFinal "java/lang/String" "java/lang/String" "value" "[B") := w _ (by simp [Bundle.stringAtoms, Bundle.sN])
  have h2 : Wd κ (.laysFinal "java/lang/String" "java/lang/String" "coder" "B") := w _ (by simp [Bundle.stringAtoms, Bundle.sN])
  have q := slot_ne (Or.inr h1) (Or.inr h2) (by decide) (t := .array .byte) (t' := .byte) (by decide) (by decide)
  simpa [fslot] using q
section R
variable {κ : Cx} {T : State} {y : MethodName} {pc pc' : Nat} {L L' : List Slot} {S S' : List Value} {F : List Frame} {l l' : List Chunk} {k n : Nat} {bytes : ByteArray} {mx : Nat} {rt : Option FieldType}
/-- behind an 'ldc' that may have interned: what is used -/
theorem Good.litU (G : Good κ T y pc L S F l k n) {R' : Room} {meth : Method} {c : Code} {T' : State} {cells slots k' n' : Nat} (X' : Stand (kp κ) (kl κ) (ke κ) R' ((base κ T y F).setVm T'.vm) (mid κ y) (ka κ) (F ++ kb κ) meth c T' [] cells slots)
    (hk : ∀ k0, k0 + 2 * pend κ T.vm ≤ k → k0 + cells + 2 * pend κ T'.vm ≤ k') (hn : ∀ n0, n0 + 100 * pend κ T.vm ≤ n → n0 + slots + 100 * pend κ T'.vm ≤ n') : Used κ T' k' n' := by
  obtain ⟨k0, n0, g, g1, g2⟩ := G.2.1
  have q0 := X'.same.setVm (kZ κ).vm
  have q1 : (T.setVm (kZ κ).vm).sameButNew (T'.setVm (kZ κ).vm) [] cells slots := State.sameButNew.of_setFrames (F := .invoking (mid κ y) (ka κ) :: (F ++ kb κ)) q0
  exact ⟨_, _, g.trans q1, hk _ g1, hn _ g2⟩
/-- behind an 'ldc' that may have interned -/
theorem Good.lit (G : Good κ T y pc L S F l k n) (hst : kS κ = false) {R' : Room} {meth : Method} {c : Code} {T' : State} {cells slots k1 k' n' : Nat} (X' : Stand (kp κ) (kl κ) (ke κ) R' ((base κ T y F).setVm T'.vm) (mid κ y) (ka κ) (F ++ kb κ) meth c T' [] cells slots)
    (hS : (base κ T y F).Since T'.vm k1) (hk1 : k1 ≤ T'.heap.size) (hU : Used κ T' k' n') (hk : k' ≤ (kR κ).cells) (hn : n' ≤ (kR κ).slots) (hC : CHv (kZ κ) (kE κ) T'.vm T'.heap) (hH : Hp κ T'.vm T'.heap l') : Good κ (T'.setTop (mkF (mid κ y) pc' L.toArray S')) y pc' L S' F l' k' n' := by
  obtain ⟨g₀, hfr⟩ := X'.frames_eq
  have hsz : T.heap.size ≤ T'.heap.size := X'.same.2.1
  refine ⟨State.frames_setTop _ hfr, ?_, ?_, fun h => ?_, hC, hH, hk, hn, G.2.2.2.2.2.2.2.2.1, G.2.2.2.2.2.2.2.2.2.1, G.2.2.2.2.2.2.2.2.2.2⟩
  · rw [State.setTop_of_frames _ hfr]
    exact hU.setFrames G.zcur
  · show (kZ κ).Since T'.vm T'.heap.size
    refine G.2.2.1.trans (n₂ := T'.heap.size) ⟨State.Warmed39.of_rootvm (s := base κ T y F) rfl hS.1, fun j p hj hp => ?_⟩ hsz
    have q := hS.2 j p hj hp
    exact ⟨Nat.le_trans G.size q.1, Nat.lt_of_lt_of_le q.2 hk1⟩
  · rw [hst] at h; cases h
theorem arv_list {h : Heap} {a : Addr} {cA : ClassId} {ty : FieldType} {z : Int32} {vs : List Value} {d : Value} {Z : State} (A : Arv Z h a cA ty z vs d) (hl : z.toNatClampNeg = vs.length) : ∃ c : Cell, Arr Z h a c ty ∧ c.slots.toList = vs := by
  obtain ⟨c, A, -, h2, -, H, -⟩ := A
  refine ⟨c, A, List.ext_getElem? fun i => ?_⟩
  have e : c.slots.size = vs.length := h2.trans hl
  by_cases q : i < c.slots.size
  · have r := H i q
    rw [← Array.getElem?_toList] at r
    rw [r, List.getD_eq_getElem?_getD, List.getElem?_eq_getElem (by omega)]
    rfl
  · rw [List.getElem?_eq_none (by simpa using q), List.getElem?_eq_none (by omega)]
/-- a String constant whose text is known -/
theorem wp_ldcS (C : Ok κ) (hst : kS κ = false) (wS : StrW κ) (M : Meth κ y bytes mx rt) {ix : Nat} (hd : decode bytes pc = .ok (.ldc ix, 2)) {text : String} (w : Wd κ (.stringLink y.cls ix text)) (hmem : (y.cls, ix) ∈ kE κ) (u : List UInt8) (ht : (∀ c ∈ text.toList, c.toNat < 256) ∧ text.toList.map (fun c => Value.int (Jvm.Lit.byteI c.toNat.toUInt16)) = u.map byv) {m : Nat} (hm : 4 * text.toList.length ≤ m)
    (hb : m ≤ 536870912) (hk : k + 2 ≤ (kR κ).cells) (hn : n + (m + 4) ≤ (kR κ).slots) (K : ∀ a b, WP κ y (pc + 2) L (.ref a :: S) F (strO a b 0 :: strB b u :: l) (k + 2) (n + (m + 4))) : WP κ y pc L S F l k n := fun T G => by
  obtain ⟨meth, c, X, hbb, -⟩ := G.stand C M (d := 0) (w := 0) G.room
  subst hbb
  have hlen : (Int32.ofNat u.length).toNatClampNeg = (u.map byv).length ∧ ¬ Int32.ofNat u.length < 0 := by
    have e : u.length = text.toList.length := by
      have q := congrArg List.length ht.2
      simpa using q.symm
    have q := idx_in (i := u.length) (n := u.length + 1) (by omega) (by omega)
    have q2 : (Nat.toInt32 u.length).toInt = u.length := len_toInt (by omega)
    refine ⟨?_, fun r => q (Or.inl r)⟩
    show (Nat.toInt32 u.length).toInt.toNat = _
    rw [q2]; simp
  obtain ⟨a, T', h', k1, b, kk, X', e', E, hS, hk1, -, -, A1, A2, A3, A4, -, -, hC, -, hsafe, st⟩ := ldcCH (s := base κ T y F) (vm0 := T.vm) (EL := kE κ) X C.exec G.warm (G.own M) w wS rfl (State.WarmedH.since (State.WarmedH.refl (base κ T y F)) T.heap.size) (Nat.le_refl _) C.ew hmem G.ch ht hlen.2 hlen.1 (g := mkF (mid κ y) pc L.toArray S) rfl hd hm hb (by show 0 + 2 ≤ (kR κ).cells - k; omega) (by show 0 + (m + 4) ≤ (kR κ).slots - n; omega)
  subst e'
  obtain ⟨cb, Ab, eb⟩ := arv_list A4 hlen.1
  have H0 := G.hp.ext E hC
  have H1 : Hp κ T'.vm T'.heap (strB b u :: l) := H0.add ⟨cb, Ab, eb, (fun C h => by cases h), fun h => by cases h⟩ (fun z hz hm => by
    rcases hm with hm | hm
    · cases hm
    · exact Ne.symm (hsafe _ (H0.2.2 z hz hm).2).2) (fun q => by cases q)
  have H2 : Hp κ T'.vm T'.heap (strO a b 0 :: strB b u :: l) := H1.add ⟨A1, fun f hf => by
      simp only [List.mem_cons, List.not_mem_nil, or_false] at hf
      rcases hf with rfl | rfl
      · exact A3
      · exact A2, wS.nodup _ _⟩ (fun z hz hm => by
    rcases hm with hm | hm
    · cases hm
    · rcases List.mem_cons.mp hz with rfl | hz
      · cases hm
      · exact Ne.symm (hsafe _ (H0.2.2 z hz hm).2).1) (fun q => by cases q)
  simp only [Nat.zero_add] at X'
  exact G.go st (K a b _ (G.lit hst X' hS hk1 (G.litU X' (fun k0 h => by have := pend_mono (κ := κ) (s := base κ T y F) hS.1; have e : pend κ (base κ T y F).vm = pend κ T.vm := rfl; omega) (fun n0 h => by have := pend_mono (κ := κ) (s := base κ T y F) hS.1; have e : pend κ (base κ T y F).vm = pend κ T.vm := rfl; omega)) hk hn hC.1 H2))
/-- a String constant of which nothing need be known -/
theorem wp_ldcO (C : Ok κ) (hst : kS κ = false) (wS : StrW κ) (M : Meth κ y bytes mx rt) {ix : Nat} (hd : decode bytes pc = .ok (.ldc ix, 2)) {text : String} (w : Wd κ (.stringLink y.cls ix text)) {m : Nat} (hm : 4 * text.toList.length ≤ m)
    (hb : m ≤ 536870912) (hk : k + 2 ≤ (kR κ).cells) (hn : n + (m + 4) ≤ (kR κ).slots) (K : ∀ a, WP κ y (pc + 2) L (.ref a :: S) F l (k + 2) (n + (m + 4))) : WP κ y pc L S F l k n := fun T G => by
  obtain ⟨meth, c, X, hbb, -⟩ := G.stand C M (d := 0) (w := 0) G.room
  subst hbb
  obtain ⟨a, T', h', k1, X', e', E, hS, hk1, -, -, hC, -, st⟩ := ldcOH (s := base κ T y F) (vm0 := T.vm) (EL := kE κ) X C.exec G.warm (G.own M) w wS rfl (State.WarmedH.since (State.WarmedH.refl (base κ T y F)) T.heap.size) (Nat.le_refl _) C.ew G.ch (g := mkF (mid κ y) pc L.toArray S) rfl hd hm hb (by show 0 + 2 ≤ (kR κ).cells - k; omega) (by show 0 + (m + 4) ≤ (kR κ).slots - n; omega)
  subst e'
  simp only [Nat.zero_add] at X'
  exact G.go st (K a _ (G.lit hst X' hS hk1 (G.litU X' (fun k0 h => by have := pend_mono (κ := κ) (s := base κ T y F) hS.1; have e : pend κ (base κ T y F).vm = pend κ T.vm := rfl; omega) (fun n0 h => by have := pend_mono (κ := κ) (s := base κ T y F) hS.1; have e : pend κ (base κ T y F).vm = pend κ T.vm := rfl; omega)) hk hn hC.1 (G.hp.ext E hC)))
theorem Hp.ins {vm : Vm} {h : Heap} (H : Hp κ vm h l) {a : Addr} {mu : Bool} {Cl K : String} {fs : List (String × String × String × Value)} (hm : (a, mu, .inl (Cl, fs)) ∈ l) (wc : Cl = K ∨ Wd κ (.castable Cl K)) : Ins (kZ κ) h a K true := by
  have E := (H.1 _ hm).1
  rcases wc with rfl | wc
  · exact Ins.self E
  · exact Ins.of_exa E wc
theorem wp_checkcast (C : Ok κ) (M : Meth κ y bytes mx rt) {ix : Nat} (hd : decode bytes pc = .ok (.checkcast ix, 3)) {a : Addr} {mu : Bool} {Cl Kl : String} {fs : List (String × String × String × Value)} (w : Wd κ (.classLink y.cls ix Kl)) (hm : (a, mu, .inl (Cl, fs)) ∈ l) (wc : Cl = Kl ∨ Wd κ (.castable Cl Kl))
    (K : WP κ y (pc + 3) L (.ref a :: S) F l k n) : WP κ y pc L (.ref a :: S) F l k n := fun T G => by
  obtain ⟨meth, c, X, hb, -⟩ := G.stand C M (d := 0) (w := 0) G.room
  subst hb
  obtain ⟨T', X', e', st⟩ := castY X C.exec G.warm (G.own M) w rfl (G.hp.ins hm wc) (g := mkF (mid κ y) pc L.toArray (.ref a :: S)) rfl rfl hd
  have A := G.warmed C X'
  exact G.go st (K _ (G.next X' nolocs G.cells G.slots rfl (e' ▸ A.1) (e' ▸ G.hp.warm A)))
theorem wp_instanceof (C : Ok κ) (M : Meth κ y bytes mx rt) {ix : Nat} (hd : decode bytes pc = .ok (.instanceof ix, 3)) {a : Addr} {mu : Bool} {Cl Kl : String} {fs : List (String × String × String × Value)} (w : Wd κ (.classLink y.cls ix Kl)) (hm : (a, mu, .inl (Cl, fs)) ∈ l) (wc : Cl = Kl ∨ Wd κ (.castable Cl Kl))
    (K : WP κ y (pc + 3) L (.int 1 :: S) F l k n) : WP κ y pc L (.ref a :: S) F l k n := fun T G => by
  obtain ⟨meth, c, X, hb, -⟩ := G.stand C M (d := 0) (w := 0) G.room
  subst hb
  obtain ⟨T', X', e', st⟩ := instY X C.exec G.warm (G.own M) w rfl (G.hp.ins hm wc) (g := mkF (mid κ y) pc L.toArray (.ref a :: S)) rfl rfl hd
  have A := G.warmed C X'
  exact G.go st (K _ (G.next X' nolocs G.cells G.slots rfl (e' ▸ A.1) (e' ▸ G.hp.warm A)))
theorem wp_anewarray (C : Ok κ) (M : Meth κ y bytes mx rt) {ix : Nat} (hd : decode bytes pc = .ok (.anewarray ix, 3)) {Cl : String} (w1 : Wd κ (.classLink y.cls ix Cl)) (w2 : Wd κ (.arrayOver (.object Cl))) {z : Int32} {len : Nat} (hz : Ix z len) (hb : len * 8 ≤ 536870912) (hk : k + 1 ≤ (kR κ).cells) (hn : n + len ≤ (kR κ).slots) {vs : List Value} (hv : List.replicate len .null = vs)
    (K : ∀ a, WP κ y (pc + 3) L (.ref a :: S) F ((a, true, .inr (.object Cl, vs)) :: l) (k + 1) (n + len)) : WP κ y pc L (.int z :: S) F l k n := fun T G => by
  obtain ⟨meth, c, X, hbb, -⟩ := G.stand C M (d := 0) (w := 0) G.room
  subst hbb hv
  obtain ⟨T', h', cA, X', e', E, A, O, st⟩ := newR X C.exec G.warm (G.own M) w1 w2 rfl (g := mkF (mid κ y) pc L.toArray (.int z :: S)) rfl hd rfl hz.1 (cap := len) (Nat.le_of_eq hz.2) hb (by show 0 + 1 ≤ (kR κ).cells - k; omega) (by show 0 + len ≤ (kR κ).slots - n; omega)
  have B := G.warmed C X'
  have B2 : CHr (kZ κ) (kE κ) T.vm T.heap T'.vm h' := B.trans (CHr.ext E B.1)
  subst e'
  have hx : Holds κ T'.heap (T.heap.size, true, .inr (.object Cl, List.replicate len .null)) := ⟨_, A, by simp [newA, hz.2, defaultValue], (fun D h => by cases h; exact O), fun _ h => by cases h⟩
  have hS : Safe (kZ κ) (kE κ) T'.vm T'.heap T.heap.size := fun Bk => by
    have q := (B.1.step fun _ _ _ q => E.2 _ _ q).2 _ Bk
    obtain ⟨cell, hcell⟩ := q.there
    exact absurd (Array.getElem?_eq_some_iff.mp hcell).1 (Nat.lt_irrefl _)
  simp only [Nat.zero_add] at X'
  exact G.go st (K _ _ (G.next X' nolocs hk hn rfl B2.1 (Hp.new E B2 G.hp G.size hx hS)))
theorem wp_aastore (C : Ok κ) (M : Meth κ y bytes mx rt) (hd : decode bytes pc = .ok (.aastore, 1)) {a b : Addr} {Cl D : String} {mu : Bool} {fs : List (String × String × String × Value)} {vs : List Value} {i j : Nat} {z : Int32} (hi : l[i]? = some (a, true, .inr (.object Cl, vs))) (hj : Ix z j) (hv : j < vs.length) (hm : (b, mu, .inl (D, fs)) ∈ l) (wc : D = Cl ∨ Wd κ (.castable D Cl)) (hl' : l.set i (a, true, .inr (.object Cl, vs.set j (.ref b))) = l')
    (K : WP κ y (pc + 1) L S F l' k n) : WP κ y pc L (.ref b :: .int z :: .ref a :: S) F l k n := fun T G => by
  obtain ⟨meth, c, X, hb, -⟩ := G.stand C M (d := 0) (w := 0) G.room
  subst hb
  have H := G.hp.1 _ (List.mem_of_getElem? hi)
  have hS := G.hp.2.2 _ (List.mem_of_getElem? hi) rfl
  obtain ⟨cl, A, ev, ov⟩ := H
  obtain ⟨q1, -⟩ := ix_in ev hj (List.getElem?_eq_getElem hv)
  obtain ⟨T', h', X', e', W, st⟩ := stR X C.exec (Z := kZ κ) G.warm rfl A (j := z) (v := .ref b) q1 rfl (Sto.of A (ov.1 Cl rfl) (G.hp.ins hm wc)) (g := mkF (mid κ y) pc L.toArray (.ref b :: .int z :: .ref a :: S)) rfl rfl hd
  have B := G.warmed C X'
  subst e'
  rw [hj.2] at W
  obtain ⟨r1, r2⟩ := (G.hp.warm B).wr B.1 hi W (Holds.store ⟨cl, A, ev, ov⟩ W)
  have r1 : Hp κ T'.vm T'.heap l' := hl' ▸ r1
  exact G.go st (K _ (G.next X' (one_loc hS.1) G.cells G.slots rfl r2 r1))
end R
end Jvm.WK
namespace Jvm.WK
open Sem ClassFile Op Lib Jvm.Stand Jvm.Free Jvm.LawKit Jvm.RoadKit Jvm.Free.SB Jvm.Free.SBG
/-- a booked constant's String, as chunks -/
theorem sl_chunks {κ : Cx} {vm : Vm} {h : Heap} {q : SQ} {units : Array UInt16} (wS : StrW κ) (hal : (kZ κ).vm.Alike vm) (F : SlB (Wst (kZ κ) vm h) q units) (hlat : units.all (· < 256) = true) {u : List UInt8} (hu : units.toList.map (fun x => Value.int (Jvm.Lit.byteI x)) = u.map byv) :
    Holds κ h (strO q.sa q.sd 0) ∧ Holds κ h (strB q.sd u) := by
  obtain ⟨cS, ⟨⟨s1, s2, s3, ⟨cv, kv, iv, s4, s4'⟩, ⟨cc, kc, ic, s5, s5'⟩, s6, s7, s8, s9, s10, s11, s12, -⟩, hfS, hcS⟩, ⟨kS, k1, -, k3⟩, -, hbyt⟩ := F
  have fS : vm.findClass "java/lang/String" = some cS := hfS
  have kS1 : vm.classes[cS]? = some kS := k1
  obtain ⟨kv', z4⟩ := ff_back (U := Wst (kZ κ) vm h) hal s4
  obtain ⟨kc', z5⟩ := ff_back (U := Wst (kZ κ) vm h) hal s5
  have fZ : (kZ κ).vm.findClass "java/lang/String" = some q.sC.cls := by rw [← hal.findClass, hcS]; exact fS
  obtain ⟨kz, hkz, -⟩ := Vm.findClass_spec fZ
  obtain ⟨kz', hkz', ez⟩ := hal.2.2 _ _ hkz
  have eS : kz' = kS := Option.some.inj (hkz'.symm.trans (hcS ▸ kS1))
  obtain ⟨hst, k9, hk9, comp, hkind⟩ := s11
  have hk9' : vm.classes[q.SA.cls]? = some k9 := hk9
  have hsl : q.SA.slots.toList = u.map byv := by
    have e : q.SA.slots = units.map fun x => Value.int (Jvm.Lit.byteI x) := by rw [hbyt, SBG.stringBytes_lat hlat]; rfl
    rw [e, Array.toList_map]; exact hu
  refine ⟨⟨⟨q.sC, kz, s1, fZ, hkz, s3, fun ho => by rw [k3, ← eS, ez]⟩, fun f hf => ?_, wS.nodup _ _⟩, q.SA, ⟨s10, ?_, s12⟩, hsl, (fun C hC => by cases hC), fun h => by cases h⟩
  · simp only [List.mem_cons, List.not_mem_nil, or_false] at hf
    rcases hf with rfl | rfl
    · exact ⟨q.sC, cv, kv', iv, q.fSV, s1, z4, s6, s2, s3, by rw [← hal.assignable]; exact s4', s8⟩
    · exact ⟨q.sC, cc, kc', ic, q.fSC, s1, z5, s7, s2, s3, by rw [← hal.assignable]; exact s5', s9⟩
  · exact State.isArrayOf_alike (s := Wst (kZ κ) vm h) (T := kZ κ) (Vm.Alike.symm hal) ⟨hst, k9, hk9, comp, hkind⟩
end Jvm.WK
namespace Jvm.WK
open Sem ClassFile Op Lib Jvm.Stand Jvm.Free Jvm.LawKit Jvm.RoadKit Jvm.Free.SB Jvm.Free.SBG
theorem countP_lt {α : Type} {f g : α → Bool} {p : α} : ∀ {l : List α}, p ∈ l → (∀ x, f x = true → g x = true) → f p = false → g p = true → l.countP f + 1 ≤ l.countP g
  | [], h, _, _, _ => nomatch h
  | a :: r, h, hm, h1, h2 => by
    by_cases e : p = a
    · subst e
      have q : r.countP f ≤ r.countP g := List.countP_mono_left fun x _ => hm x
      rw [List.countP_cons_of_neg (by rw [h1]; decide), List.countP_cons_of_pos h2]; omega
    · have hr : p ∈ r := by
        rcases List.mem_cons.mp h with q | q
        · exact absurd q e
        · exact q
      have q := countP_lt hr hm h1 h2
      rw [List.countP_cons, List.countP_cons]
      have : (if f a = true then 1 else 0) ≤ (if g a = true then 1 else 0) := by
        by_cases fa : f a = true
        · rw [if_pos fa, if_pos (hm a fa)]; exact Nat.le_refl _
        · rw [if_neg fa]; exact Nat.zero_le _
      omega
section R
variable {κ : Cx} {T : State} {y : MethodName} {pc pc' : Nat} {L L' : List Slot} {S S' : List Value} {F : List Frame} {l l' : List Chunk} {k n : Nat} {bytes : ByteArray} {mx : Nat} {rt : Option FieldType}
theorem pend_lt {s : State} {vm' : Vm} (h : s.Warmed39 vm') {p : String × Nat} (hp : p ∈ kP κ) (h1 : resd s.vm p = false) (h2 : resd vm' p = true) : pend κ vm' + 1 ≤ pend κ s.vm := by
  unfold pend
  refine countP_lt hp (fun x q => ?_) (by rw [h2]; rfl) (by rw [h1]; rfl)
  simp only [Bool.not_eq_true'] at q ⊢
  cases r : resd s.vm x with
  | false => rfl
  | true => rw [resd_mono h r] at q; cases q
theorem Lit.resd {s : State} {own : String} {ix : Nat} {a : Addr} (h : Lit s own ix a) : resd s.vm (own, ix) = true := by
  have q : s.resolvedAt? own ix = some (.string a) := h
  unfold WK.resd
  simp only [State.resolvedAt?, Option.bind_eq_bind] at q
  cases hc : s.vm.findClass own with
  | none => simp [hc] at q
  | some c =>
    cases hk : s.vm.classes[c]? with
    | none => simp [hc, hk] at q
    | some kk =>
      simp only [hc, hk, Option.bind_some] at q ⊢
      cases hr : kk.resolved[ix]? with
      | none => simp [hr] at q
      | some o => cases o with
        | none => simp [hr] at q
        | some r => simp [hr] at q; subst q; rfl
end R
end Jvm.WK
namespace Jvm.WK
open Sem ClassFile Op Lib Jvm.Stand Jvm.Free Jvm.LawKit Jvm.RoadKit Jvm.Free.SB Jvm.Free.SBG
section R
variable {κ : Cx} {T : State} {y : MethodName} {pc pc' : Nat} {L L' : List Slot} {S S' : List Value} {F : List Frame} {l l' : List Chunk} {k n : Nat} {bytes : ByteArray} {mx : Nat} {rt : Option FieldType}
/-- the context with nothing prepaid -/
def bare (κ : Cx) : Cx := (kp κ, kl κ, ke κ, kZ κ, ka κ, kb κ, km κ, kE κ, kS κ, kR κ, kx κ, [])
/-- a String constant that has been paid for: it costs nothing now -/
theorem wp_ldcP (C : Ok κ) (hst : kS κ = false) (wS : StrW κ) (M : Meth κ y bytes mx rt) {ix : Nat} (hd : decode bytes pc = .ok (.ldc ix, 2)) {text : String} (w : Wd κ (.stringLink y.cls ix text)) (hmem : (y.cls, ix) ∈ kE κ) (hP : (y.cls, ix) ∈ kP κ) (u : List UInt8) (ht : (∀ c ∈ text.toList, c.toNat < 256) ∧ text.toList.map (fun c => Value.int (Jvm.Lit.byteI c.toNat.toUInt16)) = u.map byv) (hm : text.toList.length ≤ 24)
    (K : ∀ a b, WP κ y (pc + 2) L (.ref a :: S) F (strO a b 0 :: strB b u :: l) k n) : WP κ y pc L S F l k n := fun T G => by
  have hlen : (Int32.ofNat u.length).toNatClampNeg = (u.map byv).length ∧ ¬ Int32.ofNat u.length < 0 := by
    have e : u.length = text.toList.length := by
      have q := congrArg List.length ht.2
      simpa using q.symm
    have q := idx_in (i := u.length) (n := u.length + 1) (by omega) (by omega)
    have q2 : (Nat.toInt32 u.length).toInt = u.length := len_toInt (by omega)
    refine ⟨?_, fun r => q (Or.inl r)⟩
    show (Nat.toInt32 u.length).toInt.toNat = _
    rw [q2]; simp
  cases r : resd T.vm (y.cls, ix) with
  | true =>
    obtain ⟨meth, c, X, hbb, -⟩ := G.stand C M (d := 0) (w := 0) G.room
    subst hbb
    have hf : T.vm.findClass y.cls = some (mid κ y).cls := G.own M
    have w2 : (Cond.stringLink y.cls ix text).before (ka κ) (Wst (kZ κ) T.vm T.heap) = true := mvS (s := { kZ κ with heap := T.heap }) G.warm w
    obtain ⟨k0, cf, i, units, hkx, hcf, hp, hu, -, htext, -⟩ := Cond.stringLink_spec (s := Wst (kZ κ) T.vm T.heap) hf w2
    have hkT : T.vm.classes[(mid κ y).cls]? = some k0 := hkx
    obtain ⟨a, hres⟩ : ∃ a, k0.resolved[ix]? = some (some (.string a)) := by
      unfold WK.resd at r
      simp only [hf, hkT] at r
      split at r
      · rename_i a hr; exact ⟨a, hr⟩
      · cases r
    have hB : Booksv T.vm y.cls ix units a := ⟨_, k0, cf, i, hf, hkT, hcf, hp, hu, Or.inl hres⟩
    have hlat := Jvm.ClassFile.lat_of_text htext ht.1
    obtain ⟨q, hqa, SB⟩ := SlB.of (G.ch _ hmem units a hB)
    have hun : units.toList.map (fun x => Value.int (Jvm.Lit.byteI x)) = u.map byv := by
      rw [← ht.2, Jvm.ClassFile.units_of_text htext ht.1, List.map_map]; rfl
    obtain ⟨H1, H2⟩ := sl_chunks wS G.alike SB hlat hun
    have hne : ∀ x, Safe (kZ κ) (kE κ) T.vm T.heap x → x ≠ q.sa ∧ x ≠ q.sd := fun x S => ⟨fun e1 => S ⟨_, hmem, units, a, hB, q, hqa, SB, Or.inl e1⟩, fun e1 => S ⟨_, hmem, units, a, hB, q, hqa, SB, Or.inr e1⟩⟩
    have HB : Hp κ T.vm T.heap (strB q.sd u :: l) := G.hp.add H2 (fun z hz hm => by
      rcases hm with hm | hm
      · cases hm
      · exact Ne.symm (hne _ (G.hp.2.2 z hz hm).2).2) (fun q => by cases q)
    have HA : Hp κ T.vm T.heap (strO q.sa q.sd 0 :: strB q.sd u :: l) := HB.add H1 (fun z hz hm => by
      rcases hm with hm | hm
      · cases hm
      · rcases List.mem_cons.mp hz with rfl | hz
        · cases hm
        · exact Ne.symm (hne _ (G.hp.2.2 z hz hm).2).1) (fun q => by cases q)
    have hLit : Lit ((base κ T y F).setVm T.vm) y.cls ix q.sa := by
      show State.resolvedAt? _ _ _ = _
      rw [hqa]
      simp [State.resolvedAt?, hf, hkT, hres]
    have st := ldcAgain (s := base κ T y F) (vm0 := T.vm) X C.exec G.warm hf w hLit (g := mkF (mid κ y) pc L.toArray S) rfl hd
    exact G.go (T' := T) st (K q.sa q.sd _ (G.next X nolocs G.cells G.slots rfl G.ch HA))
  | false =>
    obtain ⟨k0, n0, g, g1, g2⟩ := G.2.1
    have hpd : 1 ≤ pend κ T.vm := by
      have q : 0 < pend κ T.vm := List.countP_pos_iff.mpr ⟨_, hP, by rw [r]; rfl⟩
      exact q
    have hc1 := G.cells
    have hc2 := G.slots
    have G0 : Good (bare κ) T y pc L S F l k0 n0 := ⟨G.1, ⟨k0, n0, g, Nat.le_refl _, Nat.le_refl _⟩, G.2.2.1, G.2.2.2.1, G.2.2.2.2.1, G.2.2.2.2.2.1, by show k0 ≤ (kR κ).cells; omega, by show n0 ≤ (kR κ).slots; omega, G.2.2.2.2.2.2.2.2⟩
    obtain ⟨meth, c, X, hbb, -⟩ := G0.stand (κ := bare κ) C M (d := 0) (w := 0) G.room
    subst hbb
    obtain ⟨a, T', h', k1, b, kk, X', e', E, hS, hk1, -, -, A1, A2, A3, A4, -, -, hC, hL, hsafe, st⟩ := ldcCH (s := base κ T y F) (vm0 := T.vm) (EL := kE κ) X C.exec G.warm (G.own M) w wS rfl (State.WarmedH.since (State.WarmedH.refl (base κ T y F)) T.heap.size) (Nat.le_refl _) C.ew hmem G.ch ht hlen.2 hlen.1 (g := mkF (mid κ y) pc L.toArray S) rfl hd (n := 96) (by omega) (by decide) (by show 0 + 2 ≤ (kR κ).cells - k0; omega) (by show 0 + (96 + 4) ≤ (kR κ).slots - n0; omega)
    subst e'
    obtain ⟨cb, Ab, eb⟩ := arv_list A4 hlen.1
    have H0 := G.hp.ext E hC
    have H1 : Hp κ T'.vm T'.heap (strB b u :: l) := H0.add ⟨cb, Ab, eb, (fun C h => by cases h), fun h => by cases h⟩ (fun z hz hm => by
      rcases hm with hm | hm
      · cases hm
      · exact Ne.symm (hsafe _ (H0.2.2 z hz hm).2).2) (fun q => by cases q)
    have H2 : Hp κ T'.vm T'.heap (strO a b 0 :: strB b u :: l) := H1.add ⟨A1, fun f hf => by
        simp only [List.mem_cons, List.not_mem_nil, or_false] at hf
        rcases hf with rfl | rfl
        · exact A3
        · exact A2, wS.nodup _ _⟩ (fun z hz hm => by
      rcases hm with hm | hm
      · cases hm
      · rcases List.mem_cons.mp hz with rfl | hz
        · cases hm
        · exact Ne.symm (hsafe _ (H0.2.2 z hz hm).2).1) (fun q => by cases q)
    simp only [Nat.zero_add] at X'
    have pl : pend κ T'.vm + 1 ≤ pend κ T.vm := pend_lt (s := base κ T y F) hS.1 hP r (Lit.resd hL)
    have q1 : (T.setVm (kZ κ).vm).sameButNew (T'.setVm (kZ κ).vm) [] 2 (96 + 4) := State.sameButNew.of_setFrames (F := .invoking (mid κ y) (ka κ) :: (F ++ kb κ)) (X'.same.setVm (kZ κ).vm)
    exact G.go st (K a b _ (G.lit hst X' hS hk1 ⟨_, _, g.trans q1, by omega, by omega⟩ hc1 hc2 hC.1 H2))
end R
end Jvm.WK
namespace Jvm.WK
open Sem ClassFile Op Lib Jvm.Stand Jvm.Free Jvm.LawKit Jvm.RoadKit
/-! ## 9. the law's start -/
/-- what a law's run leaves -/
def Left (strict : Bool) (R : Room) (U : State) (o : Outcome) (U' : State) : Prop :=
  o = .returned (some (.int 1)) ∧ U.Since U'.vm U'.heap.size ∧ (strict = true → U.WarmedH U'.vm) ∧ U.sameButNew { U' with vm := U.vm } [] R.cells R.slots
theorem start_wp {l : Launch} {x : MethodName} {ws : List Jvm.Cond} {R : Room} {bytes : ByteArray} {mx : Nat} {EL PL : List (String × Nat)} {strict : Bool} (hx : plainFor x = true) (P : Array Value → State → Prop)
    (hEW : ∀ a s, P a s → EW s a EL) (hCH : ∀ a s, P a s → CHv s EL s.vm s.heap)
    (H : ∀ κ : Cx, Ok κ → kR κ = R → kE κ = EL → kS κ = strict → kx κ = mx → kP κ = PL → (∀ d ∈ (Jvm.Cond.code x bytes mx (some .boolean) :: ws), Wd κ d) → P (ka κ) (kZ κ) → ∃ L : List Slot, lay (ka κ).toList mx = L ∧ L.length = mx ∧ WP κ x 0 L [] [] [] (2 * PL.length) (100 * PL.length)) (hPc : 2 * PL.length ≤ R.cells) (hPs : 100 * PL.length ≤ R.slots) :
    MetFree l x (head1 (Jvm.Cond.code x bytes mx (some .boolean) :: ws) R) P (fun _ _ _ _ _ => True) (fun _ U o U' => Left strict R U o U') := by
  refine MetFree.of_bodySF hx hisR ?_
  intro p e s m args below meth c s₁ Bd hml0 hP hK
  let κ : Cx := (p, l, e, s, args, below, m, EL, strict, R, mx, PL)
  have hw : ∀ d ∈ (Jvm.Cond.code x bytes mx (some .boolean) :: ws), Wd κ d := fun d hd => atoms_spec (ws := Jvm.Cond.code x bytes mx (some .boolean) :: ws) Bd.pre d hd
  have M : Meth κ x bytes mx (some .boolean) := ⟨hx, hw _ (List.mem_cons_self ..)⟩
  have hmid : mid κ x = m := by
    have q : s.methodNamed? x = some m := Bd.named
    show (s.methodNamed? x).getD ⟨0, 0⟩ = m
    rw [q]; rfl
  have hst : s.status = .running := by
    have q := Bd.here.running
    rw [Bd.state] at q; exact q
  have hcs : s.curStatus? = some .runnable := by
    have q := Bd.here.runnable
    rw [Bd.state, State.curStatus?_setFrames] at q; exact q
  have hal : s.alone = true := by
    have q := Bd.here.alone
    rw [Bd.state, State.alone_setFrames] at q; exact q
  have C : Ok κ := ⟨Bd.admits, Bd.cas, Bd.clock, Bd.exec, Bd.frames, Bd.room, Bd.hears, hst, hcs, hal, hEW _ _ hP, x, bytes, M, hmid⟩
  obtain ⟨L, hL, hLm, W⟩ := H κ C rfl rfl rfl rfl rfl hw hP
  have hcur := State.cur_lt_of_frames Bd.frames
  obtain ⟨t, ht, -⟩ := State.frames_cons Bd.frames
  have ef : entryFrame m args mx = mkF (mid κ x) 0 L.toArray [] := by
    rw [hmid]
    show ({ method := m, pc := 0, locals := argsToLocals args mx, stack := [], locked := none } : JFrame) = _
    have q : argsToLocals args mx = L.toArray := args_lay (vs := args.toList) hL
    rw [q]
  have hf1 : s₁.frames = .java (entryFrame m args mx) :: below := by rw [Bd.state]; exact State.frames_setFrames _ hcur
  have G : Good κ (s₁.setTop (entryFrame m args mx)) x 0 L [] [] [] (2 * PL.length) (100 * PL.length) := by
    rw [State.setTop_self (State.topJava?_of_frames hf1)]
    refine ⟨by rw [hf1, ef]; rfl, ?_, ?_, fun _ => ?_, ?_, ⟨fun x hx => (nomatch hx), List.Pairwise.nil, fun x hx => (nomatch hx)⟩, hPc, hPs, fun f hf => (nomatch hf), ⟨?_, ?_⟩, ⟨bytes, _, by rw [hLm]; exact M⟩⟩
    · have hp : pend κ s₁.vm ≤ PL.length := List.countP_le_length
      rw [Bd.state] at hp ⊢; exact ⟨0, 0, (State.sameButNew.refl s ht).setFrames _ hcur, by omega, by omega⟩
    · rw [Bd.state]; exact State.WarmedH.since (State.WarmedH.refl s) _
    · rw [Bd.state]; exact State.WarmedH.refl s
    · rw [Bd.state]; exact hCH _ _ hP
    · show 0 + 1 ≤ R.frames + 1; omega
    · show wt [] + (L.length + 11) ≤ R.locals + (mx + 11)
      rw [wt_nil, hLm]; omega
  obtain ⟨t', st, f1, f2, f3, f4, f5⟩ := W _ G
  exact ⟨t', _, st, f1, f2, rfl, f3, f4, f5⟩
end Jvm.WK
namespace Jvm.WK
open Sem ClassFile Op Lib Jvm.Stand Jvm.Free Jvm.LawKit Jvm.RoadKit
/-! ## 10. small things -/
abbrev i2c (x : Int32) : Int32 := x.toUInt32.toUInt16.toUInt32.toInt32
/-- a truth as Java holds it -/
def bi (c : Prop) [Decidable c] : Int32 := if c then 1 else 0
theorem bi_t {c : Prop} [Decidable c] (h : c) : bi c = 1 := if_pos h
theorem bi_f {c : Prop} [Decidable c] (h : ¬ c) : bi c = 0 := if_neg h
theorem bi_iff {c d : Prop} [Decidable c] [Decidable d] (h : c ↔ d) : bi c = bi d := by
  by_cases hc : c
  · rw [bi_t hc, bi_t (h.mp hc)]
  · rw [bi_f hc, bi_f fun q => hc (h.mpr q)]
theorem bi_cases (c : Prop) [Decidable c] : bi c = 0 ∨ bi c = 1 := by
  by_cases hc : c
  · exact Or.inr (bi_t hc)
  · exact Or.inl (bi_f hc)
theorem toInt_toInt32 {i : Nat} (h : i < 2 ^ 31) : (Nat.toInt32 i).toInt = i := len_toInt h
theorem Ix_nat {i : Nat} (h : i < 2 ^ 31) : Ix (Nat.toInt32 i) i := by
  have q := toInt_toInt32 h
  refine ⟨?_, ?_⟩
  · rw [Int32.lt_iff_toInt_lt, q]; simp only [Int32.reduceToInt]; omega
  · show (Nat.toInt32 i).toInt.toNat = i
    rw [q]; simp
section R
variable {κ : Cx} {y : MethodName} {pc pc' : Nat} {L L' : List Slot} {S S' : List Value} {F : List Frame} {l l' : List Chunk} {k n : Nat}
theorem Rm.law {R : Room} {mx d w : Nat} (hr : kR κ = R) (hx : kx κ = mx) (h1 : 1 + d ≤ R.frames + 1) (h2 : 11 + L.length + cats S + w ≤ R.locals + (mx + 11)) : Rm κ [fr κ y pc L S] d w := by
  refine ⟨by rw [hr]; exact h1, ?_⟩
  rw [wt_cons, fr_weight, wt_nil, hr, hx]; omega
theorem rc {R : Room} {a : Nat} (hr : kR κ = R) (h : a ≤ R.cells) : a ≤ (kR κ).cells := by rw [hr]; exact h
theorem rs {R : Room} {a : Nat} (hr : kR κ = R) (h : a ≤ R.slots) : a ≤ (kR κ).slots := by rw [hr]; exact h
theorem wp_top {v v' : Value} (h : v = v') (K : WP κ y pc L (v :: S) F l k n) : WP κ y pc L (v' :: S) F l k n := h ▸ K
end R
end Jvm.WK
namespace Jvm.WK
open Sem ClassFile Op Lib Jvm.Stand Jvm.Free Jvm.LawKit Jvm.RoadKit
/-! ## 11. numbers and Latin-1 signs -/
theorem toInt_ofNat32 {j : Nat} (h : j < 2 ^ 31) : (Int32.ofNat j).toInt = j := len_toInt h
theorem lt32 {a b : Nat} (ha : a < 2 ^ 31) (hb : b < 2 ^ 31) : Int32.ofNat a < Int32.ofNat b ↔ a < b := by
  rw [Int32.lt_iff_toInt_lt, toInt_ofNat32 ha, toInt_ofNat32 hb]; omega
theorem eq32 {a b : Nat} (ha : a < 2 ^ 31) (hb : b < 2 ^ 31) : Int32.ofNat a = Int32.ofNat b ↔ a = b := by
  constructor
  · intro h
    have q := congrArg Int32.toInt h
    rw [toInt_ofNat32 ha, toInt_ofNat32 hb] at q
    omega
  · intro h; rw [h]
theorem nn32 {a : Nat} (ha : a < 2 ^ 31) : ¬ Int32.ofNat a < 0 := fun h => by
  have q := (lt32 (b := 0) ha (by decide)).mp h
  omega
theorem add32n (a b : Nat) : Int32.ofNat a + Int32.ofNat b = Int32.ofNat (a + b) := (Int32.ofNat_add a b).symm
theorem succ32 (a : Nat) : Int32.ofNat a + 1 = Int32.ofNat (a + 1) := (Int32.ofNat_add a 1).symm
theorem sub32n {a b : Nat} (h : b ≤ a) : Int32.ofNat a - Int32.ofNat b = Int32.ofNat (a - b) := by
  have e : Int32.ofNat a = Int32.ofNat (a - b) + Int32.ofNat b := by rw [add32n]; congr 1; omega
  rw [e, Int32.add_sub_cancel]
theorem Ix32 {i : Nat} (h : i < 2 ^ 31) : Ix (Int32.ofNat i) i := Ix_nat h
/-- a sign as Java's char -/
def ch8 (u : UInt8) : Int32 := u.toUInt32.toInt32
def chv (u : UInt8) : Value := .int (ch8 u)
theorem ch8_all {P : UInt8 → Prop} (h : ∀ i : Fin 256, P (UInt8.ofNat i.val)) (u : UInt8) : P u := by
  have q := h ⟨u.toNat, u.toNat_lt⟩
  simpa using q
theorem ch8_le (u : UInt8) : ¬ (255 : Int32) < ch8 u := ch8_all (P := fun u => ¬ (255 : Int32) < ch8 u) (by decide +kernel) u
theorem ch8_byte (u : UInt8) : (ch8 u).toInt8.toInt32 = u.toInt8.toInt32 := ch8_all (P := fun u => (ch8 u).toInt8.toInt32 = u.toInt8.toInt32) (by decide +kernel) u
theorem ch8_byte2 (u : UInt8) : ((ch8 u).toInt8.toInt32).toInt8.toInt32 = u.toInt8.toInt32 := ch8_all (P := fun u => ((ch8 u).toInt8.toInt32).toInt8.toInt32 = u.toInt8.toInt32) (by decide +kernel) u
theorem ch8_mask (u : UInt8) : u.toInt8.toInt32 &&& 255 = ch8 u := ch8_all (P := fun u => u.toInt8.toInt32 &&& 255 = ch8 u) (by decide +kernel) u
theorem ch8_i2c (u : UInt8) : i2c (ch8 u) = ch8 u := ch8_all (P := fun u => i2c (ch8 u) = ch8 u) (by decide +kernel) u
theorem ch8_narrow (u : UInt8) : narrow .char (.int (ch8 u)) = .int (ch8 u) := ch8_all (P := fun u => narrow .char (.int (ch8 u)) = .int (ch8 u)) (by decide +kernel) u
theorem ch8_nat (u : UInt8) : ch8 u = Int32.ofNat u.toNat := ch8_all (P := fun u => ch8 u = Int32.ofNat u.toNat) (by decide +kernel) u
theorem ch8_inj {u v : UInt8} : ch8 u = ch8 v ↔ u = v := by
  rw [ch8_nat, ch8_nat, eq32 (by have := u.toNat_lt; omega) (by have := v.toNat_lt; omega)]
  exact UInt8.toNat_inj
theorem byv_inj {u v : UInt8} : u.toInt8.toInt32 = v.toInt8.toInt32 ↔ u = v := by
  constructor
  · intro h
    rw [← ch8_inj, ← ch8_mask, ← ch8_mask, h]
  · intro h; rw [h]
/-- the low byte of an int, as a sign -/
def lo8 (x : Int32) : UInt8 := x.toUInt32.toUInt8
theorem lo8_mask (x : Int32) : x &&& 255 = ch8 (lo8 x) := by
  apply Int32.toBitVec_inj.mp
  apply BitVec.eq_of_toNat_eq
  have h1 : (x &&& 255).toBitVec.toNat = x.toBitVec.toNat &&& 255 := by
    rw [Int32.toBitVec_and, BitVec.toNat_and]; rfl
  have h2 : (ch8 (lo8 x)).toBitVec.toNat = x.toBitVec.toNat % 256 := by
    show (lo8 x).toUInt32.toBitVec.toNat = _
    simp [lo8]
  rw [h1, h2]
  exact Nat.and_two_pow_sub_one_eq_mod _ 8
end Jvm.WK
namespace Jvm.WK
open Sem ClassFile Op Lib Jvm.Stand Jvm.Free Jvm.LawKit Jvm.RoadKit
/-! ## 12. Strings: what is known of the JDK's statics; lists half filled -/
def StrS (κ : Cx) : Prop := (∃ cs : Int32, ¬ cs = 0 ∧ Sta (kZ κ) (kZ κ).heap "java/lang/String" "COMPACT_STRINGS" "Z" (.int cs)) ∧
  ∃ v : Value, v.isRef = true ∧ Sta (kZ κ) (kZ κ).heap "jdk/internal/util/Preconditions" "SIOOBE_FORMATTER" "Ljava/util/function/BiFunction;" v
theorem shr0 (x : Int32) : x >>> ((0 : Int32) &&& 31) = x := by
  apply Int32.toBitVec_inj.mp
  simp
/-- an array of n places, the first i filled -/
def part (f : UInt8 → Value) (d : Value) (us : List UInt8) (i : Nat) : List Value := (us.take i).map f ++ List.replicate (us.length - i) d
theorem part_0 (f : UInt8 → Value) (d : Value) (us : List UInt8) : part f d us 0 = List.replicate us.length d := by simp [part]
theorem part_n (f : UInt8 → Value) (d : Value) (us : List UInt8) : part f d us us.length = us.map f := by simp [part]
theorem part_len (f : UInt8 → Value) (d : Value) (us : List UInt8) {i : Nat} (h : i ≤ us.length) : (part f d us i).length = us.length := by simp [part]; omega
theorem part_set (f : UInt8 → Value) (d : Value) (us : List UInt8) {i : Nat} (h : i < us.length) : (part f d us i).set i (f (us.getD i 0)) = part f d us (i + 1) := by
  have e : us.length - i = (us.length - (i + 1)) + 1 := by omega
  unfold part
  rw [e, List.replicate_succ, List.set_append_right _ _ (by simp; omega)]
  have e2 : i - ((us.take i).map f).length = 0 := by simp; omega
  rw [e2, List.set_cons_zero, List.take_succ_eq_append_getElem h, List.map_append, List.append_assoc]
  simp [h]
theorem getD_map {f : UInt8 → Value} {us : List UInt8} {i : Nat} (h : i < us.length) : (us.map f)[i]? = some (f (us.getD i 0)) := by simp [h]
/-- what is known of a String: its object and its bytes stand in the list -/
def Str (l : List Chunk) (a : Addr) (us : List UInt8) : Prop := ∃ b, strO a b 0 ∈ l ∧ strB b us ∈ l
theorem Str.mono {l l' : List Chunk} {a : Addr} {us : List UInt8} (h : Str l a us) (hl : ∀ x ∈ l, x ∈ l') : Str l' a us := by obtain ⟨b, h1, h2⟩ := h; exact ⟨b, hl _ h1, hl _ h2⟩
theorem Str.cons {l : List Chunk} {x : Chunk} {a : Addr} {us : List UInt8} (h : Str l a us) : Str (x :: l) a us := h.mono fun _ q => List.mem_cons_of_mem _ q
end Jvm.WK
namespace Jvm.WK
open Sem ClassFile Op Lib Jvm.Stand Jvm.Free Jvm.LawKit Jvm.RoadKit
/-! ## 13. what stood before the law -/
section R
variable {κ : Cx} {y : MethodName} {pc pc' : Nat} {L L' : List Slot} {S S' : List Value} {F : List Frame} {l l' : List Chunk} {k n : Nat}
/-- an object that stood at the start: it is still as it was -/
theorem wp_old {a : Addr} {c : String × List (String × String × String × Value) ⊕ FieldType × List Value} (hx : Holds κ (kZ κ).heap (a, false, c)) (K : WP κ y pc L S F ((a, false, c) :: l) k n) : WP κ y pc L S F l k n := fun T G =>
  K T ⟨G.1, G.2.1, G.2.2.1, G.2.2.2.1, G.2.2.2.2.1, G.hp.add (hx.ext G.old) (fun z hz hm => by
    rcases hm with hm | hm
    · cases hm
    · exact Nat.ne_of_lt (Nat.lt_of_lt_of_le hx.lt (G.hp.2.2 z hz hm).1)) (fun q => by cases q), G.2.2.2.2.2.2⟩
/-- a cell that may be written was made by the law: it is none that stood at the start -/
theorem wp_neold {i : Nat} {x : Chunk} (hi : l[i]? = some x) (hm : x.2.1 = true) (K : (∀ a, a < (kZ κ).heap.size → x.1 ≠ a) → WP κ y pc L S F l k n) : WP κ y pc L S F l k n := fun T G =>
  K (fun a ha => Nat.ne_of_gt (Nat.lt_of_lt_of_le ha (G.hp.2.2 x (List.mem_of_getElem? hi) hm).1)) T G
end R
theorem and3 (f : Int32) : f &&& 3 = 0 ∨ f &&& 3 = 1 ∨ f &&& 3 = 2 ∨ f &&& 3 = 3 := by
  have h : (f &&& 3).toBitVec.toNat = f.toBitVec.toNat % 4 := by
    rw [Int32.toBitVec_and, BitVec.toNat_and]
    exact Nat.and_two_pow_sub_one_eq_mod _ 2
  have e : ∀ j : Nat, j < 4 → (f &&& 3).toBitVec.toNat = j → f &&& 3 = Int32.ofNat j := fun j hj q => by
    apply Int32.toBitVec_inj.mp
    apply BitVec.eq_of_toNat_eq
    rw [q]
    have : (Int32.ofNat j).toBitVec.toNat = j % 2 ^ 32 := by
      show (BitVec.ofInt 32 (j : Int)).toNat = _
      simp
    rw [this]; omega
  have q : f.toBitVec.toNat % 4 < 4 := Nat.mod_lt _ (by decide)
  generalize f.toBitVec.toNat % 4 = j at h q
  have := e j q h
  match j, q with
  | 0, _ => exact Or.inl this
  | 1, _ => exact Or.inr (Or.inl this)
  | 2, _ => exact Or.inr (Or.inr (Or.inl this))
  | 3, _ => exact Or.inr (Or.inr (Or.inr this))
/-! two lists of bytes, compared from a place on -/
theorem drop_getD {us : List UInt8} {i : Nat} (h : i < us.length) : us.drop i = us.getD i 0 :: us.drop (i + 1) := by
  rw [List.drop_eq_getElem_cons h]; simp [h]
theorem drop_eq_iff {us vs : List UInt8} {i : Nat} (h : i < us.length) (h' : i < vs.length) : us.drop i = vs.drop i ↔ us.getD i 0 = vs.getD i 0 ∧ us.drop (i + 1) = vs.drop (i + 1) := by
  rw [drop_getD h, drop_getD h', List.cons.injEq]
end Jvm.WK
namespace Jvm.WK
open Sem ClassFile Op Lib Jvm.Stand Jvm.Free Jvm.LawKit Jvm.RoadKit
/-! ## 14. System.arraycopy -/
section R
variable {κ : Cx} {T : State} {y : MethodName} {pc pc' : Nat} {L L' : List Slot} {S S' : List Value} {F : List Frame} {l l' : List Chunk} {k n : Nat} {bytes : ByteArray} {mx : Nat} {rt : Option FieldType} {vm vm1 : Vm} {h h' : Heap} {a : Addr}
theorem Holds.keep (W : Keep h h' [a]) : ∀ {x : Chunk}, Holds κ h x → x.1 ≠ a → Holds κ h' x
  | (b, _, .inl (C, fs)), H, hne => ⟨H.1.keep W, fun f hf => (H.2.1 f hf).keep W (fun q => hne (List.mem_singleton.mp q)), H.2.2⟩
  | (b, _, .inr (ty, vs)), ⟨c, A, e, o, q⟩, hne => ⟨c, ⟨W.2.1 b c A.1 (fun q => hne (List.mem_singleton.mp q)), A.2⟩, e, o, fun a b => (q a b).keep W⟩
theorem Hp.kept (H : Hp κ vm h l) (hC : CHv (kZ κ) (kE κ) vm h) {i : Nat} {c c' : String × List (String × String × String × Value) ⊕ FieldType × List Value} (hi : l[i]? = some (a, true, c)) (W : Keep h h' [a]) (hnew : Holds κ h' (a, true, c')) :
    Hp κ vm h' (l.set i (a, true, c')) ∧ CHv (kZ κ) (kE κ) vm h' := by
  have hS := (H.2.2 _ (List.mem_of_getElem? hi) rfl)
  have hW := hC.keepStep W (fun x hx => by cases List.mem_singleton.mp hx; exact hS.2)
  refine ⟨⟨fun z hz => ?_, ?_, fun z hz hm => ?_⟩, hW.1⟩
  · obtain ⟨j, hj⟩ := List.mem_iff_getElem?.mp hz
    by_cases e : i = j
    · subst e
      have hlt := (List.getElem?_eq_some_iff.mp hi).1
      rw [List.getElem?_set_self hlt] at hj
      cases hj; exact hnew
    · rw [getElem?_set_ne' e] at hj
      exact (H.1 z (List.mem_of_getElem? hj)).keep W (Ne.symm (H.apart hi hj e (Or.inl rfl)))
  · have e : (l.set i (a, true, c')).map key = l.map key := by
      apply List.ext_getElem?
      intro j
      simp only [List.getElem?_map]
      by_cases e : i = j
      · subst e
        rw [List.getElem?_set_self (List.getElem?_eq_some_iff.mp hi).1, hi]; rfl
      · rw [getElem?_set_ne' e]
    rw [e]; exact H.2.1
  · obtain ⟨j, hj⟩ := List.mem_iff_getElem?.mp hz
    by_cases e : i = j
    · subst e
      rw [List.getElem?_set_self (List.getElem?_eq_some_iff.mp hi).1] at hj
      cases hj
      exact ⟨hS.1, fun B => hS.2 (hW.2 _ B)⟩
    · rw [getElem?_set_ne' e] at hj
      have q := H.2.2 z (List.mem_of_getElem? hj) hm
      exact ⟨q.1, fun B => q.2 (hW.2 _ B)⟩
theorem clamp32 {i : Nat} (h : i < 2 ^ 31) : (Int32.ofNat i).toNatClampNeg = i := (Ix32 h).2
theorem arv_of {c : Cell} {ty : FieldType} {vs : List Value} {d : Value} (A : Arr (kZ κ) h a c ty) (ev : c.slots.toList = vs) (hl : vs.length < 2 ^ 31) (hf : ∀ v ∈ vs, fits ty v = true) : Arv (kZ κ) h a c.cls ty (Int32.ofNat vs.length) vs d := by
  have e : c.slots.size = vs.length := by rw [← ev]; simp
  refine ⟨c, A, rfl, by rw [clamp32 hl, e], nn32 hl, fun i hi => ?_, fun i hi => ?_⟩
  · rw [← Array.getElem?_toList, ev, List.getElem?_eq_getElem (by omega), List.getD_eq_getElem?_getD, List.getElem?_eq_getElem (by omega)]; rfl
  · rw [List.getD_eq_getElem?_getD, List.getElem?_eq_getElem (by omega)]; exact hf _ (List.getElem_mem ..)
theorem range_get {vs : List Value} {d : Value} {p m : Nat} (h : p + m ≤ vs.length) : ((List.range m).map fun i => vs.getD (p + i) d) = (vs.drop p).take m := by
  apply List.ext_getElem?
  intro i
  by_cases hi : i < m
  · rw [List.getElem?_map, List.getElem?_range hi, List.getElem?_take, if_pos hi, List.getElem?_drop, Option.map_some, List.getD_eq_getElem?_getD, List.getElem?_eq_getElem (by omega)]; rfl
  · rw [List.getElem?_eq_none (by simp; omega), List.getElem?_eq_none (by simp; omega)]
/-- a copy of plain components -/
theorem wp_copy (C : Ok κ) (M : Meth κ y bytes mx rt) {ix : Nat} (hd : decode bytes pc = .ok (.invokestatic ix, 3)) (w1 : Wd κ (.methodLink y.cls ix acN)) (w2 : Wd κ (.native acN)) (w3 : Wd κ (.static acN)) (w4 : Wd κ (.initialized "java/lang/System")) {b : Addr} {mu : Bool} {ty : FieldType} {vs ds : List Value} {i p q m : Nat}
    (hty : refKind ty = false) (hm : (a, mu, .inr (ty, vs)) ∈ l) (hi : l[i]? = some (b, true, .inr (ty, ds))) (hv : vs.length < 2 ^ 31) (hdl : ds.length < 2 ^ 31) (fv : ∀ v ∈ vs, fits ty v = true) (fd : ∀ v ∈ ds, fits ty v = true) (h1 : p + m ≤ vs.length) (h2 : q + m ≤ ds.length)
    (hR : Rm κ (fr κ y pc L S :: F) 1 40) (hl' : l.set i (b, true, .inr (ty, ds.take q ++ (vs.drop p).take m ++ ds.drop (q + m))) = l')
    (K : WP κ y (pc + 3) L S F l' k n) : WP κ y pc L (.int (Int32.ofNat m) :: .int (Int32.ofNat q) :: .ref b :: .int (Int32.ofNat p) :: .ref a :: S) F l k n := fun T G => by
  obtain ⟨meth, c, X, hb, hml, -⟩ := G.stand C M (d := 1) (w := cats S + 40) (G.room2 hR)
  subst hb
  obtain ⟨cs, As, es, -⟩ := G.hp.1 _ hm
  obtain ⟨cd, Ad, ed, od⟩ := G.hp.1 _ (List.mem_of_getElem? hi)
  have hS := G.hp.2.2 _ (List.mem_of_getElem? hi) rfl
  have cm : (Int32.ofNat m).toNatClampNeg = m := clamp32 (by omega)
  have cp : (Int32.ofNat p).toNatClampNeg = p := clamp32 (by omega)
  have cq : (Int32.ofNat q).toNatClampNeg = q := clamp32 (by omega)
  have nf : nativeFrameWords "java/lang/System" "arraycopy" 5 + 11 ≤ 40 := by decide
  obtain ⟨T', h', Lo, X', e', N, Kp, A', st⟩ := cpA X C.exec G.warm (G.own M) w1 w2 w3 w4 rfl (sp := Int32.ofNat p) (dp := Int32.ofNat q) (nn := Int32.ofNat m) (arv_of (d := .null) As es hv fv) (arv_of (d := .null) Ad ed hdl fd) (Or.inl ⟨rfl, hty⟩) (nn32 (by omega)) (nn32 (by omega)) (nn32 (by omega))
    (by rw [cp, cm, clamp32 hv]; exact h1) (by rw [cq, cm, clamp32 hdl]; exact h2) rfl (by rw [cq, cm]; exact h2) (n0 := (kZ κ).heap.size) (fun x hx => nomatch hx) hS.1
    (g := mkF (mid κ y) pc L.toArray (.int (Int32.ofNat m) :: .int (Int32.ofNat q) :: .ref b :: .int (Int32.ofNat p) :: .ref a :: S)) rfl (by show L.toArray.size = c.maxLocals; rw [hml]; simp) rfl hd (Nat.le_refl 1) (W := cats S) (by show 2 * 0 + cats S ≤ _; omega) (by show _ ≤ cats S + 40; omega)
  have B := G.warmed C X'
  subst e'
  rw [cm, cq, cp, range_get h1] at A'
  have ll : (Int32.ofNat ds.length).toNatClampNeg = (ds.take q ++ (vs.drop p).take m ++ ds.drop (q + m)).length := by rw [clamp32 hdl]; simp; omega
  obtain ⟨c2, A2, e2⟩ := arv_list A' ll
  have hnew : Holds κ T'.heap (b, true, .inr (ty, ds.take q ++ (vs.drop p).take m ++ ds.drop (q + m))) := ⟨c2, A2, e2, (fun D hD => by subst hD; cases hty), fun a b => (od.2 a b).keep Kp⟩
  obtain ⟨r1, r2⟩ := (G.hp.warm B).kept B.1 hi Kp hnew
  have r1 : Hp κ T'.vm T'.heap l' := hl' ▸ r1
  exact G.go st (K _ (G.next X' N G.cells G.slots rfl r2 r1))
theorem byv_all (us : List UInt8) : ∀ v ∈ us.map byv, fits .byte v = true := fun v hv => by
  obtain ⟨u, -, rfl⟩ := List.mem_map.mp hv
  exact byv_fits u
end R
end Jvm.WK
namespace Jvm.WK
open Sem ClassFile Op Lib Jvm.Stand Jvm.Free Jvm.LawKit Jvm.RoadKit
section R
variable {κ : Cx} {y : MethodName} {pc pc' : Nat} {L L' : List Slot} {S S' : List Value} {F : List Frame} {l l' : List Chunk} {k n : Nat}
/-- what is frozen may be told twice -/
theorem wp_dup {x : Chunk} (hx : x ∈ l) (hm : x.2.1 = false) (K : WP κ y pc L S F (x :: l) k n) : WP κ y pc L S F l k n := wp_weaken (fun vm h H => H.add (H.1 x hx) (fun z hz q => by
    rcases q with q | q
    · rw [hm] at q; cases q
    · obtain ⟨i, hi⟩ := List.mem_iff_getElem?.mp hx
      obtain ⟨j, hj⟩ := List.mem_iff_getElem?.mp hz
      refine H.apart hi hj (fun e => ?_) (Or.inr q)
      subst e
      cases hi.symm.trans hj
      rw [hm] at q; cases q) (fun q => by rw [hm] at q; cases q)) K
end R
/-- the first place from i on (d places looked at) at which c stands, or -1 -/
def ixc (us : List UInt8) (c : UInt8) : Nat → Nat → Int32
  | 0, _ => -1
  | d + 1, i => if us.getD i 0 = c then Int32.ofNat i else ixc us c d (i + 1)
theorem ixc_spec (us : List UInt8) (c : UInt8) : ∀ (d i : Nat), (ixc us c d i = -1 ∧ ∀ j, i ≤ j → j < i + d → us.getD j 0 ≠ c) ∨ ∃ j, i ≤ j ∧ j < i + d ∧ us.getD j 0 = c ∧ (∀ t, i ≤ t → t < j → us.getD t 0 ≠ c) ∧ ixc us c d i = Int32.ofNat j
  | 0, i => Or.inl ⟨rfl, fun j h1 h2 => absurd h2 (by omega)⟩
  | d + 1, i => by
    unfold ixc
    by_cases h : us.getD i 0 = c
    · rw [if_pos h]; exact Or.inr ⟨i, Nat.le_refl _, by omega, h, fun t h1 h2 => absurd h2 (by omega), rfl⟩
    · rw [if_neg h]
      rcases ixc_spec us c d (i + 1) with ⟨e, H⟩ | ⟨j, h1, h2, h3, h4, e⟩
      · exact Or.inl ⟨e, fun j h1 h2 => by
          by_cases q : j = i
          · rw [q]; exact h
          · exact H j (by omega) (by omega)⟩
      · exact Or.inr ⟨j, by omega, by omega, h3, fun t q1 q2 => by
          by_cases q : t = i
          · rw [q]; exact h
          · exact h4 t (by omega) q2, e⟩
theorem byte0 (m : Nat) : List.replicate m (Value.int 0) = (List.replicate m (0 : UInt8)).map byv := by
  rw [List.map_replicate]; rfl
theorem min32_1 {a b : Nat} (ha : a < 2 ^ 31) (hb : b < 2 ^ 31) (h : a ≤ b) : ¬ Int32.ofNat b < Int32.ofNat a := fun q => by have := (lt32 hb ha).mp q; omega
theorem copy_all {us : List UInt8} {i m : Nat} (h : i + m ≤ us.length) : ((List.replicate m (0 : UInt8)).map byv).take 0 ++ ((us.map byv).drop i).take m ++ ((List.replicate m (0 : UInt8)).map byv).drop (0 + m) = ((us.drop i).take m).map byv := by
  rw [List.take_zero, List.nil_append, show ((List.replicate m (0 : UInt8)).map byv).drop (0 + m) = [] from List.drop_eq_nil_of_le (by simp), List.append_nil, List.map_take, List.map_drop]
end Jvm.WK
namespace Jvm.WK
/-! ## 15. masks and remainders of ints -/
theorem mask32 (x : Int32) (m : Nat) (hm : m < 31) : ∃ j : Nat, j < 2 ^ m ∧ x &&& Int32.ofNat (2 ^ m - 1) = Int32.ofNat j := by
  have hp : 2 ^ m ≤ 2 ^ 30 := Nat.pow_le_pow_right (by decide) (by omega)
  have hp0 : 0 < 2 ^ m := Nat.pow_pos (by decide)
  have nat : ∀ j : Nat, j < 2 ^ 31 → (Int32.ofNat j).toBitVec.toNat = j := fun j hj => by
    have : (Int32.ofNat j).toBitVec.toNat = j % 2 ^ 32 := by
      show (BitVec.ofInt 32 (j : Int)).toNat = _
      simp
    rw [this]; omega
  refine ⟨x.toBitVec.toNat % 2 ^ m, Nat.mod_lt _ hp0, ?_⟩
  apply Int32.toBitVec_inj.mp
  apply BitVec.eq_of_toNat_eq
  rw [Int32.toBitVec_and, BitVec.toNat_and, nat _ (by omega), Nat.and_two_pow_sub_one_eq_mod, nat _ (by have := Nat.mod_lt x.toBitVec.toNat hp0; omega)]
theorem mask31 (x : Int32) : ∃ j : Nat, j < 2 ^ 31 ∧ x &&& 2147483647 = Int32.ofNat j := by
  have nat : ∀ j : Nat, j < 2 ^ 31 → (Int32.ofNat j).toBitVec.toNat = j := fun j hj => by
    have : (Int32.ofNat j).toBitVec.toNat = j % 2 ^ 32 := by
      show (BitVec.ofInt 32 (j : Int)).toNat = _
      simp
    rw [this]; omega
  have hm := Nat.mod_lt x.toBitVec.toNat (show 0 < 2 ^ 31 by decide)
  refine ⟨x.toBitVec.toNat % 2 ^ 31, hm, ?_⟩
  apply Int32.toBitVec_inj.mp
  apply BitVec.eq_of_toNat_eq
  rw [Int32.toBitVec_and, BitVec.toNat_and, nat _ hm]
  exact Nat.and_two_pow_sub_one_eq_mod _ 31
theorem rem32 {j m : Nat} (hj : j < 2 ^ 31) (hm : 0 < m) (hm' : m < 2 ^ 31) : Int32.ofNat j % Int32.ofNat m = Int32.ofNat (j % m) := by
  have hl := Nat.mod_lt j hm
  apply Int32.toInt_inj.mp
  rw [Int32.toInt_mod, toInt_ofNat32 hj, toInt_ofNat32 hm', toInt_ofNat32 (by omega), Int.tmod_eq_emod_of_nonneg (by omega)]
  omega
theorem and3p (s : Int32) : 1 + (s &&& 3) = 1 ∨ 1 + (s &&& 3) = 2 ∨ 1 + (s &&& 3) = 3 ∨ 1 + (s &&& 3) = 4 := by
  rcases and3 s with h | h | h | h <;> rw [h]
  · exact Or.inl rfl
  · exact Or.inr (Or.inl rfl)
  · exact Or.inr (Or.inr (Or.inl rfl))
  · exact Or.inr (Or.inr (Or.inr rfl))
theorem rem_31 (x : Int32) {m : Nat} (hm : 0 < m) (hm' : m < 2 ^ 31) : ∃ j, j < m ∧ (x &&& 2147483647) % Int32.ofNat m = Int32.ofNat j := by
  obtain ⟨j, hj, e⟩ := mask31 x
  exact ⟨j % m, Nat.mod_lt _ hm, by rw [e, rem32 hj hm hm']⟩
end Jvm.WK
namespace Jvm.WK
open Sem ClassFile Op Lib Jvm.Stand Jvm.Free Jvm.LawKit Jvm.RoadKit
/-! ## 16. chars of 16 bits; Strings of any chars -/
def c16 (c : UInt16) : Int32 := c.toUInt32.toInt32
def cv (c : UInt16) : Value := .int (c16 c)
theorem c16_nat (c : UInt16) : c16 c = Int32.ofNat c.toNat := by
  apply Int32.toBitVec_inj.mp
  apply BitVec.eq_of_toNat_eq
  have h := c.toNat_lt
  have : (Int32.ofNat c.toNat).toBitVec.toNat = c.toNat % 2 ^ 32 := by
    show (BitVec.ofInt 32 (c.toNat : Int)).toNat = _
    simp
  rw [this]
  show c.toUInt32.toBitVec.toNat = _
  simp
theorem c16_lt (c : UInt16) : c.toNat < 2 ^ 31 := by have h := c.toNat_lt; omega
theorem c16_inj {c d : UInt16} : c16 c = c16 d ↔ c = d := by
  rw [c16_nat, c16_nat, eq32 (c16_lt c) (c16_lt d)]; exact UInt16.toNat_inj
theorem bvnat {j : Nat} (h : j < 2 ^ 31) : (Int32.ofNat j).toBitVec.toNat = j := by
  have : (Int32.ofNat j).toBitVec.toNat = j % 2 ^ 32 := by
    show (BitVec.ofInt 32 (j : Int)).toNat = _
    simp
  rw [this]; omega
theorem i2c_ofNat {j : Nat} (h : j < 65536) : i2c (Int32.ofNat j) = Int32.ofNat j := by
  apply Int32.toBitVec_inj.mp
  apply BitVec.eq_of_toNat_eq
  show (BitVec.setWidth 32 (BitVec.setWidth 16 (Int32.ofNat j).toBitVec)).toNat = _
  rw [BitVec.toNat_setWidth, BitVec.toNat_setWidth, bvnat (by omega)]
  omega
theorem c16_i2c (c : UInt16) : i2c (c16 c) = c16 c := by rw [c16_nat, i2c_ofNat c.toNat_lt]
theorem narrow_char (x : Int32) : narrow .char (.int x) = .int (i2c x) := rfl
theorem c16_narrow (c : UInt16) : narrow .char (.int (c16 c)) = .int (c16 c) := by rw [narrow_char, c16_i2c]
/-- the char that an int becomes -/
def ci (x : Int32) : UInt16 := x.toUInt32.toUInt16
theorem ci_i2c (x : Int32) : i2c x = c16 (ci x) := rfl
def lo16 (c : UInt16) : UInt8 := ((c16 c) >>> ((0 : Int32) &&& 31)).toInt8.toUInt8
def hi16 (c : UInt16) : UInt8 := ((c16 c) >>> ((8 : Int32) &&& 31)).toInt8.toUInt8
theorem by_of (x : Int32) : (x.toInt8.toInt32).toInt8.toInt32 = (x.toInt8.toUInt8).toInt8.toInt32 := by simp
theorem shrk {n k : Nat} (h : n < 2 ^ 31) (y : Int32) (hy : y.toBitVec.smod 32 = BitVec.ofNat 32 k) (hk : k < 32) : Int32.ofNat n >>> y = Int32.ofNat (n / 2 ^ k) := by
  have hd : n / 2 ^ k ≤ n := Nat.div_le_self _ _
  apply Int32.toInt_inj.mp
  rw [toInt_ofNat32 (by omega)]
  show ((Int32.ofNat n).toBitVec.sshiftRight' (y.toBitVec.smod 32)).toInt = _
  rw [hy, BitVec.sshiftRight'_ofNat_eq_sshiftRight, BitVec.toInt_sshiftRight, Nat.mod_eq_of_lt (by omega)]
  show (Int32.ofNat n).toInt >>> k = _
  rw [toInt_ofNat32 h, Int.shiftRight_eq_div_pow]
  simp
theorem shlk {n k : Nat} (y : Int32) (hy : y.toBitVec.smod 32 = BitVec.ofNat 32 k) (hk : k < 32) (h : n * 2 ^ k < 2 ^ 31) : Int32.ofNat n <<< y = Int32.ofNat (n * 2 ^ k) := by
  have hp : 0 < 2 ^ k := Nat.pow_pos (by decide)
  have hn : n ≤ n * 2 ^ k := Nat.le_mul_of_pos_right _ hp
  apply Int32.toBitVec_inj.mp
  apply BitVec.eq_of_toNat_eq
  rw [bvnat h]
  show ((Int32.ofNat n).toBitVec <<< (y.toBitVec.smod 32)).toNat = _
  rw [hy, BitVec.shiftLeft_eq', BitVec.toNat_shiftLeft, bvnat (by omega), BitVec.toNat_ofNat, Nat.mod_eq_of_lt (show k < 2 ^ 32 by omega), Nat.shiftLeft_eq]
  omega
theorem or8 {a b : Nat} (ha : a < 256) (hb : b < 256) : Int32.ofNat a ||| Int32.ofNat (b * 256) = Int32.ofNat (a + b * 256) := by
  apply Int32.toBitVec_inj.mp
  apply BitVec.eq_of_toNat_eq
  rw [Int32.toBitVec_or, BitVec.toNat_or, bvnat (by omega), bvnat (by omega), bvnat (by omega), Nat.or_comm]
  have q := Nat.shiftLeft_add_eq_or_of_lt (i := 8) (show a < 2 ^ 8 from ha) b
  rw [Nat.shiftLeft_eq] at q
  rw [Nat.add_comm]
  exact q.symm
theorem toU8_nat {n : Nat} (h : n < 2 ^ 31) : ((Int32.ofNat n).toInt8.toUInt8).toNat = n % 256 := by
  show ((Int32.ofNat n).toBitVec.signExtend 8).toNat = _
  rw [BitVec.signExtend_eq_setWidth_of_le _ (by decide), BitVec.toNat_setWidth, bvnat h]
theorem lo_nat (c : UInt16) : (lo16 c).toNat = c.toNat % 256 := by
  unfold lo16
  rw [shr0, c16_nat, toU8_nat (c16_lt c)]
theorem hi_nat (c : UInt16) : (hi16 c).toNat = c.toNat / 256 := by
  have h := c.toNat_lt
  unfold hi16
  rw [c16_nat, shrk (k := 8) (c16_lt c) _ (by decide) (by decide), toU8_nat (by omega)]
  omega
theorem lohi (c : UInt16) : i2c (((ch8 (lo16 c)) <<< ((0 : Int32) &&& 31)) ||| ((ch8 (hi16 c)) <<< ((8 : Int32) &&& 31))) = c16 c := by
  have h := c.toNat_lt
  have h1 := lo_nat c
  have h2 := hi_nat c
  rw [ch8_nat, ch8_nat, h1, h2, shlk (k := 0) _ (by decide) (by decide) (by omega), shlk (k := 8) _ (by decide) (by decide) (by omega)]
  rw [show c.toNat % 256 * 2 ^ 0 = c.toNat % 256 by omega, show c.toNat / 256 * 2 ^ 8 = c.toNat / 256 * 256 by omega, or8 (by omega) (by omega), show c.toNat % 256 + c.toNat / 256 * 256 = c.toNat by omega, i2c_ofNat h, c16_nat]
end Jvm.WK
namespace Jvm.WK
open Sem ClassFile Op Lib Jvm.Stand Jvm.Free Jvm.LawKit Jvm.RoadKit
def enc16 (cs : List UInt16) : List UInt8 := cs.flatMap fun c => [lo16 c, hi16 c]
theorem enc16_cons (c : UInt16) (cs : List UInt16) : enc16 (c :: cs) = lo16 c :: hi16 c :: enc16 cs := rfl
theorem enc16_app (cs ds : List UInt16) : enc16 (cs ++ ds) = enc16 cs ++ enc16 ds := by simp [enc16]
theorem enc16_len : ∀ cs : List UInt16, (enc16 cs).length = 2 * cs.length
  | [] => rfl
  | c :: cs => by rw [enc16_cons, List.length_cons, List.length_cons, enc16_len cs, List.length_cons]; omega
theorem enc16_at : ∀ (cs : List UInt16) (i : Nat), i < cs.length → (enc16 cs).getD (2 * i) 0 = lo16 (cs.getD i 0) ∧ (enc16 cs).getD (2 * i + 1) 0 = hi16 (cs.getD i 0)
  | [], i, h => absurd h (Nat.not_lt_zero _)
  | c :: cs, 0, _ => ⟨rfl, rfl⟩
  | c :: cs, i + 1, h => by
    have q := enc16_at cs i (by simpa using h)
    rw [enc16_cons, show 2 * (i + 1) = 2 * i + 1 + 1 by omega]
    exact q
/-- half filled with chars of two bytes -/
def p16 (cs : List UInt16) (i : Nat) : List UInt8 := enc16 (cs.take i) ++ List.replicate (2 * (cs.length - i)) 0
theorem p16_0 (cs : List UInt16) : p16 cs 0 = List.replicate (2 * cs.length) 0 := by simp [p16, enc16]
theorem p16_n (cs : List UInt16) : p16 cs cs.length = enc16 cs := by simp [p16]
theorem p16_len (cs : List UInt16) {i : Nat} (h : i ≤ cs.length) : (p16 cs i).length = 2 * cs.length := by
  simp only [p16, List.length_append, enc16_len, List.length_take, List.length_replicate]; omega
theorem p16_set (cs : List UInt16) {i : Nat} (h : i < cs.length) : ((p16 cs i).set (2 * i) (lo16 (cs.getD i 0))).set (2 * i + 1) (hi16 (cs.getD i 0)) = p16 cs (i + 1) := by
  have e1 : (enc16 (cs.take i)).length = 2 * i := by rw [enc16_len, List.length_take]; omega
  have e2 : 2 * (cs.length - i) = 2 * (cs.length - (i + 1)) + 1 + 1 := by omega
  unfold p16
  rw [e2, List.replicate_succ, List.replicate_succ, List.set_append_right _ _ (by omega), List.set_append_right _ _ (by omega), e1]
  rw [show 2 * i - 2 * i = 0 by omega, show 2 * i + 1 - 2 * i = 0 + 1 by omega, List.set_cons_zero, List.set_cons_succ, List.set_cons_zero, List.take_succ_eq_append_getElem h, enc16_app, List.append_assoc]
  simp [h, enc16]
def lat (cs : List UInt16) : Bool := cs.all fun c => decide (c.toNat < 256)
def l8 (cs : List UInt16) : List UInt8 := cs.map fun c => c.toUInt8
theorem lat_get {cs : List UInt16} (h : lat cs = true) : ∀ c ∈ cs, c.toNat < 256 := by simpa [lat] using h
theorem c16_8 {c : UInt16} (h : c.toNat < 256) : c16 c = ch8 c.toUInt8 := by
  rw [c16_nat, ch8_nat]
  congr 1
  simp; omega
theorem l8_len (cs : List UInt16) : (l8 cs).length = cs.length := by simp [l8]
theorem getD_l8 (cs : List UInt16) {i : Nat} (h : i < cs.length) : (l8 cs).getD i 0 = (cs.getD i 0).toUInt8 := by simp [l8, h]
theorem lat_map {cs : List UInt16} (h : lat cs = true) : cs.map cv = (l8 cs).map chv := by
  rw [l8, List.map_map]
  exact List.map_congr_left fun c hc => congrArg Value.int (c16_8 (lat_get h c hc))
theorem lat_at {cs : List UInt16} (h : lat cs = true) {i : Nat} (hi : i < cs.length) : ch8 ((l8 cs).getD i 0) = c16 (cs.getD i 0) := by
  rw [getD_l8 cs hi, c16_8]
  have : cs.getD i 0 ∈ cs := by simp [hi]
  exact lat_get h _ this
def cod (cs : List UInt16) : Int32 := if lat cs then 0 else 1
def enc (cs : List UInt16) : List UInt8 := if lat cs then l8 cs else enc16 cs
def StrU (l : List Chunk) (a : Addr) (cs : List UInt16) : Prop := ∃ b, strO a b (cod cs) ∈ l ∧ strB b (enc cs) ∈ l
theorem cod_t {cs : List UInt16} (h : lat cs = true) : cod cs = 0 := by simp [cod, h]
theorem cod_f {cs : List UInt16} (h : ¬ lat cs = true) : cod cs = 1 := by simp [cod, h]
theorem enc_t {cs : List UInt16} (h : lat cs = true) : enc cs = l8 cs := by simp [enc, h]
theorem enc_f {cs : List UInt16} (h : ¬ lat cs = true) : enc cs = enc16 cs := by simp [enc, h]
theorem StrU.str {l : List Chunk} {a : Addr} {cs : List UInt16} (h : StrU l a cs) (hl : lat cs = true) : Str l a (l8 cs) := by
  obtain ⟨b, h1, h2⟩ := h
  rw [cod_t hl] at h1; rw [enc_t hl] at h2
  exact ⟨b, h1, h2⟩
theorem StrU.mono {l l' : List Chunk} {a : Addr} {us : List UInt16} (h : StrU l a us) (hl : ∀ x ∈ l, x ∈ l') : StrU l' a us := by obtain ⟨b, h1, h2⟩ := h; exact ⟨b, hl _ h1, hl _ h2⟩
theorem not_lat {cs : List UInt16} (h : ¬ lat cs = true) : ∃ j, j < cs.length ∧ ¬ (cs.getD j 0).toNat < 256 ∧ ∀ i, i < j → (cs.getD i 0).toNat < 256 := by
  induction cs with
  | nil => exact absurd rfl h
  | cons c cs ih =>
    by_cases q : c.toNat < 256
    · have h' : ¬ lat cs = true := fun r => h (by simp only [lat, List.all_cons, Bool.and_eq_true, decide_eq_true_eq]; exact ⟨q, r⟩)
      obtain ⟨j, h1, h2, h3⟩ := ih h'
      refine ⟨j + 1, by simpa using h1, h2, fun i hi => ?_⟩
      cases i with
      | zero => exact q
      | succ i => exact h3 i (by omega)
    · exact ⟨0, by simp, q, fun i hi => absurd hi (Nat.not_lt_zero _)⟩
theorem getD_map16 {cs : List UInt16} {i : Nat} (h : i < cs.length) : (cs.map cv)[i]? = some (cv (cs.getD i 0)) := by simp [h]
theorem c16_gt {c : UInt16} (h : ¬ c.toNat < 256) : (255 : Int32) < c16 c := by
  rw [c16_nat]; exact (lt32 (a := 255) (by decide) (c16_lt c)).mpr (by omega)
theorem c16_le {c : UInt16} (h : c.toNat < 256) : ¬ (255 : Int32) < c16 c := fun q => by
  rw [c16_nat] at q; have := (lt32 (a := 255) (by decide) (c16_lt c)).mp q; omega
theorem neg_ushr {n : Nat} (h0 : 0 < n) (h : 2 * n < 2 ^ 31) : ((XT.ushr (Int32.ofNat n - Int32.ofNat (2 * n)) 31).toInt8).toInt32 = 1 := by
  have e : Int32.ofNat n - Int32.ofNat (2 * n) < 0 := by
    have q : (Int32.ofNat n - Int32.ofNat (2 * n)).toInt = -(n : Int) := by
      rw [Int32.toInt_sub, toInt_ofNat32 (by omega), toInt_ofNat32 (by omega)]
      rw [show (n : Int) - ((2 * n : Nat) : Int) = -(n : Int) by omega]
      have := XT.bmod32 (n := -(n : Int)) ⟨by omega, by omega⟩
      exact this
    rw [Int32.lt_iff_toInt_lt, q]; simp only [Int32.reduceToInt]; omega
  generalize Int32.ofNat n - Int32.ofNat (2 * n) = x at e
  have q : XT.ushr x 31 = 1 := by
    apply Int32.toBitVec_inj.mp
    apply BitVec.eq_of_toNat_eq
    have m : x.toBitVec.toNat ≥ 2 ^ 31 := by
      have e2 : x.toBitVec.toInt < 0 := by have := Int32.lt_iff_toInt_lt.mp e; exact this
      rw [BitVec.toInt_eq_toNat_cond] at e2
      split at e2
      · omega
      · omega
    have lt := x.toBitVec.isLt
    show (x.toBitVec >>> (31 : Nat)).toNat = _
    rw [BitVec.toNat_ushiftRight, Nat.shiftRight_eq_div_pow]
    show _ = 1
    omega
  rw [q]; rfl
end Jvm.WK
namespace Jvm.WK
open Sem ClassFile Op Lib Jvm.Stand Jvm.Free Jvm.LawKit Jvm.RoadKit
theorem int_v {args : Array Value} {first s : State} {o : Option Outcome} {idx : List Nat} {t : Term} {z : Int32} (h : (Cond.eq t (.int z)).value args first o s idx = some true) : t.eval args first o idx s = some (.int z) := by
  simp only [Cond.value, Term.eval] at h
  cases ht : t.eval args first o idx s with
  | none => simp [ht] at h
  | some x => cases x <;> simp [ht] at h ⊢; exact h
end Jvm.WK
namespace Jvm.WK
open Sem ClassFile Op Lib Jvm.Stand Jvm.Free Jvm.LawKit Jvm.RoadKit
/-! ## 17. one String told twice -/
theorem byv_map_inj {us vs : List UInt8} (h : us.map byv = vs.map byv) : us = vs := by
  have inj : ∀ a b : UInt8, byv a = byv b → a = b := fun a b q => byv_inj.mp (by injection q)
  induction us generalizing vs with
  | nil => cases vs with
    | nil => rfl
    | cons v vs => cases h
  | cons u us ih => cases vs with
    | nil => cases h
    | cons v vs =>
      rw [List.map_cons, List.map_cons, List.cons.injEq] at h
      rw [inj _ _ h.1, ih h.2]
section R
variable {κ : Cx} {y : MethodName} {pc pc' : Nat} {L L' : List Slot} {S S' : List Value} {F : List Frame} {l l' : List Chunk} {k n : Nat}
theorem Fld.one {Z : State} {h : Heap} {a : Addr} {C nm d : String} {v w : Value} (F : Fld Z h a C nm d v) (G : Fld Z h a C nm d w) : v = w := by
  by_cases q : v = w
  · exact q
  · exact absurd rfl (F.ne G q)
theorem wp_same {a b b' : Addr} {z z' : Int32} {us vs : List UInt8} (h1 : strO a b z ∈ l) (h2 : strB b us ∈ l) (h3 : strO a b' z' ∈ l) (h4 : strB b' vs ∈ l) (K : z = z' → us = vs → WP κ y pc L S F l k n) : WP κ y pc L S F l k n := fun T G => by
  obtain ⟨-, f1, -⟩ := G.hp.1 _ h1
  obtain ⟨-, f3, -⟩ := G.hp.1 _ h3
  have e1 := Fld.one (f1 ("java/lang/String", "value", "[B", .ref b) (List.mem_cons_self ..)) (f3 ("java/lang/String", "value", "[B", .ref b') (List.mem_cons_self ..))
  have e2 := Fld.one (f1 ("java/lang/String", "coder", "B", .int z) (List.mem_cons_of_mem _ (List.mem_cons_self ..))) (f3 ("java/lang/String", "coder", "B", .int z') (List.mem_cons_of_mem _ (List.mem_cons_self ..)))
  have eb : b = b' := by injection e1
  have ez : z = z' := by injection e2
  subst eb
  obtain ⟨c, A, ec, -⟩ := G.hp.1 _ h2
  obtain ⟨c', A', ec', -⟩ := G.hp.1 _ h4
  have q : c = c' := Option.some.inj (A.1.symm.trans A'.1)
  subst q
  exact K ez (byv_map_inj (ec.symm.trans ec')) T G
end R
theorem up_lat (vs : List UInt8) : lat (vs.map UInt8.toUInt16) = true := by
  simp only [lat, List.all_map, List.all_eq_true, Function.comp_apply, decide_eq_true_eq]
  intro u _
  have := u.toNat_lt
  simp; omega
theorem l8_up (vs : List UInt8) : l8 (vs.map UInt8.toUInt16) = vs := by
  simp [l8, Function.comp_def]
theorem up_l8 {cs : List UInt16} (h : lat cs = true) : (l8 cs).map UInt8.toUInt16 = cs := by
  rw [l8, List.map_map]
  conv => rhs; rw [← List.map_id cs]
  apply List.map_congr_left
  intro c hc
  have := lat_get h c hc
  apply UInt16.toNat_inj.mp
  simp; omega
end Jvm.WK
namespace Jvm.WK
open Sem ClassFile Op Lib Jvm.Stand Jvm.Free Jvm.LawKit Jvm.RoadKit
/-! ## 18. a private method's call -/
section R
variable {κ : Cx} {T : State} {y : MethodName} {pc pc' : Nat} {L L' : List Slot} {S S' : List Value} {F : List Frame} {l l' : List Chunk} {k n : Nat} {bytes : ByteArray} {mx : Nat} {rt : Option FieldType}
theorem wp_private (C : Ok κ) (M : Meth κ y bytes mx rt) {ix : Nat} (hd : decode bytes pc = .ok (.invokevirtual ix, 3)) {y' y2 : MethodName} {bytes' : ByteArray} {mx' : Nat} {rt' : Option FieldType} (M' : Meth κ y' bytes' mx' rt') (w1 : Wd κ (.methodLink y.cls ix y')) (w2 : Wd κ (.privateMethod y')) (w4 : Wd κ (.instanceMethod y')) (hc2 : y2.cls = y'.cls) (w5 : Wd κ (.instanceMethod y2)) (nf : NfW κ y2)
    (hy : y'.cls ≠ "java/lang/invoke/MethodHandle" ∧ y'.cls ≠ "java/lang/invoke/VarHandle") {b : Addr} {mu : Bool} {Cl : String} {fs : List (String × String × String × Value)} (hm : (b, mu, .inl (Cl, fs)) ∈ l) (args : List Value) (hlen : ∀ sig, parseMethodDescriptor y'.desc = some sig → args.length = sig.parameters.length) (hS : S = args.reverse ++ .ref b :: S') (hL : lay (.ref b :: args) mx' = L') (hL' : L'.length = mx') (hR : Rm κ (fr κ y pc L S' :: F) 1 (mx' + 11))
    (K : WP κ y' 0 L' [] (fr κ y pc L S' :: F) l k n) : WP κ y pc L S F l k n := fun T G => by
  obtain ⟨meth, c, X, hb, hml, -⟩ := G.stand C M (d := 1) (w := cats S' + (mx' + 11)) (G.room2 hR)
  subst hb
  obtain ⟨meth', c', h1, h2, h3, h4, h5, h6, h7, -, h8⟩ := M'.get
  obtain ⟨cB, kB, hcB, -, cellB, hcellT, hclsB, hstatB⟩ := G.recv hm
  have v1 := mv (s := base κ T y F) (args := ka κ) G.warm w1
  have v2 := mv (s := base κ T y F) (args := ka κ) G.warm w2
  have v4 := mv (s := base κ T y F) (args := ka κ) G.warm w4
  have v5 := mv (s := base κ T y F) (args := ka κ) G.warm w5
  obtain ⟨mk, methM, hnamed, hmethM, hstM, habM⟩ := Cond.instanceMethod_spec v4
  obtain ⟨m2, -, hn2, -⟩ := Cond.instanceMethod_spec v5
  obtain ⟨kr, hkr, hni⟩ := nf.at (s := base κ T y F) G.warm m2 hn2
  have e1 := findClass_of_methodNamed hnamed
  have e2 := findClass_of_methodNamed hn2
  rw [hc2] at e2
  have ec : m2.cls = mk.cls := Option.some.inj (e2.symm.trans e1)
  rw [ec] at hkr
  have hpriv := Cond.privateMethod_at v2
  have hselP : selectMethod (ke κ).platform (base κ T y F).vm cellB.cls mk = .method mk := selectMethod_private hmethM (hpriv mk methM hnamed hmethM)
  have hsig : parseMethodDescriptor y'.desc = some methM.sig := by
    obtain ⟨mm, cM, q1, -, -, -, -, -, -, q2⟩ := Cond.code_spec hnamed (mv (s := base κ T y F) (args := ka κ) G.warm M'.2)
    cases hmethM.symm.trans q1
    exact q2
  obtain ⟨vm₁, X₁, hstep⟩ := X.invokevirtual C.exec (G.own M) v1 hnamed hmethM hstM hkr hni hy (a := b) (cell := cellB) hcellT (fun z h => by rw [h] at hstatB; cases hstatB) hselP hmethM habM hkr hni (g := mkF (mid κ y) pc L.toArray S) rfl (argsL := args) (rest := S') (hlen _ hsig) hS hd
  have hn' : (base κ T y F).methodNamed? y' = some (mid κ y') := by
    have q : ((kZ κ).setVm T.vm).methodNamed? y' = some (mid κ y') := by rw [State.methodNamed?_setVm G.alike]; exact h1
    exact q
  cases hnamed.symm.trans hn'
  exact G.goU (hstep _ fun acts => by rw [doInvoke_state]; exact Steps.refl _) (G.enter C M hd M' (args_lay hL) hL' hR X₁ hml K)
end R
end Jvm.WK
namespace Jvm.WK
open Sem ClassFile Op Lib Jvm.Stand Jvm.Free Jvm.LawKit Jvm.RoadKit
/-! ## 19. a call of the superclass's method -/
theorem same_self {args : Array Value} {s : State} {y : MethodName} {r0 : MethodId} {kr : Class} (hn : s.methodNamed? y = some r0) (hy : y.cls ≠ "java/lang/invoke/MethodHandle" ∧ y.cls ≠ "java/lang/invoke/VarHandle") (hk : s.vm.classes[r0.cls]? = some kr) (hi : kr.isInterface = false) :
    (Cond.sameMethod y.cls y.cls y.name y.desc).before args s = true := by
  have h1 := findClass_of_methodNamed hn
  have h2 := State.methodFound?_of_named hn hy
  have hn' : s.methodNamed? ⟨y.cls, y.name, y.desc⟩ = some r0 := hn
  simp only [Cond.before, Cond.holds, Cond.value, h1, h2, hn', hk]
  simp [hi]
section R
variable {κ : Cx} {T : State} {y : MethodName} {pc pc' : Nat} {L L' : List Slot} {S S' : List Value} {F : List Frame} {l l' : List Chunk} {k n : Nat} {bytes : ByteArray} {mx : Nat} {rt : Option FieldType}
theorem wp_super (C : Ok κ) (M : Meth κ y bytes mx rt) {ix : Nat} (hd : decode bytes pc = .ok (.invokespecial ix, 3)) {y' y2 : MethodName} {bytes' : ByteArray} {mx' : Nat} {rt' : Option FieldType} (M' : Meth κ y' bytes' mx' rt') (w1 : Wd κ (.methodLink y.cls ix y')) (w4 : Wd κ (.instanceMethod y')) (w5 : Wd κ (.superclass y.cls y'.cls)) (hc2 : y2.cls = y'.cls) (w6 : Wd κ (.instanceMethod y2)) (nf : NfW κ y2) (hin : y'.name ≠ "<init>")
    (hy : y'.cls ≠ "java/lang/invoke/MethodHandle" ∧ y'.cls ≠ "java/lang/invoke/VarHandle") {b : Addr} {mu : Bool} {Cl : String} {fs : List (String × String × String × Value)} (hm : (b, mu, .inl (Cl, fs)) ∈ l) (args : List Value) (hlen : ∀ sig, parseMethodDescriptor y'.desc = some sig → args.length = sig.parameters.length) (hS : S = args.reverse ++ .ref b :: S') (hL : lay (.ref b :: args) mx' = L') (hL' : L'.length = mx') (hR : Rm κ (fr κ y pc L S' :: F) 1 (mx' + 11))
    (K : WP κ y' 0 L' [] (fr κ y pc L S' :: F) l k n) : WP κ y pc L S F l k n := fun T G => by
  obtain ⟨meth, c, X, hb, hml, -⟩ := G.stand C M (d := 1) (w := cats S' + (mx' + 11)) (G.room2 hR)
  subst hb
  obtain ⟨meth', c', h1, h2, h3, h4, h5, h6, h7, -, h8⟩ := M'.get
  obtain ⟨cB, kB, hcB, hkB, cellB, hcellT, hclsB, hstatB⟩ := G.recv hm
  have v1 := mv (s := base κ T y F) (args := ka κ) G.warm w1
  have v4 := mv (s := base κ T y F) (args := ka κ) G.warm w4
  have v5 := mv (s := base κ T y F) (args := ka κ) G.warm w5
  obtain ⟨mk, methM, hnamed, hmethM, hstM, habM⟩ := Cond.instanceMethod_spec v4
  have hcn := findClass_of_methodNamed hnamed
  have hown := G.own M
  obtain ⟨dk, hdk, -⟩ := Vm.findClass_spec hown
  obtain ⟨kp, hkp, -⟩ := Vm.findClass_spec hcn
  simp only [Cond.before, Cond.holds, Cond.value, hown, hcn, hdk, hkp, Option.bind_some, Option.map_some] at v5
  have v5' : ((dk.super = some mk.cls ∧ dk.kind = .ordinary) ∧ kp.kind = .ordinary) ∧ dk.isInterface = false := by simpa using v5
  obtain ⟨m2, -, hn2, -⟩ := Cond.instanceMethod_spec (mv (s := base κ T y F) (args := ka κ) G.warm w6)
  obtain ⟨kr, hkr, hni⟩ := nf.at (s := base κ T y F) G.warm m2 hn2
  have e2 := findClass_of_methodNamed hn2
  rw [hc2] at e2
  have ec : m2.cls = mk.cls := Option.some.inj (e2.symm.trans hcn)
  rw [ec] at hkr
  cases hkp.symm.trans hkr
  have hsig : parseMethodDescriptor y'.desc = some methM.sig := by
    obtain ⟨mm, cM, q1, -, -, -, -, -, -, q2⟩ := Cond.code_spec hnamed (mv (s := base κ T y F) (args := ka κ) G.warm M'.2)
    cases hmethM.symm.trans q1
    exact q2
  obtain ⟨vm₁, X₁, hstep⟩ := X.invokespecialUp C.exec (owner := y'.cls) hown v1 (same_self hnamed hy hkp hni) hnamed hmethM hstM habM hin hdk v5'.2 hcn v5'.1.1.1 (by simp [Vm.isSubclass, Vm.isSubclassAux]) (a := b) hcellT (fun z h => by rw [h] at hstatB; cases hstatB) (by rw [hclsB]; exact hkB) (g := mkF (mid κ y) pc L.toArray S) rfl (hlen _ hsig) hS hd
  have hn' : (base κ T y F).methodNamed? y' = some (mid κ y') := by
    have q : ((kZ κ).setVm T.vm).methodNamed? y' = some (mid κ y') := by rw [State.methodNamed?_setVm G.alike]; exact h1
    exact q
  cases hnamed.symm.trans hn'
  exact G.goU (hstep _ (by rw [doInvoke_state]; exact Steps.refl _)) (G.enter C M hd M' (args_lay hL) hL' hR X₁ hml K)
end R
end Jvm.WK
namespace Jvm.WK
open Sem ClassFile Op Lib Jvm.Stand Jvm.Free Jvm.LawKit Jvm.RoadKit
/-! ## 20. a builder's bytes -/
def sbl (us : List UInt8) (cap : Nat) : List UInt8 := us ++ List.replicate (cap - us.length) 0
theorem sbl_len {us : List UInt8} {cap : Nat} (h : us.length ≤ cap) : (sbl us cap).length = cap := by simp [sbl]; omega
theorem sbl_nil (cap : Nat) : sbl [] cap = List.replicate cap 0 := by simp [sbl]
theorem sbl_put {us : List UInt8} {cap : Nat} (h : us.length < cap) (u : UInt8) : (sbl us cap).set us.length u = sbl (us ++ [u]) cap := by
  unfold sbl
  rw [show cap - us.length = (cap - (us ++ [u]).length) + 1 by simp; omega, List.replicate_succ, List.set_append_right _ _ (by omega), Nat.sub_self, List.set_cons_zero, List.append_assoc]
  rfl
theorem sbl_copy {us vs : List UInt8} {cap : Nat} (h : us.length + vs.length ≤ cap) : (sbl us cap).take us.length ++ vs ++ (sbl us cap).drop (us.length + vs.length) = sbl (us ++ vs) cap := by
  unfold sbl
  rw [List.take_left', List.drop_append, List.drop_eq_nil_of_le (by omega), List.nil_append, List.drop_replicate]
  · congr 2
    simp; omega
  · rfl
theorem sbl_take (us : List UInt8) (cap : Nat) : (sbl us cap).take us.length = us := by
  unfold sbl
  exact List.take_left' rfl
theorem sbl_cpv {us vs : List UInt8} {cap : Nat} (h : us.length + vs.length ≤ cap) : ((sbl us cap).map byv).take us.length ++ ((vs.map byv).drop 0).take vs.length ++ ((sbl us cap).map byv).drop (us.length + vs.length) = (sbl (us ++ vs) cap).map byv := by
  have e : ((vs.map byv).drop 0).take vs.length = vs.map byv := by rw [List.drop_zero, List.take_of_length_le (by simp)]
  rw [e, ← sbl_copy h, List.map_append, List.map_append, List.map_take, List.map_drop]
theorem sub_le32 {a b : Nat} (h : a ≤ b) (hb : b < 2 ^ 31) : ¬ 0 < Int32.ofNat a - Int32.ofNat b := by
  intro q
  rw [Int32.lt_iff_toInt_lt, Int32.toInt_sub, toInt_ofNat32 (by omega), toInt_ofNat32 hb, XT.bmod32 ⟨by omega, by omega⟩] at q
  have e : (0 : Int32).toInt = 0 := rfl
  omega
end Jvm.WK
namespace Jvm.WK
open Sem ClassFile Op Lib Jvm.Stand Jvm.Free Jvm.LawKit Jvm.RoadKit
theorem or32 {a b : Nat} (ha : a < 2 ^ 31) (hb : b < 2 ^ 31) : Int32.ofNat a ||| Int32.ofNat b = Int32.ofNat (a ||| b) := by
  have h : a ||| b < 2 ^ 31 := Nat.or_lt_two_pow ha hb
  apply Int32.toBitVec_inj.mp
  apply BitVec.eq_of_toNat_eq
  rw [Int32.toBitVec_or, BitVec.toNat_or, bvnat ha, bvnat hb, bvnat h]
theorem or3_nn {a b c : Nat} (ha : a < 2 ^ 31) (hb : b < 2 ^ 31) (hc : c < 2 ^ 31) : ¬ (Int32.ofNat a ||| Int32.ofNat b) ||| Int32.ofNat c < 0 := by
  rw [or32 ha hb, or32 (Nat.or_lt_two_pow ha hb) hc]
  exact nn32 (Nat.or_lt_two_pow (Nat.or_lt_two_pow ha hb) hc)
theorem sb16_put {cs : List UInt16} {C2 : Nat} (h : 2 * cs.length + 2 ≤ C2) (c : UInt16) : ((sbl (enc16 cs) C2).set (2 * cs.length) (lo16 c)).set (2 * cs.length + 1) (hi16 c) = sbl (enc16 (cs ++ [c])) C2 := by
  have e := enc16_len cs
  have h1 := sbl_put (us := enc16 cs) (cap := C2) (by omega) (lo16 c)
  have h2 := sbl_put (us := enc16 cs ++ [lo16 c]) (cap := C2) (by simp; omega) (hi16 c)
  rw [e] at h1
  rw [List.length_append, e] at h2
  rw [h1]
  have h2' : (sbl (enc16 cs ++ [lo16 c]) C2).set (2 * cs.length + 1) (hi16 c) = sbl (enc16 cs ++ [lo16 c] ++ [hi16 c]) C2 := h2
  rw [h2', enc16_app, List.append_assoc]
  rfl
abbrev up16 (us : List UInt8) : List UInt16 := us.map UInt8.toUInt16
theorem ch8_16 (u : UInt8) : ch8 u = c16 u.toUInt16 := by
  rw [ch8_nat, c16_nat]; congr 1
end Jvm.WK
namespace Jvm.WK
open Sem ClassFile Op Lib Jvm.Stand Jvm.Free Jvm.LawKit Jvm.RoadKit
/-! ## 22. startsWith, strings that may be null -/
theorem subneg32 {a b i : Nat} (h : a < b) (hb : b < 2 ^ 31) (hi : i < 2 ^ 31) : Int32.ofNat a - Int32.ofNat b < Int32.ofNat i := by
  rw [Int32.lt_iff_toInt_lt, Int32.toInt_sub, toInt_ofNat32 (by omega), toInt_ofNat32 hb, XT.bmod32 ⟨by omega, by omega⟩, toInt_ofNat32 hi]
  omega
def mm (us vs : List UInt8) (i : Nat) : Nat → Nat → Int32
  | 0, _ => -1
  | d + 1, j => if us.getD (i + j) 0 = vs.getD j 0 then mm us vs i d (j + 1) else Int32.ofNat j
abbrev SW (us vs : List UInt8) (i : Nat) : Prop := i + vs.length ≤ us.length ∧ ∀ j, j < vs.length → us.getD (i + j) 0 = vs.getD j 0
theorem mm_spec (us vs : List UInt8) (i : Nat) : ∀ (d j : Nat), (mm us vs i d j = -1 ∧ ∀ t, j ≤ t → t < j + d → us.getD (i + t) 0 = vs.getD t 0) ∨ ∃ t, j ≤ t ∧ t < j + d ∧ us.getD (i + t) 0 ≠ vs.getD t 0 ∧ mm us vs i d j = Int32.ofNat t
  | 0, j => Or.inl ⟨rfl, fun t h1 h2 => by omega⟩
  | d + 1, j => by
    unfold mm
    by_cases h : us.getD (i + j) 0 = vs.getD j 0
    · rw [if_pos h]
      rcases mm_spec us vs i d (j + 1) with ⟨e, H⟩ | ⟨t, h1, h2, h3, e⟩
      · exact Or.inl ⟨e, fun t a b => by
          by_cases q : t = j
          · subst q; exact h
          · exact H t (by omega) (by omega)⟩
      · exact Or.inr ⟨t, by omega, by omega, h3, e⟩
    · rw [if_neg h]; exact Or.inr ⟨j, Nat.le_refl _, by omega, h, rfl⟩
theorem ixc_mem (S : List UInt8) (c : UInt8) : (ixc S c S.length 0 = -1 ∧ c ∉ S) ∨ ∃ j, j < S.length ∧ ixc S c S.length 0 = Int32.ofNat j ∧ c ∈ S := by
  rcases ixc_spec S c S.length 0 with ⟨e, H⟩ | ⟨j, h1, h2, h3, h4, e⟩
  · refine Or.inl ⟨e, fun q => ?_⟩
    obtain ⟨j, hj, ej⟩ := List.mem_iff_getElem.mp q
    exact H j (Nat.zero_le _) (by omega) (by rw [List.getD_eq_getElem?_getD, List.getElem?_eq_getElem hj]; exact ej)
  · have hj : j < S.length := by omega
    refine Or.inr ⟨j, hj, e, ?_⟩
    rw [← h3, List.getD_eq_getElem?_getD, List.getElem?_eq_getElem hj]
    exact List.getElem_mem hj
def OStr (l : List Chunk) (v : Value) (o : Option (List UInt8)) : Prop := (o = none ∧ v = .null) ∨ ∃ a us, o = some us ∧ v = .ref a ∧ Str l a us
theorem OStr.mono {l l' : List Chunk} {v : Value} {o : Option (List UInt8)} (h : OStr l v o) (hl : ∀ x ∈ l, x ∈ l') : OStr l' v o := by
  rcases h with h | ⟨a, us, e1, e2, st⟩
  · exact Or.inl h
  · exact Or.inr ⟨a, us, e1, e2, st.mono hl⟩
theorem OStr.isRef {l : List Chunk} {v : Value} {o : Option (List UInt8)} (h : OStr l v o) : v.isRef = true := by
  rcases h with ⟨_, rfl⟩ | ⟨a, us, _, rfl, _⟩ <;> rfl
/-! a stretch of a list -/
def sgm (us : List UInt8) (i j : Nat) : List UInt8 := (us.drop i).take (j - i)
theorem sgm_len {us : List UInt8} {i j : Nat} (h : j ≤ us.length) : (sgm us i j).length = j - i := by unfold sgm; simp; omega
theorem sgm_get {us : List UInt8} {i j t : Nat} (h : t < j - i) : (sgm us i j).getD t 0 = us.getD (i + t) 0 := by
  unfold sgm; simp [List.getElem?_take, h, List.getElem?_drop]
theorem take_sgm {us : List UInt8} {i j : Nat} (h : i ≤ j) : us.take i ++ sgm us i j = us.take j := by
  unfold sgm
  rw [show us.take j = us.take (i + (j - i)) by rw [Nat.add_sub_cancel' h], List.take_add]
theorem take_one {us : List UInt8} {i : Nat} (h : i < us.length) : us.take i ++ [us.getD i 0] = us.take (i + 1) := by
  rw [List.take_succ_eq_append_getElem h, List.getD_eq_getElem?_getD, List.getElem?_eq_getElem h]; rfl
/-- the first place from i on whose sign stands in S, or the end -/
def FO (S us : List UInt8) (i e : Nat) : Prop := i ≤ e ∧ e ≤ us.length ∧ (∀ t, i ≤ t → t < e → us.getD t 0 ∉ S) ∧ (e < us.length → us.getD e 0 ∈ S)
end Jvm.WK
namespace Jvm.WK
open Sem ClassFile Op Lib Jvm.Stand Jvm.Free Jvm.LawKit Jvm.RoadKit
/-! ## 23. a byte array's clone -/
section R
variable {κ : Cx} {T : State} {y : MethodName} {pc pc' : Nat} {L L' : List Slot} {S S' : List Value} {F : List Frame} {l l' : List Chunk} {k n : Nat} {bytes : ByteArray} {mx : Nat} {rt : Option FieldType} {a : Addr}
theorem wp_clone (C : Ok κ) (M : Meth κ y bytes mx rt) {ix : Nat} (hd : decode bytes pc = .ok (.invokevirtual ix, 3)) (w1 : Wd κ (.methodLink y.cls ix ⟨"[B", "clone", "()Ljava/lang/Object;"⟩)) (w2 : Wd κ (.sameMethod "[B" "java/lang/Object" "clone" "()Ljava/lang/Object;")) (w3 : Wd κ (.native ⟨"java/lang/Object", "clone", "()Ljava/lang/Object;"⟩))
    (w4 : Wd κ (.instanceMethod ⟨"java/lang/Object", "clone", "()Ljava/lang/Object;"⟩)) (w5 : Wd κ (.selects "[B" ⟨"[B", "clone", "()Ljava/lang/Object;"⟩ ⟨"java/lang/Object", "clone", "()Ljava/lang/Object;"⟩)) (w6 : Wd κ (.castable "[B" "java/lang/Cloneable"))
    {vs : List Value} (hm : (a, true, .inr (.byte, vs)) ∈ l) (fv : ∀ v ∈ vs, fits .byte v = true) (hk : k + 1 ≤ (kR κ).cells) (hn : n + vs.length ≤ (kR κ).slots) (hR : Rm κ (fr κ y pc L S :: F) 1 40)
    (K : ∀ b, WP κ y (pc + 3) L (.ref b :: S) F ((b, true, .inr (.byte, vs)) :: l) (k + 1) (n + vs.length)) : WP κ y pc L (.ref a :: S) F l k n := fun T G => by
  obtain ⟨meth, c, X, hb, hml, -⟩ := G.stand C M (d := 1) (w := cats S + 40) (G.room2 hR)
  subst hb
  obtain ⟨cl, A, ev, ov⟩ := G.hp.1 _ hm
  have hsz : cl.slots.size = vs.length := by rw [← ev]; simp
  have FC : FitC (kZ κ) cl := fitC_of A fun i hi v hv => fv v (by rw [← ev]; exact Array.mem_toList_iff.mpr (Array.mem_of_getElem? hv))
  obtain ⟨T', h', X', e', E, A', EB, st⟩ := cloneA X C.exec G.warm (G.own M) w1 w2 w3 w4 w5 w6 rfl A (ov.2 rfl rfl) FC (g := mkF (mid κ y) pc L.toArray (.ref a :: S)) rfl (by show L.toArray.size = c.maxLocals; rw [hml]; simp) rfl hd (Nat.le_refl 1) (W := cats S) (by show 2 * 0 + cats S ≤ _; omega) (by show _ ≤ cats S + 40; omega) (cap := vs.length) (Nat.le_of_eq hsz) (by show 0 + 1 ≤ (kR κ).cells - k; omega) (by show 0 + vs.length ≤ (kR κ).slots - n; omega)
  have B := G.warmed C X'
  have B2 : CHr (kZ κ) (kE κ) T.vm T.heap T'.vm h' := B.trans (CHr.ext E B.1)
  subst e'
  have hx : Holds κ T'.heap (T.heap.size, true, .inr (.byte, vs)) := ⟨_, A', ev, (fun D h => by cases h), fun _ _ => EB⟩
  have hS : Safe (kZ κ) (kE κ) T'.vm T'.heap T.heap.size := fun Bk => by
    have q := (B.1.step fun _ _ _ q => E.2 _ _ q).2 _ Bk
    obtain ⟨cell, hcell⟩ := q.there
    exact absurd (Array.getElem?_eq_some_iff.mp hcell).1 (Nat.lt_irrefl _)
  simp only [Nat.zero_add] at X'
  exact G.go st (K _ _ (G.next X' nolocs hk hn rfl B2.1 (Hp.new E B2 G.hp G.size hx hS)))
theorem wp_castB (C : Ok κ) (M : Meth κ y bytes mx rt) {ix : Nat} (hd : decode bytes pc = .ok (.checkcast ix, 3)) (w : Wd κ (.classLink y.cls ix "[B")) {vs : List Value} (hm : (a, true, .inr (.byte, vs)) ∈ l)
    (K : WP κ y (pc + 3) L (.ref a :: S) F l k n) : WP κ y pc L (.ref a :: S) F l k n := fun T G => by
  obtain ⟨meth, c, X, hb, -⟩ := G.stand C M (d := 0) (w := 0) G.room
  subst hb
  obtain ⟨cl, A, ev, ov⟩ := G.hp.1 _ hm
  obtain ⟨T', X', e', st⟩ := castY X C.exec G.warm (G.own M) w rfl (Ins.self (ov.2 rfl rfl)) (g := mkF (mid κ y) pc L.toArray (.ref a :: S)) rfl rfl hd
  have B := G.warmed C X'
  exact G.go st (K _ (G.next X' nolocs G.cells G.slots rfl (e' ▸ B.1) (e' ▸ G.hp.warm B)))
end R
theorem sbl_full (us : List UInt8) : sbl us us.length = us := by simp [sbl]
theorem sbl_grow {us : List UInt8} {cap cap2 : Nat} (h : us.length ≤ cap) (h2 : cap ≤ cap2) : ((List.replicate cap2 (0 : UInt8)).map byv).take 0 ++ (((sbl us cap).map byv).drop 0).take cap ++ ((List.replicate cap2 (0 : UInt8)).map byv).drop (0 + cap) = (sbl us cap2).map byv := by
  rw [List.take_zero, List.nil_append, List.drop_zero, List.take_of_length_le (by simp [sbl_len h]), Nat.zero_add, ← List.map_drop, ← List.map_append, List.drop_replicate]
  congr 1
  unfold sbl
  rw [List.append_assoc, List.replicate_append_replicate]
  congr 2
  omega
end Jvm.WK
namespace Jvm.WK
open Sem ClassFile Op Lib Jvm.Stand Jvm.Free Jvm.LawKit Jvm.RoadKit
def lowB (u : UInt8) : UInt8 := if (65 ≤ u.toNat ∧ u.toNat ≤ 90) ∨ (192 ≤ u.toNat ∧ u.toNat ≤ 222 ∧ u.toNat ≠ 215) then u + 32 else u
def jlI (c : Int32) : Int32 := if c < 65 then c else if 122 < (c ||| 32) then (if (c ||| 32) < 224 then c else if 254 < (c ||| 32) then c else if (c ||| 32) = 247 then c else (c ||| 32)) else (c ||| 32)
def lw2 (c : Int32) : Int32 := if c < 192 then c else if 222 < c then c else if c = 215 then c else i2c (c + 32)
def lwI (c : Int32) : Int32 := if c < 65 then lw2 c else if 90 < c then lw2 c else i2c (c + 32)
theorem jl_eq (u : UInt8) : jlI (ch8 u) = ch8 (lowB u) := ch8_all (P := fun u => jlI (ch8 u) = ch8 (lowB u)) (by decide +kernel) u
theorem lw_eq (u : UInt8) : lwI (ch8 u) = ch8 (lowB u) := ch8_all (P := fun u => lwI (ch8 u) = ch8 (lowB u)) (by decide +kernel) u
theorem lw_get {us : List UInt8} {i : Nat} (h : i < us.length) : (us.map lowB).getD i 0 = lowB (us.getD i 0) := by simp [h]
theorem low_same {us : List UInt8} (h : ∀ j, j < us.length → lowB (us.getD j 0) = us.getD j 0) : us.map lowB = us := by
  apply List.ext_getElem (by simp)
  intro i h1 h2
  have q := h i h2
  simp only [List.getElem_map]
  simpa [h2] using q
theorem low_take {us : List UInt8} {f : Nat} (hf : f ≤ us.length) (h : ∀ j, j < f → lowB (us.getD j 0) = us.getD j 0) : (us.map lowB).take f = us.take f := by
  rw [← List.map_take]
  apply low_same
  intro j hj
  have hj' : j < f := by simp at hj; omega
  have q := h j hj'
  have e : (us.take f).getD j 0 = us.getD j 0 := by simp [List.getElem?_take, hj']
  rw [e]; exact q
theorem low_cp {us : List UInt8} {f : Nat} (hf : f ≤ us.length) (h : ∀ j, j < f → lowB (us.getD j 0) = us.getD j 0) : ((List.replicate us.length (0 : UInt8)).map byv).take 0 ++ ((us.map byv).drop 0).take f ++ ((List.replicate us.length (0 : UInt8)).map byv).drop (0 + f) = part byv (.int 0) (us.map lowB) f := by
  unfold part
  rw [low_take hf h, List.take_zero, List.nil_append, List.drop_zero, Nat.zero_add, ← List.map_drop, List.drop_replicate, List.map_take, ← byte0, List.length_map]
theorem lt_i2c32 (u : UInt8) : i2c (ch8 u) = ch8 u := ch8_i2c u
end Jvm.WK
namespace Jvm.WK
open Sem ClassFile Op Lib Jvm.Stand Jvm.Free Jvm.LawKit Jvm.RoadKit
theorem eqi_v {t : Term} {args : Array Value} {first : State} {o : Option Outcome} {s : State} {idx : List Nat} {z : Int32} (h : (Cond.eq t (.int z)).value args first o s idx = some true) : t.eval args first o idx s = some (.int z) := by
  simp only [Cond.value, Term.eval] at h
  cases ht : t.eval args first o idx s with
  | none => simp [ht] at h
  | some x => cases x <;> simp [ht] at h ⊢; exact h
theorem len0_v {t : Term} {args : Array Value} {Z : State} {a : Addr} {c : Cell} {ty : FieldType} (ev : t.eval args Z none [] Z = some (.ref a)) (A : Arr Z Z.heap a c ty) (h : (Cond.eq (.length t) (.int 0)).value args Z none Z [] = some true) : c.slots.toList = ([] : List UInt8).map byv := by
  have q := eqi_v h
  have e : Z.arrayAt? a = some c := Arr.fin (Vm.Alike.refl _) A
  simp only [Term.eval, ev, e, Option.bind_eq_bind, Option.bind_some] at q
  split at q
  · rename_i hl
    have q2 : c.slots.size.toInt32 = 0 := by injection q with q; injection q
    have : c.slots.size = 0 := (eq32 (b := 0) hl (by decide)).mp q2
    simp [Array.size_eq_zero_iff.mp this]
  · cases q
end Jvm.WK
namespace Jvm.Pilot.@@N@@
open Jvm Jvm.ClassFile Sem Op Lib Jvm.Free Jvm.Stand Jvm.LawKit Jvm.RoadKit Jvm.WK
def Ws (κ : Cx) : Prop := ∀ d ∈ (Jvm.Cond.code x code maxLocals ret :: tables_1), Wd κ d
section Words
variable {κ : Cx}
abbrev y0 : MethodName := ⟨"com/example/stringline/derive/DerivationPackageOfPinLaw", "law", "(IIII)Z"⟩
abbrev y1 : MethodName := ⟨"java/lang/String", "coder", "()B"⟩
abbrev y2 : MethodName := ⟨"java/lang/String", "length", "()I"⟩
abbrev y3 : MethodName := ⟨"java/lang/String", "isLatin1", "()Z"⟩
abbrev y4 : MethodName := ⟨"java/lang/StringUTF16", "compress", "([CI[BII)I"⟩
abbrev y5 : MethodName := ⟨"java/lang/StringUTF16", "compress", "([CII)[B"⟩
abbrev y6 : MethodName := ⟨"java/lang/StringUTF16", "coderFromArrayLen", "([BI)B"⟩
abbrev y7 : MethodName := ⟨"java/lang/String", "<init>", "([CIILjava/lang/Void;)V"⟩
abbrev y8 : MethodName := ⟨"java/lang/String", "<init>", "([C)V"⟩
abbrev y9 : MethodName := ⟨"java/lang/Math", "max", "(II)I"⟩
abbrev y10 : MethodName := ⟨"java/lang/Math", "min", "(II)I"⟩
abbrev y11 : MethodName := ⟨"java/util/Arrays", "checkLength", "(II)V"⟩
abbrev y12 : MethodName := ⟨"java/util/Arrays", "copyOfRangeByte", "([BII)[B"⟩
abbrev y13 : MethodName := ⟨"java/util/Arrays", "copyOfRange", "([BII)[B"⟩
abbrev y14 : MethodName := ⟨"java/lang/String", "<init>", "([BB)V"⟩
abbrev y15 : MethodName := ⟨"java/lang/StringLatin1", "equals", "([B[B)Z"⟩
abbrev y16 : MethodName := ⟨"java/lang/String", "equals", "(Ljava/lang/Object;)Z"⟩
abbrev y17 : MethodName := ⟨"java/lang/AbstractStringBuilder", "<init>", "(I)V"⟩
abbrev y18 : MethodName := ⟨"java/lang/StringBuilder", "<init>", "()V"⟩
abbrev y19 : MethodName := ⟨"java/lang/AbstractStringBuilder", "ensureCapacityInternal", "(I)V"⟩
abbrev y20 : MethodName := ⟨"java/lang/AbstractStringBuilder", "isLatin1", "()Z"⟩
abbrev y21 : MethodName := ⟨"java/lang/AbstractStringBuilder", "inflateIfNeededFor", "(Ljava/lang/String;)V"⟩
abbrev y22 : MethodName := ⟨"java/lang/String", "getBytes", "([BIB)V"⟩
abbrev y23 : MethodName := ⟨"java/lang/AbstractStringBuilder", "putStringAt", "(ILjava/lang/String;)V"⟩
abbrev y24 : MethodName := ⟨"java/lang/AbstractStringBuilder", "append", "(Ljava/lang/String;)Ljava/lang/AbstractStringBuilder;"⟩
abbrev y25 : MethodName := ⟨"java/lang/StringBuilder", "append", "(Ljava/lang/String;)Ljava/lang/StringBuilder;"⟩
abbrev y26 : MethodName := ⟨"java/lang/AbstractStringBuilder", "getValue", "()[B"⟩
abbrev y27 : MethodName := ⟨"java/lang/AbstractStringBuilder", "length", "()I"⟩
abbrev y28 : MethodName := ⟨"java/lang/StringBuilder", "length", "()I"⟩
abbrev y29 : MethodName := ⟨"java/lang/String", "<init>", "(Ljava/lang/AbstractStringBuilder;Ljava/lang/Void;)V"⟩
abbrev y30 : MethodName := ⟨"java/lang/String", "<init>", "(Ljava/lang/StringBuilder;)V"⟩
abbrev y31 : MethodName := ⟨"java/lang/StringBuilder", "toString", "()Ljava/lang/String;"⟩
abbrev y32 : MethodName := ⟨"jdk/internal/util/ArraysSupport", "newLength", "(III)I"⟩
abbrev y33 : MethodName := ⟨"java/lang/AbstractStringBuilder", "newCapacity", "(I)I"⟩
abbrev y34 : MethodName := ⟨"java/util/Arrays", "copyOf", "([BI)[B"⟩
abbrev y35 : MethodName := ⟨"java/lang/StringLatin1", "canEncode", "(I)Z"⟩
abbrev y36 : MethodName := ⟨"com/example/stringline/derive/DerivationPackageOfPinLaw", "lower", "(C)C"⟩
abbrev y37 : MethodName := ⟨"java/lang/CharacterDataLatin1", "toLowerCase", "(I)I"⟩
abbrev y38 : MethodName := ⟨"sun/util/locale/BaseLocale", "getLanguage", "()Ljava/lang/String;"⟩
abbrev y39 : MethodName := ⟨"java/util/Locale", "getLanguage", "()Ljava/lang/String;"⟩
abbrev y40 : MethodName := ⟨"java/lang/StringLatin1", "toLowerCase", "(Ljava/lang/String;[BLjava/util/Locale;)Ljava/lang/String;"⟩
abbrev y41 : MethodName := ⟨"java/lang/String", "toLowerCase", "(Ljava/util/Locale;)Ljava/lang/String;"⟩
abbrev y42 : MethodName := ⟨"com/example/stringline/derive/Derivation", "packageOf", "(Ljava/lang/String;)Ljava/lang/String;"⟩
theorem w1 (hw : Ws κ) : Wd κ (Jvm.Cond.stringLink "com/example/stringline/derive/DerivationPackageOfPinLaw" (7 : Nat) "com.example.stringline.stringline.bidi") := hw _ (List.mem_of_getElem? (i := 1) rfl)
theorem w2 (hw : Ws κ) : Wd κ (Jvm.Cond.initialized "java/lang/String") := hw _ (List.mem_of_getElem? (i := 2) rfl)
theorem w3 (hw : Ws κ) : Wd κ (Jvm.Cond.instantiable "java/lang/String" (4 : Nat)) := hw _ (List.mem_of_getElem? (i := 3) rfl)
theorem w4 (hw : Ws κ) : Wd κ (Jvm.Cond.arrayClass Jvm.ClassFile.FieldType.byte) := hw _ (List.mem_of_getElem? (i := 4) rfl)
theorem w5 (hw : Ws κ) : Wd κ (Jvm.Cond.laysFinal "java/lang/String" "java/lang/String" "value" "[B") := hw _ (List.mem_of_getElem? (i := 5) rfl)
theorem w6 (hw : Ws κ) : Wd κ (Jvm.Cond.laysFinal "java/lang/String" "java/lang/String" "coder" "B") := hw _ (List.mem_of_getElem? (i := 6) rfl)
theorem w7 (hw : Ws κ) : Wd κ (Jvm.Cond.soleField "java/lang/String" "value") := hw _ (List.mem_of_getElem? (i := 7) rfl)
theorem w8 (hw : Ws κ) : Wd κ (Jvm.Cond.soleField "java/lang/String" "coder") := hw _ (List.mem_of_getElem? (i := 8) rfl)
theorem w9 (hw : Ws κ) : Wd κ (Jvm.Cond.methodLink "com/example/stringline/derive/DerivationPackageOfPinLaw" (9 : Nat) ({ cls := "com/example/stringline/derive/Derivation", name := "packageOf", desc := "(Ljava/lang/String;)Ljava/lang/String;" } : Jvm.MethodName)) := hw _ (List.mem_of_getElem? (i := 9) rfl)
theorem w10 (hw : Ws κ) : Wd κ (Jvm.Cond.static ({ cls := "com/example/stringline/derive/Derivation", name := "packageOf", desc := "(Ljava/lang/String;)Ljava/lang/String;" } : Jvm.MethodName)) := hw _ (List.mem_of_getElem? (i := 10) rfl)
theorem w11 (hw : Ws κ) : Wd κ (Jvm.Cond.initialized "com/example/stringline/derive/Derivation") := hw _ (List.mem_of_getElem? (i := 11) rfl)
theorem w13 (hw : Ws κ) : Wd κ (Jvm.Cond.stringLink "com/example/stringline/derive/Derivation" (157 : Nat) "com.example.stringline.stringline.bidi") := hw _ (List.mem_of_getElem? (i := 13) rfl)
theorem w14 (hw : Ws κ) : Wd κ (Jvm.Cond.methodLink "com/example/stringline/derive/DerivationPackageOfPinLaw" (15 : Nat) ({ cls := "java/lang/String", name := "equals", desc := "(Ljava/lang/Object;)Z" } : Jvm.MethodName)) := hw _ (List.mem_of_getElem? (i := 14) rfl)
theorem w15 (hw : Ws κ) : Wd κ (Jvm.Cond.declares ({ cls := "java/lang/String", name := "equals", desc := "(Ljava/lang/Object;)Z" } : Jvm.MethodName)) := hw _ (List.mem_of_getElem? (i := 15) rfl)
theorem w16 (hw : Ws κ) : Wd κ (Jvm.Cond.instanceMethod ({ cls := "java/lang/String", name := "equals", desc := "(Ljava/lang/Object;)Z" } : Jvm.MethodName)) := hw _ (List.mem_of_getElem? (i := 16) rfl)
theorem w17 (hw : Ws κ) : Wd κ (Jvm.Cond.selects "java/lang/String" ({ cls := "java/lang/String", name := "equals", desc := "(Ljava/lang/Object;)Z" } : Jvm.MethodName) ({ cls := "java/lang/String", name := "equals", desc := "(Ljava/lang/Object;)Z" } : Jvm.MethodName)) := hw _ (List.mem_of_getElem? (i := 17) rfl)
theorem w19 (hw : Ws κ) : Wd κ (Jvm.Cond.arrayClass Jvm.ClassFile.FieldType.char) := hw _ (List.mem_of_getElem? (i := 19) rfl)
theorem w20 (hw : Ws κ) : Wd κ (Jvm.Cond.classLink "com/example/stringline/derive/DerivationPackageOfPinLaw" (16 : Nat) "java/lang/String") := hw _ (List.mem_of_getElem? (i := 20) rfl)
theorem w21 (hw : Ws κ) : Wd κ (Jvm.Cond.methodLink "com/example/stringline/derive/DerivationPackageOfPinLaw" (25 : Nat) ({ cls := "java/lang/String", name := "<init>", desc := "([C)V" } : Jvm.MethodName)) := hw _ (List.mem_of_getElem? (i := 21) rfl)
theorem w22 (hw : Ws κ) : Wd κ (Jvm.Cond.instanceMethod ({ cls := "java/lang/String", name := "<init>", desc := "([C)V" } : Jvm.MethodName)) := hw _ (List.mem_of_getElem? (i := 22) rfl)
theorem w24 (hw : Ws κ) : Wd κ (Jvm.Cond.methodLink "java/lang/String" (27 : Nat) ({ cls := "java/lang/String", name := "<init>", desc := "([CIILjava/lang/Void;)V" } : Jvm.MethodName)) := hw _ (List.mem_of_getElem? (i := 24) rfl)
theorem w25 (hw : Ws κ) : Wd κ (Jvm.Cond.instanceMethod ({ cls := "java/lang/String", name := "<init>", desc := "([CIILjava/lang/Void;)V" } : Jvm.MethodName)) := hw _ (List.mem_of_getElem? (i := 25) rfl)
theorem w28 (hw : Ws κ) : Wd κ (Jvm.Cond.methodLink "java/lang/String" (1 : Nat) ({ cls := "java/lang/Object", name := "<init>", desc := "()V" } : Jvm.MethodName)) := hw _ (List.mem_of_getElem? (i := 28) rfl)
theorem w29 (hw : Ws κ) : Wd κ (Jvm.Cond.instanceMethod ({ cls := "java/lang/Object", name := "<init>", desc := "()V" } : Jvm.MethodName)) := hw _ (List.mem_of_getElem? (i := 29) rfl)
theorem w30 (hw : Ws κ) : Wd κ (Jvm.Cond.code ({ cls := "java/lang/Object", name := "<init>", desc := "()V" } : Jvm.MethodName) object_method_1_code (1 : Nat) (Option.none : Option Jvm.ClassFile.FieldType)) := hw _ (List.mem_of_getElem? (i := 30) rfl)
theorem w31 (hw : Ws κ) : Wd κ (Jvm.Cond.fieldLink "java/lang/String" (38 : Nat) "java/lang/String" "COMPACT_STRINGS" "Z") := hw _ (List.mem_of_getElem? (i := 31) rfl)
theorem w32 (hw : Ws κ) : Wd κ (Jvm.Cond.methodLink "java/lang/String" (177 : Nat) ({ cls := "java/lang/StringUTF16", name := "compress", desc := "([CII)[B" } : Jvm.MethodName)) := hw _ (List.mem_of_getElem? (i := 32) rfl)
theorem w33 (hw : Ws κ) : Wd κ (Jvm.Cond.static ({ cls := "java/lang/StringUTF16", name := "compress", desc := "([CII)[B" } : Jvm.MethodName)) := hw _ (List.mem_of_getElem? (i := 33) rfl)
theorem w34 (hw : Ws κ) : Wd κ (Jvm.Cond.initialized "java/lang/StringUTF16") := hw _ (List.mem_of_getElem? (i := 34) rfl)
theorem w36 (hw : Ws κ) : Wd κ (Jvm.Cond.methodLink "java/lang/StringUTF16" (115 : Nat) ({ cls := "java/lang/StringUTF16", name := "compress", desc := "([CI[BII)I" } : Jvm.MethodName)) := hw _ (List.mem_of_getElem? (i := 36) rfl)
theorem w37 (hw : Ws κ) : Wd κ (Jvm.Cond.static ({ cls := "java/lang/StringUTF16", name := "compress", desc := "([CI[BII)I" } : Jvm.MethodName)) := hw _ (List.mem_of_getElem? (i := 37) rfl)
theorem w39 (hw : Ws κ) : Wd κ (Jvm.Cond.methodLink "java/lang/String" (47 : Nat) ({ cls := "java/lang/StringUTF16", name := "coderFromArrayLen", desc := "([BI)B" } : Jvm.MethodName)) := hw _ (List.mem_of_getElem? (i := 39) rfl)
theorem w40 (hw : Ws κ) : Wd κ (Jvm.Cond.static ({ cls := "java/lang/StringUTF16", name := "coderFromArrayLen", desc := "([BI)B" } : Jvm.MethodName)) := hw _ (List.mem_of_getElem? (i := 40) rfl)
theorem w42 (hw : Ws κ) : Wd κ (Jvm.Cond.fieldLink "java/lang/String" (15 : Nat) "java/lang/String" "coder" "B") := hw _ (List.mem_of_getElem? (i := 42) rfl)
theorem w43 (hw : Ws κ) : Wd κ (Jvm.Cond.fieldLink "java/lang/String" (9 : Nat) "java/lang/String" "value" "[B") := hw _ (List.mem_of_getElem? (i := 43) rfl)
theorem w44 (hw : Ws κ) : Wd κ (Jvm.Cond.classLink "com/example/stringline/derive/Derivation" (94 : Nat) "java/lang/StringBuilder") := hw _ (List.mem_of_getElem? (i := 44) rfl)
theorem w45 (hw : Ws κ) : Wd κ (Jvm.Cond.instantiable "java/lang/StringBuilder" (4 : Nat)) := hw _ (List.mem_of_getElem? (i := 45) rfl)
theorem w46 (hw : Ws κ) : Wd κ (Jvm.Cond.initialized "java/lang/StringBuilder") := hw _ (List.mem_of_getElem? (i := 46) rfl)
theorem w47 (hw : Ws κ) : Wd κ (Jvm.Cond.methodLink "com/example/stringline/derive/Derivation" (96 : Nat) ({ cls := "java/lang/StringBuilder", name := "<init>", desc := "()V" } : Jvm.MethodName)) := hw _ (List.mem_of_getElem? (i := 47) rfl)
theorem w48 (hw : Ws κ) : Wd κ (Jvm.Cond.instanceMethod ({ cls := "java/lang/StringBuilder", name := "<init>", desc := "()V" } : Jvm.MethodName)) := hw _ (List.mem_of_getElem? (i := 48) rfl)
theorem w50 (hw : Ws κ) : Wd κ (Jvm.Cond.methodLink "java/lang/StringBuilder" (1 : Nat) ({ cls := "java/lang/AbstractStringBuilder", name := "<init>", desc := "(I)V" } : Jvm.MethodName)) := hw _ (List.mem_of_getElem? (i := 50) rfl)
theorem w51 (hw : Ws κ) : Wd κ (Jvm.Cond.instanceMethod ({ cls := "java/lang/AbstractStringBuilder", name := "<init>", desc := "(I)V" } : Jvm.MethodName)) := hw _ (List.mem_of_getElem? (i := 51) rfl)
theorem w56 (hw : Ws κ) : Wd κ (Jvm.Cond.methodLink "java/lang/AbstractStringBuilder" (3 : Nat) ({ cls := "java/lang/Object", name := "<init>", desc := "()V" } : Jvm.MethodName)) := hw _ (List.mem_of_getElem? (i := 56) rfl)
theorem w57 (hw : Ws κ) : Wd κ (Jvm.Cond.fieldLink "java/lang/AbstractStringBuilder" (18 : Nat) "java/lang/String" "COMPACT_STRINGS" "Z") := hw _ (List.mem_of_getElem? (i := 57) rfl)
theorem w58 (hw : Ws κ) : Wd κ (Jvm.Cond.fieldLink "java/lang/AbstractStringBuilder" (15 : Nat) "java/lang/AbstractStringBuilder" "value" "[B") := hw _ (List.mem_of_getElem? (i := 58) rfl)
theorem w59 (hw : Ws κ) : Wd κ (Jvm.Cond.lays "java/lang/StringBuilder" "java/lang/AbstractStringBuilder" "value" "[B") := hw _ (List.mem_of_getElem? (i := 59) rfl)
theorem w60 (hw : Ws κ) : Wd κ (Jvm.Cond.fieldLink "java/lang/AbstractStringBuilder" (22 : Nat) "java/lang/AbstractStringBuilder" "coder" "B") := hw _ (List.mem_of_getElem? (i := 60) rfl)
theorem w61 (hw : Ws κ) : Wd κ (Jvm.Cond.lays "java/lang/StringBuilder" "java/lang/AbstractStringBuilder" "coder" "B") := hw _ (List.mem_of_getElem? (i := 61) rfl)
theorem w62 (hw : Ws κ) : Wd κ (Jvm.Cond.stringLink "com/example/stringline/derive/Derivation" (159 : Nat) "com.example.stringline.stringline.bidi.") := hw _ (List.mem_of_getElem? (i := 62) rfl)
theorem w63 (hw : Ws κ) : Wd κ (Jvm.Cond.methodLink "com/example/stringline/derive/Derivation" (97 : Nat) ({ cls := "java/lang/StringBuilder", name := "append", desc := "(Ljava/lang/String;)Ljava/lang/StringBuilder;" } : Jvm.MethodName)) := hw _ (List.mem_of_getElem? (i := 63) rfl)
theorem w64 (hw : Ws κ) : Wd κ (Jvm.Cond.declares ({ cls := "java/lang/StringBuilder", name := "append", desc := "(Ljava/lang/String;)Ljava/lang/StringBuilder;" } : Jvm.MethodName)) := hw _ (List.mem_of_getElem? (i := 64) rfl)
theorem w65 (hw : Ws κ) : Wd κ (Jvm.Cond.instanceMethod ({ cls := "java/lang/StringBuilder", name := "append", desc := "(Ljava/lang/String;)Ljava/lang/StringBuilder;" } : Jvm.MethodName)) := hw _ (List.mem_of_getElem? (i := 65) rfl)
theorem w66 (hw : Ws κ) : Wd κ (Jvm.Cond.selects "java/lang/StringBuilder" ({ cls := "java/lang/StringBuilder", name := "append", desc := "(Ljava/lang/String;)Ljava/lang/StringBuilder;" } : Jvm.MethodName) ({ cls := "java/lang/StringBuilder", name := "append", desc := "(Ljava/lang/String;)Ljava/lang/StringBuilder;" } : Jvm.MethodName)) := hw _ (List.mem_of_getElem? (i := 66) rfl)
theorem w68 (hw : Ws κ) : Wd κ (Jvm.Cond.methodLink "java/lang/StringBuilder" (29 : Nat) ({ cls := "java/lang/AbstractStringBuilder", name := "append", desc := "(Ljava/lang/String;)Ljava/lang/AbstractStringBuilder;" } : Jvm.MethodName)) := hw _ (List.mem_of_getElem? (i := 68) rfl)
theorem w69 (hw : Ws κ) : Wd κ (Jvm.Cond.instanceMethod ({ cls := "java/lang/AbstractStringBuilder", name := "append", desc := "(Ljava/lang/String;)Ljava/lang/AbstractStringBuilder;" } : Jvm.MethodName)) := hw _ (List.mem_of_getElem? (i := 69) rfl)
theorem w70 (hw : Ws κ) : Wd κ (Jvm.Cond.superclass "java/lang/StringBuilder" "java/lang/AbstractStringBuilder") := hw _ (List.mem_of_getElem? (i := 70) rfl)
theorem w73 (hw : Ws κ) : Wd κ (Jvm.Cond.methodLink "java/lang/AbstractStringBuilder" (32 : Nat) ({ cls := "java/lang/String", name := "length", desc := "()I" } : Jvm.MethodName)) := hw _ (List.mem_of_getElem? (i := 73) rfl)
theorem w74 (hw : Ws κ) : Wd κ (Jvm.Cond.declares ({ cls := "java/lang/String", name := "length", desc := "()I" } : Jvm.MethodName)) := hw _ (List.mem_of_getElem? (i := 74) rfl)
theorem w75 (hw : Ws κ) : Wd κ (Jvm.Cond.instanceMethod ({ cls := "java/lang/String", name := "length", desc := "()I" } : Jvm.MethodName)) := hw _ (List.mem_of_getElem? (i := 75) rfl)
theorem w76 (hw : Ws κ) : Wd κ (Jvm.Cond.selects "java/lang/String" ({ cls := "java/lang/String", name := "length", desc := "()I" } : Jvm.MethodName) ({ cls := "java/lang/String", name := "length", desc := "()I" } : Jvm.MethodName)) := hw _ (List.mem_of_getElem? (i := 76) rfl)
theorem w78 (hw : Ws κ) : Wd κ (Jvm.Cond.methodLink "java/lang/String" (335 : Nat) ({ cls := "java/lang/String", name := "coder", desc := "()B" } : Jvm.MethodName)) := hw _ (List.mem_of_getElem? (i := 78) rfl)
theorem w79 (hw : Ws κ) : Wd κ (Jvm.Cond.declares ({ cls := "java/lang/String", name := "coder", desc := "()B" } : Jvm.MethodName)) := hw _ (List.mem_of_getElem? (i := 79) rfl)
theorem w80 (hw : Ws κ) : Wd κ (Jvm.Cond.instanceMethod ({ cls := "java/lang/String", name := "coder", desc := "()B" } : Jvm.MethodName)) := hw _ (List.mem_of_getElem? (i := 80) rfl)
theorem w81 (hw : Ws κ) : Wd κ (Jvm.Cond.selects "java/lang/String" ({ cls := "java/lang/String", name := "coder", desc := "()B" } : Jvm.MethodName) ({ cls := "java/lang/String", name := "coder", desc := "()B" } : Jvm.MethodName)) := hw _ (List.mem_of_getElem? (i := 81) rfl)
theorem w83 (hw : Ws κ) : Wd κ (Jvm.Cond.fieldLink "java/lang/AbstractStringBuilder" (79 : Nat) "java/lang/AbstractStringBuilder" "count" "I") := hw _ (List.mem_of_getElem? (i := 83) rfl)
theorem w84 (hw : Ws κ) : Wd κ (Jvm.Cond.lays "java/lang/StringBuilder" "java/lang/AbstractStringBuilder" "count" "I") := hw _ (List.mem_of_getElem? (i := 84) rfl)
theorem w85 (hw : Ws κ) : Wd κ (Jvm.Cond.methodLink "java/lang/AbstractStringBuilder" (100 : Nat) ({ cls := "java/lang/AbstractStringBuilder", name := "ensureCapacityInternal", desc := "(I)V" } : Jvm.MethodName)) := hw _ (List.mem_of_getElem? (i := 85) rfl)
theorem w86 (hw : Ws κ) : Wd κ (Jvm.Cond.instanceMethod ({ cls := "java/lang/AbstractStringBuilder", name := "ensureCapacityInternal", desc := "(I)V" } : Jvm.MethodName)) := hw _ (List.mem_of_getElem? (i := 86) rfl)
theorem w87 (hw : Ws κ) : Wd κ (Jvm.Cond.privateMethod ({ cls := "java/lang/AbstractStringBuilder", name := "ensureCapacityInternal", desc := "(I)V" } : Jvm.MethodName)) := hw _ (List.mem_of_getElem? (i := 87) rfl)
theorem w88 (hw : Ws κ) : Wd κ (Jvm.Cond.selects "java/lang/StringBuilder" ({ cls := "java/lang/AbstractStringBuilder", name := "ensureCapacityInternal", desc := "(I)V" } : Jvm.MethodName) ({ cls := "java/lang/AbstractStringBuilder", name := "ensureCapacityInternal", desc := "(I)V" } : Jvm.MethodName)) := hw _ (List.mem_of_getElem? (i := 88) rfl)
theorem w90 (hw : Ws κ) : Wd κ (Jvm.Cond.methodLink "java/lang/AbstractStringBuilder" (104 : Nat) ({ cls := "java/lang/AbstractStringBuilder", name := "newCapacity", desc := "(I)I" } : Jvm.MethodName)) := hw _ (List.mem_of_getElem? (i := 90) rfl)
theorem w91 (hw : Ws κ) : Wd κ (Jvm.Cond.instanceMethod ({ cls := "java/lang/AbstractStringBuilder", name := "newCapacity", desc := "(I)I" } : Jvm.MethodName)) := hw _ (List.mem_of_getElem? (i := 91) rfl)
theorem w92 (hw : Ws κ) : Wd κ (Jvm.Cond.privateMethod ({ cls := "java/lang/AbstractStringBuilder", name := "newCapacity", desc := "(I)I" } : Jvm.MethodName)) := hw _ (List.mem_of_getElem? (i := 92) rfl)
theorem w95 (hw : Ws κ) : Wd κ (Jvm.Cond.methodLink "java/lang/AbstractStringBuilder" (114 : Nat) ({ cls := "jdk/internal/util/ArraysSupport", name := "newLength", desc := "(III)I" } : Jvm.MethodName)) := hw _ (List.mem_of_getElem? (i := 95) rfl)
theorem w96 (hw : Ws κ) : Wd κ (Jvm.Cond.static ({ cls := "jdk/internal/util/ArraysSupport", name := "newLength", desc := "(III)I" } : Jvm.MethodName)) := hw _ (List.mem_of_getElem? (i := 96) rfl)
theorem w97 (hw : Ws κ) : Wd κ (Jvm.Cond.initialized "jdk/internal/util/ArraysSupport") := hw _ (List.mem_of_getElem? (i := 97) rfl)
theorem w99 (hw : Ws κ) : Wd κ (Jvm.Cond.methodLink "jdk/internal/util/ArraysSupport" (194 : Nat) ({ cls := "java/lang/Math", name := "max", desc := "(II)I" } : Jvm.MethodName)) := hw _ (List.mem_of_getElem? (i := 99) rfl)
theorem w100 (hw : Ws κ) : Wd κ (Jvm.Cond.static ({ cls := "java/lang/Math", name := "max", desc := "(II)I" } : Jvm.MethodName)) := hw _ (List.mem_of_getElem? (i := 100) rfl)
theorem w101 (hw : Ws κ) : Wd κ (Jvm.Cond.initialized "java/lang/Math") := hw _ (List.mem_of_getElem? (i := 101) rfl)
theorem w103 (hw : Ws κ) : Wd κ (Jvm.Cond.constant "jdk/internal/util/ArraysSupport" (200 : Nat) (2147483639 : Int32)) := hw _ (List.mem_of_getElem? (i := 103) rfl)
theorem w104 (hw : Ws κ) : Wd κ (Jvm.Cond.constant "java/lang/AbstractStringBuilder" (39 : Nat) (2147483647 : Int32)) := hw _ (List.mem_of_getElem? (i := 104) rfl)
theorem w105 (hw : Ws κ) : Wd κ (Jvm.Cond.methodLink "java/lang/AbstractStringBuilder" (108 : Nat) ({ cls := "java/util/Arrays", name := "copyOf", desc := "([BI)[B" } : Jvm.MethodName)) := hw _ (List.mem_of_getElem? (i := 105) rfl)
theorem w106 (hw : Ws κ) : Wd κ (Jvm.Cond.static ({ cls := "java/util/Arrays", name := "copyOf", desc := "([BI)[B" } : Jvm.MethodName)) := hw _ (List.mem_of_getElem? (i := 106) rfl)
theorem w107 (hw : Ws κ) : Wd κ (Jvm.Cond.initialized "java/util/Arrays") := hw _ (List.mem_of_getElem? (i := 107) rfl)
theorem w109 (hw : Ws κ) : Wd κ (Jvm.Cond.methodLink "java/util/Arrays" (304 : Nat) ({ cls := "java/lang/Math", name := "min", desc := "(II)I" } : Jvm.MethodName)) := hw _ (List.mem_of_getElem? (i := 109) rfl)
theorem w110 (hw : Ws κ) : Wd κ (Jvm.Cond.static ({ cls := "java/lang/Math", name := "min", desc := "(II)I" } : Jvm.MethodName)) := hw _ (List.mem_of_getElem? (i := 110) rfl)
theorem w112 (hw : Ws κ) : Wd κ (Jvm.Cond.methodLink "java/util/Arrays" (150 : Nat) ({ cls := "java/lang/System", name := "arraycopy", desc := "(Ljava/lang/Object;ILjava/lang/Object;II)V" } : Jvm.MethodName)) := hw _ (List.mem_of_getElem? (i := 112) rfl)
theorem w113 (hw : Ws κ) : Wd κ (Jvm.Cond.static ({ cls := "java/lang/System", name := "arraycopy", desc := "(Ljava/lang/Object;ILjava/lang/Object;II)V" } : Jvm.MethodName)) := hw _ (List.mem_of_getElem? (i := 113) rfl)
theorem w114 (hw : Ws κ) : Wd κ (Jvm.Cond.initialized "java/lang/System") := hw _ (List.mem_of_getElem? (i := 114) rfl)
theorem w115 (hw : Ws κ) : Wd κ (Jvm.Cond.native ({ cls := "java/lang/System", name := "arraycopy", desc := "(Ljava/lang/Object;ILjava/lang/Object;II)V" } : Jvm.MethodName)) := hw _ (List.mem_of_getElem? (i := 115) rfl)
theorem w116 (hw : Ws κ) : Wd κ (Jvm.Cond.methodLink "java/lang/AbstractStringBuilder" (208 : Nat) ({ cls := "java/lang/AbstractStringBuilder", name := "putStringAt", desc := "(ILjava/lang/String;)V" } : Jvm.MethodName)) := hw _ (List.mem_of_getElem? (i := 116) rfl)
theorem w117 (hw : Ws κ) : Wd κ (Jvm.Cond.instanceMethod ({ cls := "java/lang/AbstractStringBuilder", name := "putStringAt", desc := "(ILjava/lang/String;)V" } : Jvm.MethodName)) := hw _ (List.mem_of_getElem? (i := 117) rfl)
theorem w118 (hw : Ws κ) : Wd κ (Jvm.Cond.privateMethod ({ cls := "java/lang/AbstractStringBuilder", name := "putStringAt", desc := "(ILjava/lang/String;)V" } : Jvm.MethodName)) := hw _ (List.mem_of_getElem? (i := 118) rfl)
theorem w121 (hw : Ws κ) : Wd κ (Jvm.Cond.methodLink "java/lang/AbstractStringBuilder" (397 : Nat) ({ cls := "java/lang/AbstractStringBuilder", name := "inflateIfNeededFor", desc := "(Ljava/lang/String;)V" } : Jvm.MethodName)) := hw _ (List.mem_of_getElem? (i := 121) rfl)
theorem w122 (hw : Ws κ) : Wd κ (Jvm.Cond.instanceMethod ({ cls := "java/lang/AbstractStringBuilder", name := "inflateIfNeededFor", desc := "(Ljava/lang/String;)V" } : Jvm.MethodName)) := hw _ (List.mem_of_getElem? (i := 122) rfl)
theorem w123 (hw : Ws κ) : Wd κ (Jvm.Cond.privateMethod ({ cls := "java/lang/AbstractStringBuilder", name := "inflateIfNeededFor", desc := "(Ljava/lang/String;)V" } : Jvm.MethodName)) := hw _ (List.mem_of_getElem? (i := 123) rfl)
theorem w126 (hw : Ws κ) : Wd κ (Jvm.Cond.methodLink "java/lang/AbstractStringBuilder" (40 : Nat) ({ cls := "java/lang/String", name := "coder", desc := "()B" } : Jvm.MethodName)) := hw _ (List.mem_of_getElem? (i := 126) rfl)
theorem w127 (hw : Ws κ) : Wd κ (Jvm.Cond.methodLink "java/lang/AbstractStringBuilder" (399 : Nat) ({ cls := "java/lang/String", name := "getBytes", desc := "([BIB)V" } : Jvm.MethodName)) := hw _ (List.mem_of_getElem? (i := 127) rfl)
theorem w128 (hw : Ws κ) : Wd κ (Jvm.Cond.declares ({ cls := "java/lang/String", name := "getBytes", desc := "([BIB)V" } : Jvm.MethodName)) := hw _ (List.mem_of_getElem? (i := 128) rfl)
theorem w129 (hw : Ws κ) : Wd κ (Jvm.Cond.instanceMethod ({ cls := "java/lang/String", name := "getBytes", desc := "([BIB)V" } : Jvm.MethodName)) := hw _ (List.mem_of_getElem? (i := 129) rfl)
theorem w130 (hw : Ws κ) : Wd κ (Jvm.Cond.selects "java/lang/String" ({ cls := "java/lang/String", name := "getBytes", desc := "([BIB)V" } : Jvm.MethodName) ({ cls := "java/lang/String", name := "getBytes", desc := "([BIB)V" } : Jvm.MethodName)) := hw _ (List.mem_of_getElem? (i := 130) rfl)
theorem w132 (hw : Ws κ) : Wd κ (Jvm.Cond.methodLink "java/lang/String" (212 : Nat) ({ cls := "java/lang/System", name := "arraycopy", desc := "(Ljava/lang/Object;ILjava/lang/Object;II)V" } : Jvm.MethodName)) := hw _ (List.mem_of_getElem? (i := 132) rfl)
theorem w133 (hw : Ws κ) : Wd κ (Jvm.Cond.fieldLink "com/example/stringline/derive/Derivation" (161 : Nat) "java/util/Locale" "ROOT" "Ljava/util/Locale;") := hw _ (List.mem_of_getElem? (i := 133) rfl)
theorem w135 (hw : Ws κ) : Wd κ (Jvm.Cond.methodLink "com/example/stringline/derive/Derivation" (167 : Nat) ({ cls := "java/lang/String", name := "toLowerCase", desc := "(Ljava/util/Locale;)Ljava/lang/String;" } : Jvm.MethodName)) := hw _ (List.mem_of_getElem? (i := 135) rfl)
theorem w136 (hw : Ws κ) : Wd κ (Jvm.Cond.declares ({ cls := "java/lang/String", name := "toLowerCase", desc := "(Ljava/util/Locale;)Ljava/lang/String;" } : Jvm.MethodName)) := hw _ (List.mem_of_getElem? (i := 136) rfl)
theorem w137 (hw : Ws κ) : Wd κ (Jvm.Cond.instanceMethod ({ cls := "java/lang/String", name := "toLowerCase", desc := "(Ljava/util/Locale;)Ljava/lang/String;" } : Jvm.MethodName)) := hw _ (List.mem_of_getElem? (i := 137) rfl)
theorem w138 (hw : Ws κ) : Wd κ (Jvm.Cond.selects "java/lang/String" ({ cls := "java/lang/String", name := "toLowerCase", desc := "(Ljava/util/Locale;)Ljava/lang/String;" } : Jvm.MethodName) ({ cls := "java/lang/String", name := "toLowerCase", desc := "(Ljava/util/Locale;)Ljava/lang/String;" } : Jvm.MethodName)) := hw _ (List.mem_of_getElem? (i := 138) rfl)
theorem w140 (hw : Ws κ) : Wd κ (Jvm.Cond.methodLink "java/lang/String" (492 : Nat) ({ cls := "java/lang/String", name := "isLatin1", desc := "()Z" } : Jvm.MethodName)) := hw _ (List.mem_of_getElem? (i := 140) rfl)
theorem w141 (hw : Ws κ) : Wd κ (Jvm.Cond.declares ({ cls := "java/lang/String", name := "isLatin1", desc := "()Z" } : Jvm.MethodName)) := hw _ (List.mem_of_getElem? (i := 141) rfl)
theorem w142 (hw : Ws κ) : Wd κ (Jvm.Cond.instanceMethod ({ cls := "java/lang/String", name := "isLatin1", desc := "()Z" } : Jvm.MethodName)) := hw _ (List.mem_of_getElem? (i := 142) rfl)
theorem w143 (hw : Ws κ) : Wd κ (Jvm.Cond.selects "java/lang/String" ({ cls := "java/lang/String", name := "isLatin1", desc := "()Z" } : Jvm.MethodName) ({ cls := "java/lang/String", name := "isLatin1", desc := "()Z" } : Jvm.MethodName)) := hw _ (List.mem_of_getElem? (i := 143) rfl)
theorem w145 (hw : Ws κ) : Wd κ (Jvm.Cond.methodLink "java/lang/String" (839 : Nat) ({ cls := "java/lang/StringLatin1", name := "toLowerCase", desc := "(Ljava/lang/String;[BLjava/util/Locale;)Ljava/lang/String;" } : Jvm.MethodName)) := hw _ (List.mem_of_getElem? (i := 145) rfl)
theorem w146 (hw : Ws κ) : Wd κ (Jvm.Cond.static ({ cls := "java/lang/StringLatin1", name := "toLowerCase", desc := "(Ljava/lang/String;[BLjava/util/Locale;)Ljava/lang/String;" } : Jvm.MethodName)) := hw _ (List.mem_of_getElem? (i := 146) rfl)
theorem w147 (hw : Ws κ) : Wd κ (Jvm.Cond.initialized "java/lang/StringLatin1") := hw _ (List.mem_of_getElem? (i := 147) rfl)
theorem w149 (hw : Ws κ) : Wd κ (Jvm.Cond.fieldLink "java/lang/StringLatin1" (66 : Nat) "java/lang/CharacterDataLatin1" "instance" "Ljava/lang/CharacterDataLatin1;") := hw _ (List.mem_of_getElem? (i := 149) rfl)
theorem w151 (hw : Ws κ) : Wd κ (Jvm.Cond.methodLink "java/lang/StringLatin1" (160 : Nat) ({ cls := "java/lang/CharacterDataLatin1", name := "toLowerCase", desc := "(I)I" } : Jvm.MethodName)) := hw _ (List.mem_of_getElem? (i := 151) rfl)
theorem w152 (hw : Ws κ) : Wd κ (Jvm.Cond.declares ({ cls := "java/lang/CharacterDataLatin1", name := "toLowerCase", desc := "(I)I" } : Jvm.MethodName)) := hw _ (List.mem_of_getElem? (i := 152) rfl)
theorem w153 (hw : Ws κ) : Wd κ (Jvm.Cond.instanceMethod ({ cls := "java/lang/CharacterDataLatin1", name := "toLowerCase", desc := "(I)I" } : Jvm.MethodName)) := hw _ (List.mem_of_getElem? (i := 153) rfl)
theorem w154 (hw : Ws κ) : Wd κ (Jvm.Cond.selects "java/lang/CharacterDataLatin1" ({ cls := "java/lang/CharacterDataLatin1", name := "toLowerCase", desc := "(I)I" } : Jvm.MethodName) ({ cls := "java/lang/CharacterDataLatin1", name := "toLowerCase", desc := "(I)I" } : Jvm.MethodName)) := hw _ (List.mem_of_getElem? (i := 154) rfl)
theorem w156 (hw : Ws κ) : Wd κ (Jvm.Cond.methodLink "java/lang/StringLatin1" (162 : Nat) ({ cls := "java/util/Locale", name := "getLanguage", desc := "()Ljava/lang/String;" } : Jvm.MethodName)) := hw _ (List.mem_of_getElem? (i := 156) rfl)
theorem w157 (hw : Ws κ) : Wd κ (Jvm.Cond.declares ({ cls := "java/util/Locale", name := "getLanguage", desc := "()Ljava/lang/String;" } : Jvm.MethodName)) := hw _ (List.mem_of_getElem? (i := 157) rfl)
theorem w158 (hw : Ws κ) : Wd κ (Jvm.Cond.instanceMethod ({ cls := "java/util/Locale", name := "getLanguage", desc := "()Ljava/lang/String;" } : Jvm.MethodName)) := hw _ (List.mem_of_getElem? (i := 158) rfl)
theorem w159 (hw : Ws κ) : Wd κ (Jvm.Cond.selects "java/util/Locale" ({ cls := "java/util/Locale", name := "getLanguage", desc := "()Ljava/lang/String;" } : Jvm.MethodName) ({ cls := "java/util/Locale", name := "getLanguage", desc := "()Ljava/lang/String;" } : Jvm.MethodName)) := hw _ (List.mem_of_getElem? (i := 159) rfl)
theorem w161 (hw : Ws κ) : Wd κ (Jvm.Cond.fieldLink "java/util/Locale" (28 : Nat) "java/util/Locale" "baseLocale" "Lsun/util/locale/BaseLocale;") := hw _ (List.mem_of_getElem? (i := 161) rfl)
theorem w163 (hw : Ws κ) : Wd κ (Jvm.Cond.methodLink "java/util/Locale" (293 : Nat) ({ cls := "sun/util/locale/BaseLocale", name := "getLanguage", desc := "()Ljava/lang/String;" } : Jvm.MethodName)) := hw _ (List.mem_of_getElem? (i := 163) rfl)
theorem w164 (hw : Ws κ) : Wd κ (Jvm.Cond.declares ({ cls := "sun/util/locale/BaseLocale", name := "getLanguage", desc := "()Ljava/lang/String;" } : Jvm.MethodName)) := hw _ (List.mem_of_getElem? (i := 164) rfl)
theorem w165 (hw : Ws κ) : Wd κ (Jvm.Cond.instanceMethod ({ cls := "sun/util/locale/BaseLocale", name := "getLanguage", desc := "()Ljava/lang/String;" } : Jvm.MethodName)) := hw _ (List.mem_of_getElem? (i := 165) rfl)
theorem w166 (hw : Ws κ) : Wd κ (Jvm.Cond.selects "sun/util/locale/BaseLocale" ({ cls := "sun/util/locale/BaseLocale", name := "getLanguage", desc := "()Ljava/lang/String;" } : Jvm.MethodName) ({ cls := "sun/util/locale/BaseLocale", name := "getLanguage", desc := "()Ljava/lang/String;" } : Jvm.MethodName)) := hw _ (List.mem_of_getElem? (i := 166) rfl)
theorem w169 (hw : Ws κ) : Wd κ (Jvm.Cond.fieldLink "sun/util/locale/BaseLocale" (19 : Nat) "sun/util/locale/BaseLocale" "language" "Ljava/lang/String;") := hw _ (List.mem_of_getElem? (i := 169) rfl)
theorem w171 (hw : Ws κ) : Wd κ (Jvm.Cond.stringLink "java/lang/StringLatin1" (168 : Nat) "tr") := hw _ (List.mem_of_getElem? (i := 171) rfl)
theorem w172 (hw : Ws κ) : Wd κ (Jvm.Cond.stringLink "java/lang/StringLatin1" (170 : Nat) "az") := hw _ (List.mem_of_getElem? (i := 172) rfl)
theorem w173 (hw : Ws κ) : Wd κ (Jvm.Cond.stringLink "java/lang/StringLatin1" (172 : Nat) "lt") := hw _ (List.mem_of_getElem? (i := 173) rfl)
theorem w174 (hw : Ws κ) : Wd κ (Jvm.Cond.methodLink "java/lang/StringLatin1" (28 : Nat) ({ cls := "java/lang/System", name := "arraycopy", desc := "(Ljava/lang/Object;ILjava/lang/Object;II)V" } : Jvm.MethodName)) := hw _ (List.mem_of_getElem? (i := 174) rfl)
theorem w175 (hw : Ws κ) : Wd κ (Jvm.Cond.methodLink "java/lang/StringLatin1" (88 : Nat) ({ cls := "java/lang/StringLatin1", name := "canEncode", desc := "(I)Z" } : Jvm.MethodName)) := hw _ (List.mem_of_getElem? (i := 175) rfl)
theorem w176 (hw : Ws κ) : Wd κ (Jvm.Cond.static ({ cls := "java/lang/StringLatin1", name := "canEncode", desc := "(I)Z" } : Jvm.MethodName)) := hw _ (List.mem_of_getElem? (i := 176) rfl)
theorem w178 (hw : Ws κ) : Wd κ (Jvm.Cond.classLink "java/lang/StringLatin1" (1 : Nat) "java/lang/String") := hw _ (List.mem_of_getElem? (i := 178) rfl)
theorem w179 (hw : Ws κ) : Wd κ (Jvm.Cond.methodLink "java/lang/StringLatin1" (112 : Nat) ({ cls := "java/lang/String", name := "<init>", desc := "([BB)V" } : Jvm.MethodName)) := hw _ (List.mem_of_getElem? (i := 179) rfl)
theorem w180 (hw : Ws κ) : Wd κ (Jvm.Cond.instanceMethod ({ cls := "java/lang/String", name := "<init>", desc := "([BB)V" } : Jvm.MethodName)) := hw _ (List.mem_of_getElem? (i := 180) rfl)
theorem w182 (hw : Ws κ) : Wd κ (Jvm.Cond.methodLink "com/example/stringline/derive/Derivation" (103 : Nat) ({ cls := "java/lang/StringBuilder", name := "toString", desc := "()Ljava/lang/String;" } : Jvm.MethodName)) := hw _ (List.mem_of_getElem? (i := 182) rfl)
theorem w183 (hw : Ws κ) : Wd κ (Jvm.Cond.declares ({ cls := "java/lang/StringBuilder", name := "toString", desc := "()Ljava/lang/String;" } : Jvm.MethodName)) := hw _ (List.mem_of_getElem? (i := 183) rfl)
theorem w184 (hw : Ws κ) : Wd κ (Jvm.Cond.instanceMethod ({ cls := "java/lang/StringBuilder", name := "toString", desc := "()Ljava/lang/String;" } : Jvm.MethodName)) := hw _ (List.mem_of_getElem? (i := 184) rfl)
theorem w185 (hw : Ws κ) : Wd κ (Jvm.Cond.selects "java/lang/StringBuilder" ({ cls := "java/lang/StringBuilder", name := "toString", desc := "()Ljava/lang/String;" } : Jvm.MethodName) ({ cls := "java/lang/StringBuilder", name := "toString", desc := "()Ljava/lang/String;" } : Jvm.MethodName)) := hw _ (List.mem_of_getElem? (i := 185) rfl)
theorem w187 (hw : Ws κ) : Wd κ (Jvm.Cond.classLink "java/lang/StringBuilder" (18 : Nat) "java/lang/String") := hw _ (List.mem_of_getElem? (i := 187) rfl)
theorem w188 (hw : Ws κ) : Wd κ (Jvm.Cond.methodLink "java/lang/StringBuilder" (137 : Nat) ({ cls := "java/lang/String", name := "<init>", desc := "(Ljava/lang/StringBuilder;)V" } : Jvm.MethodName)) := hw _ (List.mem_of_getElem? (i := 188) rfl)
theorem w189 (hw : Ws κ) : Wd κ (Jvm.Cond.instanceMethod ({ cls := "java/lang/String", name := "<init>", desc := "(Ljava/lang/StringBuilder;)V" } : Jvm.MethodName)) := hw _ (List.mem_of_getElem? (i := 189) rfl)
theorem w191 (hw : Ws κ) : Wd κ (Jvm.Cond.methodLink "java/lang/String" (489 : Nat) ({ cls := "java/lang/String", name := "<init>", desc := "(Ljava/lang/AbstractStringBuilder;Ljava/lang/Void;)V" } : Jvm.MethodName)) := hw _ (List.mem_of_getElem? (i := 191) rfl)
theorem w192 (hw : Ws κ) : Wd κ (Jvm.Cond.instanceMethod ({ cls := "java/lang/String", name := "<init>", desc := "(Ljava/lang/AbstractStringBuilder;Ljava/lang/Void;)V" } : Jvm.MethodName)) := hw _ (List.mem_of_getElem? (i := 192) rfl)
theorem w194 (hw : Ws κ) : Wd κ (Jvm.Cond.methodLink "java/lang/String" (552 : Nat) ({ cls := "java/lang/AbstractStringBuilder", name := "getValue", desc := "()[B" } : Jvm.MethodName)) := hw _ (List.mem_of_getElem? (i := 194) rfl)
theorem w195 (hw : Ws κ) : Wd κ (Jvm.Cond.declares ({ cls := "java/lang/AbstractStringBuilder", name := "getValue", desc := "()[B" } : Jvm.MethodName)) := hw _ (List.mem_of_getElem? (i := 195) rfl)
theorem w196 (hw : Ws κ) : Wd κ (Jvm.Cond.instanceMethod ({ cls := "java/lang/AbstractStringBuilder", name := "getValue", desc := "()[B" } : Jvm.MethodName)) := hw _ (List.mem_of_getElem? (i := 196) rfl)
theorem w197 (hw : Ws κ) : Wd κ (Jvm.Cond.selects "java/lang/StringBuilder" ({ cls := "java/lang/AbstractStringBuilder", name := "getValue", desc := "()[B" } : Jvm.MethodName) ({ cls := "java/lang/AbstractStringBuilder", name := "getValue", desc := "()[B" } : Jvm.MethodName)) := hw _ (List.mem_of_getElem? (i := 197) rfl)
theorem w199 (hw : Ws κ) : Wd κ (Jvm.Cond.methodLink "java/lang/String" (549 : Nat) ({ cls := "java/lang/AbstractStringBuilder", name := "length", desc := "()I" } : Jvm.MethodName)) := hw _ (List.mem_of_getElem? (i := 199) rfl)
theorem w200 (hw : Ws κ) : Wd κ (Jvm.Cond.declares ({ cls := "java/lang/AbstractStringBuilder", name := "length", desc := "()I" } : Jvm.MethodName)) := hw _ (List.mem_of_getElem? (i := 200) rfl)
theorem w201 (hw : Ws κ) : Wd κ (Jvm.Cond.instanceMethod ({ cls := "java/lang/AbstractStringBuilder", name := "length", desc := "()I" } : Jvm.MethodName)) := hw _ (List.mem_of_getElem? (i := 201) rfl)
theorem w202 (hw : Ws κ) : Wd κ (Jvm.Cond.selects "java/lang/StringBuilder" ({ cls := "java/lang/AbstractStringBuilder", name := "length", desc := "()I" } : Jvm.MethodName) ({ cls := "java/lang/StringBuilder", name := "length", desc := "()I" } : Jvm.MethodName)) := hw _ (List.mem_of_getElem? (i := 202) rfl)
theorem w203 (hw : Ws κ) : Wd κ (Jvm.Cond.instanceMethod ({ cls := "java/lang/StringBuilder", name := "length", desc := "()I" } : Jvm.MethodName)) := hw _ (List.mem_of_getElem? (i := 203) rfl)
theorem w205 (hw : Ws κ) : Wd κ (Jvm.Cond.methodLink "java/lang/StringBuilder" (343 : Nat) ({ cls := "java/lang/AbstractStringBuilder", name := "length", desc := "()I" } : Jvm.MethodName)) := hw _ (List.mem_of_getElem? (i := 205) rfl)
theorem w207 (hw : Ws κ) : Wd κ (Jvm.Cond.methodLink "java/lang/String" (1047 : Nat) ({ cls := "java/lang/AbstractStringBuilder", name := "isLatin1", desc := "()Z" } : Jvm.MethodName)) := hw _ (List.mem_of_getElem? (i := 207) rfl)
theorem w208 (hw : Ws κ) : Wd κ (Jvm.Cond.declares ({ cls := "java/lang/AbstractStringBuilder", name := "isLatin1", desc := "()Z" } : Jvm.MethodName)) := hw _ (List.mem_of_getElem? (i := 208) rfl)
theorem w209 (hw : Ws κ) : Wd κ (Jvm.Cond.instanceMethod ({ cls := "java/lang/AbstractStringBuilder", name := "isLatin1", desc := "()Z" } : Jvm.MethodName)) := hw _ (List.mem_of_getElem? (i := 209) rfl)
theorem w210 (hw : Ws κ) : Wd κ (Jvm.Cond.selects "java/lang/StringBuilder" ({ cls := "java/lang/AbstractStringBuilder", name := "isLatin1", desc := "()Z" } : Jvm.MethodName) ({ cls := "java/lang/AbstractStringBuilder", name := "isLatin1", desc := "()Z" } : Jvm.MethodName)) := hw _ (List.mem_of_getElem? (i := 210) rfl)
theorem w212 (hw : Ws κ) : Wd κ (Jvm.Cond.methodLink "java/lang/String" (54 : Nat) ({ cls := "java/util/Arrays", name := "copyOfRange", desc := "([BII)[B" } : Jvm.MethodName)) := hw _ (List.mem_of_getElem? (i := 212) rfl)
theorem w213 (hw : Ws κ) : Wd κ (Jvm.Cond.static ({ cls := "java/util/Arrays", name := "copyOfRange", desc := "([BII)[B" } : Jvm.MethodName)) := hw _ (List.mem_of_getElem? (i := 213) rfl)
theorem w215 (hw : Ws κ) : Wd κ (Jvm.Cond.methodLink "java/util/Arrays" (339 : Nat) ({ cls := "java/util/Arrays", name := "copyOfRangeByte", desc := "([BII)[B" } : Jvm.MethodName)) := hw _ (List.mem_of_getElem? (i := 215) rfl)
theorem w216 (hw : Ws κ) : Wd κ (Jvm.Cond.static ({ cls := "java/util/Arrays", name := "copyOfRangeByte", desc := "([BII)[B" } : Jvm.MethodName)) := hw _ (List.mem_of_getElem? (i := 216) rfl)
theorem w218 (hw : Ws κ) : Wd κ (Jvm.Cond.methodLink "java/util/Arrays" (343 : Nat) ({ cls := "java/util/Arrays", name := "checkLength", desc := "(II)V" } : Jvm.MethodName)) := hw _ (List.mem_of_getElem? (i := 218) rfl)
theorem w219 (hw : Ws κ) : Wd κ (Jvm.Cond.static ({ cls := "java/util/Arrays", name := "checkLength", desc := "(II)V" } : Jvm.MethodName)) := hw _ (List.mem_of_getElem? (i := 219) rfl)
theorem w221 (hw : Ws κ) : Wd κ (Jvm.Cond.methodLink "com/example/stringline/derive/DerivationPackageOfPinLaw" (28 : Nat) ({ cls := "com/example/stringline/derive/DerivationPackageOfPinLaw", name := "lower", desc := "(C)C" } : Jvm.MethodName)) := hw _ (List.mem_of_getElem? (i := 221) rfl)
theorem w222 (hw : Ws κ) : Wd κ (Jvm.Cond.static ({ cls := "com/example/stringline/derive/DerivationPackageOfPinLaw", name := "lower", desc := "(C)C" } : Jvm.MethodName)) := hw _ (List.mem_of_getElem? (i := 222) rfl)
theorem w223 (hw : Ws κ) : Wd κ (Jvm.Cond.initialized "com/example/stringline/derive/DerivationPackageOfPinLaw") := hw _ (List.mem_of_getElem? (i := 223) rfl)
theorem w225 (hw : Ws κ) : Wd κ (Jvm.Cond.classLink "java/lang/String" (10 : Nat) "java/lang/String") := hw _ (List.mem_of_getElem? (i := 225) rfl)
theorem w226 (hw : Ws κ) : Wd κ (Jvm.Cond.methodLink "java/lang/String" (541 : Nat) ({ cls := "java/lang/StringLatin1", name := "equals", desc := "([B[B)Z" } : Jvm.MethodName)) := hw _ (List.mem_of_getElem? (i := 226) rfl)
theorem w227 (hw : Ws κ) : Wd κ (Jvm.Cond.static ({ cls := "java/lang/StringLatin1", name := "equals", desc := "([B[B)Z" } : Jvm.MethodName)) := hw _ (List.mem_of_getElem? (i := 227) rfl)
theorem w229 (hw : Ws κ) : Wd κ (Jvm.Cond.stringLink "com/example/stringline/derive/DerivationPackageOfPinLaw" (21 : Nat) "com.example.stringline.stringline.bidi.") := hw _ (List.mem_of_getElem? (i := 229) rfl)
theorem w230 (hw : Ws κ) : Wd κ (Jvm.Cond.stringLink "com/example/stringline/derive/DerivationPackageOfPinLaw" (23 : Nat) "") := hw _ (List.mem_of_getElem? (i := 230) rfl)
theorem w231 (hw : Ws κ) : Wd κ (Jvm.Cond.methodLink "java/util/Arrays" (310 : Nat) ({ cls := "[B", name := "clone", desc := "()Ljava/lang/Object;" } : Jvm.MethodName)) := hw _ (List.mem_of_getElem? (i := 231) rfl)
theorem w232 (hw : Ws κ) : Wd κ (Jvm.Cond.sameMethod "[B" "java/lang/Object" "clone" "()Ljava/lang/Object;") := hw _ (List.mem_of_getElem? (i := 232) rfl)
theorem w234 (hw : Ws κ) : Wd κ (Jvm.Cond.instanceMethod ({ cls := "java/lang/Object", name := "clone", desc := "()Ljava/lang/Object;" } : Jvm.MethodName)) := hw _ (List.mem_of_getElem? (i := 234) rfl)
theorem w235 (hw : Ws κ) : Wd κ (Jvm.Cond.selects "[B" ({ cls := "[B", name := "clone", desc := "()Ljava/lang/Object;" } : Jvm.MethodName) ({ cls := "java/lang/Object", name := "clone", desc := "()Ljava/lang/Object;" } : Jvm.MethodName)) := hw _ (List.mem_of_getElem? (i := 235) rfl)
theorem w236 (hw : Ws κ) : Wd κ (Jvm.Cond.native ({ cls := "java/lang/Object", name := "clone", desc := "()Ljava/lang/Object;" } : Jvm.MethodName)) := hw _ (List.mem_of_getElem? (i := 236) rfl)
theorem w237 (hw : Ws κ) : Wd κ (Jvm.Cond.castable "[B" "java/lang/Cloneable") := hw _ (List.mem_of_getElem? (i := 237) rfl)
theorem w238 (hw : Ws κ) : Wd κ (Jvm.Cond.classLink "java/util/Arrays" (311 : Nat) "[B") := hw _ (List.mem_of_getElem? (i := 238) rfl)
theorem M0 (hw : Ws κ) : Meth κ y0 code maxLocals (some .boolean) := ⟨by decide +kernel, hw _ (List.mem_of_getElem? (i := 0) rfl)⟩
theorem M1 (hw : Ws κ) : Meth κ y1 jdk_42_method_152_code 1 (Option.some Jvm.ClassFile.FieldType.byte) := ⟨by decide +kernel, hw _ (List.mem_of_getElem? (i := 82) rfl)⟩
theorem M2 (hw : Ws κ) : Meth κ y2 jdk_42_method_54_code 1 (Option.some Jvm.ClassFile.FieldType.int) := ⟨by decide +kernel, hw _ (List.mem_of_getElem? (i := 77) rfl)⟩
theorem M3 (hw : Ws κ) : Meth κ y3 jdk_42_method_154_code 1 (Option.some Jvm.ClassFile.FieldType.boolean) := ⟨by decide +kernel, hw _ (List.mem_of_getElem? (i := 144) rfl)⟩
theorem M4 (hw : Ws κ) : Meth κ y4 jdk_52_method_21_code 7 (Option.some Jvm.ClassFile.FieldType.int) := ⟨by decide +kernel, hw _ (List.mem_of_getElem? (i := 38) rfl)⟩
theorem M5 (hw : Ws κ) : Meth κ y5 jdk_52_method_16_code 6 (Option.some (Jvm.ClassFile.FieldType.array Jvm.ClassFile.FieldType.byte)) := ⟨by decide +kernel, hw _ (List.mem_of_getElem? (i := 35) rfl)⟩
theorem M6 (hw : Ws κ) : Meth κ y6 jdk_52_method_15_code 2 (Option.some Jvm.ClassFile.FieldType.byte) := ⟨by decide +kernel, hw _ (List.mem_of_getElem? (i := 41) rfl)⟩
theorem M7 (hw : Ws κ) : Meth κ y7 jdk_42_method_149_code 6 (Option.none : Option Jvm.ClassFile.FieldType) := ⟨by decide +kernel, hw _ (List.mem_of_getElem? (i := 27) rfl)⟩
theorem M8 (hw : Ws κ) : Meth κ y8 jdk_42_method_3_code 2 (Option.none : Option Jvm.ClassFile.FieldType) := ⟨by decide +kernel, hw _ (List.mem_of_getElem? (i := 23) rfl)⟩
theorem M9 (hw : Ws κ) : Meth κ y9 jdk_29_method_65_code 2 (Option.some Jvm.ClassFile.FieldType.int) := ⟨by decide +kernel, hw _ (List.mem_of_getElem? (i := 102) rfl)⟩
theorem M10 (hw : Ws κ) : Meth κ y10 jdk_29_method_69_code 2 (Option.some Jvm.ClassFile.FieldType.int) := ⟨by decide +kernel, hw _ (List.mem_of_getElem? (i := 111) rfl)⟩
theorem M11 (hw : Ws κ) : Meth κ y11 jdk_65_method_131_code 2 (Option.none : Option Jvm.ClassFile.FieldType) := ⟨by decide +kernel, hw _ (List.mem_of_getElem? (i := 220) rfl)⟩
theorem M12 (hw : Ws κ) : Meth κ y12 jdk_65_method_133_code 5 (Option.some (Jvm.ClassFile.FieldType.array Jvm.ClassFile.FieldType.byte)) := ⟨by decide +kernel, hw _ (List.mem_of_getElem? (i := 217) rfl)⟩
theorem M13 (hw : Ws κ) : Meth κ y13 jdk_65_method_132_code 3 (Option.some (Jvm.ClassFile.FieldType.array Jvm.ClassFile.FieldType.byte)) := ⟨by decide +kernel, hw _ (List.mem_of_getElem? (i := 214) rfl)⟩
theorem M14 (hw : Ws κ) : Meth κ y14 jdk_42_method_151_code 3 (Option.none : Option Jvm.ClassFile.FieldType) := ⟨by decide +kernel, hw _ (List.mem_of_getElem? (i := 181) rfl)⟩
theorem M15 (hw : Ws κ) : Meth κ y15 jdk_43_method_13_code 3 (Option.some Jvm.ClassFile.FieldType.boolean) := ⟨by decide +kernel, hw _ (List.mem_of_getElem? (i := 228) rfl)⟩
theorem M16 (hw : Ws κ) : Meth κ y16 jdk_42_method_66_code 3 (Option.some Jvm.ClassFile.FieldType.boolean) := ⟨by decide +kernel, hw _ (List.mem_of_getElem? (i := 18) rfl)⟩
theorem M17 (hw : Ws κ) : Meth κ y17 jdk_68_method_2_code 2 (Option.none : Option Jvm.ClassFile.FieldType) := ⟨by decide +kernel, hw _ (List.mem_of_getElem? (i := 55) rfl)⟩
theorem M18 (hw : Ws κ) : Meth κ y18 jdk_67_method_1_code 1 (Option.none : Option Jvm.ClassFile.FieldType) := ⟨by decide +kernel, hw _ (List.mem_of_getElem? (i := 49) rfl)⟩
theorem M19 (hw : Ws κ) : Meth κ y19 jdk_68_method_9_code 3 (Option.none : Option Jvm.ClassFile.FieldType) := ⟨by decide +kernel, hw _ (List.mem_of_getElem? (i := 89) rfl)⟩
theorem M20 (hw : Ws κ) : Meth κ y20 jdk_68_method_68_code 1 (Option.some Jvm.ClassFile.FieldType.boolean) := ⟨by decide +kernel, hw _ (List.mem_of_getElem? (i := 211) rfl)⟩
theorem M21 (hw : Ws κ) : Meth κ y21 jdk_68_method_71_code 2 (Option.none : Option Jvm.ClassFile.FieldType) := ⟨by decide +kernel, hw _ (List.mem_of_getElem? (i := 125) rfl)⟩
theorem M22 (hw : Ws κ) : Meth κ y22 jdk_42_method_147_code 4 (Option.none : Option Jvm.ClassFile.FieldType) := ⟨by decide +kernel, hw _ (List.mem_of_getElem? (i := 131) rfl)⟩
theorem M23 (hw : Ws κ) : Meth κ y23 jdk_68_method_73_code 3 (Option.none : Option Jvm.ClassFile.FieldType) := ⟨by decide +kernel, hw _ (List.mem_of_getElem? (i := 120) rfl)⟩
theorem M24 (hw : Ws κ) : Meth κ y24 jdk_68_method_22_code 3 (Option.some (Jvm.ClassFile.FieldType.object "java/lang/AbstractStringBuilder")) := ⟨by decide +kernel, hw _ (List.mem_of_getElem? (i := 72) rfl)⟩
theorem M25 (hw : Ws κ) : Meth κ y25 jdk_67_method_7_code 2 (Option.some (Jvm.ClassFile.FieldType.object "java/lang/StringBuilder")) := ⟨by decide +kernel, hw _ (List.mem_of_getElem? (i := 67) rfl)⟩
theorem M26 (hw : Ws κ) : Meth κ y26 jdk_68_method_64_code 1 (Option.some (Jvm.ClassFile.FieldType.array Jvm.ClassFile.FieldType.byte)) := ⟨by decide +kernel, hw _ (List.mem_of_getElem? (i := 198) rfl)⟩
theorem M27 (hw : Ws κ) : Meth κ y27 jdk_68_method_6_code 1 (Option.some Jvm.ClassFile.FieldType.int) := ⟨by decide +kernel, hw _ (List.mem_of_getElem? (i := 206) rfl)⟩
theorem M28 (hw : Ws κ) : Meth κ y28 jdk_67_method_93_code 1 (Option.some Jvm.ClassFile.FieldType.int) := ⟨by decide +kernel, hw _ (List.mem_of_getElem? (i := 204) rfl)⟩
theorem M29 (hw : Ws κ) : Meth κ y29 jdk_42_method_150_code 5 (Option.none : Option Jvm.ClassFile.FieldType) := ⟨by decide +kernel, hw _ (List.mem_of_getElem? (i := 193) rfl)⟩
theorem M30 (hw : Ws κ) : Meth κ y30 jdk_42_method_53_code 2 (Option.none : Option Jvm.ClassFile.FieldType) := ⟨by decide +kernel, hw _ (List.mem_of_getElem? (i := 190) rfl)⟩
theorem M31 (hw : Ws κ) : Meth κ y31 jdk_67_method_42_code 1 (Option.some (Jvm.ClassFile.FieldType.object "java/lang/String")) := ⟨by decide +kernel, hw _ (List.mem_of_getElem? (i := 186) rfl)⟩
theorem M32 (hw : Ws κ) : Meth κ y32 jdk_48_method_27_code 4 (Option.some Jvm.ClassFile.FieldType.int) := ⟨by decide +kernel, hw _ (List.mem_of_getElem? (i := 98) rfl)⟩
theorem M33 (hw : Ws κ) : Meth κ y33 jdk_68_method_10_code 6 (Option.some Jvm.ClassFile.FieldType.int) := ⟨by decide +kernel, hw _ (List.mem_of_getElem? (i := 94) rfl)⟩
theorem M34 (hw : Ws κ) : Meth κ y34 jdk_65_method_121_code 3 (Option.some (Jvm.ClassFile.FieldType.array Jvm.ClassFile.FieldType.byte)) := ⟨by decide +kernel, hw _ (List.mem_of_getElem? (i := 108) rfl)⟩
theorem M35 (hw : Ws κ) : Meth κ y35 jdk_43_method_4_code 1 (Option.some Jvm.ClassFile.FieldType.boolean) := ⟨by decide +kernel, hw _ (List.mem_of_getElem? (i := 177) rfl)⟩
theorem M36 (hw : Ws κ) : Meth κ y36 method_3_code 1 (Option.some Jvm.ClassFile.FieldType.char) := ⟨by decide +kernel, hw _ (List.mem_of_getElem? (i := 224) rfl)⟩
theorem M37 (hw : Ws κ) : Meth κ y37 jdk_116_method_20_code 3 (Option.some Jvm.ClassFile.FieldType.int) := ⟨by decide +kernel, hw _ (List.mem_of_getElem? (i := 155) rfl)⟩
theorem M38 (hw : Ws κ) : Meth κ y38 jdk_3003_method_5_code 1 (Option.some (Jvm.ClassFile.FieldType.object "java/lang/String")) := ⟨by decide +kernel, hw _ (List.mem_of_getElem? (i := 168) rfl)⟩
theorem M39 (hw : Ws κ) : Meth κ y39 jdk_2628_method_27_code 1 (Option.some (Jvm.ClassFile.FieldType.object "java/lang/String")) := ⟨by decide +kernel, hw _ (List.mem_of_getElem? (i := 160) rfl)⟩
theorem M40 (hw : Ws κ) : Meth κ y40 jdk_43_method_32_code 9 (Option.some (Jvm.ClassFile.FieldType.object "java/lang/String")) := ⟨by decide +kernel, hw _ (List.mem_of_getElem? (i := 148) rfl)⟩
theorem M41 (hw : Ws κ) : Meth κ y41 jdk_42_method_109_code 2 (Option.some (Jvm.ClassFile.FieldType.object "java/lang/String")) := ⟨by decide +kernel, hw _ (List.mem_of_getElem? (i := 139) rfl)⟩
theorem M42 (hw : Ws κ) : Meth κ y42 prog_17_method_7_code 1 (Option.some (Jvm.ClassFile.FieldType.object "java/lang/String")) := ⟨by decide +kernel, hw _ (List.mem_of_getElem? (i := 12) rfl)⟩
theorem pd0 : parseMethodDescriptor y0.desc = some ⟨[.int, .int, .int, .int], some (.boolean)⟩ := by decide +kernel
theorem pd1 : parseMethodDescriptor y1.desc = some ⟨[], some (.byte)⟩ := by decide +kernel
theorem pd2 : parseMethodDescriptor y2.desc = some ⟨[], some (.int)⟩ := by decide +kernel
theorem pd3 : parseMethodDescriptor y3.desc = some ⟨[], some (.boolean)⟩ := by decide +kernel
theorem pd4 : parseMethodDescriptor y4.desc = some ⟨[.array (.char), .int, .array (.byte), .int, .int], some (.int)⟩ := by decide +kernel
theorem pd5 : parseMethodDescriptor y5.desc = some ⟨[.array (.char), .int, .int], some (.array (.byte))⟩ := by decide +kernel
theorem pd6 : parseMethodDescriptor y6.desc = some ⟨[.array (.byte), .int], some (.byte)⟩ := by decide +kernel
theorem pd7 : parseMethodDescriptor y7.desc = some ⟨[.array (.char), .int, .int, .object "java/lang/Void"], none⟩ := by decide +kernel
theorem pd8 : parseMethodDescriptor y8.desc = some ⟨[.array (.char)], none⟩ := by decide +kernel
theorem pd9 : parseMethodDescriptor y9.desc = some ⟨[.int, .int], some (.int)⟩ := by decide +kernel
theorem pd10 : parseMethodDescriptor y10.desc = some ⟨[.int, .int], some (.int)⟩ := by decide +kernel
theorem pd11 : parseMethodDescriptor y11.desc = some ⟨[.int, .int], none⟩ := by decide +kernel
theorem pd12 : parseMethodDescriptor y12.desc = some ⟨[.array (.byte), .int, .int], some (.array (.byte))⟩ := by decide +kernel
theorem pd13 : parseMethodDescriptor y13.desc = some ⟨[.array (.byte), .int, .int], some (.array (.byte))⟩ := by decide +kernel
theorem pd14 : parseMethodDescriptor y14.desc = some ⟨[.array (.byte), .byte], none⟩ := by decide +kernel
theorem pd15 : parseMethodDescriptor y15.desc = some ⟨[.array (.byte), .array (.byte)], some (.boolean)⟩ := by decide +kernel
theorem pd16 : parseMethodDescriptor y16.desc = some ⟨[.object "java/lang/Object"], some (.boolean)⟩ := by decide +kernel
theorem pd17 : parseMethodDescriptor y17.desc = some ⟨[.int], none⟩ := by decide +kernel
theorem pd18 : parseMethodDescriptor y18.desc = some ⟨[], none⟩ := by decide +kernel
theorem pd19 : parseMethodDescriptor y19.desc = some ⟨[.int], none⟩ := by decide +kernel
theorem pd20 : parseMethodDescriptor y20.desc = some ⟨[], some (.boolean)⟩ := by decide +kernel
theorem pd21 : parseMethodDescriptor y21.desc = some ⟨[.object "java/lang/String"], none⟩ := by decide +kernel
theorem pd22 : parseMethodDescriptor y22.desc = some ⟨[.array (.byte), .int, .byte], none⟩ := by decide +kernel
theorem pd23 : parseMethodDescriptor y23.desc = some ⟨[.int, .object "java/lang/String"], none⟩ := by decide +kernel
theorem pd24 : parseMethodDescriptor y24.desc = some ⟨[.object "java/lang/String"], some (.object "java/lang/AbstractStringBuilder")⟩ := by decide +kernel
theorem pd25 : parseMethodDescriptor y25.desc = some ⟨[.object "java/lang/String"], some (.object "java/lang/StringBuilder")⟩ := by decide +kernel
theorem pd26 : parseMethodDescriptor y26.desc = some ⟨[], some (.array (.byte))⟩ := by decide +kernel
theorem pd27 : parseMethodDescriptor y27.desc = some ⟨[], some (.int)⟩ := by decide +kernel
theorem pd28 : parseMethodDescriptor y28.desc = some ⟨[], some (.int)⟩ := by decide +kernel
theorem pd29 : parseMethodDescriptor y29.desc = some ⟨[.object "java/lang/AbstractStringBuilder", .object "java/lang/Void"], none⟩ := by decide +kernel
theorem pd30 : parseMethodDescriptor y30.desc = some ⟨[.object "java/lang/StringBuilder"], none⟩ := by decide +kernel
theorem pd31 : parseMethodDescriptor y31.desc = some ⟨[], some (.object "java/lang/String")⟩ := by decide +kernel
theorem pd32 : parseMethodDescriptor y32.desc = some ⟨[.int, .int, .int], some (.int)⟩ := by decide +kernel
theorem pd33 : parseMethodDescriptor y33.desc = some ⟨[.int], some (.int)⟩ := by decide +kernel
theorem pd34 : parseMethodDescriptor y34.desc = some ⟨[.array (.byte), .int], some (.array (.byte))⟩ := by decide +kernel
theorem pd35 : parseMethodDescriptor y35.desc = some ⟨[.int], some (.boolean)⟩ := by decide +kernel
theorem pd36 : parseMethodDescriptor y36.desc = some ⟨[.char], some (.char)⟩ := by decide +kernel
theorem pd37 : parseMethodDescriptor y37.desc = some ⟨[.int], some (.int)⟩ := by decide +kernel
theorem pd38 : parseMethodDescriptor y38.desc = some ⟨[], some (.object "java/lang/String")⟩ := by decide +kernel
theorem pd39 : parseMethodDescriptor y39.desc = some ⟨[], some (.object "java/lang/String")⟩ := by decide +kernel
theorem pd40 : parseMethodDescriptor y40.desc = some ⟨[.object "java/lang/String", .array (.byte), .object "java/util/Locale"], some (.object "java/lang/String")⟩ := by decide +kernel
theorem pd41 : parseMethodDescriptor y41.desc = some ⟨[.object "java/util/Locale"], some (.object "java/lang/String")⟩ := by decide +kernel
theorem pd42 : parseMethodDescriptor y42.desc = some ⟨[.object "java/lang/String"], some (.object "java/lang/String")⟩ := by decide +kernel
theorem d0_10 : decode code 10 = .ok (.ldc 7, 2) := by decide +kernel
theorem d0_103 : decode code 103 = .ok (.castore, 1) := by decide +kernel
theorem d0_108 : decode code 108 = .ok (.castore, 1) := by decide +kernel
theorem d0_113 : decode code 113 = .ok (.castore, 1) := by decide +kernel
theorem d0_118 : decode code 118 = .ok (.castore, 1) := by decide +kernel
theorem d0_123 : decode code 123 = .ok (.castore, 1) := by decide +kernel
theorem d0_128 : decode code 128 = .ok (.castore, 1) := by decide +kernel
theorem d0_13 : decode code 13 = .ok (.invokestatic 9, 3) := by decide +kernel
theorem d0_134 : decode code 134 = .ok (.castore, 1) := by decide +kernel
theorem d0_140 : decode code 140 = .ok (.castore, 1) := by decide +kernel
theorem d0_146 : decode code 146 = .ok (.castore, 1) := by decide +kernel
theorem d0_152 : decode code 152 = .ok (.castore, 1) := by decide +kernel
theorem d0_158 : decode code 158 = .ok (.castore, 1) := by decide +kernel
theorem d0_16 : decode code 16 = .ok (.invokevirtual 15, 3) := by decide +kernel
theorem d0_164 : decode code 164 = .ok (.castore, 1) := by decide +kernel
theorem d0_170 : decode code 170 = .ok (.castore, 1) := by decide +kernel
theorem d0_176 : decode code 176 = .ok (.castore, 1) := by decide +kernel
theorem d0_182 : decode code 182 = .ok (.castore, 1) := by decide +kernel
theorem d0_188 : decode code 188 = .ok (.castore, 1) := by decide +kernel
theorem d0_19 : decode code 19 = .ok (.ireturn, 1) := by decide +kernel
theorem d0_194 : decode code 194 = .ok (.castore, 1) := by decide +kernel
theorem d0_200 : decode code 200 = .ok (.castore, 1) := by decide +kernel
theorem d0_206 : decode code 206 = .ok (.castore, 1) := by decide +kernel
theorem d0_212 : decode code 212 = .ok (.castore, 1) := by decide +kernel
theorem d0_218 : decode code 218 = .ok (.castore, 1) := by decide +kernel
theorem d0_224 : decode code 224 = .ok (.castore, 1) := by decide +kernel
theorem d0_23 : decode code 23 = .ok (.if_icmp .ne 14, 3) := by decide +kernel
theorem d0_230 : decode code 230 = .ok (.castore, 1) := by decide +kernel
theorem d0_236 : decode code 236 = .ok (.castore, 1) := by decide +kernel
theorem d0_242 : decode code 242 = .ok (.castore, 1) := by decide +kernel
theorem d0_248 : decode code 248 = .ok (.castore, 1) := by decide +kernel
theorem d0_254 : decode code 254 = .ok (.castore, 1) := by decide +kernel
theorem d0_26 : decode code 26 = .ok (.ldc 21, 2) := by decide +kernel
theorem d0_260 : decode code 260 = .ok (.castore, 1) := by decide +kernel
theorem d0_266 : decode code 266 = .ok (.castore, 1) := by decide +kernel
theorem d0_272 : decode code 272 = .ok (.castore, 1) := by decide +kernel
theorem d0_278 : decode code 278 = .ok (.castore, 1) := by decide +kernel
theorem d0_28 : decode code 28 = .ok (.ldc 23, 2) := by decide +kernel
theorem d0_284 : decode code 284 = .ok (.castore, 1) := by decide +kernel
theorem d0_290 : decode code 290 = .ok (.castore, 1) := by decide +kernel
theorem d0_296 : decode code 296 = .ok (.castore, 1) := by decide +kernel
theorem d0_30 : decode code 30 = .ok (.invokestatic 9, 3) := by decide +kernel
theorem d0_302 : decode code 302 = .ok (.castore, 1) := by decide +kernel
theorem d0_308 : decode code 308 = .ok (.castore, 1) := by decide +kernel
theorem d0_314 : decode code 314 = .ok (.castore, 1) := by decide +kernel
theorem d0_320 : decode code 320 = .ok (.castore, 1) := by decide +kernel
theorem d0_326 : decode code 326 = .ok (.castore, 1) := by decide +kernel
theorem d0_33 : decode code 33 = .ok (.invokevirtual 15, 3) := by decide +kernel
theorem d0_332 : decode code 332 = .ok (.invokestatic 28, 3) := by decide +kernel
theorem d0_335 : decode code 335 = .ok (.castore, 1) := by decide +kernel
theorem d0_341 : decode code 341 = .ok (.invokestatic 28, 3) := by decide +kernel
theorem d0_344 : decode code 344 = .ok (.castore, 1) := by decide +kernel
theorem d0_350 : decode code 350 = .ok (.invokestatic 28, 3) := by decide +kernel
theorem d0_353 : decode code 353 = .ok (.castore, 1) := by decide +kernel
theorem d0_356 : decode code 356 = .ok (.new 16, 3) := by decide +kernel
theorem d0_36 : decode code 36 = .ok (.ireturn, 1) := by decide +kernel
theorem d0_362 : decode code 362 = .ok (.invokespecial 25, 3) := by decide +kernel
theorem d0_367 : decode code 367 = .ok (.invokevirtual 15, 3) := by decide +kernel
theorem d0_370 : decode code 370 = .ok (.ireturn, 1) := by decide +kernel
theorem d0_62 : decode code 62 = .ok (.newarray .char, 2) := by decide +kernel
theorem d0_68 : decode code 68 = .ok (.castore, 1) := by decide +kernel
theorem d0_7 : decode code 7 = .ok (.ifCond .ne 13, 3) := by decide +kernel
theorem d0_73 : decode code 73 = .ok (.castore, 1) := by decide +kernel
theorem d0_78 : decode code 78 = .ok (.castore, 1) := by decide +kernel
theorem d0_81 : decode code 81 = .ok (.new 16, 3) := by decide +kernel
theorem d0_87 : decode code 87 = .ok (.invokespecial 25, 3) := by decide +kernel
theorem d0_90 : decode code 90 = .ok (.invokestatic 9, 3) := by decide +kernel
theorem d0_97 : decode code 97 = .ok (.newarray .char, 2) := by decide +kernel
theorem d10_10 : decode jdk_29_method_69_code 10 = .ok (.ireturn, 1) := by decide +kernel
theorem d10_2 : decode jdk_29_method_69_code 2 = .ok (.if_icmp .gt 7, 3) := by decide +kernel
theorem d11_2 : decode jdk_65_method_131_code 2 = .ok (.if_icmp .ge 35, 3) := by decide +kernel
theorem d11_37 : decode jdk_65_method_131_code 37 = .ok (.return_, 1) := by decide +kernel
theorem d12_10 : decode jdk_65_method_133_code 10 = .ok (.newarray .byte, 2) := by decide +kernel
theorem d12_2 : decode jdk_65_method_133_code 2 = .ok (.invokestatic 343, 3) := by decide +kernel
theorem d12_20 : decode jdk_65_method_133_code 20 = .ok (.arraylength, 1) := by decide +kernel
theorem d12_24 : decode jdk_65_method_133_code 24 = .ok (.invokestatic 304, 3) := by decide +kernel
theorem d12_27 : decode jdk_65_method_133_code 27 = .ok (.invokestatic 150, 3) := by decide +kernel
theorem d12_32 : decode jdk_65_method_133_code 32 = .ok (.areturn, 1) := by decide +kernel
theorem d13_1 : decode jdk_65_method_132_code 1 = .ok (.ifCond .ne 9, 3) := by decide +kernel
theorem d13_13 : decode jdk_65_method_132_code 13 = .ok (.invokestatic 339, 3) := by decide +kernel
theorem d13_16 : decode jdk_65_method_132_code 16 = .ok (.areturn, 1) := by decide +kernel
theorem d13_18 : decode jdk_65_method_132_code 18 = .ok (.invokevirtual 310, 3) := by decide +kernel
theorem d13_21 : decode jdk_65_method_132_code 21 = .ok (.checkcast 311, 3) := by decide +kernel
theorem d13_24 : decode jdk_65_method_132_code 24 = .ok (.areturn, 1) := by decide +kernel
theorem d13_6 : decode jdk_65_method_132_code 6 = .ok (.arraylength, 1) := by decide +kernel
theorem d13_7 : decode jdk_65_method_132_code 7 = .ok (.if_icmp .eq 10, 3) := by decide +kernel
theorem d14_1 : decode jdk_42_method_151_code 1 = .ok (.invokespecial 1, 3) := by decide +kernel
theorem d14_11 : decode jdk_42_method_151_code 11 = .ok (.putfield 15, 3) := by decide +kernel
theorem d14_14 : decode jdk_42_method_151_code 14 = .ok (.return_, 1) := by decide +kernel
theorem d14_6 : decode jdk_42_method_151_code 6 = .ok (.putfield 9, 3) := by decide +kernel
theorem d15_1 : decode jdk_43_method_13_code 1 = .ok (.arraylength, 1) := by decide +kernel
theorem d15_11 : decode jdk_43_method_13_code 11 = .ok (.arraylength, 1) := by decide +kernel
theorem d15_12 : decode jdk_43_method_13_code 12 = .ok (.if_icmp .ge 20, 3) := by decide +kernel
theorem d15_17 : decode jdk_43_method_13_code 17 = .ok (.baload, 1) := by decide +kernel
theorem d15_20 : decode jdk_43_method_13_code 20 = .ok (.baload, 1) := by decide +kernel
theorem d15_21 : decode jdk_43_method_13_code 21 = .ok (.if_icmp .eq 5, 3) := by decide +kernel
theorem d15_25 : decode jdk_43_method_13_code 25 = .ok (.ireturn, 1) := by decide +kernel
theorem d15_3 : decode jdk_43_method_13_code 3 = .ok (.arraylength, 1) := by decide +kernel
theorem d15_33 : decode jdk_43_method_13_code 33 = .ok (.ireturn, 1) := by decide +kernel
theorem d15_35 : decode jdk_43_method_13_code 35 = .ok (.ireturn, 1) := by decide +kernel
theorem d15_4 : decode jdk_43_method_13_code 4 = .ok (.if_icmp .ne 30, 3) := by decide +kernel
theorem d16_11 : decode jdk_42_method_66_code 11 = .ok (.ifCond .eq 43, 3) := by decide +kernel
theorem d16_15 : decode jdk_42_method_66_code 15 = .ok (.checkcast 10, 3) := by decide +kernel
theorem d16_19 : decode jdk_42_method_66_code 19 = .ok (.getstatic 38, 3) := by decide +kernel
theorem d16_2 : decode jdk_42_method_66_code 2 = .ok (.if_acmp .ne 5, 3) := by decide +kernel
theorem d16_22 : decode jdk_42_method_66_code 22 = .ok (.ifCond .eq 14, 3) := by decide +kernel
theorem d16_26 : decode jdk_42_method_66_code 26 = .ok (.getfield 15, 3) := by decide +kernel
theorem d16_30 : decode jdk_42_method_66_code 30 = .ok (.getfield 15, 3) := by decide +kernel
theorem d16_33 : decode jdk_42_method_66_code 33 = .ok (.if_icmp .ne 21, 3) := by decide +kernel
theorem d16_37 : decode jdk_42_method_66_code 37 = .ok (.getfield 9, 3) := by decide +kernel
theorem d16_41 : decode jdk_42_method_66_code 41 = .ok (.getfield 9, 3) := by decide +kernel
theorem d16_44 : decode jdk_42_method_66_code 44 = .ok (.invokestatic 541, 3) := by decide +kernel
theorem d16_47 : decode jdk_42_method_66_code 47 = .ok (.ifCond .eq 7, 3) := by decide +kernel
theorem d16_55 : decode jdk_42_method_66_code 55 = .ok (.ireturn, 1) := by decide +kernel
theorem d16_6 : decode jdk_42_method_66_code 6 = .ok (.ireturn, 1) := by decide +kernel
theorem d16_8 : decode jdk_42_method_66_code 8 = .ok (.instanceof 10, 3) := by decide +kernel
theorem d17_1 : decode jdk_68_method_2_code 1 = .ok (.invokespecial 3, 3) := by decide +kernel
theorem d17_12 : decode jdk_68_method_2_code 12 = .ok (.newarray .byte, 2) := by decide +kernel
theorem d17_14 : decode jdk_68_method_2_code 14 = .ok (.putfield 15, 3) := by decide +kernel
theorem d17_19 : decode jdk_68_method_2_code 19 = .ok (.putfield 22, 3) := by decide +kernel
theorem d17_38 : decode jdk_68_method_2_code 38 = .ok (.return_, 1) := by decide +kernel
theorem d17_4 : decode jdk_68_method_2_code 4 = .ok (.getstatic 18, 3) := by decide +kernel
theorem d17_7 : decode jdk_68_method_2_code 7 = .ok (.ifCond .eq 18, 3) := by decide +kernel
theorem d18_3 : decode jdk_67_method_1_code 3 = .ok (.invokespecial 1, 3) := by decide +kernel
theorem d18_6 : decode jdk_67_method_1_code 6 = .ok (.return_, 1) := by decide +kernel
theorem d19_1 : decode jdk_68_method_9_code 1 = .ok (.getfield 15, 3) := by decide +kernel
theorem d19_14 : decode jdk_68_method_9_code 14 = .ok (.ifCond .le 24, 3) := by decide +kernel
theorem d19_19 : decode jdk_68_method_9_code 19 = .ok (.getfield 15, 3) := by decide +kernel
theorem d19_24 : decode jdk_68_method_9_code 24 = .ok (.invokevirtual 104, 3) := by decide +kernel
theorem d19_28 : decode jdk_68_method_9_code 28 = .ok (.getfield 22, 3) := by decide +kernel
theorem d19_32 : decode jdk_68_method_9_code 32 = .ok (.invokestatic 108, 3) := by decide +kernel
theorem d19_35 : decode jdk_68_method_9_code 35 = .ok (.putfield 15, 3) := by decide +kernel
theorem d19_38 : decode jdk_68_method_9_code 38 = .ok (.return_, 1) := by decide +kernel
theorem d19_4 : decode jdk_68_method_9_code 4 = .ok (.arraylength, 1) := by decide +kernel
theorem d19_6 : decode jdk_68_method_9_code 6 = .ok (.getfield 22, 3) := by decide +kernel
theorem d1_0 : decode jdk_42_method_152_code 0 = .ok (.getstatic 38, 3) := by decide +kernel
theorem d1_14 : decode jdk_42_method_152_code 14 = .ok (.ireturn, 1) := by decide +kernel
theorem d1_3 : decode jdk_42_method_152_code 3 = .ok (.ifCond .eq 10, 3) := by decide +kernel
theorem d1_7 : decode jdk_42_method_152_code 7 = .ok (.getfield 15, 3) := by decide +kernel
theorem d20_0 : decode jdk_68_method_68_code 0 = .ok (.getstatic 18, 3) := by decide +kernel
theorem d20_10 : decode jdk_68_method_68_code 10 = .ok (.ifCond .ne 7, 3) := by decide +kernel
theorem d20_18 : decode jdk_68_method_68_code 18 = .ok (.ireturn, 1) := by decide +kernel
theorem d20_3 : decode jdk_68_method_68_code 3 = .ok (.ifCond .eq 14, 3) := by decide +kernel
theorem d20_7 : decode jdk_68_method_68_code 7 = .ok (.getfield 22, 3) := by decide +kernel
theorem d21_0 : decode jdk_68_method_71_code 0 = .ok (.getstatic 18, 3) := by decide +kernel
theorem d21_11 : decode jdk_68_method_71_code 11 = .ok (.invokevirtual 40, 3) := by decide +kernel
theorem d21_14 : decode jdk_68_method_71_code 14 = .ok (.if_icmp .eq 7, 3) := by decide +kernel
theorem d21_21 : decode jdk_68_method_71_code 21 = .ok (.return_, 1) := by decide +kernel
theorem d21_3 : decode jdk_68_method_71_code 3 = .ok (.ifCond .eq 18, 3) := by decide +kernel
theorem d21_7 : decode jdk_68_method_71_code 7 = .ok (.getfield 22, 3) := by decide +kernel
theorem d22_1 : decode jdk_42_method_147_code 1 = .ok (.invokevirtual 335, 3) := by decide +kernel
theorem d22_18 : decode jdk_42_method_147_code 18 = .ok (.getfield 9, 3) := by decide +kernel
theorem d22_21 : decode jdk_42_method_147_code 21 = .ok (.arraylength, 1) := by decide +kernel
theorem d22_22 : decode jdk_42_method_147_code 22 = .ok (.invokestatic 212, 3) := by decide +kernel
theorem d22_43 : decode jdk_42_method_147_code 43 = .ok (.return_, 1) := by decide +kernel
theorem d22_5 : decode jdk_42_method_147_code 5 = .ok (.if_icmp .ne 23, 3) := by decide +kernel
theorem d22_9 : decode jdk_42_method_147_code 9 = .ok (.getfield 9, 3) := by decide +kernel
theorem d23_12 : decode jdk_68_method_73_code 12 = .ok (.getfield 22, 3) := by decide +kernel
theorem d23_15 : decode jdk_68_method_73_code 15 = .ok (.invokevirtual 399, 3) := by decide +kernel
theorem d23_18 : decode jdk_68_method_73_code 18 = .ok (.return_, 1) := by decide +kernel
theorem d23_2 : decode jdk_68_method_73_code 2 = .ok (.invokevirtual 397, 3) := by decide +kernel
theorem d23_7 : decode jdk_68_method_73_code 7 = .ok (.getfield 15, 3) := by decide +kernel
theorem d24_1 : decode jdk_68_method_22_code 1 = .ok (.ifnonnull 8, 3) := by decide +kernel
theorem d24_10 : decode jdk_68_method_22_code 10 = .ok (.invokevirtual 32, 3) := by decide +kernel
theorem d24_16 : decode jdk_68_method_22_code 16 = .ok (.getfield 79, 3) := by decide +kernel
theorem d24_21 : decode jdk_68_method_22_code 21 = .ok (.invokevirtual 100, 3) := by decide +kernel
theorem d24_26 : decode jdk_68_method_22_code 26 = .ok (.getfield 79, 3) := by decide +kernel
theorem d24_30 : decode jdk_68_method_22_code 30 = .ok (.invokevirtual 208, 3) := by decide +kernel
theorem d24_35 : decode jdk_68_method_22_code 35 = .ok (.getfield 79, 3) := by decide +kernel
theorem d24_40 : decode jdk_68_method_22_code 40 = .ok (.putfield 79, 3) := by decide +kernel
theorem d24_44 : decode jdk_68_method_22_code 44 = .ok (.areturn, 1) := by decide +kernel
theorem d25_2 : decode jdk_67_method_7_code 2 = .ok (.invokespecial 29, 3) := by decide +kernel
theorem d25_7 : decode jdk_67_method_7_code 7 = .ok (.areturn, 1) := by decide +kernel
theorem d26_1 : decode jdk_68_method_64_code 1 = .ok (.getfield 15, 3) := by decide +kernel
theorem d26_4 : decode jdk_68_method_64_code 4 = .ok (.areturn, 1) := by decide +kernel
theorem d27_1 : decode jdk_68_method_6_code 1 = .ok (.getfield 79, 3) := by decide +kernel
theorem d27_4 : decode jdk_68_method_6_code 4 = .ok (.ireturn, 1) := by decide +kernel
theorem d28_1 : decode jdk_67_method_93_code 1 = .ok (.invokespecial 343, 3) := by decide +kernel
theorem d28_4 : decode jdk_67_method_93_code 4 = .ok (.ireturn, 1) := by decide +kernel
theorem d29_1 : decode jdk_42_method_150_code 1 = .ok (.invokespecial 1, 3) := by decide +kernel
theorem d29_10 : decode jdk_42_method_150_code 10 = .ok (.invokevirtual 549, 3) := by decide +kernel
theorem d29_16 : decode jdk_42_method_150_code 16 = .ok (.invokevirtual 1047, 3) := by decide +kernel
theorem d29_19 : decode jdk_42_method_150_code 19 = .ok (.ifCond .eq 22, 3) := by decide +kernel
theorem d29_24 : decode jdk_42_method_150_code 24 = .ok (.putfield 15, 3) := by decide +kernel
theorem d29_32 : decode jdk_42_method_150_code 32 = .ok (.invokestatic 54, 3) := by decide +kernel
theorem d29_35 : decode jdk_42_method_150_code 35 = .ok (.putfield 9, 3) := by decide +kernel
theorem d29_5 : decode jdk_42_method_150_code 5 = .ok (.invokevirtual 552, 3) := by decide +kernel
theorem d29_97 : decode jdk_42_method_150_code 97 = .ok (.return_, 1) := by decide +kernel
theorem d2_1 : decode jdk_42_method_54_code 1 = .ok (.getfield 9, 3) := by decide +kernel
theorem d2_10 : decode jdk_42_method_54_code 10 = .ok (.ireturn, 1) := by decide +kernel
theorem d2_4 : decode jdk_42_method_54_code 4 = .ok (.arraylength, 1) := by decide +kernel
theorem d2_6 : decode jdk_42_method_54_code 6 = .ok (.invokevirtual 335, 3) := by decide +kernel
theorem d30_3 : decode jdk_42_method_53_code 3 = .ok (.invokespecial 489, 3) := by decide +kernel
theorem d30_6 : decode jdk_42_method_53_code 6 = .ok (.return_, 1) := by decide +kernel
theorem d31_0 : decode jdk_67_method_42_code 0 = .ok (.new 18, 3) := by decide +kernel
theorem d31_5 : decode jdk_67_method_42_code 5 = .ok (.invokespecial 137, 3) := by decide +kernel
theorem d31_8 : decode jdk_67_method_42_code 8 = .ok (.areturn, 1) := by decide +kernel
theorem d32_10 : decode jdk_48_method_27_code 10 = .ok (.if_icmp .ge 11, 3) := by decide +kernel
theorem d32_14 : decode jdk_48_method_27_code 14 = .ok (.ldc 200, 2) := by decide +kernel
theorem d32_16 : decode jdk_48_method_27_code 16 = .ok (.if_icmp .gt 5, 3) := by decide +kernel
theorem d32_20 : decode jdk_48_method_27_code 20 = .ok (.ireturn, 1) := by decide +kernel
theorem d32_3 : decode jdk_48_method_27_code 3 = .ok (.invokestatic 194, 3) := by decide +kernel
theorem d33_1 : decode jdk_68_method_10_code 1 = .ok (.getfield 15, 3) := by decide +kernel
theorem d33_24 : decode jdk_68_method_10_code 24 = .ok (.getfield 22, 3) := by decide +kernel
theorem d33_29 : decode jdk_68_method_10_code 29 = .ok (.invokestatic 114, 3) := by decide +kernel
theorem d33_36 : decode jdk_68_method_10_code 36 = .ok (.ldc 39, 2) := by decide +kernel
theorem d33_38 : decode jdk_68_method_10_code 38 = .ok (.if_icmp .ne 13, 3) := by decide +kernel
theorem d33_4 : decode jdk_68_method_10_code 4 = .ok (.arraylength, 1) := by decide +kernel
theorem d33_54 : decode jdk_68_method_10_code 54 = .ok (.getfield 22, 3) := by decide +kernel
theorem d33_58 : decode jdk_68_method_10_code 58 = .ok (.ireturn, 1) := by decide +kernel
theorem d33_8 : decode jdk_68_method_10_code 8 = .ok (.getfield 22, 3) := by decide +kernel
theorem d34_15 : decode jdk_65_method_121_code 15 = .ok (.newarray .byte, 2) := by decide +kernel
theorem d34_2 : decode jdk_65_method_121_code 2 = .ok (.arraylength, 1) := by decide +kernel
theorem d34_23 : decode jdk_65_method_121_code 23 = .ok (.arraylength, 1) := by decide +kernel
theorem d34_25 : decode jdk_65_method_121_code 25 = .ok (.invokestatic 304, 3) := by decide +kernel
theorem d34_28 : decode jdk_65_method_121_code 28 = .ok (.invokestatic 150, 3) := by decide +kernel
theorem d34_3 : decode jdk_65_method_121_code 3 = .ok (.if_icmp .ne 11, 3) := by decide +kernel
theorem d34_32 : decode jdk_65_method_121_code 32 = .ok (.areturn, 1) := by decide +kernel
theorem d35_1 : decode jdk_43_method_4_code 1 = .ok (.ifCond .lt 14, 3) := by decide +kernel
theorem d35_16 : decode jdk_43_method_4_code 16 = .ok (.ireturn, 1) := by decide +kernel
theorem d35_8 : decode jdk_43_method_4_code 8 = .ok (.if_icmp .gt 7, 3) := by decide +kernel
theorem d36_17 : decode method_3_code 17 = .ok (.ireturn, 1) := by decide +kernel
theorem d36_22 : decode method_3_code 22 = .ok (.if_icmp .lt 23, 3) := by decide +kernel
theorem d36_29 : decode method_3_code 29 = .ok (.if_icmp .gt 16, 3) := by decide +kernel
theorem d36_3 : decode method_3_code 3 = .ok (.if_icmp .lt 15, 3) := by decide +kernel
theorem d36_36 : decode method_3_code 36 = .ok (.if_icmp .eq 9, 3) := by decide +kernel
theorem d36_44 : decode method_3_code 44 = .ok (.ireturn, 1) := by decide +kernel
theorem d36_46 : decode method_3_code 46 = .ok (.ireturn, 1) := by decide +kernel
theorem d36_9 : decode method_3_code 9 = .ok (.if_icmp .gt 9, 3) := by decide +kernel
theorem d37_16 : decode jdk_116_method_20_code 16 = .ok (.if_icmp .le 24, 3) := by decide +kernel
theorem d37_23 : decode jdk_116_method_20_code 23 = .ok (.if_icmp .lt 19, 3) := by decide +kernel
theorem d37_3 : decode jdk_116_method_20_code 3 = .ok (.if_icmp .ge 5, 3) := by decide +kernel
theorem d37_30 : decode jdk_116_method_20_code 30 = .ok (.if_icmp .gt 12, 3) := by decide +kernel
theorem d37_37 : decode jdk_116_method_20_code 37 = .ok (.if_icmp .eq 5, 3) := by decide +kernel
theorem d37_41 : decode jdk_116_method_20_code 41 = .ok (.ireturn, 1) := by decide +kernel
theorem d37_43 : decode jdk_116_method_20_code 43 = .ok (.ireturn, 1) := by decide +kernel
theorem d37_7 : decode jdk_116_method_20_code 7 = .ok (.ireturn, 1) := by decide +kernel
theorem d38_1 : decode jdk_3003_method_5_code 1 = .ok (.getfield 19, 3) := by decide +kernel
theorem d38_4 : decode jdk_3003_method_5_code 4 = .ok (.areturn, 1) := by decide +kernel
theorem d39_1 : decode jdk_2628_method_27_code 1 = .ok (.getfield 28, 3) := by decide +kernel
theorem d39_4 : decode jdk_2628_method_27_code 4 = .ok (.invokevirtual 293, 3) := by decide +kernel
theorem d39_7 : decode jdk_2628_method_27_code 7 = .ok (.areturn, 1) := by decide +kernel
theorem d3_0 : decode jdk_42_method_154_code 0 = .ok (.getstatic 38, 3) := by decide +kernel
theorem d3_10 : decode jdk_42_method_154_code 10 = .ok (.ifCond .ne 7, 3) := by decide +kernel
theorem d3_18 : decode jdk_42_method_154_code 18 = .ok (.ireturn, 1) := by decide +kernel
theorem d3_3 : decode jdk_42_method_154_code 3 = .ok (.ifCond .eq 14, 3) := by decide +kernel
theorem d3_7 : decode jdk_42_method_154_code 7 = .ok (.getfield 15, 3) := by decide +kernel
theorem d40_1 : decode jdk_43_method_32_code 1 = .ok (.ifnonnull 11, 3) := by decide +kernel
theorem d40_101 : decode jdk_43_method_32_code 101 = .ok (.newarray .byte, 2) := by decide +kernel
theorem d40_111 : decode jdk_43_method_32_code 111 = .ok (.invokestatic 28, 3) := by decide +kernel
theorem d40_121 : decode jdk_43_method_32_code 121 = .ok (.if_icmp .ge 54, 3) := by decide +kernel
theorem d40_127 : decode jdk_43_method_32_code 127 = .ok (.baload, 1) := by decide +kernel
theorem d40_13 : decode jdk_43_method_32_code 13 = .ok (.arraylength, 1) := by decide +kernel
theorem d40_134 : decode jdk_43_method_32_code 134 = .ok (.getstatic 66, 3) := by decide +kernel
theorem d40_139 : decode jdk_43_method_32_code 139 = .ok (.invokevirtual 160, 3) := by decide +kernel
theorem d40_146 : decode jdk_43_method_32_code 146 = .ok (.invokestatic 88, 3) := by decide +kernel
theorem d40_149 : decode jdk_43_method_32_code 149 = .ok (.ifCond .ne 12, 3) := by decide +kernel
theorem d40_168 : decode jdk_43_method_32_code 168 = .ok (.bastore, 1) := by decide +kernel
theorem d40_175 : decode jdk_43_method_32_code 175 = .ok (.new 1, 3) := by decide +kernel
theorem d40_182 : decode jdk_43_method_32_code 182 = .ok (.invokespecial 112, 3) := by decide +kernel
theorem d40_185 : decode jdk_43_method_32_code 185 = .ok (.areturn, 1) := by decide +kernel
theorem d40_21 : decode jdk_43_method_32_code 21 = .ok (.if_icmp .ge 34, 3) := by decide +kernel
theorem d40_26 : decode jdk_43_method_32_code 26 = .ok (.baload, 1) := by decide +kernel
theorem d40_35 : decode jdk_43_method_32_code 35 = .ok (.getstatic 66, 3) := by decide +kernel
theorem d40_40 : decode jdk_43_method_32_code 40 = .ok (.invokevirtual 160, 3) := by decide +kernel
theorem d40_43 : decode jdk_43_method_32_code 43 = .ok (.if_icmp .eq 6, 3) := by decide +kernel
theorem d40_58 : decode jdk_43_method_32_code 58 = .ok (.if_icmp .ne 5, 3) := by decide +kernel
theorem d40_62 : decode jdk_43_method_32_code 62 = .ok (.areturn, 1) := by decide +kernel
theorem d40_64 : decode jdk_43_method_32_code 64 = .ok (.invokevirtual 162, 3) := by decide +kernel
theorem d40_71 : decode jdk_43_method_32_code 71 = .ok (.ldc 168, 2) := by decide +kernel
theorem d40_73 : decode jdk_43_method_32_code 73 = .ok (.if_acmp .eq 17, 3) := by decide +kernel
theorem d40_78 : decode jdk_43_method_32_code 78 = .ok (.ldc 170, 2) := by decide +kernel
theorem d40_80 : decode jdk_43_method_32_code 80 = .ok (.if_acmp .eq 10, 3) := by decide +kernel
theorem d40_85 : decode jdk_43_method_32_code 85 = .ok (.ldc 172, 2) := by decide +kernel
theorem d40_87 : decode jdk_43_method_32_code 87 = .ok (.if_acmp .ne 12, 3) := by decide +kernel
theorem d41_1 : decode jdk_42_method_109_code 1 = .ok (.invokevirtual 492, 3) := by decide +kernel
theorem d41_13 : decode jdk_42_method_109_code 13 = .ok (.invokestatic 839, 3) := by decide +kernel
theorem d41_28 : decode jdk_42_method_109_code 28 = .ok (.areturn, 1) := by decide +kernel
theorem d41_4 : decode jdk_42_method_109_code 4 = .ok (.ifCond .eq 15, 3) := by decide +kernel
theorem d41_9 : decode jdk_42_method_109_code 9 = .ok (.getfield 9, 3) := by decide +kernel
theorem d42_1 : decode prog_17_method_7_code 1 = .ok (.ifnonnull 8, 3) := by decide +kernel
theorem d42_13 : decode prog_17_method_7_code 13 = .ok (.invokespecial 96, 3) := by decide +kernel
theorem d42_16 : decode prog_17_method_7_code 16 = .ok (.ldc 159, 2) := by decide +kernel
theorem d42_18 : decode prog_17_method_7_code 18 = .ok (.invokevirtual 97, 3) := by decide +kernel
theorem d42_22 : decode prog_17_method_7_code 22 = .ok (.getstatic 161, 3) := by decide +kernel
theorem d42_25 : decode prog_17_method_7_code 25 = .ok (.invokevirtual 167, 3) := by decide +kernel
theorem d42_28 : decode prog_17_method_7_code 28 = .ok (.invokevirtual 97, 3) := by decide +kernel
theorem d42_31 : decode prog_17_method_7_code 31 = .ok (.invokevirtual 103, 3) := by decide +kernel
theorem d42_34 : decode prog_17_method_7_code 34 = .ok (.areturn, 1) := by decide +kernel
theorem d42_4 : decode prog_17_method_7_code 4 = .ok (.ldc 157, 2) := by decide +kernel
theorem d42_9 : decode prog_17_method_7_code 9 = .ok (.new 94, 3) := by decide +kernel
theorem d4_12 : decode jdk_52_method_21_code 12 = .ok (.caload, 1) := by decide +kernel
theorem d4_20 : decode jdk_52_method_21_code 20 = .ok (.if_icmp .le 6, 3) := by decide +kernel
theorem d4_31 : decode jdk_52_method_21_code 31 = .ok (.bastore, 1) := by decide +kernel
theorem d4_46 : decode jdk_52_method_21_code 46 = .ok (.ireturn, 1) := by decide +kernel
theorem d4_7 : decode jdk_52_method_21_code 7 = .ok (.if_icmp .ge 37, 3) := by decide +kernel
theorem d5_1 : decode jdk_52_method_16_code 1 = .ok (.newarray .byte, 2) := by decide +kernel
theorem d5_17 : decode jdk_52_method_16_code 17 = .ok (.if_icmp .eq 40, 3) := by decide +kernel
theorem d5_58 : decode jdk_52_method_16_code 58 = .ok (.areturn, 1) := by decide +kernel
theorem d5_9 : decode jdk_52_method_16_code 9 = .ok (.invokestatic 115, 3) := by decide +kernel
theorem d6_2 : decode jdk_52_method_15_code 2 = .ok (.arraylength, 1) := by decide +kernel
theorem d6_8 : decode jdk_52_method_15_code 8 = .ok (.ireturn, 1) := by decide +kernel
theorem d7_1 : decode jdk_42_method_149_code 1 = .ok (.invokespecial 1, 3) := by decide +kernel
theorem d7_27 : decode jdk_42_method_149_code 27 = .ok (.getstatic 38, 3) := by decide +kernel
theorem d7_30 : decode jdk_42_method_149_code 30 = .ok (.ifCond .eq 28, 3) := by decide +kernel
theorem d7_36 : decode jdk_42_method_149_code 36 = .ok (.invokestatic 177, 3) := by decide +kernel
theorem d7_45 : decode jdk_42_method_149_code 45 = .ok (.invokestatic 47, 3) := by decide +kernel
theorem d7_48 : decode jdk_42_method_149_code 48 = .ok (.putfield 15, 3) := by decide +kernel
theorem d7_5 : decode jdk_42_method_149_code 5 = .ok (.ifCond .ne 22, 3) := by decide +kernel
theorem d7_54 : decode jdk_42_method_149_code 54 = .ok (.putfield 9, 3) := by decide +kernel
theorem d7_57 : decode jdk_42_method_149_code 57 = .ok (.return_, 1) := by decide +kernel
theorem d8_4 : decode jdk_42_method_3_code 4 = .ok (.arraylength, 1) := by decide +kernel
theorem d8_6 : decode jdk_42_method_3_code 6 = .ok (.invokespecial 27, 3) := by decide +kernel
theorem d8_9 : decode jdk_42_method_3_code 9 = .ok (.return_, 1) := by decide +kernel
theorem d9_10 : decode jdk_29_method_65_code 10 = .ok (.ireturn, 1) := by decide +kernel
theorem d9_2 : decode jdk_29_method_65_code 2 = .ok (.if_icmp .lt 7, 3) := by decide +kernel
end Words
theorem str_W {κ : Cx} (hw : Ws κ) : StrW κ := by
  intro a ha
  simp only [Bundle.stringAtoms, Bundle.sN, List.mem_cons, List.not_mem_nil, or_false] at ha
  rcases ha with rfl | rfl | rfl | rfl | rfl | rfl | rfl
  · exact (w2 hw)
  · exact (w3 hw)
  · exact (w4 hw)
  · exact (w5 hw)
  · exact (w6 hw)
  · exact (w7 hw)
  · exact (w8 hw)
theorem cls_Str {κ : Cx} (hw : Ws κ) : Cls κ "java/lang/String" [("java/lang/String", "value", "[B", .null), ("java/lang/String", "coder", "B", .int 0)] := by
  have h0 : Laid (kZ κ) (ka κ) "java/lang/String" "java/lang/String" "value" "[B" := (Or.inr (w5 hw))
  have h1 : Laid (kZ κ) (ka κ) "java/lang/String" "java/lang/String" "coder" "B" := (Or.inr (w6 hw))
  have n0_1 := slot_ne h0 h1 (by decide) (t := .array (.byte)) (t' := .byte) (by decide) (by decide)
  refine ⟨fun f hf => ?_, by simpa [fslot] using n0_1⟩
  simp only [List.mem_cons, List.not_mem_nil, or_false] at hf
  rcases hf with rfl | rfl
  · exact ⟨h0, .array (.byte), by decide, rfl⟩
  · exact ⟨h1, .byte, by decide, rfl⟩
theorem c_coder {κ : Cx} (C : Ok κ) (hw : Ws κ) (hs : StrS κ) {a b : Addr} {yc : MethodName} {pcc : Nat} {Lc : List Slot} {Sc : List Value} {F : List Frame} {l : List Chunk} {k n : Nat} (Cr : Caller κ yc pcc 3) (ho : strO a b 0 ∈ l) (K : WP κ yc (pcc + 3) Lc (.int 0 :: Sc) F (l) k n) :
    WP κ y1 0 [.val (.ref a)] [] (fr κ yc pcc Lc Sc :: F) (l) k n := by
  obtain ⟨⟨cz, hcs, scs⟩, -⟩ := hs
  refine wp_getstatic C (M1 hw) d1_0 (w31 hw) (Or.inl rfl) scs ?_
  refine wp_iff C (M1 hw) d1_3 (XT.i0_eq_f hcs) ?_
  refine wp_seg C (M1 hw) [(.aload_n 0, 1)] (by decide +kernel) (pc' := 7) (L' := [.val (.ref a)]) (S' := [.ref a]) rfl ?_
  refine wp_getfield C (M1 hw) d1_7 (w42 hw) (Or.inl rfl) (a := a) (mu := false) (Cl := "java/lang/String") (fs := [("java/lang/String", "value", "[B", .ref b), ("java/lang/String", "coder", "B", .int 0)]) ho (List.mem_of_getElem? (i := 1) rfl) ?_
  refine wp_seg C (M1 hw) [(.goto 4, 3)] (by decide +kernel) (pc' := 14) (L' := [.val (.ref a)]) (S' := [.int 0]) rfl ?_
  exact wp_iret C (M1 hw) d1_14 rfl (t := .byte) (by decide) rfl Cr K
theorem c_len {κ : Cx} (C : Ok κ) (hw : Ws κ) (hs : StrS κ) {a : Addr} {us : List UInt8} {yc : MethodName} {pcc : Nat} {Lc : List Slot} {Sc : List Value} {F : List Frame} {l : List Chunk} {k n : Nat} (Cr : Caller κ yc pcc 3) (hR : Rm κ (fr κ yc pcc Lc Sc :: F) 2 25) (st : Str l a us) (K : WP κ yc (pcc + 3) Lc (.int (Int32.ofNat us.length) :: Sc) F (l) k n) :
    WP κ y2 0 [.val (.ref a)] [] (fr κ yc pcc Lc Sc :: F) (l) k n := by
  obtain ⟨b, ho, hb⟩ := st
  refine wp_seg C (M2 hw) [(.aload_n 0, 1)] (by decide +kernel) (pc' := 1) (L' := [.val (.ref a)]) (S' := [.ref a]) rfl ?_
  refine wp_getfield C (M2 hw) d2_1 (w43 hw) (Or.inl rfl) (a := a) (mu := false) (Cl := "java/lang/String") (fs := [("java/lang/String", "value", "[B", .ref b), ("java/lang/String", "coder", "B", .int 0)]) ho (List.mem_of_getElem? (i := 0) rfl) ?_
  refine wp_arraylength C (M2 hw) d2_4 (a := b) hb (z := (Int32.ofNat us.length)) (by simp) ?_
  refine wp_seg C (M2 hw) [(.aload_n 0, 1)] (by decide +kernel) (pc' := 6) (L' := [.val (.ref a)]) (S' := [.ref a, .int (Int32.ofNat us.length)]) rfl ?_
  refine wp_invokevirtual C (M2 hw) d2_6 (M1 hw) (Cl := "java/lang/String") (w78 hw) (w79 hw) (w81 hw) (w80 hw) (Or.inl ⟨_, (w81 hw)⟩) (by decide) (b := a) ho (S' := [.int (Int32.ofNat us.length)]) [] (lenOf pd1 rfl) rfl (L' := [.val (.ref a)]) rfl rfl (hR.push (d' := 1) (w' := 12) (Nat.le_of_ble_eq_true rfl) (Nat.le_of_ble_eq_true rfl)) ?_
  refine c_coder C hw hs (Meth.caller (M2 hw) d2_6) ho ?_
  refine wp_seg C (M2 hw) [(.ishr, 1)] (by decide +kernel) (pc' := 10) (L' := [.val (.ref a)]) (S' := [.int ((Int32.ofNat us.length) >>> ((0 : Int32) &&& 31))]) rfl ?_
  rw [shr0]
  exact wp_iret C (M2 hw) d2_10 rfl (t := .int) (by decide) rfl Cr K
theorem c_isl {κ : Cx} (C : Ok κ) (hw : Ws κ) (hs : StrS κ) {a b : Addr} {yc : MethodName} {pcc : Nat} {Lc : List Slot} {Sc : List Value} {F : List Frame} {l : List Chunk} {k n : Nat} (Cr : Caller κ yc pcc 3) (ho : strO a b 0 ∈ l) (K : WP κ yc (pcc + 3) Lc (.int 1 :: Sc) F (l) k n) :
    WP κ y3 0 [.val (.ref a)] [] (fr κ yc pcc Lc Sc :: F) (l) k n := by
  obtain ⟨⟨cz, hcs, scs⟩, -⟩ := hs
  refine wp_getstatic C (M3 hw) d3_0 (w31 hw) (Or.inl rfl) scs ?_
  refine wp_iff C (M3 hw) d3_3 (XT.i0_eq_f hcs) ?_
  refine wp_seg C (M3 hw) [(.aload_n 0, 1)] (by decide +kernel) (pc' := 7) (L' := [.val (.ref a)]) (S' := [.ref a]) rfl ?_
  refine wp_getfield C (M3 hw) d3_7 (w42 hw) (Or.inl rfl) (a := a) (mu := false) (Cl := "java/lang/String") (fs := [("java/lang/String", "value", "[B", .ref b), ("java/lang/String", "coder", "B", .int 0)]) ho (List.mem_of_getElem? (i := 1) rfl) ?_
  refine wp_iff C (M3 hw) d3_10 (XT.i0_ne_f (by decide)) ?_
  refine wp_seg C (M3 hw) [(.iconst 1, 1), (.goto 4, 3)] (by decide +kernel) (pc' := 18) (L' := [.val (.ref a)]) (S' := [.int 1]) rfl ?_
  exact wp_iret C (M3 hw) d3_18 rfl (t := .boolean) (by decide) rfl Cr K
theorem h_cmp5 {κ : Cx} (C : Ok κ) (hw : Ws κ) {c b : Addr} {mc : Bool} {us : List UInt8} (hl : us.length < 2 ^ 31) {yc : MethodName} {pcc : Nat} {Lc : List Slot} {Sc : List Value} {F : List Frame} {l : List Chunk} {k n : Nat} (Cr : Caller κ yc pcc 3) (hm : (c, mc, .inr (.char, us.map chv)) ∈ l) (K : WP κ yc (pcc + 3) Lc (.int (Int32.ofNat us.length) :: Sc) F ((b, true, .inr (.byte, us.map byv)) :: l) k n) : ∀ (d i : Nat) (z : Int32), i + d = us.length →
    WP κ y4 3 [.val (.ref c), .val (.int (Int32.ofNat i)), .val (.ref b), .val (.int (Int32.ofNat i)), .val (.int (Int32.ofNat us.length)), .val (.int (Int32.ofNat i)), .val (.int z)] [] (fr κ yc pcc Lc Sc :: F) ((b, true, .inr (.byte, part byv (.int 0) us i)) :: l) k n := by
  intro d
  induction d with
  | zero =>
    intro i z hi
    have e : i = us.length := by omega
    subst e
    refine wp_seg C (M4 hw) [(.iload 5, 2), (.iload 4, 2)] (by decide +kernel) (pc' := 7) (L' := [.val (.ref c), .val (.int (Int32.ofNat us.length)), .val (.ref b), .val (.int (Int32.ofNat us.length)), .val (.int (Int32.ofNat us.length)), .val (.int (Int32.ofNat us.length)), .val (.int z)]) (S' := [.int (Int32.ofNat us.length), .int (Int32.ofNat us.length)]) rfl ?_
    refine wp_ict C (M4 hw) d4_7 (XT.ii_ge_t (fun q => by have := (lt32 (by omega) hl).mp q; omega)) (pc' := 44) (by decide) ?_
    refine wp_seg C (M4 hw) [(.iload 4, 2)] (by decide +kernel) (pc' := 46) (L' := [.val (.ref c), .val (.int (Int32.ofNat us.length)), .val (.ref b), .val (.int (Int32.ofNat us.length)), .val (.int (Int32.ofNat us.length)), .val (.int (Int32.ofNat us.length)), .val (.int z)]) (S' := [.int (Int32.ofNat us.length)]) rfl ?_
    rw [part_n]
    exact wp_iret C (M4 hw) d4_46 rfl (t := .int) (by decide) rfl Cr K
  | succ d ih =>
    intro i z hd
    have hi : i < us.length := by omega
    refine wp_seg C (M4 hw) [(.iload 5, 2), (.iload 4, 2)] (by decide +kernel) (pc' := 7) (L' := [.val (.ref c), .val (.int (Int32.ofNat i)), .val (.ref b), .val (.int (Int32.ofNat i)), .val (.int (Int32.ofNat us.length)), .val (.int (Int32.ofNat i)), .val (.int z)]) (S' := [.int (Int32.ofNat us.length), .int (Int32.ofNat i)]) rfl ?_
    refine wp_icf C (M4 hw) d4_7 (XT.ii_ge_f ((lt32 (by omega) hl).mpr hi)) ?_
    refine wp_seg C (M4 hw) [(.aload_n 0, 1), (.iload_n 1, 1)] (by decide +kernel) (pc' := 12) (L' := [.val (.ref c), .val (.int (Int32.ofNat i)), .val (.ref b), .val (.int (Int32.ofNat i)), .val (.int (Int32.ofNat us.length)), .val (.int (Int32.ofNat i)), .val (.int z)]) (S' := [.int (Int32.ofNat i), .ref c]) rfl ?_
    refine wp_caload C (M4 hw) d4_12 (a := c) (List.Mem.tail _ hm) (i := i) (Ix32 (by omega)) (v := .int (ch8 (us.getD i 0))) (getD_map hi) ?_
    refine wp_seg C (M4 hw) [(.istore 6, 2), (.iload 6, 2), (.sipush 255, 3)] (by decide +kernel) (pc' := 20) (L' := [.val (.ref c), .val (.int (Int32.ofNat i)), .val (.ref b), .val (.int (Int32.ofNat i)), .val (.int (Int32.ofNat us.length)), .val (.int (Int32.ofNat i)), .val (.int (ch8 (us.getD i 0)))]) (S' := [.int 255, .int (ch8 (us.getD i 0))]) rfl ?_
    refine wp_ict C (M4 hw) d4_20 (XT.ii_le_t (ch8_le _)) (pc' := 26) (by decide) ?_
    refine wp_seg C (M4 hw) [(.aload_n 2, 1), (.iload_n 3, 1), (.iload 6, 2), (.i2b, 1)] (by decide +kernel) (pc' := 31) (L' := [.val (.ref c), .val (.int (Int32.ofNat i)), .val (.ref b), .val (.int (Int32.ofNat i)), .val (.int (Int32.ofNat us.length)), .val (.int (Int32.ofNat i)), .val (.int (ch8 (us.getD i 0)))]) (S' := [.int ((Int32.toInt8 (ch8 (us.getD i 0))).toInt32), .int (Int32.ofNat i), .ref b]) rfl ?_
    refine wp_bastore C (M4 hw) d4_31 (i := 0) (j := i) rfl (Ix32 (by omega)) (by rw [part_len _ _ _ (by omega)]; exact hi) (v' := .int ((us.getD i 0).toInt8.toInt32)) (congrArg Value.int (ch8_byte2 _)) (l' := (b, true, .inr (.byte, part byv (.int 0) us (i + 1))) :: l) (by rw [show Value.int ((us.getD i 0).toInt8.toInt32) = byv (us.getD i 0) from rfl, List.set_cons_zero, part_set _ _ _ hi]) ?_
    refine wp_seg C (M4 hw) [(.iinc 1 1, 3), (.iinc 3 1, 3), (.iinc 5 1, 3), (.goto (-38), 3)] (by decide +kernel) (pc' := 3) (L' := [.val (.ref c), .val (.int ((Int32.ofNat i) + 1)), .val (.ref b), .val (.int ((Int32.ofNat i) + 1)), .val (.int (Int32.ofNat us.length)), .val (.int ((Int32.ofNat i) + 1)), .val (.int (ch8 (us.getD i 0)))]) (S' := []) rfl ?_
    rw [succ32]
    exact ih (i + 1) _ (by omega)
theorem c_cmp5 {κ : Cx} (C : Ok κ) (hw : Ws κ) {c b : Addr} {mc : Bool} {us : List UInt8} (hl : us.length < 2 ^ 31) (h0 : 0 < us.length) {yc : MethodName} {pcc : Nat} {Lc : List Slot} {Sc : List Value} {F : List Frame} {l : List Chunk} {k n : Nat} (Cr : Caller κ yc pcc 3) (hm : (c, mc, .inr (.char, us.map chv)) ∈ l) (K : WP κ yc (pcc + 3) Lc (.int (Int32.ofNat us.length) :: Sc) F ((b, true, .inr (.byte, us.map byv)) :: l) k n) :
    WP κ y4 0 [.val (.ref c), .val (.int 0), .val (.ref b), .val (.int 0), .val (.int (Int32.ofNat us.length)), .unset, .unset] [] (fr κ yc pcc Lc Sc :: F) ((b, true, .inr (.byte, List.replicate us.length (.int 0))) :: l) k n := by
  rw [← part_0 byv (.int 0) us]
  refine wp_seg C (M4 hw) [(.iconst 0, 1), (.istore 5, 2), (.iload 5, 2), (.iload 4, 2)] (by decide +kernel) (pc' := 7) (L' := [.val (.ref c), .val (.int 0), .val (.ref b), .val (.int 0), .val (.int (Int32.ofNat us.length)), .val (.int 0), .unset]) (S' := [.int (Int32.ofNat us.length), .int 0]) rfl ?_
  refine wp_icf C (M4 hw) d4_7 (XT.ii_ge_f ((lt32 (a := 0) (by decide) hl).mpr h0)) ?_
  refine wp_seg C (M4 hw) [(.aload_n 0, 1), (.iload_n 1, 1)] (by decide +kernel) (pc' := 12) (L' := [.val (.ref c), .val (.int 0), .val (.ref b), .val (.int 0), .val (.int (Int32.ofNat us.length)), .val (.int 0), .unset]) (S' := [.int 0, .ref c]) rfl ?_
  refine wp_caload C (M4 hw) d4_12 (a := c) (List.Mem.tail _ hm) (i := 0) ⟨by decide, by decide⟩ (v := .int (ch8 (us.getD 0 0))) (getD_map h0) ?_
  refine wp_seg C (M4 hw) [(.istore 6, 2), (.iload 6, 2), (.sipush 255, 3)] (by decide +kernel) (pc' := 20) (L' := [.val (.ref c), .val (.int 0), .val (.ref b), .val (.int 0), .val (.int (Int32.ofNat us.length)), .val (.int 0), .val (.int (ch8 (us.getD 0 0)))]) (S' := [.int 255, .int (ch8 (us.getD 0 0))]) rfl ?_
  refine wp_ict C (M4 hw) d4_20 (XT.ii_le_t (ch8_le _)) (pc' := 26) (by decide) ?_
  refine wp_seg C (M4 hw) [(.aload_n 2, 1), (.iload_n 3, 1), (.iload 6, 2), (.i2b, 1)] (by decide +kernel) (pc' := 31) (L' := [.val (.ref c), .val (.int 0), .val (.ref b), .val (.int 0), .val (.int (Int32.ofNat us.length)), .val (.int 0), .val (.int (ch8 (us.getD 0 0)))]) (S' := [.int ((Int32.toInt8 (ch8 (us.getD 0 0))).toInt32), .int 0, .ref b]) rfl ?_
  refine wp_bastore C (M4 hw) d4_31 (i := 0) (j := 0) rfl ⟨by decide, by decide⟩ (by rw [part_len _ _ _ (by omega)]; exact h0) (v' := .int ((us.getD 0 0).toInt8.toInt32)) (congrArg Value.int (ch8_byte2 _)) (l' := (b, true, .inr (.byte, part byv (.int 0) us 1)) :: l) (by rw [show Value.int ((us.getD 0 0).toInt8.toInt32) = byv (us.getD 0 0) from rfl, List.set_cons_zero, part_set _ _ _ h0]) ?_
  refine wp_seg C (M4 hw) [(.iinc 1 1, 3), (.iinc 3 1, 3), (.iinc 5 1, 3), (.goto (-38), 3)] (by decide +kernel) (pc' := 3) (L' := [.val (.ref c), .val (.int 1), .val (.ref b), .val (.int 1), .val (.int (Int32.ofNat us.length)), .val (.int 1), .val (.int (ch8 (us.getD 0 0)))]) (S' := []) rfl ?_
  exact h_cmp5 C hw hl Cr hm K (us.length - 1) 1 _ (by omega)
theorem c_cmp3 {κ : Cx} (C : Ok κ) (hw : Ws κ) {c : Addr} {mc : Bool} {us : List UInt8} (hl : us.length < 2 ^ 31) (hb : us.length * 8 ≤ 536870912) (h0 : 0 < us.length) {yc : MethodName} {pcc : Nat} {Lc : List Slot} {Sc : List Value} {F : List Frame} {l : List Chunk} {k n : Nat} (Cr : Caller κ yc pcc 3) (hR : Rm κ (fr κ yc pcc Lc Sc :: F) 2 35) (hm : (c, mc, .inr (.char, us.map chv)) ∈ l) (hk : k + 1 ≤ (kR κ).cells) (hn : n + us.length ≤ (kR κ).slots) (K : ∀ b, WP κ yc (pcc + 3) Lc (.ref b :: Sc) F ((b, true, .inr (.byte, us.map byv)) :: l) (k + 1) (n + us.length)) :
    WP κ y5 0 [.val (.ref c), .val (.int 0), .val (.int (Int32.ofNat us.length)), .unset, .unset, .unset] [] (fr κ yc pcc Lc Sc :: F) (l) k n := by
  refine wp_seg C (M5 hw) [(.iload_n 2, 1)] (by decide +kernel) (pc' := 1) (L' := [.val (.ref c), .val (.int 0), .val (.int (Int32.ofNat us.length)), .unset, .unset, .unset]) (S' := [.int (Int32.ofNat us.length)]) rfl ?_
  refine wp_newarray C (M5 hw) d5_1 rfl (w4 hw) (len := us.length) (Ix32 hl) hb hk hn (vs := List.replicate us.length (.int 0)) rfl fun a1 => ?_
  refine wp_seg C (M5 hw) [(.astore_n 3, 1), (.aload_n 0, 1), (.iload_n 1, 1), (.aload_n 3, 1), (.iconst 0, 1), (.iload_n 2, 1)] (by decide +kernel) (pc' := 9) (L' := [.val (.ref c), .val (.int 0), .val (.int (Int32.ofNat us.length)), .val (.ref a1), .unset, .unset]) (S' := [.int (Int32.ofNat us.length), .int 0, .ref a1, .int 0, .ref c]) rfl ?_
  refine wp_invokestatic C (M5 hw) d5_9 (M4 hw) (w36 hw) (w37 hw) (w34 hw) (by decide) (S' := []) [.ref c, .int 0, .ref a1, .int 0, .int (Int32.ofNat us.length)] (lenOf pd4 rfl) rfl (L' := [.val (.ref c), .val (.int 0), .val (.ref a1), .val (.int 0), .val (.int (Int32.ofNat us.length)), .unset, .unset]) rfl rfl (hR.push (d' := 1) (w' := 18) (Nat.le_of_ble_eq_true rfl) (Nat.le_of_ble_eq_true rfl)) ?_
  refine c_cmp5 C hw hl h0 (Meth.caller (M5 hw) d5_9) hm ?_
  refine wp_seg C (M5 hw) [(.istore 4, 2), (.iload 4, 2), (.iload_n 2, 1)] (by decide +kernel) (pc' := 17) (L' := [.val (.ref c), .val (.int 0), .val (.int (Int32.ofNat us.length)), .val (.ref a1), .val (.int (Int32.ofNat us.length)), .unset]) (S' := [.int (Int32.ofNat us.length), .int (Int32.ofNat us.length)]) rfl ?_
  refine wp_ict C (M5 hw) d5_17 (XT.ii_eq_t rfl) (pc' := 57) (by decide) ?_
  refine wp_seg C (M5 hw) [(.aload_n 3, 1)] (by decide +kernel) (pc' := 58) (L' := [.val (.ref c), .val (.int 0), .val (.int (Int32.ofNat us.length)), .val (.ref a1), .val (.int (Int32.ofNat us.length)), .unset]) (S' := [.ref a1]) rfl ?_
  exact wp_aret C (M5 hw) d5_58 rfl (t := .array .byte) rfl rfl Cr (K a1)
theorem c_cfa {κ : Cx} (C : Ok κ) (hw : Ws κ) {b : Addr} {mb : Bool} {us : List UInt8} {yc : MethodName} {pcc : Nat} {Lc : List Slot} {Sc : List Value} {F : List Frame} {l : List Chunk} {k n : Nat} (Cr : Caller κ yc pcc 3) (hm : (b, mb, .inr (.byte, us.map byv)) ∈ l) (K : WP κ yc (pcc + 3) Lc (.int 0 :: Sc) F (l) k n) :
    WP κ y6 0 [.val (.ref b), .val (.int (Int32.ofNat us.length))] [] (fr κ yc pcc Lc Sc :: F) (l) k n := by
  refine wp_seg C (M6 hw) [(.iload_n 1, 1), (.aload_n 0, 1)] (by decide +kernel) (pc' := 2) (L' := [.val (.ref b), .val (.int (Int32.ofNat us.length))]) (S' := [.ref b, .int (Int32.ofNat us.length)]) rfl ?_
  refine wp_arraylength C (M6 hw) d6_2 (a := b) hm (z := (Int32.ofNat us.length)) (by simp) ?_
  refine wp_seg C (M6 hw) [(.isub, 1)] (by decide +kernel) (pc' := 4) (L' := [.val (.ref b), .val (.int (Int32.ofNat us.length))]) (S' := [.int ((Int32.ofNat us.length) - (Int32.ofNat us.length))]) rfl ?_
  rw [Int32.sub_self]
  refine wp_seg C (M6 hw) [(.bipush 31, 2), (.iushr, 1), (.i2b, 1)] (by decide +kernel) (pc' := 8) (L' := [.val (.ref b), .val (.int (Int32.ofNat us.length))]) (S' := [.int 0]) rfl ?_
  exact wp_iret C (M6 hw) d6_8 rfl (t := .byte) (by decide) rfl Cr K
theorem c_init4 {κ : Cx} (C : Ok κ) (hw : Ws κ) (hs : StrS κ) {a c : Addr} {mc : Bool} {us : List UInt8} (hl : us.length < 2 ^ 31) (hb : us.length * 8 ≤ 536870912) (h0 : 0 < us.length) {yc : MethodName} {pcc : Nat} {Lc : List Slot} {Sc : List Value} {F : List Frame} {l : List Chunk} {k n : Nat} (Cr : Caller κ yc pcc 3) (hR : Rm κ (fr κ yc pcc Lc Sc :: F) 3 52) (hm : (c, mc, .inr (.char, us.map chv)) ∈ l) (hk : k + 1 ≤ (kR κ).cells) (hn : n + us.length ≤ (kR κ).slots) (K : ∀ b, WP κ yc (pcc + 3) Lc Sc F (strO a b 0 :: strB b us :: l) (k + 1) (n + us.length)) :
    WP κ y7 0 [.val (.ref a), .val (.ref c), .val (.int 0), .val (.int (Int32.ofNat us.length)), .val (.null), .unset] [] (fr κ yc pcc Lc Sc :: F) ((a, true, .inl ("java/lang/String", [("java/lang/String", "value", "[B", .null), ("java/lang/String", "coder", "B", .int 0)])) :: l) k n := by
  obtain ⟨⟨cz, hcs, scs⟩, fv, hfv, sfv⟩ := hs
  refine wp_seg C (M7 hw) [(.aload_n 0, 1)] (by decide +kernel) (pc' := 1) (L' := [.val (.ref a), .val (.ref c), .val (.int 0), .val (.int (Int32.ofNat us.length)), .val (.null), .unset]) (S' := [.ref a]) rfl ?_
  refine wp_initObject C (M7 hw) d7_1 (w28 hw) (w29 hw) (w30 hw) (hR.push (d' := 1) (w' := 12) (Nat.le_of_ble_eq_true rfl) (Nat.le_of_ble_eq_true rfl)) ?_
  refine wp_seg C (M7 hw) [(.iload_n 3, 1)] (by decide +kernel) (pc' := 5) (L' := [.val (.ref a), .val (.ref c), .val (.int 0), .val (.int (Int32.ofNat us.length)), .val (.null), .unset]) (S' := [.int (Int32.ofNat us.length)]) rfl ?_
  refine wp_ift C (M7 hw) d7_5 (XT.i0_ne_t (fun q => by have := (eq32 (b := 0) hl (by decide)).mp q; omega)) (pc' := 27) (by decide) ?_
  refine wp_getstatic C (M7 hw) d7_27 (w31 hw) (Or.inl rfl) scs ?_
  refine wp_iff C (M7 hw) d7_30 (XT.i0_eq_f hcs) ?_
  refine wp_seg C (M7 hw) [(.aload_n 1, 1), (.iload_n 2, 1), (.iload_n 3, 1)] (by decide +kernel) (pc' := 36) (L' := [.val (.ref a), .val (.ref c), .val (.int 0), .val (.int (Int32.ofNat us.length)), .val (.null), .unset]) (S' := [.int (Int32.ofNat us.length), .int 0, .ref c]) rfl ?_
  refine wp_invokestatic C (M7 hw) d7_36 (M5 hw) (w32 hw) (w33 hw) (w34 hw) (by decide) (S' := []) [.ref c, .int 0, .int (Int32.ofNat us.length)] (lenOf pd5 rfl) rfl (L' := [.val (.ref c), .val (.int 0), .val (.int (Int32.ofNat us.length)), .unset, .unset, .unset]) rfl rfl (hR.push (d' := 1) (w' := 17) (Nat.le_of_ble_eq_true rfl) (Nat.le_of_ble_eq_true rfl)) ?_
  refine c_cmp3 C hw hl hb h0 (Meth.caller (M7 hw) d7_36) (hR.push (d' := 2) (w' := 35) (Nat.le_of_ble_eq_true rfl) (Nat.le_of_ble_eq_true rfl)) (List.Mem.tail _ hm) hk hn fun b => ?_
  refine wp_seg C (M7 hw) [(.astore 5, 2), (.aload_n 0, 1), (.aload 5, 2), (.iload_n 3, 1)] (by decide +kernel) (pc' := 45) (L' := [.val (.ref a), .val (.ref c), .val (.int 0), .val (.int (Int32.ofNat us.length)), .val (.null), .val (.ref b)]) (S' := [.int (Int32.ofNat us.length), .ref b, .ref a]) rfl ?_
  refine wp_invokestatic C (M7 hw) d7_45 (M6 hw) (w39 hw) (w40 hw) (w34 hw) (by decide) (S' := [.ref a]) [.ref b, .int (Int32.ofNat us.length)] (lenOf pd6 rfl) rfl (L' := [.val (.ref b), .val (.int (Int32.ofNat us.length))]) rfl rfl (hR.push (d' := 1) (w' := 13) (Nat.le_of_ble_eq_true rfl) (Nat.le_of_ble_eq_true rfl)) ?_
  refine c_cfa C hw  (Meth.caller (M7 hw) d7_45) (List.mem_of_getElem? (i := 0) rfl) ?_
  refine wp_putfield C (M7 hw) d7_48 (w42 hw) (Or.inl rfl) (i := 1) (j := 1) rfl rfl (Or.inr ⟨(w6 hw), rfl, rfl⟩) (w3 hw) (ty := .byte) (by decide) rfl rfl (l' := (b, true, .inr (.byte, us.map byv)) :: (a, true, .inl ("java/lang/String", [("java/lang/String", "value", "[B", .null), ("java/lang/String", "coder", "B", .int 0)])) :: l) rfl ?_
  refine wp_seg C (M7 hw) [(.aload_n 0, 1), (.aload 5, 2)] (by decide +kernel) (pc' := 54) (L' := [.val (.ref a), .val (.ref c), .val (.int 0), .val (.int (Int32.ofNat us.length)), .val (.null), .val (.ref b)]) (S' := [.ref b, .ref a]) rfl ?_
  refine wp_putfield C (M7 hw) d7_54 (w43 hw) (Or.inl rfl) (i := 1) (j := 0) rfl rfl (Or.inr ⟨(w5 hw), rfl, rfl⟩) (w3 hw) (ty := .array (.byte)) (by decide) rfl rfl (l' := (b, true, .inr (.byte, us.map byv)) :: (a, true, .inl ("java/lang/String", [("java/lang/String", "value", "[B", .ref b), ("java/lang/String", "coder", "B", .int 0)])) :: l) rfl ?_
  refine wp_freeze ?_
  refine wp_front 1 rfl rfl ?_
  refine wp_freeze ?_
  exact wp_vret C (M7 hw) d7_57 Cr (K b)
theorem c_init1 {κ : Cx} (C : Ok κ) (hw : Ws κ) (hs : StrS κ) {a c : Addr} {mc : Bool} {us : List UInt8} (hl : us.length < 2 ^ 31) (hb : us.length * 8 ≤ 536870912) (h0 : 0 < us.length) {yc : MethodName} {pcc : Nat} {Lc : List Slot} {Sc : List Value} {F : List Frame} {l : List Chunk} {k n : Nat} (Cr : Caller κ yc pcc 3) (hR : Rm κ (fr κ yc pcc Lc Sc :: F) 4 65) (hm : (c, mc, .inr (.char, us.map chv)) ∈ l) (hk : k + 1 ≤ (kR κ).cells) (hn : n + us.length ≤ (kR κ).slots) (K : ∀ b, WP κ yc (pcc + 3) Lc Sc F (strO a b 0 :: strB b us :: l) (k + 1) (n + us.length)) :
    WP κ y8 0 [.val (.ref a), .val (.ref c)] [] (fr κ yc pcc Lc Sc :: F) ((a, true, .inl ("java/lang/String", [("java/lang/String", "value", "[B", .null), ("java/lang/String", "coder", "B", .int 0)])) :: l) k n := by
  refine wp_seg C (M8 hw) [(.aload_n 0, 1), (.aload_n 1, 1), (.iconst 0, 1), (.aload_n 1, 1)] (by decide +kernel) (pc' := 4) (L' := [.val (.ref a), .val (.ref c)]) (S' := [.ref c, .int 0, .ref c, .ref a]) rfl ?_
  refine wp_arraylength C (M8 hw) d8_4 (a := c) (List.Mem.tail _ hm) (z := (Int32.ofNat us.length)) (by simp) ?_
  refine wp_seg C (M8 hw) [(.aconst_null, 1)] (by decide +kernel) (pc' := 6) (L' := [.val (.ref a), .val (.ref c)]) (S' := [.null, .int (Int32.ofNat us.length), .int 0, .ref c, .ref a]) rfl ?_
  refine wp_init C (M8 hw) d8_6 (M7 hw) rfl (w24 hw) (w25 hw) (by decide) (S' := []) a [.ref c, .int 0, .int (Int32.ofNat us.length), .null] (lenOf pd7 rfl) rfl (L' := [.val (.ref a), .val (.ref c), .val (.int 0), .val (.int (Int32.ofNat us.length)), .val (.null), .unset]) rfl rfl (hR.push (d' := 1) (w' := 17) (Nat.le_of_ble_eq_true rfl) (Nat.le_of_ble_eq_true rfl)) ?_
  refine c_init4 C hw hs hl hb h0 (Meth.caller (M8 hw) d8_6) (hR.push (d' := 3) (w' := 52) (Nat.le_of_ble_eq_true rfl) (Nat.le_of_ble_eq_true rfl)) hm hk hn fun b => ?_
  exact wp_vret C (M8 hw) d8_9 Cr (K b)
theorem c_max1 {κ : Cx} (C : Ok κ) (hw : Ws κ) {x z : Int32} (h : ¬ x < z) {yc : MethodName} {pcc : Nat} {Lc : List Slot} {Sc : List Value} {F : List Frame} {l : List Chunk} {k n : Nat} (Cr : Caller κ yc pcc 3)  (K : WP κ yc (pcc + 3) Lc (.int x :: Sc) F (l) k n) :
    WP κ y9 0 [.val (.int x), .val (.int z)] [] (fr κ yc pcc Lc Sc :: F) (l) k n := by
  refine wp_seg C (M9 hw) [(.iload_n 0, 1), (.iload_n 1, 1)] (by decide +kernel) (pc' := 2) (L' := [.val (.int x), .val (.int z)]) (S' := [.int z, .int x]) rfl ?_
  refine wp_icf C (M9 hw) d9_2 (XT.ii_lt_f h) ?_
  refine wp_seg C (M9 hw) [(.iload_n 0, 1), (.goto 4, 3)] (by decide +kernel) (pc' := 10) (L' := [.val (.int x), .val (.int z)]) (S' := [.int x]) rfl ?_
  exact wp_iret C (M9 hw) d9_10 rfl (t := .int) (by decide) rfl Cr K
theorem c_max2 {κ : Cx} (C : Ok κ) (hw : Ws κ) {x z : Int32} (h : x < z) {yc : MethodName} {pcc : Nat} {Lc : List Slot} {Sc : List Value} {F : List Frame} {l : List Chunk} {k n : Nat} (Cr : Caller κ yc pcc 3)  (K : WP κ yc (pcc + 3) Lc (.int z :: Sc) F (l) k n) :
    WP κ y9 0 [.val (.int x), .val (.int z)] [] (fr κ yc pcc Lc Sc :: F) (l) k n := by
  refine wp_seg C (M9 hw) [(.iload_n 0, 1), (.iload_n 1, 1)] (by decide +kernel) (pc' := 2) (L' := [.val (.int x), .val (.int z)]) (S' := [.int z, .int x]) rfl ?_
  refine wp_ict C (M9 hw) d9_2 (XT.ii_lt_t h) (pc' := 9) (by decide) ?_
  refine wp_seg C (M9 hw) [(.iload_n 1, 1)] (by decide +kernel) (pc' := 10) (L' := [.val (.int x), .val (.int z)]) (S' := [.int z]) rfl ?_
  exact wp_iret C (M9 hw) d9_10 rfl (t := .int) (by decide) rfl Cr K
theorem c_min1 {κ : Cx} (C : Ok κ) (hw : Ws κ) {x z : Int32} (h : ¬ z < x) {yc : MethodName} {pcc : Nat} {Lc : List Slot} {Sc : List Value} {F : List Frame} {l : List Chunk} {k n : Nat} (Cr : Caller κ yc pcc 3)  (K : WP κ yc (pcc + 3) Lc (.int x :: Sc) F (l) k n) :
    WP κ y10 0 [.val (.int x), .val (.int z)] [] (fr κ yc pcc Lc Sc :: F) (l) k n := by
  refine wp_seg C (M10 hw) [(.iload_n 0, 1), (.iload_n 1, 1)] (by decide +kernel) (pc' := 2) (L' := [.val (.int x), .val (.int z)]) (S' := [.int z, .int x]) rfl ?_
  refine wp_icf C (M10 hw) d10_2 (XT.ii_gt_f h) ?_
  refine wp_seg C (M10 hw) [(.iload_n 0, 1), (.goto 4, 3)] (by decide +kernel) (pc' := 10) (L' := [.val (.int x), .val (.int z)]) (S' := [.int x]) rfl ?_
  exact wp_iret C (M10 hw) d10_10 rfl (t := .int) (by decide) rfl Cr K
theorem c_min2 {κ : Cx} (C : Ok κ) (hw : Ws κ) {x z : Int32} (h : z < x) {yc : MethodName} {pcc : Nat} {Lc : List Slot} {Sc : List Value} {F : List Frame} {l : List Chunk} {k n : Nat} (Cr : Caller κ yc pcc 3)  (K : WP κ yc (pcc + 3) Lc (.int z :: Sc) F (l) k n) :
    WP κ y10 0 [.val (.int x), .val (.int z)] [] (fr κ yc pcc Lc Sc :: F) (l) k n := by
  refine wp_seg C (M10 hw) [(.iload_n 0, 1), (.iload_n 1, 1)] (by decide +kernel) (pc' := 2) (L' := [.val (.int x), .val (.int z)]) (S' := [.int z, .int x]) rfl ?_
  refine wp_ict C (M10 hw) d10_2 (XT.ii_gt_t h) (pc' := 9) (by decide) ?_
  refine wp_seg C (M10 hw) [(.iload_n 1, 1)] (by decide +kernel) (pc' := 10) (L' := [.val (.int x), .val (.int z)]) (S' := [.int z]) rfl ?_
  exact wp_iret C (M10 hw) d10_10 rfl (t := .int) (by decide) rfl Cr K
theorem c_clen {κ : Cx} (C : Ok κ) (hw : Ws κ) {i j : Int32} (h : ¬ j < i) {yc : MethodName} {pcc : Nat} {Lc : List Slot} {Sc : List Value} {F : List Frame} {l : List Chunk} {k n : Nat} (Cr : Caller κ yc pcc 3)  (K : WP κ yc (pcc + 3) Lc Sc F (l) k n) :
    WP κ y11 0 [.val (.int i), .val (.int j)] [] (fr κ yc pcc Lc Sc :: F) (l) k n := by
  refine wp_seg C (M11 hw) [(.iload_n 1, 1), (.iload_n 0, 1)] (by decide +kernel) (pc' := 2) (L' := [.val (.int i), .val (.int j)]) (S' := [.int i, .int j]) rfl ?_
  refine wp_ict C (M11 hw) d11_2 (XT.ii_ge_t h) (pc' := 37) (by decide) ?_
  exact wp_vret C (M11 hw) d11_37 Cr K
theorem c_corb {κ : Cx} (C : Ok κ) (hw : Ws κ) {b : Addr} {us : List UInt8} {i m : Nat} (hl : us.length < 2 ^ 31) (h1 : i + m ≤ us.length) (hbb : m * 8 ≤ 536870912) {yc : MethodName} {pcc : Nat} {Lc : List Slot} {Sc : List Value} {F : List Frame} {l : List Chunk} {k n : Nat} (Cr : Caller κ yc pcc 3) (hR : Rm κ (fr κ yc pcc Lc Sc :: F) 2 56) (hb : strB b us ∈ l) (hk : k + 1 ≤ (kR κ).cells) (hn : n + m ≤ (kR κ).slots) (K : ∀ c, WP κ yc (pcc + 3) Lc (.ref c :: Sc) F ((c, true, .inr (.byte, ((us.drop i).take m).map byv)) :: l) (k + 1) (n + m)) :
    WP κ y12 0 [.val (.ref b), .val (.int (Int32.ofNat i)), .val (.int (Int32.ofNat (i + m))), .unset, .unset] [] (fr κ yc pcc Lc Sc :: F) (l) k n := by
  refine wp_seg C (M12 hw) [(.iload_n 1, 1), (.iload_n 2, 1)] (by decide +kernel) (pc' := 2) (L' := [.val (.ref b), .val (.int (Int32.ofNat i)), .val (.int (Int32.ofNat (i + m))), .unset, .unset]) (S' := [.int (Int32.ofNat (i + m)), .int (Int32.ofNat i)]) rfl ?_
  refine wp_invokestatic C (M12 hw) d12_2 (M11 hw) (w218 hw) (w219 hw) (w107 hw) (by decide) (S' := []) [.int (Int32.ofNat i), .int (Int32.ofNat (i + m))] (lenOf pd11 rfl) rfl (L' := [.val (.int (Int32.ofNat i)), .val (.int (Int32.ofNat (i + m)))]) rfl rfl (hR.push (d' := 1) (w' := 13) (Nat.le_of_ble_eq_true rfl) (Nat.le_of_ble_eq_true rfl)) ?_
  refine c_clen C hw (fun q => by have := (lt32 (by omega) (by omega)).mp q; omega) (Meth.caller (M12 hw) d12_2)  ?_
  refine wp_seg C (M12 hw) [(.iload_n 2, 1), (.iload_n 1, 1), (.isub, 1), (.istore_n 3, 1), (.iload_n 3, 1)] (by decide +kernel) (pc' := 10) (L' := [.val (.ref b), .val (.int (Int32.ofNat i)), .val (.int (Int32.ofNat (i + m))), .val (.int ((Int32.ofNat (i + m)) - (Int32.ofNat i))), .unset]) (S' := [.int ((Int32.ofNat (i + m)) - (Int32.ofNat i))]) rfl ?_
  rw [sub32n (show i ≤ i + m by omega), show i + m - i = m from by omega]
  refine wp_newarray C (M12 hw) d12_10 rfl (w4 hw) (len := m) (Ix32 (by omega)) hbb hk hn (vs := List.replicate m (.int 0)) rfl fun a1 => ?_
  refine wp_seg C (M12 hw) [(.astore 4, 2), (.aload_n 0, 1), (.iload_n 1, 1), (.aload 4, 2), (.iconst 0, 1), (.aload_n 0, 1)] (by decide +kernel) (pc' := 20) (L' := [.val (.ref b), .val (.int (Int32.ofNat i)), .val (.int (Int32.ofNat (i + m))), .val (.int (Int32.ofNat m)), .val (.ref a1)]) (S' := [.ref b, .int 0, .ref a1, .int (Int32.ofNat i), .ref b]) rfl ?_
  refine wp_arraylength C (M12 hw) d12_20 (a := b) (List.Mem.tail _ hb) (z := (Int32.ofNat us.length)) (by simp) ?_
  refine wp_seg C (M12 hw) [(.iload_n 1, 1), (.isub, 1), (.iload_n 3, 1)] (by decide +kernel) (pc' := 24) (L' := [.val (.ref b), .val (.int (Int32.ofNat i)), .val (.int (Int32.ofNat (i + m))), .val (.int (Int32.ofNat m)), .val (.ref a1)]) (S' := [.int (Int32.ofNat m), .int ((Int32.ofNat us.length) - (Int32.ofNat i)), .int 0, .ref a1, .int (Int32.ofNat i), .ref b]) rfl ?_
  rw [sub32n (show i ≤ us.length by omega)]
  by_cases hq : us.length - i = m
  · refine wp_invokestatic C (M12 hw) d12_24 (M10 hw) (w109 hw) (w110 hw) (w101 hw) (by decide) (S' := [.int 0, .ref a1, .int (Int32.ofNat i), .ref b]) [.int (Int32.ofNat (us.length - i)), .int (Int32.ofNat m)] (lenOf pd10 rfl) rfl (L' := [.val (.int (Int32.ofNat (us.length - i))), .val (.int (Int32.ofNat m))]) rfl rfl (hR.push (d' := 1) (w' := 13) (Nat.le_of_ble_eq_true rfl) (Nat.le_of_ble_eq_true rfl)) ?_
    refine c_min1 C hw (by rw [hq]; exact Int32.lt_irrefl) (Meth.caller (M12 hw) d12_24)  ?_
    rw [hq]
    rw [byte0]
    refine wp_copy C (M12 hw) d12_27 (w112 hw) (w115 hw) (w113 hw) (w114 hw) (i := 0) (p := i) (q := 0) (m := m) rfl (List.Mem.tail _ hb) rfl (by simpa using hl) (by simp; omega) (byv_all _) (byv_all _) (by simpa using h1) (by simp) (hR.push (d' := 1) (w' := 40) (Nat.le_of_ble_eq_true rfl) (Nat.le_of_ble_eq_true rfl)) (l' := (a1, true, .inr (.byte, ((us.drop i).take m).map byv)) :: l) (by rw [copy_all h1]; rfl) ?_
    refine wp_seg C (M12 hw) [(.aload 4, 2)] (by decide +kernel) (pc' := 32) (L' := [.val (.ref b), .val (.int (Int32.ofNat i)), .val (.int (Int32.ofNat (i + m))), .val (.int (Int32.ofNat m)), .val (.ref a1)]) (S' := [.ref a1]) rfl ?_
    exact wp_aret C (M12 hw) d12_32 rfl (t := .array .byte) rfl rfl Cr (K a1)
  · refine wp_invokestatic C (M12 hw) d12_24 (M10 hw) (w109 hw) (w110 hw) (w101 hw) (by decide) (S' := [.int 0, .ref a1, .int (Int32.ofNat i), .ref b]) [.int (Int32.ofNat (us.length - i)), .int (Int32.ofNat m)] (lenOf pd10 rfl) rfl (L' := [.val (.int (Int32.ofNat (us.length - i))), .val (.int (Int32.ofNat m))]) rfl rfl (hR.push (d' := 1) (w' := 13) (Nat.le_of_ble_eq_true rfl) (Nat.le_of_ble_eq_true rfl)) ?_
    refine c_min2 C hw ((lt32 (by omega) (by omega)).mpr (by omega)) (Meth.caller (M12 hw) d12_24)  ?_
    rw [byte0]
    refine wp_copy C (M12 hw) d12_27 (w112 hw) (w115 hw) (w113 hw) (w114 hw) (i := 0) (p := i) (q := 0) (m := m) rfl (List.Mem.tail _ hb) rfl (by simpa using hl) (by simp; omega) (byv_all _) (byv_all _) (by simpa using h1) (by simp) (hR.push (d' := 1) (w' := 40) (Nat.le_of_ble_eq_true rfl) (Nat.le_of_ble_eq_true rfl)) (l' := (a1, true, .inr (.byte, ((us.drop i).take m).map byv)) :: l) (by rw [copy_all h1]; rfl) ?_
    refine wp_seg C (M12 hw) [(.aload 4, 2)] (by decide +kernel) (pc' := 32) (L' := [.val (.ref b), .val (.int (Int32.ofNat i)), .val (.int (Int32.ofNat (i + m))), .val (.int (Int32.ofNat m)), .val (.ref a1)]) (S' := [.ref a1]) rfl ?_
    exact wp_aret C (M12 hw) d12_32 rfl (t := .array .byte) rfl rfl Cr (K a1)
theorem c_cor {κ : Cx} (C : Ok κ) (hw : Ws κ) {b : Addr} {us : List UInt8} {i m : Nat} (hl : us.length < 2 ^ 31) (h1 : i + m ≤ us.length) (hbb : m * 8 ≤ 536870912) (hne : ¬ (i = 0 ∧ m = us.length)) {yc : MethodName} {pcc : Nat} {Lc : List Slot} {Sc : List Value} {F : List Frame} {l : List Chunk} {k n : Nat} (Cr : Caller κ yc pcc 3) (hR : Rm κ (fr κ yc pcc Lc Sc :: F) 3 70) (hb : strB b us ∈ l) (hk : k + 1 ≤ (kR κ).cells) (hn : n + m ≤ (kR κ).slots) (K : ∀ c, WP κ yc (pcc + 3) Lc (.ref c :: Sc) F ((c, true, .inr (.byte, ((us.drop i).take m).map byv)) :: l) (k + 1) (n + m)) :
    WP κ y13 0 [.val (.ref b), .val (.int (Int32.ofNat i)), .val (.int (Int32.ofNat (i + m)))] [] (fr κ yc pcc Lc Sc :: F) (l) k n := by
  refine wp_seg C (M13 hw) [(.iload_n 1, 1)] (by decide +kernel) (pc' := 1) (L' := [.val (.ref b), .val (.int (Int32.ofNat i)), .val (.int (Int32.ofNat (i + m)))]) (S' := [.int (Int32.ofNat i)]) rfl ?_
  by_cases hq : i = 0
  · refine wp_iff C (M13 hw) d13_1 (XT.i0_ne_f ((eq32 (b := 0) (by omega) (by decide)).mpr hq)) ?_
    refine wp_seg C (M13 hw) [(.iload_n 2, 1), (.aload_n 0, 1)] (by decide +kernel) (pc' := 6) (L' := [.val (.ref b), .val (.int (Int32.ofNat i)), .val (.int (Int32.ofNat (i + m)))]) (S' := [.ref b, .int (Int32.ofNat (i + m))]) rfl ?_
    refine wp_arraylength C (M13 hw) d13_6 (a := b) hb (z := (Int32.ofNat us.length)) (by simp) ?_
    refine wp_icf C (M13 hw) d13_7 (XT.ii_eq_f (fun q => hne (by have := (eq32 (by omega) hl).mp q; omega))) ?_
    refine wp_seg C (M13 hw) [(.aload_n 0, 1), (.iload_n 1, 1), (.iload_n 2, 1)] (by decide +kernel) (pc' := 13) (L' := [.val (.ref b), .val (.int (Int32.ofNat i)), .val (.int (Int32.ofNat (i + m)))]) (S' := [.int (Int32.ofNat (i + m)), .int (Int32.ofNat i), .ref b]) rfl ?_
    refine wp_invokestatic C (M13 hw) d13_13 (M12 hw) (w215 hw) (w216 hw) (w107 hw) (by decide) (S' := []) [.ref b, .int (Int32.ofNat i), .int (Int32.ofNat (i + m))] (lenOf pd12 rfl) rfl (L' := [.val (.ref b), .val (.int (Int32.ofNat i)), .val (.int (Int32.ofNat (i + m))), .unset, .unset]) rfl rfl (hR.push (d' := 1) (w' := 16) (Nat.le_of_ble_eq_true rfl) (Nat.le_of_ble_eq_true rfl)) ?_
    refine c_corb C hw hl h1 hbb (Meth.caller (M13 hw) d13_13) (hR.push (d' := 2) (w' := 56) (Nat.le_of_ble_eq_true rfl) (Nat.le_of_ble_eq_true rfl)) hb hk hn fun c => ?_
    exact wp_aret C (M13 hw) d13_16 rfl (t := .array .byte) rfl rfl Cr (K c)
  · refine wp_ift C (M13 hw) d13_1 (XT.i0_ne_t (fun q => hq ((eq32 (b := 0) (by omega) (by decide)).mp q))) (pc' := 10) (by decide) ?_
    refine wp_seg C (M13 hw) [(.aload_n 0, 1), (.iload_n 1, 1), (.iload_n 2, 1)] (by decide +kernel) (pc' := 13) (L' := [.val (.ref b), .val (.int (Int32.ofNat i)), .val (.int (Int32.ofNat (i + m)))]) (S' := [.int (Int32.ofNat (i + m)), .int (Int32.ofNat i), .ref b]) rfl ?_
    refine wp_invokestatic C (M13 hw) d13_13 (M12 hw) (w215 hw) (w216 hw) (w107 hw) (by decide) (S' := []) [.ref b, .int (Int32.ofNat i), .int (Int32.ofNat (i + m))] (lenOf pd12 rfl) rfl (L' := [.val (.ref b), .val (.int (Int32.ofNat i)), .val (.int (Int32.ofNat (i + m))), .unset, .unset]) rfl rfl (hR.push (d' := 1) (w' := 16) (Nat.le_of_ble_eq_true rfl) (Nat.le_of_ble_eq_true rfl)) ?_
    refine c_corb C hw hl h1 hbb (Meth.caller (M13 hw) d13_13) (hR.push (d' := 2) (w' := 56) (Nat.le_of_ble_eq_true rfl) (Nat.le_of_ble_eq_true rfl)) hb hk hn fun c => ?_
    exact wp_aret C (M13 hw) d13_16 rfl (t := .array .byte) rfl rfl Cr (K c)
theorem c_initb {κ : Cx} (C : Ok κ) (hw : Ws κ) {a c : Addr} {us : List UInt8} {yc : MethodName} {pcc : Nat} {Lc : List Slot} {Sc : List Value} {F : List Frame} {l : List Chunk} {k n : Nat} (Cr : Caller κ yc pcc 3) (hR : Rm κ (fr κ yc pcc Lc Sc :: F) 2 26) (hc : strB c us ∈ l) (K : WP κ yc (pcc + 3) Lc Sc F (strO a c 0 :: l) k n) :
    WP κ y14 0 [.val (.ref a), .val (.ref c), .val (.int 0)] [] (fr κ yc pcc Lc Sc :: F) ((a, true, .inl ("java/lang/String", [("java/lang/String", "value", "[B", .null), ("java/lang/String", "coder", "B", .int 0)])) :: l) k n := by
  refine wp_seg C (M14 hw) [(.aload_n 0, 1)] (by decide +kernel) (pc' := 1) (L' := [.val (.ref a), .val (.ref c), .val (.int 0)]) (S' := [.ref a]) rfl ?_
  refine wp_initObject C (M14 hw) d14_1 (w28 hw) (w29 hw) (w30 hw) (hR.push (d' := 1) (w' := 12) (Nat.le_of_ble_eq_true rfl) (Nat.le_of_ble_eq_true rfl)) ?_
  refine wp_seg C (M14 hw) [(.aload_n 0, 1), (.aload_n 1, 1)] (by decide +kernel) (pc' := 6) (L' := [.val (.ref a), .val (.ref c), .val (.int 0)]) (S' := [.ref c, .ref a]) rfl ?_
  refine wp_putfield C (M14 hw) d14_6 (w43 hw) (Or.inl rfl) (i := 0) (j := 0) rfl rfl (Or.inr ⟨(w5 hw), rfl, rfl⟩) (w3 hw) (ty := .array (.byte)) (by decide) rfl rfl (l' := (a, true, .inl ("java/lang/String", [("java/lang/String", "value", "[B", .ref c), ("java/lang/String", "coder", "B", .int 0)])) :: l) rfl ?_
  refine wp_seg C (M14 hw) [(.aload_n 0, 1), (.iload_n 2, 1)] (by decide +kernel) (pc' := 11) (L' := [.val (.ref a), .val (.ref c), .val (.int 0)]) (S' := [.int 0, .ref a]) rfl ?_
  refine wp_putfield C (M14 hw) d14_11 (w42 hw) (Or.inl rfl) (i := 0) (j := 1) rfl rfl (Or.inr ⟨(w6 hw), rfl, rfl⟩) (w3 hw) (ty := .byte) (by decide) rfl rfl (l' := (a, true, .inl ("java/lang/String", [("java/lang/String", "value", "[B", .ref c), ("java/lang/String", "coder", "B", .int 0)])) :: l) rfl ?_
  refine wp_freeze ?_
  exact wp_vret C (M14 hw) d14_14 Cr K
theorem h_leq {κ : Cx} (C : Ok κ) (hw : Ws κ) {b b' : Addr} {us vs : List UInt8} (hl : us.length < 2 ^ 31) (hl' : vs.length < 2 ^ 31) (he : us.length = vs.length) {yc : MethodName} {pcc : Nat} {Lc : List Slot} {Sc : List Value} {F : List Frame} {l : List Chunk} {k n : Nat} (Cr : Caller κ yc pcc 3) (hb : strB b us ∈ l) (hb' : strB b' vs ∈ l) : ∀ (d i : Nat), i + d = us.length → (WP κ yc (pcc + 3) Lc (.int (bi (us.drop i = vs.drop i)) :: Sc) F (l) k n) →
    WP κ y15 9 [.val (.ref b), .val (.ref b'), .val (.int (Int32.ofNat i))] [] (fr κ yc pcc Lc Sc :: F) (l) k n := by
  intro d
  induction d with
  | zero =>
    intro i hi K
    refine wp_seg C (M15 hw) [(.iload_n 2, 1), (.aload_n 0, 1)] (by decide +kernel) (pc' := 11) (L' := [.val (.ref b), .val (.ref b'), .val (.int (Int32.ofNat i))]) (S' := [.ref b, .int (Int32.ofNat i)]) rfl ?_
    refine wp_arraylength C (M15 hw) d15_11 (a := b) hb (z := (Int32.ofNat us.length)) (by simp) ?_
    refine wp_ict C (M15 hw) d15_12 (XT.ii_ge_t (fun q => by have := (lt32 (by omega) hl).mp q; omega)) (pc' := 32) (by decide) ?_
    refine wp_seg C (M15 hw) [(.iconst 1, 1)] (by decide +kernel) (pc' := 33) (L' := [.val (.ref b), .val (.ref b'), .val (.int (Int32.ofNat i))]) (S' := [.int 1]) rfl ?_
    rw [bi_t (by rw [List.drop_eq_nil_of_le (by omega), List.drop_eq_nil_of_le (by omega)])] at K
    exact wp_iret C (M15 hw) d15_33 rfl (t := .boolean) (by decide) rfl Cr K
  | succ d ih =>
    intro i hd K
    have hi : i < us.length := by omega
    refine wp_seg C (M15 hw) [(.iload_n 2, 1), (.aload_n 0, 1)] (by decide +kernel) (pc' := 11) (L' := [.val (.ref b), .val (.ref b'), .val (.int (Int32.ofNat i))]) (S' := [.ref b, .int (Int32.ofNat i)]) rfl ?_
    refine wp_arraylength C (M15 hw) d15_11 (a := b) hb (z := (Int32.ofNat us.length)) (by simp) ?_
    refine wp_icf C (M15 hw) d15_12 (XT.ii_ge_f ((lt32 (by omega) hl).mpr hi)) ?_
    refine wp_seg C (M15 hw) [(.aload_n 0, 1), (.iload_n 2, 1)] (by decide +kernel) (pc' := 17) (L' := [.val (.ref b), .val (.ref b'), .val (.int (Int32.ofNat i))]) (S' := [.int (Int32.ofNat i), .ref b]) rfl ?_
    refine wp_baload C (M15 hw) d15_17 (a := b) hb (i := i) (Ix32 (by omega)) (v := .int ((us.getD i 0).toInt8.toInt32)) (getD_map hi) ?_
    refine wp_seg C (M15 hw) [(.aload_n 1, 1), (.iload_n 2, 1)] (by decide +kernel) (pc' := 20) (L' := [.val (.ref b), .val (.ref b'), .val (.int (Int32.ofNat i))]) (S' := [.int (Int32.ofNat i), .ref b', .int ((us.getD i 0).toInt8.toInt32)]) rfl ?_
    refine wp_baload C (M15 hw) d15_20 (a := b') hb' (i := i) (Ix32 (by omega)) (v := .int ((vs.getD i 0).toInt8.toInt32)) (getD_map (by omega)) ?_
    by_cases hz : us.getD i 0 = vs.getD i 0
    · refine wp_ict C (M15 hw) d15_21 (XT.ii_eq_t (byv_inj.mpr hz)) (pc' := 26) (by decide) ?_
      refine wp_seg C (M15 hw) [(.iinc 2 1, 3), (.goto (-20), 3)] (by decide +kernel) (pc' := 9) (L' := [.val (.ref b), .val (.ref b'), .val (.int ((Int32.ofNat i) + 1))]) (S' := []) rfl ?_
      rw [succ32]
      rw [bi_iff (show us.drop i = vs.drop i ↔ us.drop (i + 1) = vs.drop (i + 1) from (drop_eq_iff hi (by omega)).trans ⟨fun q => q.2, fun q => ⟨hz, q⟩⟩)] at K
      exact ih (i + 1) (by omega) K
    · refine wp_icf C (M15 hw) d15_21 (XT.ii_eq_f (fun q => hz (byv_inj.mp q))) ?_
      refine wp_seg C (M15 hw) [(.iconst 0, 1)] (by decide +kernel) (pc' := 25) (L' := [.val (.ref b), .val (.ref b'), .val (.int (Int32.ofNat i))]) (S' := [.int 0]) rfl ?_
      rw [bi_f (fun q => hz ((drop_eq_iff hi (by omega)).mp q).1)] at K
      exact wp_iret C (M15 hw) d15_25 rfl (t := .boolean) (by decide) rfl Cr K
theorem c_leq {κ : Cx} (C : Ok κ) (hw : Ws κ) {b b' : Addr} {us vs : List UInt8} (hl : us.length < 2 ^ 31) (hl' : vs.length < 2 ^ 31) {yc : MethodName} {pcc : Nat} {Lc : List Slot} {Sc : List Value} {F : List Frame} {l : List Chunk} {k n : Nat} (Cr : Caller κ yc pcc 3) (hb : strB b us ∈ l) (hb' : strB b' vs ∈ l) (K : WP κ yc (pcc + 3) Lc (.int (bi (us = vs)) :: Sc) F (l) k n) :
    WP κ y15 0 [.val (.ref b), .val (.ref b'), .unset] [] (fr κ yc pcc Lc Sc :: F) (l) k n := by
  refine wp_seg C (M15 hw) [(.aload_n 0, 1)] (by decide +kernel) (pc' := 1) (L' := [.val (.ref b), .val (.ref b'), .unset]) (S' := [.ref b]) rfl ?_
  refine wp_arraylength C (M15 hw) d15_1 (a := b) hb (z := (Int32.ofNat us.length)) (by simp) ?_
  refine wp_seg C (M15 hw) [(.aload_n 1, 1)] (by decide +kernel) (pc' := 3) (L' := [.val (.ref b), .val (.ref b'), .unset]) (S' := [.ref b', .int (Int32.ofNat us.length)]) rfl ?_
  refine wp_arraylength C (M15 hw) d15_3 (a := b') hb' (z := (Int32.ofNat vs.length)) (by simp) ?_
  by_cases he : us.length = vs.length
  · refine wp_icf C (M15 hw) d15_4 (XT.ii_ne_f ((eq32 hl hl').mpr he)) ?_
    refine wp_seg C (M15 hw) [(.iconst 0, 1), (.istore_n 2, 1)] (by decide +kernel) (pc' := 9) (L' := [.val (.ref b), .val (.ref b'), .val (.int 0)]) (S' := []) rfl ?_
    exact h_leq C hw hl hl' he Cr hb hb' us.length 0 (by omega) K
  · refine wp_ict C (M15 hw) d15_4 (XT.ii_ne_t (fun q => he ((eq32 hl hl').mp q))) (pc' := 34) (by decide) ?_
    refine wp_seg C (M15 hw) [(.iconst 0, 1)] (by decide +kernel) (pc' := 35) (L' := [.val (.ref b), .val (.ref b'), .unset]) (S' := [.int 0]) rfl ?_
    rw [bi_f (fun q => he (congrArg List.length q))] at K
    exact wp_iret C (M15 hw) d15_35 rfl (t := .boolean) (by decide) rfl Cr K
theorem c_eq {κ : Cx} (C : Ok κ) (hw : Ws κ) (hs : StrS κ) {a a' : Addr} {us vs : List UInt8} (hl : us.length < 2 ^ 31) (hl' : vs.length < 2 ^ 31) (hne : ¬ a = a' ∨ us = vs) {yc : MethodName} {pcc : Nat} {Lc : List Slot} {Sc : List Value} {F : List Frame} {l : List Chunk} {k n : Nat} (Cr : Caller κ yc pcc 3) (hR : Rm κ (fr κ yc pcc Lc Sc :: F) 2 28) (st : Str l a us) (st' : Str l a' vs) (K : WP κ yc (pcc + 3) Lc (.int (bi (us = vs)) :: Sc) F (l) k n) :
    WP κ y16 0 [.val (.ref a), .val (.ref a'), .unset] [] (fr κ yc pcc Lc Sc :: F) (l) k n := by
  obtain ⟨b, ho, hb⟩ := st
  obtain ⟨b', ho', hb'⟩ := st'
  obtain ⟨⟨cz, hcs, scs⟩, -⟩ := hs
  refine wp_seg C (M16 hw) [(.aload_n 0, 1), (.aload_n 1, 1)] (by decide +kernel) (pc' := 2) (L' := [.val (.ref a), .val (.ref a'), .unset]) (S' := [.ref a', .ref a]) rfl ?_
  by_cases haa : a = a'
  · refine wp_acf C (M16 hw) d16_2 rfl rfl (XT.aa_ne_f (by rw [haa])) ?_
    refine wp_seg C (M16 hw) [(.iconst 1, 1)] (by decide +kernel) (pc' := 6) (L' := [.val (.ref a), .val (.ref a'), .unset]) (S' := [.int 1]) rfl ?_
    rw [bi_t (hne.resolve_left (fun q => q haa))] at K
    exact wp_iret C (M16 hw) d16_6 rfl (t := .boolean) (by decide) rfl Cr K
  · refine wp_act C (M16 hw) d16_2 rfl rfl (XT.aa_ne_t (fun q => haa (by injection q))) (pc' := 7) (by decide) ?_
    refine wp_seg C (M16 hw) [(.aload_n 1, 1)] (by decide +kernel) (pc' := 8) (L' := [.val (.ref a), .val (.ref a'), .unset]) (S' := [.ref a']) rfl ?_
    refine wp_instanceof C (M16 hw) d16_8 (Cl := "java/lang/String") (fs := [("java/lang/String", "value", "[B", .ref b'), ("java/lang/String", "coder", "B", .int 0)]) (w225 hw) ho' (Or.inl rfl) ?_
    refine wp_iff C (M16 hw) d16_11 (XT.i0_eq_f (by decide)) ?_
    refine wp_seg C (M16 hw) [(.aload_n 1, 1)] (by decide +kernel) (pc' := 15) (L' := [.val (.ref a), .val (.ref a'), .unset]) (S' := [.ref a']) rfl ?_
    refine wp_checkcast C (M16 hw) d16_15 (Cl := "java/lang/String") (fs := [("java/lang/String", "value", "[B", .ref b'), ("java/lang/String", "coder", "B", .int 0)]) (w225 hw) ho' (Or.inl rfl) ?_
    refine wp_seg C (M16 hw) [(.astore_n 2, 1)] (by decide +kernel) (pc' := 19) (L' := [.val (.ref a), .val (.ref a'), .val (.ref a')]) (S' := []) rfl ?_
    refine wp_getstatic C (M16 hw) d16_19 (w31 hw) (Or.inl rfl) scs ?_
    refine wp_iff C (M16 hw) d16_22 (XT.i0_eq_f hcs) ?_
    refine wp_seg C (M16 hw) [(.aload_n 0, 1)] (by decide +kernel) (pc' := 26) (L' := [.val (.ref a), .val (.ref a'), .val (.ref a')]) (S' := [.ref a]) rfl ?_
    refine wp_getfield C (M16 hw) d16_26 (w42 hw) (Or.inl rfl) (a := a) (mu := false) (Cl := "java/lang/String") (fs := [("java/lang/String", "value", "[B", .ref b), ("java/lang/String", "coder", "B", .int 0)]) ho (List.mem_of_getElem? (i := 1) rfl) ?_
    refine wp_seg C (M16 hw) [(.aload_n 2, 1)] (by decide +kernel) (pc' := 30) (L' := [.val (.ref a), .val (.ref a'), .val (.ref a')]) (S' := [.ref a', .int 0]) rfl ?_
    refine wp_getfield C (M16 hw) d16_30 (w42 hw) (Or.inl rfl) (a := a') (mu := false) (Cl := "java/lang/String") (fs := [("java/lang/String", "value", "[B", .ref b'), ("java/lang/String", "coder", "B", .int 0)]) ho' (List.mem_of_getElem? (i := 1) rfl) ?_
    refine wp_icf C (M16 hw) d16_33 (XT.ii_ne_f (by decide)) ?_
    refine wp_seg C (M16 hw) [(.aload_n 0, 1)] (by decide +kernel) (pc' := 37) (L' := [.val (.ref a), .val (.ref a'), .val (.ref a')]) (S' := [.ref a]) rfl ?_
    refine wp_getfield C (M16 hw) d16_37 (w43 hw) (Or.inl rfl) (a := a) (mu := false) (Cl := "java/lang/String") (fs := [("java/lang/String", "value", "[B", .ref b), ("java/lang/String", "coder", "B", .int 0)]) ho (List.mem_of_getElem? (i := 0) rfl) ?_
    refine wp_seg C (M16 hw) [(.aload_n 2, 1)] (by decide +kernel) (pc' := 41) (L' := [.val (.ref a), .val (.ref a'), .val (.ref a')]) (S' := [.ref a', .ref b]) rfl ?_
    refine wp_getfield C (M16 hw) d16_41 (w43 hw) (Or.inl rfl) (a := a') (mu := false) (Cl := "java/lang/String") (fs := [("java/lang/String", "value", "[B", .ref b'), ("java/lang/String", "coder", "B", .int 0)]) ho' (List.mem_of_getElem? (i := 0) rfl) ?_
    refine wp_invokestatic C (M16 hw) d16_44 (M15 hw) (w226 hw) (w227 hw) (w147 hw) (by decide) (S' := []) [.ref b, .ref b'] (lenOf pd15 rfl) rfl (L' := [.val (.ref b), .val (.ref b'), .unset]) rfl rfl (hR.push (d' := 1) (w' := 14) (Nat.le_of_ble_eq_true rfl) (Nat.le_of_ble_eq_true rfl)) ?_
    refine c_leq C hw hl hl' (Meth.caller (M16 hw) d16_44) hb hb' ?_
    by_cases hz : us = vs
    · rw [bi_t hz] at *
      refine wp_iff C (M16 hw) d16_47 (XT.i0_eq_f (by decide)) ?_
      refine wp_seg C (M16 hw) [(.iconst 1, 1), (.goto 4, 3)] (by decide +kernel) (pc' := 55) (L' := [.val (.ref a), .val (.ref a'), .val (.ref a')]) (S' := [.int 1]) rfl ?_
      exact wp_iret C (M16 hw) d16_55 rfl (t := .boolean) (by decide) rfl Cr K
    · rw [bi_f hz] at *
      refine wp_ift C (M16 hw) d16_47 (XT.i0_eq_t (by decide)) (pc' := 54) (by decide) ?_
      refine wp_seg C (M16 hw) [(.iconst 0, 1)] (by decide +kernel) (pc' := 55) (L' := [.val (.ref a), .val (.ref a'), .val (.ref a')]) (S' := [.int 0]) rfl ?_
      exact wp_iret C (M16 hw) d16_55 rfl (t := .boolean) (by decide) rfl Cr K
theorem cls_SB {κ : Cx} (hw : Ws κ) : Cls κ "java/lang/StringBuilder" [("java/lang/AbstractStringBuilder", "value", "[B", .null), ("java/lang/AbstractStringBuilder", "coder", "B", .int 0), ("java/lang/AbstractStringBuilder", "count", "I", .int 0)] := by
  have h0 : Laid (kZ κ) (ka κ) "java/lang/StringBuilder" "java/lang/AbstractStringBuilder" "value" "[B" := (Or.inl (w59 hw))
  have h1 : Laid (kZ κ) (ka κ) "java/lang/StringBuilder" "java/lang/AbstractStringBuilder" "coder" "B" := (Or.inl (w61 hw))
  have h2 : Laid (kZ κ) (ka κ) "java/lang/StringBuilder" "java/lang/AbstractStringBuilder" "count" "I" := (Or.inl (w84 hw))
  have n0_1 := slot_ne h0 h1 (by decide) (t := .array (.byte)) (t' := .byte) (by decide) (by decide)
  have n0_2 := slot_ne h0 h2 (by decide) (t := .array (.byte)) (t' := .int) (by decide) (by decide)
  have n1_2 := slot_ne h1 h2 (by decide) (t := .byte) (t' := .int) (by decide) (by decide)
  refine ⟨fun f hf => ?_, by simpa [fslot] using ⟨⟨n0_1, n0_2⟩, n1_2⟩⟩
  simp only [List.mem_cons, List.not_mem_nil, or_false] at hf
  rcases hf with rfl | rfl | rfl
  · exact ⟨h0, .array (.byte), by decide, rfl⟩
  · exact ⟨h1, .byte, by decide, rfl⟩
  · exact ⟨h2, .int, by decide, rfl⟩
theorem c_asbi {κ : Cx} (C : Ok κ) (hw : Ws κ) (hs : StrS κ) {o : Addr} {cap : Nat} (hc : cap < 1000) {yc : MethodName} {pcc : Nat} {Lc : List Slot} {Sc : List Value} {F : List Frame} {l : List Chunk} {k n : Nat} (Cr : Caller κ yc pcc 3) (hR : Rm κ (fr κ yc pcc Lc Sc :: F) 2 25) (hk : k + 1 ≤ (kR κ).cells) (hn : n + cap ≤ (kR κ).slots) (K : ∀ v, WP κ yc (pcc + 3) Lc Sc F ((o, true, .inl ("java/lang/StringBuilder", [("java/lang/AbstractStringBuilder", "value", "[B", .ref v), ("java/lang/AbstractStringBuilder", "coder", "B", .int 0), ("java/lang/AbstractStringBuilder", "count", "I", .int 0)])) :: (v, true, .inr (.byte, (sbl [] cap).map byv)) :: l) (k + 1) (n + cap)) :
    WP κ y17 0 [.val (.ref o), .val (.int (Int32.ofNat cap))] [] (fr κ yc pcc Lc Sc :: F) ((o, true, .inl ("java/lang/StringBuilder", [("java/lang/AbstractStringBuilder", "value", "[B", .null), ("java/lang/AbstractStringBuilder", "coder", "B", .int 0), ("java/lang/AbstractStringBuilder", "count", "I", .int 0)])) :: l) k n := by
  obtain ⟨⟨cz, hcs, scs⟩, -⟩ := hs
  refine wp_seg C (M17 hw) [(.aload_n 0, 1)] (by decide +kernel) (pc' := 1) (L' := [.val (.ref o), .val (.int (Int32.ofNat cap))]) (S' := [.ref o]) rfl ?_
  refine wp_initObject C (M17 hw) d17_1 (w56 hw) (w29 hw) (w30 hw) (hR.push (d' := 1) (w' := 12) (Nat.le_of_ble_eq_true rfl) (Nat.le_of_ble_eq_true rfl)) ?_
  refine wp_getstatic C (M17 hw) d17_4 (w57 hw) (Or.inl rfl) scs ?_
  refine wp_iff C (M17 hw) d17_7 (XT.i0_eq_f hcs) ?_
  refine wp_seg C (M17 hw) [(.aload_n 0, 1), (.iload_n 1, 1)] (by decide +kernel) (pc' := 12) (L' := [.val (.ref o), .val (.int (Int32.ofNat cap))]) (S' := [.int (Int32.ofNat cap), .ref o]) rfl ?_
  refine wp_newarray C (M17 hw) d17_12 rfl (w4 hw) (len := cap) (Ix32 (by omega)) (by omega) hk hn (vs := List.replicate cap (.int 0)) rfl fun a1 => ?_
  refine wp_putfield C (M17 hw) d17_14 (w58 hw) (Or.inl rfl) (i := 1) (j := 0) rfl rfl (Or.inl (w59 hw)) (w45 hw) (ty := .array (.byte)) (by decide) rfl rfl (l' := (a1, true, .inr (.byte, List.replicate cap (.int 0))) :: (o, true, .inl ("java/lang/StringBuilder", [("java/lang/AbstractStringBuilder", "value", "[B", .ref a1), ("java/lang/AbstractStringBuilder", "coder", "B", .int 0), ("java/lang/AbstractStringBuilder", "count", "I", .int 0)])) :: l) rfl ?_
  refine wp_seg C (M17 hw) [(.aload_n 0, 1), (.iconst 0, 1)] (by decide +kernel) (pc' := 19) (L' := [.val (.ref o), .val (.int (Int32.ofNat cap))]) (S' := [.int 0, .ref o]) rfl ?_
  refine wp_putfield C (M17 hw) d17_19 (w60 hw) (Or.inl rfl) (i := 1) (j := 1) rfl rfl (Or.inl (w61 hw)) (w45 hw) (ty := .byte) (by decide) rfl rfl (l' := (a1, true, .inr (.byte, List.replicate cap (.int 0))) :: (o, true, .inl ("java/lang/StringBuilder", [("java/lang/AbstractStringBuilder", "value", "[B", .ref a1), ("java/lang/AbstractStringBuilder", "coder", "B", .int 0), ("java/lang/AbstractStringBuilder", "count", "I", .int 0)])) :: l) rfl ?_
  refine wp_seg C (M17 hw) [(.goto 16, 3)] (by decide +kernel) (pc' := 38) (L' := [.val (.ref o), .val (.int (Int32.ofNat cap))]) (S' := []) rfl ?_
  rw [byte0, ← sbl_nil]
  refine wp_front 1 rfl rfl ?_
  exact wp_vret C (M17 hw) d17_38 Cr (K a1)
theorem c_sbi0 {κ : Cx} (C : Ok κ) (hw : Ws κ) (hs : StrS κ) {o : Addr} {yc : MethodName} {pcc : Nat} {Lc : List Slot} {Sc : List Value} {F : List Frame} {l : List Chunk} {k n : Nat} (Cr : Caller κ yc pcc 3) (hR : Rm κ (fr κ yc pcc Lc Sc :: F) 3 37) (hk : k + 1 ≤ (kR κ).cells) (hn : n + 16 ≤ (kR κ).slots) (K : ∀ v, WP κ yc (pcc + 3) Lc Sc F ((o, true, .inl ("java/lang/StringBuilder", [("java/lang/AbstractStringBuilder", "value", "[B", .ref v), ("java/lang/AbstractStringBuilder", "coder", "B", .int 0), ("java/lang/AbstractStringBuilder", "count", "I", .int 0)])) :: (v, true, .inr (.byte, (sbl [] 16).map byv)) :: l) (k + 1) (n + 16)) :
    WP κ y18 0 [.val (.ref o)] [] (fr κ yc pcc Lc Sc :: F) ((o, true, .inl ("java/lang/StringBuilder", [("java/lang/AbstractStringBuilder", "value", "[B", .null), ("java/lang/AbstractStringBuilder", "coder", "B", .int 0), ("java/lang/AbstractStringBuilder", "count", "I", .int 0)])) :: l) k n := by
  refine wp_seg C (M18 hw) [(.aload_n 0, 1), (.bipush 16, 2)] (by decide +kernel) (pc' := 3) (L' := [.val (.ref o)]) (S' := [.int 16, .ref o]) rfl ?_
  refine wp_init C (M18 hw) d18_3 (M17 hw) rfl (w50 hw) (w51 hw) (by decide) (S' := []) o [.int 16] (lenOf pd17 rfl) rfl (L' := [.val (.ref o), .val (.int 16)]) rfl rfl (hR.push (d' := 1) (w' := 13) (Nat.le_of_ble_eq_true rfl) (Nat.le_of_ble_eq_true rfl)) ?_
  refine c_asbi C hw hs (cap := 16) (by decide) (Meth.caller (M18 hw) d18_3) (hR.push (d' := 2) (w' := 25) (Nat.le_of_ble_eq_true rfl) (Nat.le_of_ble_eq_true rfl)) hk hn fun v => ?_
  exact wp_vret C (M18 hw) d18_6 Cr (K v)
theorem c_ens {κ : Cx} (C : Ok κ) (hw : Ws κ) {o v : Addr} {mo mv : Bool} {ct : Int32} {us : List UInt8} {cap : Nat} (hc : cap < 1000) (hul : us.length ≤ cap) {m : Nat} (hm : m ≤ cap) {yc : MethodName} {pcc : Nat} {Lc : List Slot} {Sc : List Value} {F : List Frame} {l : List Chunk} {k n : Nat} (Cr : Caller κ yc pcc 3) (ho : (o, mo, .inl ("java/lang/StringBuilder", [("java/lang/AbstractStringBuilder", "value", "[B", .ref v), ("java/lang/AbstractStringBuilder", "coder", "B", .int 0), ("java/lang/AbstractStringBuilder", "count", "I", .int ct)])) ∈ l) (hv : (v, mv, .inr (.byte, (sbl us cap).map byv)) ∈ l) (K : WP κ yc (pcc + 3) Lc Sc F (l) k n) :
    WP κ y19 0 [.val (.ref o), .val (.int (Int32.ofNat m)), .unset] [] (fr κ yc pcc Lc Sc :: F) (l) k n := by
  refine wp_seg C (M19 hw) [(.aload_n 0, 1)] (by decide +kernel) (pc' := 1) (L' := [.val (.ref o), .val (.int (Int32.ofNat m)), .unset]) (S' := [.ref o]) rfl ?_
  refine wp_getfield C (M19 hw) d19_1 (w58 hw) (Or.inl rfl) (a := o) (mu := mo) (Cl := "java/lang/StringBuilder") (fs := [("java/lang/AbstractStringBuilder", "value", "[B", .ref v), ("java/lang/AbstractStringBuilder", "coder", "B", .int 0), ("java/lang/AbstractStringBuilder", "count", "I", .int ct)]) ho (List.mem_of_getElem? (i := 0) rfl) ?_
  refine wp_arraylength C (M19 hw) d19_4 (a := v) hv (z := (Int32.ofNat cap)) (by simp only [List.length_map]; rw [sbl_len hul]) ?_
  refine wp_seg C (M19 hw) [(.aload_n 0, 1)] (by decide +kernel) (pc' := 6) (L' := [.val (.ref o), .val (.int (Int32.ofNat m)), .unset]) (S' := [.ref o, .int (Int32.ofNat cap)]) rfl ?_
  refine wp_getfield C (M19 hw) d19_6 (w60 hw) (Or.inl rfl) (a := o) (mu := mo) (Cl := "java/lang/StringBuilder") (fs := [("java/lang/AbstractStringBuilder", "value", "[B", .ref v), ("java/lang/AbstractStringBuilder", "coder", "B", .int 0), ("java/lang/AbstractStringBuilder", "count", "I", .int ct)]) ho (List.mem_of_getElem? (i := 1) rfl) ?_
  refine wp_seg C (M19 hw) [(.ishr, 1)] (by decide +kernel) (pc' := 10) (L' := [.val (.ref o), .val (.int (Int32.ofNat m)), .unset]) (S' := [.int ((Int32.ofNat cap) >>> ((0 : Int32) &&& 31))]) rfl ?_
  rw [shr0]
  refine wp_seg C (M19 hw) [(.istore_n 2, 1), (.iload_n 1, 1), (.iload_n 2, 1), (.isub, 1)] (by decide +kernel) (pc' := 14) (L' := [.val (.ref o), .val (.int (Int32.ofNat m)), .val (.int (Int32.ofNat cap))]) (S' := [.int ((Int32.ofNat m) - (Int32.ofNat cap))]) rfl ?_
  refine wp_ift C (M19 hw) d19_14 (XT.i0_le_t (sub_le32 hm (by omega))) (pc' := 38) (by decide) ?_
  exact wp_vret C (M19 hw) d19_38 Cr K
theorem c_asbl {κ : Cx} (C : Ok κ) (hw : Ws κ) (hs : StrS κ) {o v : Addr} {mo : Bool} {ct : Int32} {yc : MethodName} {pcc : Nat} {Lc : List Slot} {Sc : List Value} {F : List Frame} {l : List Chunk} {k n : Nat} (Cr : Caller κ yc pcc 3) (ho : (o, mo, .inl ("java/lang/StringBuilder", [("java/lang/AbstractStringBuilder", "value", "[B", .ref v), ("java/lang/AbstractStringBuilder", "coder", "B", .int 0), ("java/lang/AbstractStringBuilder", "count", "I", .int ct)])) ∈ l) (K : WP κ yc (pcc + 3) Lc (.int 1 :: Sc) F (l) k n) :
    WP κ y20 0 [.val (.ref o)] [] (fr κ yc pcc Lc Sc :: F) (l) k n := by
  obtain ⟨⟨cz, hcs, scs⟩, -⟩ := hs
  refine wp_getstatic C (M20 hw) d20_0 (w57 hw) (Or.inl rfl) scs ?_
  refine wp_iff C (M20 hw) d20_3 (XT.i0_eq_f hcs) ?_
  refine wp_seg C (M20 hw) [(.aload_n 0, 1)] (by decide +kernel) (pc' := 7) (L' := [.val (.ref o)]) (S' := [.ref o]) rfl ?_
  refine wp_getfield C (M20 hw) d20_7 (w60 hw) (Or.inl rfl) (a := o) (mu := mo) (Cl := "java/lang/StringBuilder") (fs := [("java/lang/AbstractStringBuilder", "value", "[B", .ref v), ("java/lang/AbstractStringBuilder", "coder", "B", .int 0), ("java/lang/AbstractStringBuilder", "count", "I", .int ct)]) ho (List.mem_of_getElem? (i := 1) rfl) ?_
  refine wp_iff C (M20 hw) d20_10 (XT.i0_ne_f (by decide)) ?_
  refine wp_seg C (M20 hw) [(.iconst 1, 1), (.goto 4, 3)] (by decide +kernel) (pc' := 18) (L' := [.val (.ref o)]) (S' := [.int 1]) rfl ?_
  exact wp_iret C (M20 hw) d20_18 rfl (t := .boolean) (by decide) rfl Cr K
theorem c_inf {κ : Cx} (C : Ok κ) (hw : Ws κ) (hs : StrS κ) {o v a b : Addr} {mo : Bool} {ct : Int32} {yc : MethodName} {pcc : Nat} {Lc : List Slot} {Sc : List Value} {F : List Frame} {l : List Chunk} {k n : Nat} (Cr : Caller κ yc pcc 3) (hR : Rm κ (fr κ yc pcc Lc Sc :: F) 2 26) (ho : (o, mo, .inl ("java/lang/StringBuilder", [("java/lang/AbstractStringBuilder", "value", "[B", .ref v), ("java/lang/AbstractStringBuilder", "coder", "B", .int 0), ("java/lang/AbstractStringBuilder", "count", "I", .int ct)])) ∈ l) (hsa : strO a b 0 ∈ l) (K : WP κ yc (pcc + 3) Lc Sc F (l) k n) :
    WP κ y21 0 [.val (.ref o), .val (.ref a)] [] (fr κ yc pcc Lc Sc :: F) (l) k n := by
  have hs0 := hs
  obtain ⟨⟨cz, hcs, scs⟩, -⟩ := hs
  refine wp_getstatic C (M21 hw) d21_0 (w57 hw) (Or.inl rfl) scs ?_
  refine wp_iff C (M21 hw) d21_3 (XT.i0_eq_f hcs) ?_
  refine wp_seg C (M21 hw) [(.aload_n 0, 1)] (by decide +kernel) (pc' := 7) (L' := [.val (.ref o), .val (.ref a)]) (S' := [.ref o]) rfl ?_
  refine wp_getfield C (M21 hw) d21_7 (w60 hw) (Or.inl rfl) (a := o) (mu := mo) (Cl := "java/lang/StringBuilder") (fs := [("java/lang/AbstractStringBuilder", "value", "[B", .ref v), ("java/lang/AbstractStringBuilder", "coder", "B", .int 0), ("java/lang/AbstractStringBuilder", "count", "I", .int ct)]) ho (List.mem_of_getElem? (i := 1) rfl) ?_
  refine wp_seg C (M21 hw) [(.aload_n 1, 1)] (by decide +kernel) (pc' := 11) (L' := [.val (.ref o), .val (.ref a)]) (S' := [.ref a, .int 0]) rfl ?_
  refine wp_invokevirtual C (M21 hw) d21_11 (M1 hw) (Cl := "java/lang/String") (w126 hw) (w79 hw) (w81 hw) (w80 hw) (Or.inl ⟨_, (w81 hw)⟩) (by decide) (b := a) hsa (S' := [.int 0]) [] (lenOf pd1 rfl) rfl (L' := [.val (.ref a)]) rfl rfl (hR.push (d' := 1) (w' := 12) (Nat.le_of_ble_eq_true rfl) (Nat.le_of_ble_eq_true rfl)) ?_
  refine c_coder C hw hs0 (Meth.caller (M21 hw) d21_11) hsa ?_
  refine wp_ict C (M21 hw) d21_14 (XT.ii_eq_t (by decide)) (pc' := 21) (by decide) ?_
  exact wp_vret C (M21 hw) d21_21 Cr K
theorem c_gby {κ : Cx} (C : Ok κ) (hw : Ws κ) (hs : StrS κ) {a v : Addr} {us vs : List UInt8} {cap : Nat} (hc : cap < 1000) (hul : us.length + vs.length ≤ cap) {yc : MethodName} {pcc : Nat} {Lc : List Slot} {Sc : List Value} {F : List Frame} {l : List Chunk} {k n : Nat} (Cr : Caller κ yc pcc 3) (hR : Rm κ (fr κ yc pcc Lc Sc :: F) 2 55) (st : Str l a vs) (K : WP κ yc (pcc + 3) Lc Sc F ((v, true, .inr (.byte, (sbl (us ++ vs) cap).map byv)) :: l) k n) :
    WP κ y22 0 [.val (.ref a), .val (.ref v), .val (.int (Int32.ofNat us.length)), .val (.int 0)] [] (fr κ yc pcc Lc Sc :: F) ((v, true, .inr (.byte, (sbl us cap).map byv)) :: l) k n := by
  obtain ⟨b, ho, hb⟩ := st
  refine wp_seg C (M22 hw) [(.aload_n 0, 1)] (by decide +kernel) (pc' := 1) (L' := [.val (.ref a), .val (.ref v), .val (.int (Int32.ofNat us.length)), .val (.int 0)]) (S' := [.ref a]) rfl ?_
  refine wp_invokevirtual C (M22 hw) d22_1 (M1 hw) (Cl := "java/lang/String") (w78 hw) (w79 hw) (w81 hw) (w80 hw) (Or.inl ⟨_, (w81 hw)⟩) (by decide) (b := a) (List.Mem.tail _ ho) (S' := []) [] (lenOf pd1 rfl) rfl (L' := [.val (.ref a)]) rfl rfl (hR.push (d' := 1) (w' := 12) (Nat.le_of_ble_eq_true rfl) (Nat.le_of_ble_eq_true rfl)) ?_
  refine c_coder C hw hs (Meth.caller (M22 hw) d22_1) (List.Mem.tail _ ho) ?_
  refine wp_seg C (M22 hw) [(.iload_n 3, 1)] (by decide +kernel) (pc' := 5) (L' := [.val (.ref a), .val (.ref v), .val (.int (Int32.ofNat us.length)), .val (.int 0)]) (S' := [.int 0, .int 0]) rfl ?_
  refine wp_icf C (M22 hw) d22_5 (XT.ii_ne_f (by decide)) ?_
  refine wp_seg C (M22 hw) [(.aload_n 0, 1)] (by decide +kernel) (pc' := 9) (L' := [.val (.ref a), .val (.ref v), .val (.int (Int32.ofNat us.length)), .val (.int 0)]) (S' := [.ref a]) rfl ?_
  refine wp_getfield C (M22 hw) d22_9 (w43 hw) (Or.inl rfl) (a := a) (mu := false) (Cl := "java/lang/String") (fs := [("java/lang/String", "value", "[B", .ref b), ("java/lang/String", "coder", "B", .int 0)]) (List.Mem.tail _ ho) (List.mem_of_getElem? (i := 0) rfl) ?_
  refine wp_seg C (M22 hw) [(.iconst 0, 1), (.aload_n 1, 1), (.iload_n 2, 1), (.iload_n 3, 1), (.ishl, 1), (.aload_n 0, 1)] (by decide +kernel) (pc' := 18) (L' := [.val (.ref a), .val (.ref v), .val (.int (Int32.ofNat us.length)), .val (.int 0)]) (S' := [.ref a, .int ((Int32.ofNat us.length) <<< ((0 : Int32) &&& 31)), .ref v, .int 0, .ref b]) rfl ?_
  refine wp_getfield C (M22 hw) d22_18 (w43 hw) (Or.inl rfl) (a := a) (mu := false) (Cl := "java/lang/String") (fs := [("java/lang/String", "value", "[B", .ref b), ("java/lang/String", "coder", "B", .int 0)]) (List.Mem.tail _ ho) (List.mem_of_getElem? (i := 0) rfl) ?_
  refine wp_arraylength C (M22 hw) d22_21 (a := b) (List.Mem.tail _ hb) (z := (Int32.ofNat vs.length)) (by simp) ?_
  rw [show ((Int32.ofNat us.length) <<< ((0 : Int32) &&& 31)) = Int32.ofNat us.length from by rw [shlk (k := 0) _ (by decide) (by decide) (by omega), Nat.pow_zero, Nat.mul_one]]
  refine wp_copy C (M22 hw) d22_22 (w132 hw) (w115 hw) (w113 hw) (w114 hw) (i := 0) (p := 0) (q := us.length) (m := vs.length) rfl (List.Mem.tail _ hb) rfl (by simp; omega) (by simp only [List.length_map]; rw [sbl_len (by omega)]; omega) (byv_all _) (byv_all _) (by simp) (by simp only [List.length_map]; rw [sbl_len (by omega)]; exact hul) (hR.push (d' := 1) (w' := 40) (Nat.le_of_ble_eq_true rfl) (Nat.le_of_ble_eq_true rfl)) (l' := (v, true, .inr (.byte, (sbl (us ++ vs) cap).map byv)) :: l) (by rw [List.set_cons_zero]; exact congrArg (fun z => (v, true, Sum.inr (FieldType.byte, z)) :: l) (sbl_cpv hul)) ?_
  refine wp_seg C (M22 hw) [(.goto 18, 3)] (by decide +kernel) (pc' := 43) (L' := [.val (.ref a), .val (.ref v), .val (.int (Int32.ofNat us.length)), .val (.int 0)]) (S' := []) rfl ?_
  exact wp_vret C (M22 hw) d22_43 Cr K
theorem c_psa {κ : Cx} (C : Ok κ) (hw : Ws κ) (hs : StrS κ) {o v : Addr} {us vs : List UInt8} {a : Addr} {cap : Nat} (hc : cap < 1000) (hul : us.length + vs.length ≤ cap) {yc : MethodName} {pcc : Nat} {Lc : List Slot} {Sc : List Value} {F : List Frame} {l : List Chunk} {k n : Nat} (Cr : Caller κ yc pcc 3) (hR : Rm κ (fr κ yc pcc Lc Sc :: F) 3 69) (st : Str l a vs) (K : WP κ yc (pcc + 3) Lc Sc F ((o, true, .inl ("java/lang/StringBuilder", [("java/lang/AbstractStringBuilder", "value", "[B", .ref v), ("java/lang/AbstractStringBuilder", "coder", "B", .int 0), ("java/lang/AbstractStringBuilder", "count", "I", .int (Int32.ofNat us.length))])) :: (v, true, .inr (.byte, (sbl (us ++ vs) cap).map byv)) :: l) k n) :
    WP κ y23 0 [.val (.ref o), .val (.int (Int32.ofNat us.length)), .val (.ref a)] [] (fr κ yc pcc Lc Sc :: F) ((o, true, .inl ("java/lang/StringBuilder", [("java/lang/AbstractStringBuilder", "value", "[B", .ref v), ("java/lang/AbstractStringBuilder", "coder", "B", .int 0), ("java/lang/AbstractStringBuilder", "count", "I", .int (Int32.ofNat us.length))])) :: (v, true, .inr (.byte, (sbl us cap).map byv)) :: l) k n := by
  have st0 := st
  obtain ⟨b, ho, hb⟩ := st
  refine wp_seg C (M23 hw) [(.aload_n 0, 1), (.aload_n 2, 1)] (by decide +kernel) (pc' := 2) (L' := [.val (.ref o), .val (.int (Int32.ofNat us.length)), .val (.ref a)]) (S' := [.ref a, .ref o]) rfl ?_
  refine wp_private C (M23 hw) d23_2 (M21 hw) (y2 := y19) (w121 hw) (w123 hw) (w122 hw) rfl (w86 hw) (Or.inl ⟨_, (w88 hw)⟩) (by decide) (b := o) (List.mem_of_getElem? (i := 0) rfl) (S' := []) [.ref a] (lenOf pd21 rfl) rfl (L' := [.val (.ref o), .val (.ref a)]) rfl rfl (hR.push (d' := 1) (w' := 13) (Nat.le_of_ble_eq_true rfl) (Nat.le_of_ble_eq_true rfl)) ?_
  refine c_inf C hw hs (Meth.caller (M23 hw) d23_2) (hR.push (d' := 2) (w' := 26) (Nat.le_of_ble_eq_true rfl) (Nat.le_of_ble_eq_true rfl)) (mo := true) (List.mem_of_getElem? (i := 0) rfl) (List.Mem.tail _ (List.Mem.tail _ ho)) ?_
  refine wp_seg C (M23 hw) [(.aload_n 2, 1), (.aload_n 0, 1)] (by decide +kernel) (pc' := 7) (L' := [.val (.ref o), .val (.int (Int32.ofNat us.length)), .val (.ref a)]) (S' := [.ref o, .ref a]) rfl ?_
  refine wp_getfield C (M23 hw) d23_7 (w58 hw) (Or.inl rfl) (a := o) (mu := true) (Cl := "java/lang/StringBuilder") (fs := [("java/lang/AbstractStringBuilder", "value", "[B", .ref v), ("java/lang/AbstractStringBuilder", "coder", "B", .int 0), ("java/lang/AbstractStringBuilder", "count", "I", .int (Int32.ofNat us.length))]) (List.mem_of_getElem? (i := 0) rfl) (List.mem_of_getElem? (i := 0) rfl) ?_
  refine wp_seg C (M23 hw) [(.iload_n 1, 1), (.aload_n 0, 1)] (by decide +kernel) (pc' := 12) (L' := [.val (.ref o), .val (.int (Int32.ofNat us.length)), .val (.ref a)]) (S' := [.ref o, .int (Int32.ofNat us.length), .ref v, .ref a]) rfl ?_
  refine wp_getfield C (M23 hw) d23_12 (w60 hw) (Or.inl rfl) (a := o) (mu := true) (Cl := "java/lang/StringBuilder") (fs := [("java/lang/AbstractStringBuilder", "value", "[B", .ref v), ("java/lang/AbstractStringBuilder", "coder", "B", .int 0), ("java/lang/AbstractStringBuilder", "count", "I", .int (Int32.ofNat us.length))]) (List.mem_of_getElem? (i := 0) rfl) (List.mem_of_getElem? (i := 1) rfl) ?_
  refine wp_front 1 rfl rfl ?_
  refine wp_invokevirtual C (M23 hw) d23_15 (M22 hw) (Cl := "java/lang/String") (w127 hw) (w128 hw) (w130 hw) (w129 hw) (Or.inl ⟨_, (w130 hw)⟩) (by decide) (b := a) (List.Mem.tail _ (List.Mem.tail _ ho)) (S' := []) [.ref v, .int (Int32.ofNat us.length), .int 0] (lenOf pd22 rfl) rfl (L' := [.val (.ref a), .val (.ref v), .val (.int (Int32.ofNat us.length)), .val (.int 0)]) rfl rfl (hR.push (d' := 1) (w' := 15) (Nat.le_of_ble_eq_true rfl) (Nat.le_of_ble_eq_true rfl)) ?_
  refine c_gby C hw hs hc hul (Meth.caller (M23 hw) d23_15) (hR.push (d' := 2) (w' := 55) (Nat.le_of_ble_eq_true rfl) (Nat.le_of_ble_eq_true rfl)) (st0.mono fun _ q => List.Mem.tail _ q) ?_
  refine wp_front 1 rfl rfl ?_
  exact wp_vret C (M23 hw) d23_18 Cr K
theorem c_aas {κ : Cx} (C : Ok κ) (hw : Ws κ) (hs : StrS κ) {o v : Addr} {us vs : List UInt8} {a : Addr} {cap : Nat} (hc : cap < 1000) (hul : us.length + vs.length ≤ cap) {yc : MethodName} {pcc : Nat} {Lc : List Slot} {Sc : List Value} {F : List Frame} {l : List Chunk} {k n : Nat} (Cr : Caller κ yc pcc 3) (hR : Rm κ (fr κ yc pcc Lc Sc :: F) 4 83) (st : Str l a vs) (K : WP κ yc (pcc + 3) Lc (.ref o :: Sc) F ((o, true, .inl ("java/lang/StringBuilder", [("java/lang/AbstractStringBuilder", "value", "[B", .ref v), ("java/lang/AbstractStringBuilder", "coder", "B", .int 0), ("java/lang/AbstractStringBuilder", "count", "I", .int (Int32.ofNat ((us ++ vs).length)))])) :: (v, true, .inr (.byte, (sbl (us ++ vs) cap).map byv)) :: l) k n) :
    WP κ y24 0 [.val (.ref o), .val (.ref a), .unset] [] (fr κ yc pcc Lc Sc :: F) ((o, true, .inl ("java/lang/StringBuilder", [("java/lang/AbstractStringBuilder", "value", "[B", .ref v), ("java/lang/AbstractStringBuilder", "coder", "B", .int 0), ("java/lang/AbstractStringBuilder", "count", "I", .int (Int32.ofNat us.length))])) :: (v, true, .inr (.byte, (sbl us cap).map byv)) :: l) k n := by
  have st0 := st
  obtain ⟨b, ho, hb⟩ := st
  refine wp_seg C (M24 hw) [(.aload_n 1, 1)] (by decide +kernel) (pc' := 1) (L' := [.val (.ref o), .val (.ref a), .unset]) (S' := [.ref a]) rfl ?_
  refine wp_nonnullt C (M24 hw) d24_1 (pc' := 9) (by decide) ?_
  refine wp_seg C (M24 hw) [(.aload_n 1, 1)] (by decide +kernel) (pc' := 10) (L' := [.val (.ref o), .val (.ref a), .unset]) (S' := [.ref a]) rfl ?_
  refine wp_invokevirtual C (M24 hw) d24_10 (M2 hw) (Cl := "java/lang/String") (w73 hw) (w74 hw) (w76 hw) (w75 hw) (Or.inl ⟨_, (w76 hw)⟩) (by decide) (b := a) (List.Mem.tail _ (List.Mem.tail _ ho)) (S' := []) [] (lenOf pd2 rfl) rfl (L' := [.val (.ref a)]) rfl rfl (hR.push (d' := 1) (w' := 12) (Nat.le_of_ble_eq_true rfl) (Nat.le_of_ble_eq_true rfl)) ?_
  refine c_len C hw hs (Meth.caller (M24 hw) d24_10) (hR.push (d' := 2) (w' := 25) (Nat.le_of_ble_eq_true rfl) (Nat.le_of_ble_eq_true rfl)) (st0.mono fun _ q => List.Mem.tail _ (List.Mem.tail _ q)) ?_
  refine wp_seg C (M24 hw) [(.istore_n 2, 1), (.aload_n 0, 1), (.aload_n 0, 1)] (by decide +kernel) (pc' := 16) (L' := [.val (.ref o), .val (.ref a), .val (.int (Int32.ofNat vs.length))]) (S' := [.ref o, .ref o]) rfl ?_
  refine wp_getfield C (M24 hw) d24_16 (w83 hw) (Or.inl rfl) (a := o) (mu := true) (Cl := "java/lang/StringBuilder") (fs := [("java/lang/AbstractStringBuilder", "value", "[B", .ref v), ("java/lang/AbstractStringBuilder", "coder", "B", .int 0), ("java/lang/AbstractStringBuilder", "count", "I", .int (Int32.ofNat us.length))]) (List.mem_of_getElem? (i := 0) rfl) (List.mem_of_getElem? (i := 2) rfl) ?_
  refine wp_seg C (M24 hw) [(.iload_n 2, 1), (.iadd, 1)] (by decide +kernel) (pc' := 21) (L' := [.val (.ref o), .val (.ref a), .val (.int (Int32.ofNat vs.length))]) (S' := [.int ((Int32.ofNat us.length) + (Int32.ofNat vs.length)), .ref o]) rfl ?_
  rw [add32n]
  refine wp_private C (M24 hw) d24_21 (M19 hw) (y2 := y19) (w85 hw) (w87 hw) (w86 hw) rfl (w86 hw) (Or.inl ⟨_, (w88 hw)⟩) (by decide) (b := o) (List.mem_of_getElem? (i := 0) rfl) (S' := []) [.int (Int32.ofNat (us.length + vs.length))] (lenOf pd19 rfl) rfl (L' := [.val (.ref o), .val (.int (Int32.ofNat (us.length + vs.length))), .unset]) rfl rfl (hR.push (d' := 1) (w' := 14) (Nat.le_of_ble_eq_true rfl) (Nat.le_of_ble_eq_true rfl)) ?_
  refine c_ens C hw (us := us) hc (by omega) hul (Meth.caller (M24 hw) d24_21) (mo := true) (mv := true) (List.mem_of_getElem? (i := 0) rfl) (List.mem_of_getElem? (i := 1) rfl) ?_
  refine wp_seg C (M24 hw) [(.aload_n 0, 1), (.aload_n 0, 1)] (by decide +kernel) (pc' := 26) (L' := [.val (.ref o), .val (.ref a), .val (.int (Int32.ofNat vs.length))]) (S' := [.ref o, .ref o]) rfl ?_
  refine wp_getfield C (M24 hw) d24_26 (w83 hw) (Or.inl rfl) (a := o) (mu := true) (Cl := "java/lang/StringBuilder") (fs := [("java/lang/AbstractStringBuilder", "value", "[B", .ref v), ("java/lang/AbstractStringBuilder", "coder", "B", .int 0), ("java/lang/AbstractStringBuilder", "count", "I", .int (Int32.ofNat us.length))]) (List.mem_of_getElem? (i := 0) rfl) (List.mem_of_getElem? (i := 2) rfl) ?_
  refine wp_seg C (M24 hw) [(.aload_n 1, 1)] (by decide +kernel) (pc' := 30) (L' := [.val (.ref o), .val (.ref a), .val (.int (Int32.ofNat vs.length))]) (S' := [.ref a, .int (Int32.ofNat us.length), .ref o]) rfl ?_
  refine wp_private C (M24 hw) d24_30 (M23 hw) (y2 := y19) (w116 hw) (w118 hw) (w117 hw) rfl (w86 hw) (Or.inl ⟨_, (w88 hw)⟩) (by decide) (b := o) (List.mem_of_getElem? (i := 0) rfl) (S' := []) [.int (Int32.ofNat us.length), .ref a] (lenOf pd23 rfl) rfl (L' := [.val (.ref o), .val (.int (Int32.ofNat us.length)), .val (.ref a)]) rfl rfl (hR.push (d' := 1) (w' := 14) (Nat.le_of_ble_eq_true rfl) (Nat.le_of_ble_eq_true rfl)) ?_
  refine c_psa C hw hs hc hul (Meth.caller (M24 hw) d24_30) (hR.push (d' := 3) (w' := 69) (Nat.le_of_ble_eq_true rfl) (Nat.le_of_ble_eq_true rfl)) st0 ?_
  refine wp_seg C (M24 hw) [(.aload_n 0, 1), (.dup, 1)] (by decide +kernel) (pc' := 35) (L' := [.val (.ref o), .val (.ref a), .val (.int (Int32.ofNat vs.length))]) (S' := [.ref o, .ref o]) rfl ?_
  refine wp_getfield C (M24 hw) d24_35 (w83 hw) (Or.inl rfl) (a := o) (mu := true) (Cl := "java/lang/StringBuilder") (fs := [("java/lang/AbstractStringBuilder", "value", "[B", .ref v), ("java/lang/AbstractStringBuilder", "coder", "B", .int 0), ("java/lang/AbstractStringBuilder", "count", "I", .int (Int32.ofNat us.length))]) (List.mem_of_getElem? (i := 0) rfl) (List.mem_of_getElem? (i := 2) rfl) ?_
  refine wp_seg C (M24 hw) [(.iload_n 2, 1), (.iadd, 1)] (by decide +kernel) (pc' := 40) (L' := [.val (.ref o), .val (.ref a), .val (.int (Int32.ofNat vs.length))]) (S' := [.int ((Int32.ofNat us.length) + (Int32.ofNat vs.length)), .ref o]) rfl ?_
  rw [add32n, show us.length + vs.length = (us ++ vs).length by simp]
  refine wp_putfield C (M24 hw) d24_40 (w83 hw) (Or.inl rfl) (i := 0) (j := 2) rfl rfl (Or.inl (w84 hw)) (w45 hw) (ty := .int) (by decide) rfl rfl (l' := (o, true, .inl ("java/lang/StringBuilder", [("java/lang/AbstractStringBuilder", "value", "[B", .ref v), ("java/lang/AbstractStringBuilder", "coder", "B", .int 0), ("java/lang/AbstractStringBuilder", "count", "I", .int (Int32.ofNat ((us ++ vs).length)))])) :: (v, true, .inr (.byte, (sbl (us ++ vs) cap).map byv)) :: l) rfl ?_
  refine wp_seg C (M24 hw) [(.aload_n 0, 1)] (by decide +kernel) (pc' := 44) (L' := [.val (.ref o), .val (.ref a), .val (.int (Int32.ofNat vs.length))]) (S' := [.ref o]) rfl ?_
  exact wp_aret C (M24 hw) d24_44 rfl (t := .object "java/lang/AbstractStringBuilder") rfl rfl Cr K
theorem c_sas {κ : Cx} (C : Ok κ) (hw : Ws κ) (hs : StrS κ) {o v : Addr} {us vs : List UInt8} {a : Addr} {cap : Nat} (hc : cap < 1000) (hul : us.length + vs.length ≤ cap) {yc : MethodName} {pcc : Nat} {Lc : List Slot} {Sc : List Value} {F : List Frame} {l : List Chunk} {k n : Nat} (Cr : Caller κ yc pcc 3) (hR : Rm κ (fr κ yc pcc Lc Sc :: F) 5 96) (st : Str l a vs) (K : WP κ yc (pcc + 3) Lc (.ref o :: Sc) F ((o, true, .inl ("java/lang/StringBuilder", [("java/lang/AbstractStringBuilder", "value", "[B", .ref v), ("java/lang/AbstractStringBuilder", "coder", "B", .int 0), ("java/lang/AbstractStringBuilder", "count", "I", .int (Int32.ofNat ((us ++ vs).length)))])) :: (v, true, .inr (.byte, (sbl (us ++ vs) cap).map byv)) :: l) k n) :
    WP κ y25 0 [.val (.ref o), .val (.ref a)] [] (fr κ yc pcc Lc Sc :: F) ((o, true, .inl ("java/lang/StringBuilder", [("java/lang/AbstractStringBuilder", "value", "[B", .ref v), ("java/lang/AbstractStringBuilder", "coder", "B", .int 0), ("java/lang/AbstractStringBuilder", "count", "I", .int (Int32.ofNat us.length))])) :: (v, true, .inr (.byte, (sbl us cap).map byv)) :: l) k n := by
  refine wp_seg C (M25 hw) [(.aload_n 0, 1), (.aload_n 1, 1)] (by decide +kernel) (pc' := 2) (L' := [.val (.ref o), .val (.ref a)]) (S' := [.ref a, .ref o]) rfl ?_
  refine wp_super C (M25 hw) d25_2 (M24 hw) (y2 := y19) (w68 hw) (w69 hw) (w70 hw) rfl (w86 hw) (Or.inl ⟨_, (w88 hw)⟩) (by decide) (by decide) (b := o) (List.mem_of_getElem? (i := 0) rfl) (S' := []) [.ref a] (lenOf pd24 rfl) rfl (L' := [.val (.ref o), .val (.ref a), .unset]) rfl rfl (hR.push (d' := 1) (w' := 14) (Nat.le_of_ble_eq_true rfl) (Nat.le_of_ble_eq_true rfl)) ?_
  refine c_aas C hw hs hc hul (Meth.caller (M25 hw) d25_2) (hR.push (d' := 4) (w' := 83) (Nat.le_of_ble_eq_true rfl) (Nat.le_of_ble_eq_true rfl)) st ?_
  refine wp_seg C (M25 hw) [(.pop, 1), (.aload_n 0, 1)] (by decide +kernel) (pc' := 7) (L' := [.val (.ref o), .val (.ref a)]) (S' := [.ref o]) rfl ?_
  exact wp_aret C (M25 hw) d25_7 rfl (t := .object "java/lang/StringBuilder") rfl rfl Cr K
theorem c_gv {κ : Cx} (C : Ok κ) (hw : Ws κ) {o v : Addr} {mo : Bool} {us : List UInt8} {yc : MethodName} {pcc : Nat} {Lc : List Slot} {Sc : List Value} {F : List Frame} {l : List Chunk} {k n : Nat} (Cr : Caller κ yc pcc 3) (ho : (o, mo, .inl ("java/lang/StringBuilder", [("java/lang/AbstractStringBuilder", "value", "[B", .ref v), ("java/lang/AbstractStringBuilder", "coder", "B", .int 0), ("java/lang/AbstractStringBuilder", "count", "I", .int (Int32.ofNat us.length))])) ∈ l) (K : WP κ yc (pcc + 3) Lc (.ref v :: Sc) F (l) k n) :
    WP κ y26 0 [.val (.ref o)] [] (fr κ yc pcc Lc Sc :: F) (l) k n := by
  refine wp_seg C (M26 hw) [(.aload_n 0, 1)] (by decide +kernel) (pc' := 1) (L' := [.val (.ref o)]) (S' := [.ref o]) rfl ?_
  refine wp_getfield C (M26 hw) d26_1 (w58 hw) (Or.inl rfl) (a := o) (mu := mo) (Cl := "java/lang/StringBuilder") (fs := [("java/lang/AbstractStringBuilder", "value", "[B", .ref v), ("java/lang/AbstractStringBuilder", "coder", "B", .int 0), ("java/lang/AbstractStringBuilder", "count", "I", .int (Int32.ofNat us.length))]) ho (List.mem_of_getElem? (i := 0) rfl) ?_
  exact wp_aret C (M26 hw) d26_4 rfl (t := .array (.byte)) rfl rfl Cr K
theorem c_alen {κ : Cx} (C : Ok κ) (hw : Ws κ) {o v : Addr} {mo : Bool} {us : List UInt8} {yc : MethodName} {pcc : Nat} {Lc : List Slot} {Sc : List Value} {F : List Frame} {l : List Chunk} {k n : Nat} (Cr : Caller κ yc pcc 3) (ho : (o, mo, .inl ("java/lang/StringBuilder", [("java/lang/AbstractStringBuilder", "value", "[B", .ref v), ("java/lang/AbstractStringBuilder", "coder", "B", .int 0), ("java/lang/AbstractStringBuilder", "count", "I", .int (Int32.ofNat us.length))])) ∈ l) (K : WP κ yc (pcc + 3) Lc (.int (Int32.ofNat us.length) :: Sc) F (l) k n) :
    WP κ y27 0 [.val (.ref o)] [] (fr κ yc pcc Lc Sc :: F) (l) k n := by
  refine wp_seg C (M27 hw) [(.aload_n 0, 1)] (by decide +kernel) (pc' := 1) (L' := [.val (.ref o)]) (S' := [.ref o]) rfl ?_
  refine wp_getfield C (M27 hw) d27_1 (w83 hw) (Or.inl rfl) (a := o) (mu := mo) (Cl := "java/lang/StringBuilder") (fs := [("java/lang/AbstractStringBuilder", "value", "[B", .ref v), ("java/lang/AbstractStringBuilder", "coder", "B", .int 0), ("java/lang/AbstractStringBuilder", "count", "I", .int (Int32.ofNat us.length))]) ho (List.mem_of_getElem? (i := 2) rfl) ?_
  exact wp_iret C (M27 hw) d27_4 rfl (t := .int) (by decide) rfl Cr K
theorem c_slen {κ : Cx} (C : Ok κ) (hw : Ws κ) {o v : Addr} {mo : Bool} {us : List UInt8} {yc : MethodName} {pcc : Nat} {Lc : List Slot} {Sc : List Value} {F : List Frame} {l : List Chunk} {k n : Nat} (Cr : Caller κ yc pcc 3) (hR : Rm κ (fr κ yc pcc Lc Sc :: F) 2 24) (ho : (o, mo, .inl ("java/lang/StringBuilder", [("java/lang/AbstractStringBuilder", "value", "[B", .ref v), ("java/lang/AbstractStringBuilder", "coder", "B", .int 0), ("java/lang/AbstractStringBuilder", "count", "I", .int (Int32.ofNat us.length))])) ∈ l) (K : WP κ yc (pcc + 3) Lc (.int (Int32.ofNat us.length) :: Sc) F (l) k n) :
    WP κ y28 0 [.val (.ref o)] [] (fr κ yc pcc Lc Sc :: F) (l) k n := by
  refine wp_seg C (M28 hw) [(.aload_n 0, 1)] (by decide +kernel) (pc' := 1) (L' := [.val (.ref o)]) (S' := [.ref o]) rfl ?_
  refine wp_super C (M28 hw) d28_1 (M27 hw) (y2 := y19) (w205 hw) (w201 hw) (w70 hw) rfl (w86 hw) (Or.inl ⟨_, (w88 hw)⟩) (by decide) (by decide) (b := o) ho (S' := []) [] (lenOf pd27 rfl) rfl (L' := [.val (.ref o)]) rfl rfl (hR.push (d' := 1) (w' := 12) (Nat.le_of_ble_eq_true rfl) (Nat.le_of_ble_eq_true rfl)) ?_
  refine c_alen C hw  (Meth.caller (M28 hw) d28_1) ho ?_
  exact wp_iret C (M28 hw) d28_4 rfl (t := .int) (by decide) rfl Cr K
theorem c_sia {κ : Cx} (C : Ok κ) (hw : Ws κ) (hs : StrS κ) {a o v : Addr} {mo : Bool} {us : List UInt8} {cap : Nat} (hc : cap < 1000) (hul : us.length < cap) {yc : MethodName} {pcc : Nat} {Lc : List Slot} {Sc : List Value} {F : List Frame} {l : List Chunk} {k n : Nat} (Cr : Caller κ yc pcc 3) (hR : Rm κ (fr κ yc pcc Lc Sc :: F) 4 87) (ho : (o, mo, .inl ("java/lang/StringBuilder", [("java/lang/AbstractStringBuilder", "value", "[B", .ref v), ("java/lang/AbstractStringBuilder", "coder", "B", .int 0), ("java/lang/AbstractStringBuilder", "count", "I", .int (Int32.ofNat us.length))])) ∈ l) (hv : (v, false, .inr (.byte, (sbl us cap).map byv)) ∈ l) (hk : k + 1 ≤ (kR κ).cells) (hn : n + us.length ≤ (kR κ).slots) (K : ∀ c, WP κ yc (pcc + 3) Lc Sc F (strO a c 0 :: strB c us :: l) (k + 1) (n + us.length)) :
    WP κ y29 0 [.val (.ref a), .val (.ref o), .val (.null), .unset, .unset] [] (fr κ yc pcc Lc Sc :: F) ((a, true, .inl ("java/lang/String", [("java/lang/String", "value", "[B", .null), ("java/lang/String", "coder", "B", .int 0)])) :: l) k n := by
  have hsl : (sbl us cap).length = cap := sbl_len (Nat.le_of_lt hul)
  refine wp_seg C (M29 hw) [(.aload_n 0, 1)] (by decide +kernel) (pc' := 1) (L' := [.val (.ref a), .val (.ref o), .val (.null), .unset, .unset]) (S' := [.ref a]) rfl ?_
  refine wp_initObject C (M29 hw) d29_1 (w28 hw) (w29 hw) (w30 hw) (hR.push (d' := 1) (w' := 12) (Nat.le_of_ble_eq_true rfl) (Nat.le_of_ble_eq_true rfl)) ?_
  refine wp_seg C (M29 hw) [(.aload_n 1, 1)] (by decide +kernel) (pc' := 5) (L' := [.val (.ref a), .val (.ref o), .val (.null), .unset, .unset]) (S' := [.ref o]) rfl ?_
  refine wp_invokevirtual C (M29 hw) d29_5 (M26 hw) (Cl := "java/lang/StringBuilder") (w194 hw) (w195 hw) (w197 hw) (w196 hw) (Or.inl ⟨_, (w197 hw)⟩) (by decide) (b := o) (List.Mem.tail _ ho) (S' := []) [] (lenOf pd26 rfl) rfl (L' := [.val (.ref o)]) rfl rfl (hR.push (d' := 1) (w' := 12) (Nat.le_of_ble_eq_true rfl) (Nat.le_of_ble_eq_true rfl)) ?_
  refine c_gv C hw (mo := mo) (Meth.caller (M29 hw) d29_5) (List.Mem.tail _ ho) ?_
  refine wp_seg C (M29 hw) [(.astore_n 3, 1), (.aload_n 1, 1)] (by decide +kernel) (pc' := 10) (L' := [.val (.ref a), .val (.ref o), .val (.null), .val (.ref v), .unset]) (S' := [.ref o]) rfl ?_
  refine wp_invokevirtual C (M29 hw) d29_10 (M28 hw) (Cl := "java/lang/StringBuilder") (w199 hw) (w200 hw) (w202 hw) (w203 hw) (Or.inr (Or.inr (Or.inr ⟨y19, rfl, (w86 hw), _, (w88 hw)⟩))) (by decide) (b := o) (List.Mem.tail _ ho) (S' := []) [] (lenOf pd27 rfl) rfl (L' := [.val (.ref o)]) rfl rfl (hR.push (d' := 1) (w' := 12) (Nat.le_of_ble_eq_true rfl) (Nat.le_of_ble_eq_true rfl)) ?_
  refine c_slen C hw (mo := mo) (Meth.caller (M29 hw) d29_10) (hR.push (d' := 2) (w' := 24) (Nat.le_of_ble_eq_true rfl) (Nat.le_of_ble_eq_true rfl)) (List.Mem.tail _ ho) ?_
  refine wp_seg C (M29 hw) [(.istore 4, 2), (.aload_n 1, 1)] (by decide +kernel) (pc' := 16) (L' := [.val (.ref a), .val (.ref o), .val (.null), .val (.ref v), .val (.int (Int32.ofNat us.length))]) (S' := [.ref o]) rfl ?_
  refine wp_invokevirtual C (M29 hw) d29_16 (M20 hw) (Cl := "java/lang/StringBuilder") (w207 hw) (w208 hw) (w210 hw) (w209 hw) (Or.inl ⟨_, (w210 hw)⟩) (by decide) (b := o) (List.Mem.tail _ ho) (S' := []) [] (lenOf pd20 rfl) rfl (L' := [.val (.ref o)]) rfl rfl (hR.push (d' := 1) (w' := 12) (Nat.le_of_ble_eq_true rfl) (Nat.le_of_ble_eq_true rfl)) ?_
  refine c_asbl C hw (mo := mo) hs (Meth.caller (M29 hw) d29_16) (List.Mem.tail _ ho) ?_
  refine wp_iff C (M29 hw) d29_19 (XT.i0_eq_f (by decide)) ?_
  refine wp_seg C (M29 hw) [(.aload_n 0, 1), (.iconst 0, 1)] (by decide +kernel) (pc' := 24) (L' := [.val (.ref a), .val (.ref o), .val (.null), .val (.ref v), .val (.int (Int32.ofNat us.length))]) (S' := [.int 0, .ref a]) rfl ?_
  refine wp_putfield C (M29 hw) d29_24 (w42 hw) (Or.inl rfl) (i := 0) (j := 1) rfl rfl (Or.inr ⟨(w6 hw), rfl, rfl⟩) (w3 hw) (ty := .byte) (by decide) rfl rfl (l' := (a, true, .inl ("java/lang/String", [("java/lang/String", "value", "[B", .null), ("java/lang/String", "coder", "B", .int 0)])) :: l) rfl ?_
  refine wp_seg C (M29 hw) [(.aload_n 0, 1), (.aload_n 3, 1), (.iconst 0, 1), (.iload 4, 2)] (by decide +kernel) (pc' := 32) (L' := [.val (.ref a), .val (.ref o), .val (.null), .val (.ref v), .val (.int (Int32.ofNat us.length))]) (S' := [.int (Int32.ofNat us.length), .int 0, .ref v, .ref a]) rfl ?_
  rw [show Int32.ofNat us.length = Int32.ofNat (0 + us.length) by rw [Nat.zero_add]]
  refine wp_invokestatic C (M29 hw) d29_32 (M13 hw) (w212 hw) (w213 hw) (w107 hw) (by decide) (S' := [.ref a]) [.ref v, .int 0, .int (Int32.ofNat (0 + us.length))] (lenOf pd13 rfl) rfl (L' := [.val (.ref v), .val (.int 0), .val (.int (Int32.ofNat (0 + us.length)))]) rfl rfl (hR.push (d' := 1) (w' := 14) (Nat.le_of_ble_eq_true rfl) (Nat.le_of_ble_eq_true rfl)) ?_
  refine c_cor C hw (us := sbl us cap) (i := 0) (m := us.length) (by omega) (by omega) (by omega) (fun q => by have := q.2; omega) (Meth.caller (M29 hw) d29_32) (hR.push (d' := 3) (w' := 70) (Nat.le_of_ble_eq_true rfl) (Nat.le_of_ble_eq_true rfl)) (List.Mem.tail _ hv) hk hn fun c => ?_
  rw [show ((sbl us cap).drop 0).take us.length = us from by rw [List.drop_zero, sbl_take]]
  refine wp_putfield C (M29 hw) d29_35 (w43 hw) (Or.inl rfl) (i := 1) (j := 0) rfl rfl (Or.inr ⟨(w5 hw), rfl, rfl⟩) (w3 hw) (ty := .array (.byte)) (by decide) rfl rfl (l' := (c, true, .inr (.byte, us.map byv)) :: (a, true, .inl ("java/lang/String", [("java/lang/String", "value", "[B", .ref c), ("java/lang/String", "coder", "B", .int 0)])) :: l) rfl ?_
  refine wp_seg C (M29 hw) [(.goto 59, 3)] (by decide +kernel) (pc' := 97) (L' := [.val (.ref a), .val (.ref o), .val (.null), .val (.ref v), .val (.int (Int32.ofNat (0 + us.length)))]) (S' := []) rfl ?_
  refine wp_freeze ?_
  refine wp_front 1 rfl rfl ?_
  refine wp_freeze ?_
  exact wp_vret C (M29 hw) d29_97 Cr (K c)
theorem c_sib {κ : Cx} (C : Ok κ) (hw : Ws κ) (hs : StrS κ) {a o v : Addr} {mo : Bool} {us : List UInt8} {cap : Nat} (hc : cap < 1000) (hul : us.length < cap) {yc : MethodName} {pcc : Nat} {Lc : List Slot} {Sc : List Value} {F : List Frame} {l : List Chunk} {k n : Nat} (Cr : Caller κ yc pcc 3) (hR : Rm κ (fr κ yc pcc Lc Sc :: F) 5 100) (ho : (o, mo, .inl ("java/lang/StringBuilder", [("java/lang/AbstractStringBuilder", "value", "[B", .ref v), ("java/lang/AbstractStringBuilder", "coder", "B", .int 0), ("java/lang/AbstractStringBuilder", "count", "I", .int (Int32.ofNat us.length))])) ∈ l) (hv : (v, false, .inr (.byte, (sbl us cap).map byv)) ∈ l) (hk : k + 1 ≤ (kR κ).cells) (hn : n + us.length ≤ (kR κ).slots) (K : ∀ c, WP κ yc (pcc + 3) Lc Sc F (strO a c 0 :: strB c us :: l) (k + 1) (n + us.length)) :
    WP κ y30 0 [.val (.ref a), .val (.ref o)] [] (fr κ yc pcc Lc Sc :: F) ((a, true, .inl ("java/lang/String", [("java/lang/String", "value", "[B", .null), ("java/lang/String", "coder", "B", .int 0)])) :: l) k n := by
  refine wp_seg C (M30 hw) [(.aload_n 0, 1), (.aload_n 1, 1), (.aconst_null, 1)] (by decide +kernel) (pc' := 3) (L' := [.val (.ref a), .val (.ref o)]) (S' := [.null, .ref o, .ref a]) rfl ?_
  refine wp_init C (M30 hw) d30_3 (M29 hw) rfl (w191 hw) (w192 hw) (by decide) (S' := []) a [.ref o, .null] (lenOf pd29 rfl) rfl (L' := [.val (.ref a), .val (.ref o), .val (.null), .unset, .unset]) rfl rfl (hR.push (d' := 1) (w' := 16) (Nat.le_of_ble_eq_true rfl) (Nat.le_of_ble_eq_true rfl)) ?_
  refine c_sia C hw (mo := mo) hs hc hul (Meth.caller (M30 hw) d30_3) (hR.push (d' := 4) (w' := 87) (Nat.le_of_ble_eq_true rfl) (Nat.le_of_ble_eq_true rfl)) ho hv hk hn fun c => ?_
  exact wp_vret C (M30 hw) d30_6 Cr (K c)
theorem c_tos {κ : Cx} (C : Ok κ) (hw : Ws κ) (hs : StrS κ) {o v : Addr} {mo : Bool} {us : List UInt8} {cap : Nat} (hc : cap < 1000) (hul : us.length < cap) {yc : MethodName} {pcc : Nat} {Lc : List Slot} {Sc : List Value} {F : List Frame} {l : List Chunk} {k n : Nat} (Cr : Caller κ yc pcc 3) (hR : Rm κ (fr κ yc pcc Lc Sc :: F) 6 113) (ho : (o, mo, .inl ("java/lang/StringBuilder", [("java/lang/AbstractStringBuilder", "value", "[B", .ref v), ("java/lang/AbstractStringBuilder", "coder", "B", .int 0), ("java/lang/AbstractStringBuilder", "count", "I", .int (Int32.ofNat us.length))])) ∈ l) (hv : (v, false, .inr (.byte, (sbl us cap).map byv)) ∈ l) (hk : k + 1 + 1 ≤ (kR κ).cells) (hn : n + 4 + us.length ≤ (kR κ).slots) (K : ∀ a c, WP κ yc (pcc + 3) Lc (.ref a :: Sc) F (strO a c 0 :: strB c us :: l) (k + 1 + 1) (n + 4 + us.length)) :
    WP κ y31 0 [.val (.ref o)] [] (fr κ yc pcc Lc Sc :: F) (l) k n := by
  refine wp_new C (M31 hw) d31_0 (w187 hw) (w3 hw) (w2 hw) (cls_Str hw) (Nat.le_trans (by omega) hk) (Nat.le_trans (by omega) hn) fun a1 => ?_
  refine wp_seg C (M31 hw) [(.dup, 1), (.aload_n 0, 1)] (by decide +kernel) (pc' := 5) (L' := [.val (.ref o)]) (S' := [.ref o, .ref a1, .ref a1]) rfl ?_
  refine wp_init C (M31 hw) d31_5 (M30 hw) rfl (w188 hw) (w189 hw) (by decide) (S' := [.ref a1]) a1 [.ref o] (lenOf pd30 rfl) rfl (L' := [.val (.ref a1), .val (.ref o)]) rfl rfl (hR.push (d' := 1) (w' := 13) (Nat.le_of_ble_eq_true rfl) (Nat.le_of_ble_eq_true rfl)) ?_
  refine c_sib C hw (mo := mo) hs hc hul (Meth.caller (M31 hw) d31_5) (hR.push (d' := 5) (w' := 100) (Nat.le_of_ble_eq_true rfl) (Nat.le_of_ble_eq_true rfl)) ho hv hk hn fun c => ?_
  exact wp_aret C (M31 hw) d31_8 rfl (t := .object "java/lang/String") rfl rfl Cr (K a1 c)
theorem c_nlG1 {κ : Cx} (C : Ok κ) (hw : Ws κ)  {yc : MethodName} {pcc : Nat} {Lc : List Slot} {Sc : List Value} {F : List Frame} {l : List Chunk} {k n : Nat} (Cr : Caller κ yc pcc 3) (hR : Rm κ (fr κ yc pcc Lc Sc :: F) 2 29)  (K : WP κ yc (pcc + 3) Lc (.int 39 :: Sc) F (l) k n) :
    WP κ y32 0 [.val (.int 16), .val (.int 23), .val (.int 18), .unset] [] (fr κ yc pcc Lc Sc :: F) (l) k n := by
  refine wp_seg C (M32 hw) [(.iload_n 0, 1), (.iload_n 1, 1), (.iload_n 2, 1)] (by decide +kernel) (pc' := 3) (L' := [.val (.int 16), .val (.int 23), .val (.int 18), .unset]) (S' := [.int 18, .int 23, .int 16]) rfl ?_
  refine wp_invokestatic C (M32 hw) d32_3 (M9 hw) (w99 hw) (w100 hw) (w101 hw) (by decide) (S' := [.int 16]) [.int 23, .int 18] (lenOf pd9 rfl) rfl (L' := [.val (.int 23), .val (.int 18)]) rfl rfl (hR.push (d' := 1) (w' := 13) (Nat.le_of_ble_eq_true rfl) (Nat.le_of_ble_eq_true rfl)) ?_
  refine c_max1 C hw (by decide) (Meth.caller (M32 hw) d32_3)  ?_
  refine wp_seg C (M32 hw) [(.iadd, 1), (.istore_n 3, 1), (.iconst 0, 1), (.iload_n 3, 1)] (by decide +kernel) (pc' := 10) (L' := [.val (.int 16), .val (.int 23), .val (.int 18), .val (.int 39)]) (S' := [.int 39, .int 0]) rfl ?_
  refine wp_icf C (M32 hw) d32_10 (XT.ii_ge_f (by decide)) ?_
  refine wp_seg C (M32 hw) [(.iload_n 3, 1)] (by decide +kernel) (pc' := 14) (L' := [.val (.int 16), .val (.int 23), .val (.int 18), .val (.int 39)]) (S' := [.int 39]) rfl ?_
  refine wp_ldcI C (M32 hw) d32_14 (w103 hw) ?_
  refine wp_icf C (M32 hw) d32_16 (XT.ii_gt_f (by decide)) ?_
  refine wp_seg C (M32 hw) [(.iload_n 3, 1)] (by decide +kernel) (pc' := 20) (L' := [.val (.int 16), .val (.int 23), .val (.int 18), .val (.int 39)]) (S' := [.int 39]) rfl ?_
  exact wp_iret C (M32 hw) d32_20 rfl (t := .int) (by decide) rfl Cr K
theorem c_ncapG1 {κ : Cx} (C : Ok κ) (hw : Ws κ) {o v : Addr} {ct : Int32} {us : List UInt8} (hul : us.length ≤ 16) {yc : MethodName} {pcc : Nat} {Lc : List Slot} {Sc : List Value} {F : List Frame} {l : List Chunk} {k n : Nat} (Cr : Caller κ yc pcc 3) (hR : Rm κ (fr κ yc pcc Lc Sc :: F) 3 46) (ho : (o, true, .inl ("java/lang/StringBuilder", [("java/lang/AbstractStringBuilder", "value", "[B", .ref v), ("java/lang/AbstractStringBuilder", "coder", "B", .int 0), ("java/lang/AbstractStringBuilder", "count", "I", .int ct)])) ∈ l) (hv : (v, true, .inr (.byte, (sbl us 16).map byv)) ∈ l) (K : WP κ yc (pcc + 3) Lc (.int 39 :: Sc) F (l) k n) :
    WP κ y33 0 [.val (.ref o), .val (.int 39), .unset, .unset, .unset, .unset] [] (fr κ yc pcc Lc Sc :: F) (l) k n := by
  refine wp_seg C (M33 hw) [(.aload_n 0, 1)] (by decide +kernel) (pc' := 1) (L' := [.val (.ref o), .val (.int 39), .unset, .unset, .unset, .unset]) (S' := [.ref o]) rfl ?_
  refine wp_getfield C (M33 hw) d33_1 (w58 hw) (Or.inl rfl) (a := o) (mu := true) (Cl := "java/lang/StringBuilder") (fs := [("java/lang/AbstractStringBuilder", "value", "[B", .ref v), ("java/lang/AbstractStringBuilder", "coder", "B", .int 0), ("java/lang/AbstractStringBuilder", "count", "I", .int ct)]) ho (List.mem_of_getElem? (i := 0) rfl) ?_
  refine wp_arraylength C (M33 hw) d33_4 (a := v) hv (z := 16) (by simp only [List.length_map]; rw [sbl_len hul]; rfl) ?_
  refine wp_seg C (M33 hw) [(.istore_n 2, 1), (.iload_n 1, 1), (.aload_n 0, 1)] (by decide +kernel) (pc' := 8) (L' := [.val (.ref o), .val (.int 39), .val (.int 16), .unset, .unset, .unset]) (S' := [.ref o, .int 39]) rfl ?_
  refine wp_getfield C (M33 hw) d33_8 (w60 hw) (Or.inl rfl) (a := o) (mu := true) (Cl := "java/lang/StringBuilder") (fs := [("java/lang/AbstractStringBuilder", "value", "[B", .ref v), ("java/lang/AbstractStringBuilder", "coder", "B", .int 0), ("java/lang/AbstractStringBuilder", "count", "I", .int ct)]) ho (List.mem_of_getElem? (i := 1) rfl) ?_
  refine wp_seg C (M33 hw) [(.ishl, 1), (.istore_n 3, 1), (.iload_n 3, 1), (.iload_n 2, 1), (.isub, 1), (.istore 4, 2), (.iload_n 2, 1), (.iload 4, 2), (.iload_n 2, 1), (.iconst 2, 1), (.aload_n 0, 1)] (by decide +kernel) (pc' := 24) (L' := [.val (.ref o), .val (.int 39), .val (.int 16), .val (.int 39), .val (.int 23), .unset]) (S' := [.ref o, .int 2, .int 16, .int 23, .int 16]) rfl ?_
  refine wp_getfield C (M33 hw) d33_24 (w60 hw) (Or.inl rfl) (a := o) (mu := true) (Cl := "java/lang/StringBuilder") (fs := [("java/lang/AbstractStringBuilder", "value", "[B", .ref v), ("java/lang/AbstractStringBuilder", "coder", "B", .int 0), ("java/lang/AbstractStringBuilder", "count", "I", .int ct)]) ho (List.mem_of_getElem? (i := 1) rfl) ?_
  refine wp_seg C (M33 hw) [(.ishl, 1), (.iadd, 1)] (by decide +kernel) (pc' := 29) (L' := [.val (.ref o), .val (.int 39), .val (.int 16), .val (.int 39), .val (.int 23), .unset]) (S' := [.int 18, .int 23, .int 16]) rfl ?_
  refine wp_invokestatic C (M33 hw) d33_29 (M32 hw) (w95 hw) (w96 hw) (w97 hw) (by decide) (S' := []) [.int 16, .int 23, .int 18] (lenOf pd32 rfl) rfl (L' := [.val (.int 16), .val (.int 23), .val (.int 18), .unset]) rfl rfl (hR.push (d' := 1) (w' := 15) (Nat.le_of_ble_eq_true rfl) (Nat.le_of_ble_eq_true rfl)) ?_
  refine c_nlG1 C hw  (Meth.caller (M33 hw) d33_29) (hR.push (d' := 2) (w' := 29) (Nat.le_of_ble_eq_true rfl) (Nat.le_of_ble_eq_true rfl))  ?_
  refine wp_seg C (M33 hw) [(.istore 5, 2), (.iload 5, 2)] (by decide +kernel) (pc' := 36) (L' := [.val (.ref o), .val (.int 39), .val (.int 16), .val (.int 39), .val (.int 23), .val (.int 39)]) (S' := [.int 39]) rfl ?_
  refine wp_ldcI C (M33 hw) d33_36 (w104 hw) ?_
  refine wp_ict C (M33 hw) d33_38 (XT.ii_ne_t (by decide)) (pc' := 51) (by decide) ?_
  refine wp_seg C (M33 hw) [(.iload 5, 2), (.aload_n 0, 1)] (by decide +kernel) (pc' := 54) (L' := [.val (.ref o), .val (.int 39), .val (.int 16), .val (.int 39), .val (.int 23), .val (.int 39)]) (S' := [.ref o, .int 39]) rfl ?_
  refine wp_getfield C (M33 hw) d33_54 (w60 hw) (Or.inl rfl) (a := o) (mu := true) (Cl := "java/lang/StringBuilder") (fs := [("java/lang/AbstractStringBuilder", "value", "[B", .ref v), ("java/lang/AbstractStringBuilder", "coder", "B", .int 0), ("java/lang/AbstractStringBuilder", "count", "I", .int ct)]) ho (List.mem_of_getElem? (i := 1) rfl) ?_
  refine wp_seg C (M33 hw) [(.ishr, 1)] (by decide +kernel) (pc' := 58) (L' := [.val (.ref o), .val (.int 39), .val (.int 16), .val (.int 39), .val (.int 23), .val (.int 39)]) (S' := [.int 39]) rfl ?_
  exact wp_iret C (M33 hw) d33_58 rfl (t := .int) (by decide) rfl Cr K
theorem c_cpoG1 {κ : Cx} (C : Ok κ) (hw : Ws κ) {v : Addr} {us : List UInt8} (hul : us.length ≤ 16) {yc : MethodName} {pcc : Nat} {Lc : List Slot} {Sc : List Value} {F : List Frame} {l : List Chunk} {k n : Nat} (Cr : Caller κ yc pcc 3) (hR : Rm κ (fr κ yc pcc Lc Sc :: F) 2 54) (hv : (v, true, .inr (.byte, (sbl us 16).map byv)) ∈ l) (hk : k + 1 ≤ (kR κ).cells) (hn : n + 39 ≤ (kR κ).slots) (K : ∀ c, WP κ yc (pcc + 3) Lc (.ref c :: Sc) F ((c, true, .inr (.byte, (sbl us 39).map byv)) :: l) (k + 1) (n + 39)) :
    WP κ y34 0 [.val (.ref v), .val (.int 39), .unset] [] (fr κ yc pcc Lc Sc :: F) (l) k n := by
  refine wp_seg C (M34 hw) [(.iload_n 1, 1), (.aload_n 0, 1)] (by decide +kernel) (pc' := 2) (L' := [.val (.ref v), .val (.int 39), .unset]) (S' := [.ref v, .int 39]) rfl ?_
  refine wp_arraylength C (M34 hw) d34_2 (a := v) hv (z := 16) (by simp only [List.length_map]; rw [sbl_len hul]; rfl) ?_
  refine wp_ict C (M34 hw) d34_3 (XT.ii_ne_t (by decide)) (pc' := 14) (by decide) ?_
  refine wp_seg C (M34 hw) [(.iload_n 1, 1)] (by decide +kernel) (pc' := 15) (L' := [.val (.ref v), .val (.int 39), .unset]) (S' := [.int 39]) rfl ?_
  refine wp_newarray C (M34 hw) d34_15 rfl (w4 hw) (len := 39) ⟨by decide, by decide⟩ (by decide) hk hn (vs := List.replicate 39 (.int 0)) rfl fun a1 => ?_
  refine wp_seg C (M34 hw) [(.astore_n 2, 1), (.aload_n 0, 1), (.iconst 0, 1), (.aload_n 2, 1), (.iconst 0, 1), (.aload_n 0, 1)] (by decide +kernel) (pc' := 23) (L' := [.val (.ref v), .val (.int 39), .val (.ref a1)]) (S' := [.ref v, .int 0, .ref a1, .int 0, .ref v]) rfl ?_
  refine wp_arraylength C (M34 hw) d34_23 (a := v) (List.Mem.tail _ hv) (z := 16) (by simp only [List.length_map]; rw [sbl_len hul]; rfl) ?_
  refine wp_seg C (M34 hw) [(.iload_n 1, 1)] (by decide +kernel) (pc' := 25) (L' := [.val (.ref v), .val (.int 39), .val (.ref a1)]) (S' := [.int 39, .int 16, .int 0, .ref a1, .int 0, .ref v]) rfl ?_
  refine wp_invokestatic C (M34 hw) d34_25 (M10 hw) (w109 hw) (w110 hw) (w101 hw) (by decide) (S' := [.int 0, .ref a1, .int 0, .ref v]) [.int 16, .int 39] (lenOf pd10 rfl) rfl (L' := [.val (.int 16), .val (.int 39)]) rfl rfl (hR.push (d' := 1) (w' := 13) (Nat.le_of_ble_eq_true rfl) (Nat.le_of_ble_eq_true rfl)) ?_
  refine c_min1 C hw (by decide) (Meth.caller (M34 hw) d34_25)  ?_
  rw [byte0]
  refine wp_copy C (M34 hw) d34_28 (w112 hw) (w115 hw) (w113 hw) (w114 hw) (i := 0) (p := 0) (q := 0) (m := 16) rfl (List.Mem.tail _ hv) rfl (by simp only [List.length_map]; rw [sbl_len hul]; decide) (by simp) (byv_all _) (byv_all _) (by simp only [List.length_map]; rw [sbl_len hul]; decide) (by simp) (hR.push (d' := 1) (w' := 40) (Nat.le_of_ble_eq_true rfl) (Nat.le_of_ble_eq_true rfl)) (l' := (a1, true, .inr (.byte, (sbl us 39).map byv)) :: l) (by rw [List.set_cons_zero]; exact congrArg (fun z => (a1, true, Sum.inr (FieldType.byte, z)) :: l) (sbl_grow hul (by decide))) ?_
  refine wp_seg C (M34 hw) [(.aload_n 2, 1)] (by decide +kernel) (pc' := 32) (L' := [.val (.ref v), .val (.int 39), .val (.ref a1)]) (S' := [.ref a1]) rfl ?_
  exact wp_aret C (M34 hw) d34_32 rfl (t := .array .byte) rfl rfl Cr (K a1)
theorem c_ensG1 {κ : Cx} (C : Ok κ) (hw : Ws κ) {o v : Addr} {ct : Int32} {us : List UInt8} (hul : us.length ≤ 16) {yc : MethodName} {pcc : Nat} {Lc : List Slot} {Sc : List Value} {F : List Frame} {l : List Chunk} {k n : Nat} (Cr : Caller κ yc pcc 3) (hR : Rm κ (fr κ yc pcc Lc Sc :: F) 4 69) (hk : k + 1 ≤ (kR κ).cells) (hn : n + 39 ≤ (kR κ).slots) (K : ∀ c, WP κ yc (pcc + 3) Lc Sc F ((o, true, .inl ("java/lang/StringBuilder", [("java/lang/AbstractStringBuilder", "value", "[B", .ref c), ("java/lang/AbstractStringBuilder", "coder", "B", .int 0), ("java/lang/AbstractStringBuilder", "count", "I", .int ct)])) :: (c, true, .inr (.byte, (sbl us 39).map byv)) :: l) (k + 1) (n + 39)) :
    WP κ y19 0 [.val (.ref o), .val (.int 39), .unset] [] (fr κ yc pcc Lc Sc :: F) ((o, true, .inl ("java/lang/StringBuilder", [("java/lang/AbstractStringBuilder", "value", "[B", .ref v), ("java/lang/AbstractStringBuilder", "coder", "B", .int 0), ("java/lang/AbstractStringBuilder", "count", "I", .int ct)])) :: (v, true, .inr (.byte, (sbl us 16).map byv)) :: l) k n := by
  refine wp_seg C (M19 hw) [(.aload_n 0, 1)] (by decide +kernel) (pc' := 1) (L' := [.val (.ref o), .val (.int 39), .unset]) (S' := [.ref o]) rfl ?_
  refine wp_getfield C (M19 hw) d19_1 (w58 hw) (Or.inl rfl) (a := o) (mu := true) (Cl := "java/lang/StringBuilder") (fs := [("java/lang/AbstractStringBuilder", "value", "[B", .ref v), ("java/lang/AbstractStringBuilder", "coder", "B", .int 0), ("java/lang/AbstractStringBuilder", "count", "I", .int ct)]) (List.mem_of_getElem? (i := 0) rfl) (List.mem_of_getElem? (i := 0) rfl) ?_
  refine wp_arraylength C (M19 hw) d19_4 (a := v) (List.mem_of_getElem? (i := 1) rfl) (z := 16) (by simp only [List.length_map]; rw [sbl_len hul]; rfl) ?_
  refine wp_seg C (M19 hw) [(.aload_n 0, 1)] (by decide +kernel) (pc' := 6) (L' := [.val (.ref o), .val (.int 39), .unset]) (S' := [.ref o, .int 16]) rfl ?_
  refine wp_getfield C (M19 hw) d19_6 (w60 hw) (Or.inl rfl) (a := o) (mu := true) (Cl := "java/lang/StringBuilder") (fs := [("java/lang/AbstractStringBuilder", "value", "[B", .ref v), ("java/lang/AbstractStringBuilder", "coder", "B", .int 0), ("java/lang/AbstractStringBuilder", "count", "I", .int ct)]) (List.mem_of_getElem? (i := 0) rfl) (List.mem_of_getElem? (i := 1) rfl) ?_
  refine wp_seg C (M19 hw) [(.ishr, 1), (.istore_n 2, 1), (.iload_n 1, 1), (.iload_n 2, 1), (.isub, 1)] (by decide +kernel) (pc' := 14) (L' := [.val (.ref o), .val (.int 39), .val (.int 16)]) (S' := [.int 23]) rfl ?_
  refine wp_iff C (M19 hw) d19_14 (XT.i0_le_f (by decide)) ?_
  refine wp_seg C (M19 hw) [(.aload_n 0, 1), (.aload_n 0, 1)] (by decide +kernel) (pc' := 19) (L' := [.val (.ref o), .val (.int 39), .val (.int 16)]) (S' := [.ref o, .ref o]) rfl ?_
  refine wp_getfield C (M19 hw) d19_19 (w58 hw) (Or.inl rfl) (a := o) (mu := true) (Cl := "java/lang/StringBuilder") (fs := [("java/lang/AbstractStringBuilder", "value", "[B", .ref v), ("java/lang/AbstractStringBuilder", "coder", "B", .int 0), ("java/lang/AbstractStringBuilder", "count", "I", .int ct)]) (List.mem_of_getElem? (i := 0) rfl) (List.mem_of_getElem? (i := 0) rfl) ?_
  refine wp_seg C (M19 hw) [(.aload_n 0, 1), (.iload_n 1, 1)] (by decide +kernel) (pc' := 24) (L' := [.val (.ref o), .val (.int 39), .val (.int 16)]) (S' := [.int 39, .ref o, .ref v, .ref o]) rfl ?_
  refine wp_private C (M19 hw) d19_24 (M33 hw) (y2 := y19) (w90 hw) (w92 hw) (w91 hw) rfl (w86 hw) (Or.inl ⟨_, (w88 hw)⟩) (by decide) (b := o) (List.mem_of_getElem? (i := 0) rfl) (S' := [.ref v, .ref o]) [.int 39] (lenOf pd33 rfl) rfl (L' := [.val (.ref o), .val (.int 39), .unset, .unset, .unset, .unset]) rfl rfl (hR.push (d' := 1) (w' := 17) (Nat.le_of_ble_eq_true rfl) (Nat.le_of_ble_eq_true rfl)) ?_
  refine c_ncapG1 C hw (us := us) hul (Meth.caller (M19 hw) d19_24) (hR.push (d' := 3) (w' := 46) (Nat.le_of_ble_eq_true rfl) (Nat.le_of_ble_eq_true rfl)) (List.mem_of_getElem? (i := 0) rfl) (List.mem_of_getElem? (i := 1) rfl) ?_
  refine wp_seg C (M19 hw) [(.aload_n 0, 1)] (by decide +kernel) (pc' := 28) (L' := [.val (.ref o), .val (.int 39), .val (.int 16)]) (S' := [.ref o, .int 39, .ref v, .ref o]) rfl ?_
  refine wp_getfield C (M19 hw) d19_28 (w60 hw) (Or.inl rfl) (a := o) (mu := true) (Cl := "java/lang/StringBuilder") (fs := [("java/lang/AbstractStringBuilder", "value", "[B", .ref v), ("java/lang/AbstractStringBuilder", "coder", "B", .int 0), ("java/lang/AbstractStringBuilder", "count", "I", .int ct)]) (List.mem_of_getElem? (i := 0) rfl) (List.mem_of_getElem? (i := 1) rfl) ?_
  refine wp_seg C (M19 hw) [(.ishl, 1)] (by decide +kernel) (pc' := 32) (L' := [.val (.ref o), .val (.int 39), .val (.int 16)]) (S' := [.int 39, .ref v, .ref o]) rfl ?_
  refine wp_invokestatic C (M19 hw) d19_32 (M34 hw) (w105 hw) (w106 hw) (w107 hw) (by decide) (S' := [.ref o]) [.ref v, .int 39] (lenOf pd34 rfl) rfl (L' := [.val (.ref v), .val (.int 39), .unset]) rfl rfl (hR.push (d' := 1) (w' := 14) (Nat.le_of_ble_eq_true rfl) (Nat.le_of_ble_eq_true rfl)) ?_
  refine c_cpoG1 C hw (us := us) hul (Meth.caller (M19 hw) d19_32) (hR.push (d' := 2) (w' := 54) (Nat.le_of_ble_eq_true rfl) (Nat.le_of_ble_eq_true rfl)) (List.mem_of_getElem? (i := 1) rfl) hk hn fun c => ?_
  refine wp_putfield C (M19 hw) d19_35 (w58 hw) (Or.inl rfl) (i := 1) (j := 0) rfl rfl (Or.inl (w59 hw)) (w45 hw) (ty := .array (.byte)) (by decide) rfl rfl (l' := (c, true, .inr (.byte, (sbl us 39).map byv)) :: (o, true, .inl ("java/lang/StringBuilder", [("java/lang/AbstractStringBuilder", "value", "[B", .ref c), ("java/lang/AbstractStringBuilder", "coder", "B", .int 0), ("java/lang/AbstractStringBuilder", "count", "I", .int ct)])) :: (v, true, .inr (.byte, (sbl us 16).map byv)) :: l) rfl ?_
  refine wp_front 2 rfl rfl ?_
  refine wp_drop ?_
  refine wp_front 1 rfl rfl ?_
  exact wp_vret C (M19 hw) d19_38 Cr (K c)
theorem c_aasG1 {κ : Cx} (C : Ok κ) (hw : Ws κ) (hs : StrS κ) {o v a : Addr} {us vs : List UInt8} (hul : us.length ≤ 16) (hsum : us.length + vs.length = 39) {yc : MethodName} {pcc : Nat} {Lc : List Slot} {Sc : List Value} {F : List Frame} {l : List Chunk} {k n : Nat} (Cr : Caller κ yc pcc 3) (hR : Rm κ (fr κ yc pcc Lc Sc :: F) 5 83) (st : Str l a vs) (hk : k + 1 ≤ (kR κ).cells) (hn : n + 39 ≤ (kR κ).slots) (K : ∀ c, WP κ yc (pcc + 3) Lc (.ref o :: Sc) F ((o, true, .inl ("java/lang/StringBuilder", [("java/lang/AbstractStringBuilder", "value", "[B", .ref c), ("java/lang/AbstractStringBuilder", "coder", "B", .int 0), ("java/lang/AbstractStringBuilder", "count", "I", .int (Int32.ofNat ((us ++ vs).length)))])) :: (c, true, .inr (.byte, (sbl (us ++ vs) 39).map byv)) :: l) (k + 1) (n + 39)) :
    WP κ y24 0 [.val (.ref o), .val (.ref a), .unset] [] (fr κ yc pcc Lc Sc :: F) ((o, true, .inl ("java/lang/StringBuilder", [("java/lang/AbstractStringBuilder", "value", "[B", .ref v), ("java/lang/AbstractStringBuilder", "coder", "B", .int 0), ("java/lang/AbstractStringBuilder", "count", "I", .int (Int32.ofNat us.length))])) :: (v, true, .inr (.byte, (sbl us 16).map byv)) :: l) k n := by
  have st0 := st
  obtain ⟨b, ho, hb⟩ := st
  refine wp_seg C (M24 hw) [(.aload_n 1, 1)] (by decide +kernel) (pc' := 1) (L' := [.val (.ref o), .val (.ref a), .unset]) (S' := [.ref a]) rfl ?_
  refine wp_nonnullt C (M24 hw) d24_1 (pc' := 9) (by decide) ?_
  refine wp_seg C (M24 hw) [(.aload_n 1, 1)] (by decide +kernel) (pc' := 10) (L' := [.val (.ref o), .val (.ref a), .unset]) (S' := [.ref a]) rfl ?_
  refine wp_invokevirtual C (M24 hw) d24_10 (M2 hw) (Cl := "java/lang/String") (w73 hw) (w74 hw) (w76 hw) (w75 hw) (Or.inl ⟨_, (w76 hw)⟩) (by decide) (b := a) (List.Mem.tail _ (List.Mem.tail _ ho)) (S' := []) [] (lenOf pd2 rfl) rfl (L' := [.val (.ref a)]) rfl rfl (hR.push (d' := 1) (w' := 12) (Nat.le_of_ble_eq_true rfl) (Nat.le_of_ble_eq_true rfl)) ?_
  refine c_len C hw hs (Meth.caller (M24 hw) d24_10) (hR.push (d' := 2) (w' := 25) (Nat.le_of_ble_eq_true rfl) (Nat.le_of_ble_eq_true rfl)) (st0.mono fun _ q => List.Mem.tail _ (List.Mem.tail _ q)) ?_
  refine wp_seg C (M24 hw) [(.istore_n 2, 1), (.aload_n 0, 1), (.aload_n 0, 1)] (by decide +kernel) (pc' := 16) (L' := [.val (.ref o), .val (.ref a), .val (.int (Int32.ofNat vs.length))]) (S' := [.ref o, .ref o]) rfl ?_
  refine wp_getfield C (M24 hw) d24_16 (w83 hw) (Or.inl rfl) (a := o) (mu := true) (Cl := "java/lang/StringBuilder") (fs := [("java/lang/AbstractStringBuilder", "value", "[B", .ref v), ("java/lang/AbstractStringBuilder", "coder", "B", .int 0), ("java/lang/AbstractStringBuilder", "count", "I", .int (Int32.ofNat us.length))]) (List.mem_of_getElem? (i := 0) rfl) (List.mem_of_getElem? (i := 2) rfl) ?_
  refine wp_seg C (M24 hw) [(.iload_n 2, 1), (.iadd, 1)] (by decide +kernel) (pc' := 21) (L' := [.val (.ref o), .val (.ref a), .val (.int (Int32.ofNat vs.length))]) (S' := [.int ((Int32.ofNat us.length) + (Int32.ofNat vs.length)), .ref o]) rfl ?_
  rw [add32n, hsum]
  refine wp_private C (M24 hw) d24_21 (M19 hw) (y2 := y19) (w85 hw) (w87 hw) (w86 hw) rfl (w86 hw) (Or.inl ⟨_, (w88 hw)⟩) (by decide) (b := o) (List.mem_of_getElem? (i := 0) rfl) (S' := []) [.int 39] (lenOf pd19 rfl) rfl (L' := [.val (.ref o), .val (.int 39), .unset]) rfl rfl (hR.push (d' := 1) (w' := 14) (Nat.le_of_ble_eq_true rfl) (Nat.le_of_ble_eq_true rfl)) ?_
  refine c_ensG1 C hw (us := us) hul (Meth.caller (M24 hw) d24_21) (hR.push (d' := 4) (w' := 69) (Nat.le_of_ble_eq_true rfl) (Nat.le_of_ble_eq_true rfl)) hk hn fun c => ?_
  refine wp_seg C (M24 hw) [(.aload_n 0, 1), (.aload_n 0, 1)] (by decide +kernel) (pc' := 26) (L' := [.val (.ref o), .val (.ref a), .val (.int (Int32.ofNat vs.length))]) (S' := [.ref o, .ref o]) rfl ?_
  refine wp_getfield C (M24 hw) d24_26 (w83 hw) (Or.inl rfl) (a := o) (mu := true) (Cl := "java/lang/StringBuilder") (fs := [("java/lang/AbstractStringBuilder", "value", "[B", .ref c), ("java/lang/AbstractStringBuilder", "coder", "B", .int 0), ("java/lang/AbstractStringBuilder", "count", "I", .int (Int32.ofNat us.length))]) (List.mem_of_getElem? (i := 0) rfl) (List.mem_of_getElem? (i := 2) rfl) ?_
  refine wp_seg C (M24 hw) [(.aload_n 1, 1)] (by decide +kernel) (pc' := 30) (L' := [.val (.ref o), .val (.ref a), .val (.int (Int32.ofNat vs.length))]) (S' := [.ref a, .int (Int32.ofNat us.length), .ref o]) rfl ?_
  refine wp_private C (M24 hw) d24_30 (M23 hw) (y2 := y19) (w116 hw) (w118 hw) (w117 hw) rfl (w86 hw) (Or.inl ⟨_, (w88 hw)⟩) (by decide) (b := o) (List.mem_of_getElem? (i := 0) rfl) (S' := []) [.int (Int32.ofNat us.length), .ref a] (lenOf pd23 rfl) rfl (L' := [.val (.ref o), .val (.int (Int32.ofNat us.length)), .val (.ref a)]) rfl rfl (hR.push (d' := 1) (w' := 14) (Nat.le_of_ble_eq_true rfl) (Nat.le_of_ble_eq_true rfl)) ?_
  refine c_psa C hw hs (cap := 39) (by decide) (by omega) (Meth.caller (M24 hw) d24_30) (hR.push (d' := 3) (w' := 69) (Nat.le_of_ble_eq_true rfl) (Nat.le_of_ble_eq_true rfl)) st0 ?_
  refine wp_seg C (M24 hw) [(.aload_n 0, 1), (.dup, 1)] (by decide +kernel) (pc' := 35) (L' := [.val (.ref o), .val (.ref a), .val (.int (Int32.ofNat vs.length))]) (S' := [.ref o, .ref o]) rfl ?_
  refine wp_getfield C (M24 hw) d24_35 (w83 hw) (Or.inl rfl) (a := o) (mu := true) (Cl := "java/lang/StringBuilder") (fs := [("java/lang/AbstractStringBuilder", "value", "[B", .ref c), ("java/lang/AbstractStringBuilder", "coder", "B", .int 0), ("java/lang/AbstractStringBuilder", "count", "I", .int (Int32.ofNat us.length))]) (List.mem_of_getElem? (i := 0) rfl) (List.mem_of_getElem? (i := 2) rfl) ?_
  refine wp_seg C (M24 hw) [(.iload_n 2, 1), (.iadd, 1)] (by decide +kernel) (pc' := 40) (L' := [.val (.ref o), .val (.ref a), .val (.int (Int32.ofNat vs.length))]) (S' := [.int ((Int32.ofNat us.length) + (Int32.ofNat vs.length)), .ref o]) rfl ?_
  rw [add32n, show us.length + vs.length = (us ++ vs).length by simp]
  refine wp_putfield C (M24 hw) d24_40 (w83 hw) (Or.inl rfl) (i := 0) (j := 2) rfl rfl (Or.inl (w84 hw)) (w45 hw) (ty := .int) (by decide) rfl rfl (l' := (o, true, .inl ("java/lang/StringBuilder", [("java/lang/AbstractStringBuilder", "value", "[B", .ref c), ("java/lang/AbstractStringBuilder", "coder", "B", .int 0), ("java/lang/AbstractStringBuilder", "count", "I", .int (Int32.ofNat ((us ++ vs).length)))])) :: (c, true, .inr (.byte, (sbl (us ++ vs) 39).map byv)) :: l) rfl ?_
  refine wp_seg C (M24 hw) [(.aload_n 0, 1)] (by decide +kernel) (pc' := 44) (L' := [.val (.ref o), .val (.ref a), .val (.int (Int32.ofNat vs.length))]) (S' := [.ref o]) rfl ?_
  exact wp_aret C (M24 hw) d24_44 rfl (t := .object "java/lang/AbstractStringBuilder") rfl rfl Cr (K c)
theorem c_sasG1 {κ : Cx} (C : Ok κ) (hw : Ws κ) (hs : StrS κ) {o v a : Addr} {us vs : List UInt8} (hul : us.length ≤ 16) (hsum : us.length + vs.length = 39) {yc : MethodName} {pcc : Nat} {Lc : List Slot} {Sc : List Value} {F : List Frame} {l : List Chunk} {k n : Nat} (Cr : Caller κ yc pcc 3) (hR : Rm κ (fr κ yc pcc Lc Sc :: F) 6 96) (st : Str l a vs) (hk : k + 1 ≤ (kR κ).cells) (hn : n + 39 ≤ (kR κ).slots) (K : ∀ c, WP κ yc (pcc + 3) Lc (.ref o :: Sc) F ((o, true, .inl ("java/lang/StringBuilder", [("java/lang/AbstractStringBuilder", "value", "[B", .ref c), ("java/lang/AbstractStringBuilder", "coder", "B", .int 0), ("java/lang/AbstractStringBuilder", "count", "I", .int (Int32.ofNat ((us ++ vs).length)))])) :: (c, true, .inr (.byte, (sbl (us ++ vs) 39).map byv)) :: l) (k + 1) (n + 39)) :
    WP κ y25 0 [.val (.ref o), .val (.ref a)] [] (fr κ yc pcc Lc Sc :: F) ((o, true, .inl ("java/lang/StringBuilder", [("java/lang/AbstractStringBuilder", "value", "[B", .ref v), ("java/lang/AbstractStringBuilder", "coder", "B", .int 0), ("java/lang/AbstractStringBuilder", "count", "I", .int (Int32.ofNat us.length))])) :: (v, true, .inr (.byte, (sbl us 16).map byv)) :: l) k n := by
  refine wp_seg C (M25 hw) [(.aload_n 0, 1), (.aload_n 1, 1)] (by decide +kernel) (pc' := 2) (L' := [.val (.ref o), .val (.ref a)]) (S' := [.ref a, .ref o]) rfl ?_
  refine wp_super C (M25 hw) d25_2 (M24 hw) (y2 := y19) (w68 hw) (w69 hw) (w70 hw) rfl (w86 hw) (Or.inl ⟨_, (w88 hw)⟩) (by decide) (by decide) (b := o) (List.mem_of_getElem? (i := 0) rfl) (S' := []) [.ref a] (lenOf pd24 rfl) rfl (L' := [.val (.ref o), .val (.ref a), .unset]) rfl rfl (hR.push (d' := 1) (w' := 14) (Nat.le_of_ble_eq_true rfl) (Nat.le_of_ble_eq_true rfl)) ?_
  refine c_aasG1 C hw hs hul hsum (Meth.caller (M25 hw) d25_2) (hR.push (d' := 5) (w' := 83) (Nat.le_of_ble_eq_true rfl) (Nat.le_of_ble_eq_true rfl)) st hk hn fun c => ?_
  refine wp_seg C (M25 hw) [(.pop, 1), (.aload_n 0, 1)] (by decide +kernel) (pc' := 7) (L' := [.val (.ref o), .val (.ref a)]) (S' := [.ref o]) rfl ?_
  exact wp_aret C (M25 hw) d25_7 rfl (t := .object "java/lang/StringBuilder") rfl rfl Cr (K c)
theorem c_nlG2 {κ : Cx} (C : Ok κ) (hw : Ws κ)  {yc : MethodName} {pcc : Nat} {Lc : List Slot} {Sc : List Value} {F : List Frame} {l : List Chunk} {k n : Nat} (Cr : Caller κ yc pcc 3) (hR : Rm κ (fr κ yc pcc Lc Sc :: F) 2 29)  (K : WP κ yc (pcc + 3) Lc (.int 80 :: Sc) F (l) k n) :
    WP κ y32 0 [.val (.int 39), .val (.int 3), .val (.int 41), .unset] [] (fr κ yc pcc Lc Sc :: F) (l) k n := by
  refine wp_seg C (M32 hw) [(.iload_n 0, 1), (.iload_n 1, 1), (.iload_n 2, 1)] (by decide +kernel) (pc' := 3) (L' := [.val (.int 39), .val (.int 3), .val (.int 41), .unset]) (S' := [.int 41, .int 3, .int 39]) rfl ?_
  refine wp_invokestatic C (M32 hw) d32_3 (M9 hw) (w99 hw) (w100 hw) (w101 hw) (by decide) (S' := [.int 39]) [.int 3, .int 41] (lenOf pd9 rfl) rfl (L' := [.val (.int 3), .val (.int 41)]) rfl rfl (hR.push (d' := 1) (w' := 13) (Nat.le_of_ble_eq_true rfl) (Nat.le_of_ble_eq_true rfl)) ?_
  refine c_max2 C hw (by decide) (Meth.caller (M32 hw) d32_3)  ?_
  refine wp_seg C (M32 hw) [(.iadd, 1), (.istore_n 3, 1), (.iconst 0, 1), (.iload_n 3, 1)] (by decide +kernel) (pc' := 10) (L' := [.val (.int 39), .val (.int 3), .val (.int 41), .val (.int 80)]) (S' := [.int 80, .int 0]) rfl ?_
  refine wp_icf C (M32 hw) d32_10 (XT.ii_ge_f (by decide)) ?_
  refine wp_seg C (M32 hw) [(.iload_n 3, 1)] (by decide +kernel) (pc' := 14) (L' := [.val (.int 39), .val (.int 3), .val (.int 41), .val (.int 80)]) (S' := [.int 80]) rfl ?_
  refine wp_ldcI C (M32 hw) d32_14 (w103 hw) ?_
  refine wp_icf C (M32 hw) d32_16 (XT.ii_gt_f (by decide)) ?_
  refine wp_seg C (M32 hw) [(.iload_n 3, 1)] (by decide +kernel) (pc' := 20) (L' := [.val (.int 39), .val (.int 3), .val (.int 41), .val (.int 80)]) (S' := [.int 80]) rfl ?_
  exact wp_iret C (M32 hw) d32_20 rfl (t := .int) (by decide) rfl Cr K
theorem c_ncapG2 {κ : Cx} (C : Ok κ) (hw : Ws κ) {o v : Addr} {ct : Int32} {us : List UInt8} (hul : us.length ≤ 39) {yc : MethodName} {pcc : Nat} {Lc : List Slot} {Sc : List Value} {F : List Frame} {l : List Chunk} {k n : Nat} (Cr : Caller κ yc pcc 3) (hR : Rm κ (fr κ yc pcc Lc Sc :: F) 3 46) (ho : (o, true, .inl ("java/lang/StringBuilder", [("java/lang/AbstractStringBuilder", "value", "[B", .ref v), ("java/lang/AbstractStringBuilder", "coder", "B", .int 0), ("java/lang/AbstractStringBuilder", "count", "I", .int ct)])) ∈ l) (hv : (v, true, .inr (.byte, (sbl us 39).map byv)) ∈ l) (K : WP κ yc (pcc + 3) Lc (.int 80 :: Sc) F (l) k n) :
    WP κ y33 0 [.val (.ref o), .val (.int 42), .unset, .unset, .unset, .unset] [] (fr κ yc pcc Lc Sc :: F) (l) k n := by
  refine wp_seg C (M33 hw) [(.aload_n 0, 1)] (by decide +kernel) (pc' := 1) (L' := [.val (.ref o), .val (.int 42), .unset, .unset, .unset, .unset]) (S' := [.ref o]) rfl ?_
  refine wp_getfield C (M33 hw) d33_1 (w58 hw) (Or.inl rfl) (a := o) (mu := true) (Cl := "java/lang/StringBuilder") (fs := [("java/lang/AbstractStringBuilder", "value", "[B", .ref v), ("java/lang/AbstractStringBuilder", "coder", "B", .int 0), ("java/lang/AbstractStringBuilder", "count", "I", .int ct)]) ho (List.mem_of_getElem? (i := 0) rfl) ?_
  refine wp_arraylength C (M33 hw) d33_4 (a := v) hv (z := 39) (by simp only [List.length_map]; rw [sbl_len hul]; rfl) ?_
  refine wp_seg C (M33 hw) [(.istore_n 2, 1), (.iload_n 1, 1), (.aload_n 0, 1)] (by decide +kernel) (pc' := 8) (L' := [.val (.ref o), .val (.int 42), .val (.int 39), .unset, .unset, .unset]) (S' := [.ref o, .int 42]) rfl ?_
  refine wp_getfield C (M33 hw) d33_8 (w60 hw) (Or.inl rfl) (a := o) (mu := true) (Cl := "java/lang/StringBuilder") (fs := [("java/lang/AbstractStringBuilder", "value", "[B", .ref v), ("java/lang/AbstractStringBuilder", "coder", "B", .int 0), ("java/lang/AbstractStringBuilder", "count", "I", .int ct)]) ho (List.mem_of_getElem? (i := 1) rfl) ?_
  refine wp_seg C (M33 hw) [(.ishl, 1), (.istore_n 3, 1), (.iload_n 3, 1), (.iload_n 2, 1), (.isub, 1), (.istore 4, 2), (.iload_n 2, 1), (.iload 4, 2), (.iload_n 2, 1), (.iconst 2, 1), (.aload_n 0, 1)] (by decide +kernel) (pc' := 24) (L' := [.val (.ref o), .val (.int 42), .val (.int 39), .val (.int 42), .val (.int 3), .unset]) (S' := [.ref o, .int 2, .int 39, .int 3, .int 39]) rfl ?_
  refine wp_getfield C (M33 hw) d33_24 (w60 hw) (Or.inl rfl) (a := o) (mu := true) (Cl := "java/lang/StringBuilder") (fs := [("java/lang/AbstractStringBuilder", "value", "[B", .ref v), ("java/lang/AbstractStringBuilder", "coder", "B", .int 0), ("java/lang/AbstractStringBuilder", "count", "I", .int ct)]) ho (List.mem_of_getElem? (i := 1) rfl) ?_
  refine wp_seg C (M33 hw) [(.ishl, 1), (.iadd, 1)] (by decide +kernel) (pc' := 29) (L' := [.val (.ref o), .val (.int 42), .val (.int 39), .val (.int 42), .val (.int 3), .unset]) (S' := [.int 41, .int 3, .int 39]) rfl ?_
  refine wp_invokestatic C (M33 hw) d33_29 (M32 hw) (w95 hw) (w96 hw) (w97 hw) (by decide) (S' := []) [.int 39, .int 3, .int 41] (lenOf pd32 rfl) rfl (L' := [.val (.int 39), .val (.int 3), .val (.int 41), .unset]) rfl rfl (hR.push (d' := 1) (w' := 15) (Nat.le_of_ble_eq_true rfl) (Nat.le_of_ble_eq_true rfl)) ?_
  refine c_nlG2 C hw  (Meth.caller (M33 hw) d33_29) (hR.push (d' := 2) (w' := 29) (Nat.le_of_ble_eq_true rfl) (Nat.le_of_ble_eq_true rfl))  ?_
  refine wp_seg C (M33 hw) [(.istore 5, 2), (.iload 5, 2)] (by decide +kernel) (pc' := 36) (L' := [.val (.ref o), .val (.int 42), .val (.int 39), .val (.int 42), .val (.int 3), .val (.int 80)]) (S' := [.int 80]) rfl ?_
  refine wp_ldcI C (M33 hw) d33_36 (w104 hw) ?_
  refine wp_ict C (M33 hw) d33_38 (XT.ii_ne_t (by decide)) (pc' := 51) (by decide) ?_
  refine wp_seg C (M33 hw) [(.iload 5, 2), (.aload_n 0, 1)] (by decide +kernel) (pc' := 54) (L' := [.val (.ref o), .val (.int 42), .val (.int 39), .val (.int 42), .val (.int 3), .val (.int 80)]) (S' := [.ref o, .int 80]) rfl ?_
  refine wp_getfield C (M33 hw) d33_54 (w60 hw) (Or.inl rfl) (a := o) (mu := true) (Cl := "java/lang/StringBuilder") (fs := [("java/lang/AbstractStringBuilder", "value", "[B", .ref v), ("java/lang/AbstractStringBuilder", "coder", "B", .int 0), ("java/lang/AbstractStringBuilder", "count", "I", .int ct)]) ho (List.mem_of_getElem? (i := 1) rfl) ?_
  refine wp_seg C (M33 hw) [(.ishr, 1)] (by decide +kernel) (pc' := 58) (L' := [.val (.ref o), .val (.int 42), .val (.int 39), .val (.int 42), .val (.int 3), .val (.int 80)]) (S' := [.int 80]) rfl ?_
  exact wp_iret C (M33 hw) d33_58 rfl (t := .int) (by decide) rfl Cr K
theorem c_cpoG2 {κ : Cx} (C : Ok κ) (hw : Ws κ) {v : Addr} {us : List UInt8} (hul : us.length ≤ 39) {yc : MethodName} {pcc : Nat} {Lc : List Slot} {Sc : List Value} {F : List Frame} {l : List Chunk} {k n : Nat} (Cr : Caller κ yc pcc 3) (hR : Rm κ (fr κ yc pcc Lc Sc :: F) 2 54) (hv : (v, true, .inr (.byte, (sbl us 39).map byv)) ∈ l) (hk : k + 1 ≤ (kR κ).cells) (hn : n + 80 ≤ (kR κ).slots) (K : ∀ c, WP κ yc (pcc + 3) Lc (.ref c :: Sc) F ((c, true, .inr (.byte, (sbl us 80).map byv)) :: l) (k + 1) (n + 80)) :
    WP κ y34 0 [.val (.ref v), .val (.int 80), .unset] [] (fr κ yc pcc Lc Sc :: F) (l) k n := by
  refine wp_seg C (M34 hw) [(.iload_n 1, 1), (.aload_n 0, 1)] (by decide +kernel) (pc' := 2) (L' := [.val (.ref v), .val (.int 80), .unset]) (S' := [.ref v, .int 80]) rfl ?_
  refine wp_arraylength C (M34 hw) d34_2 (a := v) hv (z := 39) (by simp only [List.length_map]; rw [sbl_len hul]; rfl) ?_
  refine wp_ict C (M34 hw) d34_3 (XT.ii_ne_t (by decide)) (pc' := 14) (by decide) ?_
  refine wp_seg C (M34 hw) [(.iload_n 1, 1)] (by decide +kernel) (pc' := 15) (L' := [.val (.ref v), .val (.int 80), .unset]) (S' := [.int 80]) rfl ?_
  refine wp_newarray C (M34 hw) d34_15 rfl (w4 hw) (len := 80) ⟨by decide, by decide⟩ (by decide) hk hn (vs := List.replicate 80 (.int 0)) rfl fun a1 => ?_
  refine wp_seg C (M34 hw) [(.astore_n 2, 1), (.aload_n 0, 1), (.iconst 0, 1), (.aload_n 2, 1), (.iconst 0, 1), (.aload_n 0, 1)] (by decide +kernel) (pc' := 23) (L' := [.val (.ref v), .val (.int 80), .val (.ref a1)]) (S' := [.ref v, .int 0, .ref a1, .int 0, .ref v]) rfl ?_
  refine wp_arraylength C (M34 hw) d34_23 (a := v) (List.Mem.tail _ hv) (z := 39) (by simp only [List.length_map]; rw [sbl_len hul]; rfl) ?_
  refine wp_seg C (M34 hw) [(.iload_n 1, 1)] (by decide +kernel) (pc' := 25) (L' := [.val (.ref v), .val (.int 80), .val (.ref a1)]) (S' := [.int 80, .int 39, .int 0, .ref a1, .int 0, .ref v]) rfl ?_
  refine wp_invokestatic C (M34 hw) d34_25 (M10 hw) (w109 hw) (w110 hw) (w101 hw) (by decide) (S' := [.int 0, .ref a1, .int 0, .ref v]) [.int 39, .int 80] (lenOf pd10 rfl) rfl (L' := [.val (.int 39), .val (.int 80)]) rfl rfl (hR.push (d' := 1) (w' := 13) (Nat.le_of_ble_eq_true rfl) (Nat.le_of_ble_eq_true rfl)) ?_
  refine c_min1 C hw (by decide) (Meth.caller (M34 hw) d34_25)  ?_
  rw [byte0]
  refine wp_copy C (M34 hw) d34_28 (w112 hw) (w115 hw) (w113 hw) (w114 hw) (i := 0) (p := 0) (q := 0) (m := 39) rfl (List.Mem.tail _ hv) rfl (by simp only [List.length_map]; rw [sbl_len hul]; decide) (by simp) (byv_all _) (byv_all _) (by simp only [List.length_map]; rw [sbl_len hul]; decide) (by simp) (hR.push (d' := 1) (w' := 40) (Nat.le_of_ble_eq_true rfl) (Nat.le_of_ble_eq_true rfl)) (l' := (a1, true, .inr (.byte, (sbl us 80).map byv)) :: l) (by rw [List.set_cons_zero]; exact congrArg (fun z => (a1, true, Sum.inr (FieldType.byte, z)) :: l) (sbl_grow hul (by decide))) ?_
  refine wp_seg C (M34 hw) [(.aload_n 2, 1)] (by decide +kernel) (pc' := 32) (L' := [.val (.ref v), .val (.int 80), .val (.ref a1)]) (S' := [.ref a1]) rfl ?_
  exact wp_aret C (M34 hw) d34_32 rfl (t := .array .byte) rfl rfl Cr (K a1)
theorem c_ensG2 {κ : Cx} (C : Ok κ) (hw : Ws κ) {o v : Addr} {ct : Int32} {us : List UInt8} (hul : us.length ≤ 39) {yc : MethodName} {pcc : Nat} {Lc : List Slot} {Sc : List Value} {F : List Frame} {l : List Chunk} {k n : Nat} (Cr : Caller κ yc pcc 3) (hR : Rm κ (fr κ yc pcc Lc Sc :: F) 4 69) (hk : k + 1 ≤ (kR κ).cells) (hn : n + 80 ≤ (kR κ).slots) (K : ∀ c, WP κ yc (pcc + 3) Lc Sc F ((o, true, .inl ("java/lang/StringBuilder", [("java/lang/AbstractStringBuilder", "value", "[B", .ref c), ("java/lang/AbstractStringBuilder", "coder", "B", .int 0), ("java/lang/AbstractStringBuilder", "count", "I", .int ct)])) :: (c, true, .inr (.byte, (sbl us 80).map byv)) :: l) (k + 1) (n + 80)) :
    WP κ y19 0 [.val (.ref o), .val (.int 42), .unset] [] (fr κ yc pcc Lc Sc :: F) ((o, true, .inl ("java/lang/StringBuilder", [("java/lang/AbstractStringBuilder", "value", "[B", .ref v), ("java/lang/AbstractStringBuilder", "coder", "B", .int 0), ("java/lang/AbstractStringBuilder", "count", "I", .int ct)])) :: (v, true, .inr (.byte, (sbl us 39).map byv)) :: l) k n := by
  refine wp_seg C (M19 hw) [(.aload_n 0, 1)] (by decide +kernel) (pc' := 1) (L' := [.val (.ref o), .val (.int 42), .unset]) (S' := [.ref o]) rfl ?_
  refine wp_getfield C (M19 hw) d19_1 (w58 hw) (Or.inl rfl) (a := o) (mu := true) (Cl := "java/lang/StringBuilder") (fs := [("java/lang/AbstractStringBuilder", "value", "[B", .ref v), ("java/lang/AbstractStringBuilder", "coder", "B", .int 0), ("java/lang/AbstractStringBuilder", "count", "I", .int ct)]) (List.mem_of_getElem? (i := 0) rfl) (List.mem_of_getElem? (i := 0) rfl) ?_
  refine wp_arraylength C (M19 hw) d19_4 (a := v) (List.mem_of_getElem? (i := 1) rfl) (z := 39) (by simp only [List.length_map]; rw [sbl_len hul]; rfl) ?_
  refine wp_seg C (M19 hw) [(.aload_n 0, 1)] (by decide +kernel) (pc' := 6) (L' := [.val (.ref o), .val (.int 42), .unset]) (S' := [.ref o, .int 39]) rfl ?_
  refine wp_getfield C (M19 hw) d19_6 (w60 hw) (Or.inl rfl) (a := o) (mu := true) (Cl := "java/lang/StringBuilder") (fs := [("java/lang/AbstractStringBuilder", "value", "[B", .ref v), ("java/lang/AbstractStringBuilder", "coder", "B", .int 0), ("java/lang/AbstractStringBuilder", "count", "I", .int ct)]) (List.mem_of_getElem? (i := 0) rfl) (List.mem_of_getElem? (i := 1) rfl) ?_
  refine wp_seg C (M19 hw) [(.ishr, 1), (.istore_n 2, 1), (.iload_n 1, 1), (.iload_n 2, 1), (.isub, 1)] (by decide +kernel) (pc' := 14) (L' := [.val (.ref o), .val (.int 42), .val (.int 39)]) (S' := [.int 3]) rfl ?_
  refine wp_iff C (M19 hw) d19_14 (XT.i0_le_f (by decide)) ?_
  refine wp_seg C (M19 hw) [(.aload_n 0, 1), (.aload_n 0, 1)] (by decide +kernel) (pc' := 19) (L' := [.val (.ref o), .val (.int 42), .val (.int 39)]) (S' := [.ref o, .ref o]) rfl ?_
  refine wp_getfield C (M19 hw) d19_19 (w58 hw) (Or.inl rfl) (a := o) (mu := true) (Cl := "java/lang/StringBuilder") (fs := [("java/lang/AbstractStringBuilder", "value", "[B", .ref v), ("java/lang/AbstractStringBuilder", "coder", "B", .int 0), ("java/lang/AbstractStringBuilder", "count", "I", .int ct)]) (List.mem_of_getElem? (i := 0) rfl) (List.mem_of_getElem? (i := 0) rfl) ?_
  refine wp_seg C (M19 hw) [(.aload_n 0, 1), (.iload_n 1, 1)] (by decide +kernel) (pc' := 24) (L' := [.val (.ref o), .val (.int 42), .val (.int 39)]) (S' := [.int 42, .ref o, .ref v, .ref o]) rfl ?_
  refine wp_private C (M19 hw) d19_24 (M33 hw) (y2 := y19) (w90 hw) (w92 hw) (w91 hw) rfl (w86 hw) (Or.inl ⟨_, (w88 hw)⟩) (by decide) (b := o) (List.mem_of_getElem? (i := 0) rfl) (S' := [.ref v, .ref o]) [.int 42] (lenOf pd33 rfl) rfl (L' := [.val (.ref o), .val (.int 42), .unset, .unset, .unset, .unset]) rfl rfl (hR.push (d' := 1) (w' := 17) (Nat.le_of_ble_eq_true rfl) (Nat.le_of_ble_eq_true rfl)) ?_
  refine c_ncapG2 C hw (us := us) hul (Meth.caller (M19 hw) d19_24) (hR.push (d' := 3) (w' := 46) (Nat.le_of_ble_eq_true rfl) (Nat.le_of_ble_eq_true rfl)) (List.mem_of_getElem? (i := 0) rfl) (List.mem_of_getElem? (i := 1) rfl) ?_
  refine wp_seg C (M19 hw) [(.aload_n 0, 1)] (by decide +kernel) (pc' := 28) (L' := [.val (.ref o), .val (.int 42), .val (.int 39)]) (S' := [.ref o, .int 80, .ref v, .ref o]) rfl ?_
  refine wp_getfield C (M19 hw) d19_28 (w60 hw) (Or.inl rfl) (a := o) (mu := true) (Cl := "java/lang/StringBuilder") (fs := [("java/lang/AbstractStringBuilder", "value", "[B", .ref v), ("java/lang/AbstractStringBuilder", "coder", "B", .int 0), ("java/lang/AbstractStringBuilder", "count", "I", .int ct)]) (List.mem_of_getElem? (i := 0) rfl) (List.mem_of_getElem? (i := 1) rfl) ?_
  refine wp_seg C (M19 hw) [(.ishl, 1)] (by decide +kernel) (pc' := 32) (L' := [.val (.ref o), .val (.int 42), .val (.int 39)]) (S' := [.int 80, .ref v, .ref o]) rfl ?_
  refine wp_invokestatic C (M19 hw) d19_32 (M34 hw) (w105 hw) (w106 hw) (w107 hw) (by decide) (S' := [.ref o]) [.ref v, .int 80] (lenOf pd34 rfl) rfl (L' := [.val (.ref v), .val (.int 80), .unset]) rfl rfl (hR.push (d' := 1) (w' := 14) (Nat.le_of_ble_eq_true rfl) (Nat.le_of_ble_eq_true rfl)) ?_
  refine c_cpoG2 C hw (us := us) hul (Meth.caller (M19 hw) d19_32) (hR.push (d' := 2) (w' := 54) (Nat.le_of_ble_eq_true rfl) (Nat.le_of_ble_eq_true rfl)) (List.mem_of_getElem? (i := 1) rfl) hk hn fun c => ?_
  refine wp_putfield C (M19 hw) d19_35 (w58 hw) (Or.inl rfl) (i := 1) (j := 0) rfl rfl (Or.inl (w59 hw)) (w45 hw) (ty := .array (.byte)) (by decide) rfl rfl (l' := (c, true, .inr (.byte, (sbl us 80).map byv)) :: (o, true, .inl ("java/lang/StringBuilder", [("java/lang/AbstractStringBuilder", "value", "[B", .ref c), ("java/lang/AbstractStringBuilder", "coder", "B", .int 0), ("java/lang/AbstractStringBuilder", "count", "I", .int ct)])) :: (v, true, .inr (.byte, (sbl us 39).map byv)) :: l) rfl ?_
  refine wp_front 2 rfl rfl ?_
  refine wp_drop ?_
  refine wp_front 1 rfl rfl ?_
  exact wp_vret C (M19 hw) d19_38 Cr (K c)
theorem c_aasG2 {κ : Cx} (C : Ok κ) (hw : Ws κ) (hs : StrS κ) {o v a : Addr} {us vs : List UInt8} (hul : us.length ≤ 39) (hsum : us.length + vs.length = 42) {yc : MethodName} {pcc : Nat} {Lc : List Slot} {Sc : List Value} {F : List Frame} {l : List Chunk} {k n : Nat} (Cr : Caller κ yc pcc 3) (hR : Rm κ (fr κ yc pcc Lc Sc :: F) 5 83) (st : Str l a vs) (hk : k + 1 ≤ (kR κ).cells) (hn : n + 80 ≤ (kR κ).slots) (K : ∀ c, WP κ yc (pcc + 3) Lc (.ref o :: Sc) F ((o, true, .inl ("java/lang/StringBuilder", [("java/lang/AbstractStringBuilder", "value", "[B", .ref c), ("java/lang/AbstractStringBuilder", "coder", "B", .int 0), ("java/lang/AbstractStringBuilder", "count", "I", .int (Int32.ofNat ((us ++ vs).length)))])) :: (c, true, .inr (.byte, (sbl (us ++ vs) 80).map byv)) :: l) (k + 1) (n + 80)) :
    WP κ y24 0 [.val (.ref o), .val (.ref a), .unset] [] (fr κ yc pcc Lc Sc :: F) ((o, true, .inl ("java/lang/StringBuilder", [("java/lang/AbstractStringBuilder", "value", "[B", .ref v), ("java/lang/AbstractStringBuilder", "coder", "B", .int 0), ("java/lang/AbstractStringBuilder", "count", "I", .int (Int32.ofNat us.length))])) :: (v, true, .inr (.byte, (sbl us 39).map byv)) :: l) k n := by
  have st0 := st
  obtain ⟨b, ho, hb⟩ := st
  refine wp_seg C (M24 hw) [(.aload_n 1, 1)] (by decide +kernel) (pc' := 1) (L' := [.val (.ref o), .val (.ref a), .unset]) (S' := [.ref a]) rfl ?_
  refine wp_nonnullt C (M24 hw) d24_1 (pc' := 9) (by decide) ?_
  refine wp_seg C (M24 hw) [(.aload_n 1, 1)] (by decide +kernel) (pc' := 10) (L' := [.val (.ref o), .val (.ref a), .unset]) (S' := [.ref a]) rfl ?_
  refine wp_invokevirtual C (M24 hw) d24_10 (M2 hw) (Cl := "java/lang/String") (w73 hw) (w74 hw) (w76 hw) (w75 hw) (Or.inl ⟨_, (w76 hw)⟩) (by decide) (b := a) (List.Mem.tail _ (List.Mem.tail _ ho)) (S' := []) [] (lenOf pd2 rfl) rfl (L' := [.val (.ref a)]) rfl rfl (hR.push (d' := 1) (w' := 12) (Nat.le_of_ble_eq_true rfl) (Nat.le_of_ble_eq_true rfl)) ?_
  refine c_len C hw hs (Meth.caller (M24 hw) d24_10) (hR.push (d' := 2) (w' := 25) (Nat.le_of_ble_eq_true rfl) (Nat.le_of_ble_eq_true rfl)) (st0.mono fun _ q => List.Mem.tail _ (List.Mem.tail _ q)) ?_
  refine wp_seg C (M24 hw) [(.istore_n 2, 1), (.aload_n 0, 1), (.aload_n 0, 1)] (by decide +kernel) (pc' := 16) (L' := [.val (.ref o), .val (.ref a), .val (.int (Int32.ofNat vs.length))]) (S' := [.ref o, .ref o]) rfl ?_
  refine wp_getfield C (M24 hw) d24_16 (w83 hw) (Or.inl rfl) (a := o) (mu := true) (Cl := "java/lang/StringBuilder") (fs := [("java/lang/AbstractStringBuilder", "value", "[B", .ref v), ("java/lang/AbstractStringBuilder", "coder", "B", .int 0), ("java/lang/AbstractStringBuilder", "count", "I", .int (Int32.ofNat us.length))]) (List.mem_of_getElem? (i := 0) rfl) (List.mem_of_getElem? (i := 2) rfl) ?_
  refine wp_seg C (M24 hw) [(.iload_n 2, 1), (.iadd, 1)] (by decide +kernel) (pc' := 21) (L' := [.val (.ref o), .val (.ref a), .val (.int (Int32.ofNat vs.length))]) (S' := [.int ((Int32.ofNat us.length) + (Int32.ofNat vs.length)), .ref o]) rfl ?_
  rw [add32n, hsum]
  refine wp_private C (M24 hw) d24_21 (M19 hw) (y2 := y19) (w85 hw) (w87 hw) (w86 hw) rfl (w86 hw) (Or.inl ⟨_, (w88 hw)⟩) (by decide) (b := o) (List.mem_of_getElem? (i := 0) rfl) (S' := []) [.int 42] (lenOf pd19 rfl) rfl (L' := [.val (.ref o), .val (.int 42), .unset]) rfl rfl (hR.push (d' := 1) (w' := 14) (Nat.le_of_ble_eq_true rfl) (Nat.le_of_ble_eq_true rfl)) ?_
  refine c_ensG2 C hw (us := us) hul (Meth.caller (M24 hw) d24_21) (hR.push (d' := 4) (w' := 69) (Nat.le_of_ble_eq_true rfl) (Nat.le_of_ble_eq_true rfl)) hk hn fun c => ?_
  refine wp_seg C (M24 hw) [(.aload_n 0, 1), (.aload_n 0, 1)] (by decide +kernel) (pc' := 26) (L' := [.val (.ref o), .val (.ref a), .val (.int (Int32.ofNat vs.length))]) (S' := [.ref o, .ref o]) rfl ?_
  refine wp_getfield C (M24 hw) d24_26 (w83 hw) (Or.inl rfl) (a := o) (mu := true) (Cl := "java/lang/StringBuilder") (fs := [("java/lang/AbstractStringBuilder", "value", "[B", .ref c), ("java/lang/AbstractStringBuilder", "coder", "B", .int 0), ("java/lang/AbstractStringBuilder", "count", "I", .int (Int32.ofNat us.length))]) (List.mem_of_getElem? (i := 0) rfl) (List.mem_of_getElem? (i := 2) rfl) ?_
  refine wp_seg C (M24 hw) [(.aload_n 1, 1)] (by decide +kernel) (pc' := 30) (L' := [.val (.ref o), .val (.ref a), .val (.int (Int32.ofNat vs.length))]) (S' := [.ref a, .int (Int32.ofNat us.length), .ref o]) rfl ?_
  refine wp_private C (M24 hw) d24_30 (M23 hw) (y2 := y19) (w116 hw) (w118 hw) (w117 hw) rfl (w86 hw) (Or.inl ⟨_, (w88 hw)⟩) (by decide) (b := o) (List.mem_of_getElem? (i := 0) rfl) (S' := []) [.int (Int32.ofNat us.length), .ref a] (lenOf pd23 rfl) rfl (L' := [.val (.ref o), .val (.int (Int32.ofNat us.length)), .val (.ref a)]) rfl rfl (hR.push (d' := 1) (w' := 14) (Nat.le_of_ble_eq_true rfl) (Nat.le_of_ble_eq_true rfl)) ?_
  refine c_psa C hw hs (cap := 80) (by decide) (by omega) (Meth.caller (M24 hw) d24_30) (hR.push (d' := 3) (w' := 69) (Nat.le_of_ble_eq_true rfl) (Nat.le_of_ble_eq_true rfl)) st0 ?_
  refine wp_seg C (M24 hw) [(.aload_n 0, 1), (.dup, 1)] (by decide +kernel) (pc' := 35) (L' := [.val (.ref o), .val (.ref a), .val (.int (Int32.ofNat vs.length))]) (S' := [.ref o, .ref o]) rfl ?_
  refine wp_getfield C (M24 hw) d24_35 (w83 hw) (Or.inl rfl) (a := o) (mu := true) (Cl := "java/lang/StringBuilder") (fs := [("java/lang/AbstractStringBuilder", "value", "[B", .ref c), ("java/lang/AbstractStringBuilder", "coder", "B", .int 0), ("java/lang/AbstractStringBuilder", "count", "I", .int (Int32.ofNat us.length))]) (List.mem_of_getElem? (i := 0) rfl) (List.mem_of_getElem? (i := 2) rfl) ?_
  refine wp_seg C (M24 hw) [(.iload_n 2, 1), (.iadd, 1)] (by decide +kernel) (pc' := 40) (L' := [.val (.ref o), .val (.ref a), .val (.int (Int32.ofNat vs.length))]) (S' := [.int ((Int32.ofNat us.length) + (Int32.ofNat vs.length)), .ref o]) rfl ?_
  rw [add32n, show us.length + vs.length = (us ++ vs).length by simp]
  refine wp_putfield C (M24 hw) d24_40 (w83 hw) (Or.inl rfl) (i := 0) (j := 2) rfl rfl (Or.inl (w84 hw)) (w45 hw) (ty := .int) (by decide) rfl rfl (l' := (o, true, .inl ("java/lang/StringBuilder", [("java/lang/AbstractStringBuilder", "value", "[B", .ref c), ("java/lang/AbstractStringBuilder", "coder", "B", .int 0), ("java/lang/AbstractStringBuilder", "count", "I", .int (Int32.ofNat ((us ++ vs).length)))])) :: (c, true, .inr (.byte, (sbl (us ++ vs) 80).map byv)) :: l) rfl ?_
  refine wp_seg C (M24 hw) [(.aload_n 0, 1)] (by decide +kernel) (pc' := 44) (L' := [.val (.ref o), .val (.ref a), .val (.int (Int32.ofNat vs.length))]) (S' := [.ref o]) rfl ?_
  exact wp_aret C (M24 hw) d24_44 rfl (t := .object "java/lang/AbstractStringBuilder") rfl rfl Cr (K c)
theorem c_sasG2 {κ : Cx} (C : Ok κ) (hw : Ws κ) (hs : StrS κ) {o v a : Addr} {us vs : List UInt8} (hul : us.length ≤ 39) (hsum : us.length + vs.length = 42) {yc : MethodName} {pcc : Nat} {Lc : List Slot} {Sc : List Value} {F : List Frame} {l : List Chunk} {k n : Nat} (Cr : Caller κ yc pcc 3) (hR : Rm κ (fr κ yc pcc Lc Sc :: F) 6 96) (st : Str l a vs) (hk : k + 1 ≤ (kR κ).cells) (hn : n + 80 ≤ (kR κ).slots) (K : ∀ c, WP κ yc (pcc + 3) Lc (.ref o :: Sc) F ((o, true, .inl ("java/lang/StringBuilder", [("java/lang/AbstractStringBuilder", "value", "[B", .ref c), ("java/lang/AbstractStringBuilder", "coder", "B", .int 0), ("java/lang/AbstractStringBuilder", "count", "I", .int (Int32.ofNat ((us ++ vs).length)))])) :: (c, true, .inr (.byte, (sbl (us ++ vs) 80).map byv)) :: l) (k + 1) (n + 80)) :
    WP κ y25 0 [.val (.ref o), .val (.ref a)] [] (fr κ yc pcc Lc Sc :: F) ((o, true, .inl ("java/lang/StringBuilder", [("java/lang/AbstractStringBuilder", "value", "[B", .ref v), ("java/lang/AbstractStringBuilder", "coder", "B", .int 0), ("java/lang/AbstractStringBuilder", "count", "I", .int (Int32.ofNat us.length))])) :: (v, true, .inr (.byte, (sbl us 39).map byv)) :: l) k n := by
  refine wp_seg C (M25 hw) [(.aload_n 0, 1), (.aload_n 1, 1)] (by decide +kernel) (pc' := 2) (L' := [.val (.ref o), .val (.ref a)]) (S' := [.ref a, .ref o]) rfl ?_
  refine wp_super C (M25 hw) d25_2 (M24 hw) (y2 := y19) (w68 hw) (w69 hw) (w70 hw) rfl (w86 hw) (Or.inl ⟨_, (w88 hw)⟩) (by decide) (by decide) (b := o) (List.mem_of_getElem? (i := 0) rfl) (S' := []) [.ref a] (lenOf pd24 rfl) rfl (L' := [.val (.ref o), .val (.ref a), .unset]) rfl rfl (hR.push (d' := 1) (w' := 14) (Nat.le_of_ble_eq_true rfl) (Nat.le_of_ble_eq_true rfl)) ?_
  refine c_aasG2 C hw hs hul hsum (Meth.caller (M25 hw) d25_2) (hR.push (d' := 5) (w' := 83) (Nat.le_of_ble_eq_true rfl) (Nat.le_of_ble_eq_true rfl)) st hk hn fun c => ?_
  refine wp_seg C (M25 hw) [(.pop, 1), (.aload_n 0, 1)] (by decide +kernel) (pc' := 7) (L' := [.val (.ref o), .val (.ref a)]) (S' := [.ref o]) rfl ?_
  exact wp_aret C (M25 hw) d25_7 rfl (t := .object "java/lang/StringBuilder") rfl rfl Cr (K c)
theorem c_corF {κ : Cx} (C : Ok κ) (hw : Ws κ) {v : Addr} {us : List UInt8} (hl : us.length < 1000) {yc : MethodName} {pcc : Nat} {Lc : List Slot} {Sc : List Value} {F : List Frame} {l : List Chunk} {k n : Nat} (Cr : Caller κ yc pcc 3) (hR : Rm κ (fr κ yc pcc Lc Sc :: F) 2 54) (hv : (v, true, .inr (.byte, us.map byv)) ∈ l) (hk : k + 1 ≤ (kR κ).cells) (hn : n + us.length ≤ (kR κ).slots) (K : ∀ c, WP κ yc (pcc + 3) Lc (.ref c :: Sc) F ((c, true, .inr (.byte, us.map byv)) :: l) (k + 1) (n + us.length)) :
    WP κ y13 0 [.val (.ref v), .val (.int 0), .val (.int (Int32.ofNat us.length))] [] (fr κ yc pcc Lc Sc :: F) (l) k n := by
  refine wp_seg C (M13 hw) [(.iload_n 1, 1)] (by decide +kernel) (pc' := 1) (L' := [.val (.ref v), .val (.int 0), .val (.int (Int32.ofNat us.length))]) (S' := [.int 0]) rfl ?_
  refine wp_iff C (M13 hw) d13_1 (XT.i0_ne_f (by decide)) ?_
  refine wp_seg C (M13 hw) [(.iload_n 2, 1), (.aload_n 0, 1)] (by decide +kernel) (pc' := 6) (L' := [.val (.ref v), .val (.int 0), .val (.int (Int32.ofNat us.length))]) (S' := [.ref v, .int (Int32.ofNat us.length)]) rfl ?_
  refine wp_arraylength C (M13 hw) d13_6 (a := v) hv (z := (Int32.ofNat us.length)) (by simp) ?_
  refine wp_ict C (M13 hw) d13_7 (XT.ii_eq_t rfl) (pc' := 17) (by decide) ?_
  refine wp_seg C (M13 hw) [(.aload_n 0, 1)] (by decide +kernel) (pc' := 18) (L' := [.val (.ref v), .val (.int 0), .val (.int (Int32.ofNat us.length))]) (S' := [.ref v]) rfl ?_
  refine wp_clone C (M13 hw) d13_18 (w231 hw) (w232 hw) (w236 hw) (w234 hw) (w235 hw) (w237 hw) hv (byv_all _) hk (by simpa using hn) (hR.push (d' := 1) (w' := 40) (Nat.le_of_ble_eq_true rfl) (Nat.le_of_ble_eq_true rfl)) fun c1 => ?_
  refine wp_castB C (M13 hw) d13_21 (w238 hw) (List.mem_of_getElem? (i := 0) rfl) ?_
  rw [List.length_map]
  exact wp_aret C (M13 hw) d13_24 rfl (t := .array .byte) rfl rfl Cr (K c1)
theorem c_siaF {κ : Cx} (C : Ok κ) (hw : Ws κ) (hs : StrS κ) {a o v : Addr} {mo : Bool} {us : List UInt8} (hl : us.length < 1000) {yc : MethodName} {pcc : Nat} {Lc : List Slot} {Sc : List Value} {F : List Frame} {l : List Chunk} {k n : Nat} (Cr : Caller κ yc pcc 3) (hR : Rm κ (fr κ yc pcc Lc Sc :: F) 3 71) (ho : (o, mo, .inl ("java/lang/StringBuilder", [("java/lang/AbstractStringBuilder", "value", "[B", .ref v), ("java/lang/AbstractStringBuilder", "coder", "B", .int 0), ("java/lang/AbstractStringBuilder", "count", "I", .int (Int32.ofNat us.length))])) ∈ l) (hv : (v, true, .inr (.byte, us.map byv)) ∈ l) (hk : k + 1 ≤ (kR κ).cells) (hn : n + us.length ≤ (kR κ).slots) (K : ∀ c, WP κ yc (pcc + 3) Lc Sc F (strO a c 0 :: strB c us :: l) (k + 1) (n + us.length)) :
    WP κ y29 0 [.val (.ref a), .val (.ref o), .val (.null), .unset, .unset] [] (fr κ yc pcc Lc Sc :: F) ((a, true, .inl ("java/lang/String", [("java/lang/String", "value", "[B", .null), ("java/lang/String", "coder", "B", .int 0)])) :: l) k n := by
  refine wp_seg C (M29 hw) [(.aload_n 0, 1)] (by decide +kernel) (pc' := 1) (L' := [.val (.ref a), .val (.ref o), .val (.null), .unset, .unset]) (S' := [.ref a]) rfl ?_
  refine wp_initObject C (M29 hw) d29_1 (w28 hw) (w29 hw) (w30 hw) (hR.push (d' := 1) (w' := 12) (Nat.le_of_ble_eq_true rfl) (Nat.le_of_ble_eq_true rfl)) ?_
  refine wp_seg C (M29 hw) [(.aload_n 1, 1)] (by decide +kernel) (pc' := 5) (L' := [.val (.ref a), .val (.ref o), .val (.null), .unset, .unset]) (S' := [.ref o]) rfl ?_
  refine wp_invokevirtual C (M29 hw) d29_5 (M26 hw) (Cl := "java/lang/StringBuilder") (w194 hw) (w195 hw) (w197 hw) (w196 hw) (Or.inl ⟨_, (w197 hw)⟩) (by decide) (b := o) (List.Mem.tail _ ho) (S' := []) [] (lenOf pd26 rfl) rfl (L' := [.val (.ref o)]) rfl rfl (hR.push (d' := 1) (w' := 12) (Nat.le_of_ble_eq_true rfl) (Nat.le_of_ble_eq_true rfl)) ?_
  refine c_gv C hw (mo := mo) (Meth.caller (M29 hw) d29_5) (List.Mem.tail _ ho) ?_
  refine wp_seg C (M29 hw) [(.astore_n 3, 1), (.aload_n 1, 1)] (by decide +kernel) (pc' := 10) (L' := [.val (.ref a), .val (.ref o), .val (.null), .val (.ref v), .unset]) (S' := [.ref o]) rfl ?_
  refine wp_invokevirtual C (M29 hw) d29_10 (M28 hw) (Cl := "java/lang/StringBuilder") (w199 hw) (w200 hw) (w202 hw) (w203 hw) (Or.inr (Or.inr (Or.inr ⟨y19, rfl, (w86 hw), _, (w88 hw)⟩))) (by decide) (b := o) (List.Mem.tail _ ho) (S' := []) [] (lenOf pd27 rfl) rfl (L' := [.val (.ref o)]) rfl rfl (hR.push (d' := 1) (w' := 12) (Nat.le_of_ble_eq_true rfl) (Nat.le_of_ble_eq_true rfl)) ?_
  refine c_slen C hw (mo := mo) (Meth.caller (M29 hw) d29_10) (hR.push (d' := 2) (w' := 24) (Nat.le_of_ble_eq_true rfl) (Nat.le_of_ble_eq_true rfl)) (List.Mem.tail _ ho) ?_
  refine wp_seg C (M29 hw) [(.istore 4, 2), (.aload_n 1, 1)] (by decide +kernel) (pc' := 16) (L' := [.val (.ref a), .val (.ref o), .val (.null), .val (.ref v), .val (.int (Int32.ofNat us.length))]) (S' := [.ref o]) rfl ?_
  refine wp_invokevirtual C (M29 hw) d29_16 (M20 hw) (Cl := "java/lang/StringBuilder") (w207 hw) (w208 hw) (w210 hw) (w209 hw) (Or.inl ⟨_, (w210 hw)⟩) (by decide) (b := o) (List.Mem.tail _ ho) (S' := []) [] (lenOf pd20 rfl) rfl (L' := [.val (.ref o)]) rfl rfl (hR.push (d' := 1) (w' := 12) (Nat.le_of_ble_eq_true rfl) (Nat.le_of_ble_eq_true rfl)) ?_
  refine c_asbl C hw (mo := mo) hs (Meth.caller (M29 hw) d29_16) (List.Mem.tail _ ho) ?_
  refine wp_iff C (M29 hw) d29_19 (XT.i0_eq_f (by decide)) ?_
  refine wp_seg C (M29 hw) [(.aload_n 0, 1), (.iconst 0, 1)] (by decide +kernel) (pc' := 24) (L' := [.val (.ref a), .val (.ref o), .val (.null), .val (.ref v), .val (.int (Int32.ofNat us.length))]) (S' := [.int 0, .ref a]) rfl ?_
  refine wp_putfield C (M29 hw) d29_24 (w42 hw) (Or.inl rfl) (i := 0) (j := 1) rfl rfl (Or.inr ⟨(w6 hw), rfl, rfl⟩) (w3 hw) (ty := .byte) (by decide) rfl rfl (l' := (a, true, .inl ("java/lang/String", [("java/lang/String", "value", "[B", .null), ("java/lang/String", "coder", "B", .int 0)])) :: l) rfl ?_
  refine wp_seg C (M29 hw) [(.aload_n 0, 1), (.aload_n 3, 1), (.iconst 0, 1), (.iload 4, 2)] (by decide +kernel) (pc' := 32) (L' := [.val (.ref a), .val (.ref o), .val (.null), .val (.ref v), .val (.int (Int32.ofNat us.length))]) (S' := [.int (Int32.ofNat us.length), .int 0, .ref v, .ref a]) rfl ?_
  refine wp_invokestatic C (M29 hw) d29_32 (M13 hw) (w212 hw) (w213 hw) (w107 hw) (by decide) (S' := [.ref a]) [.ref v, .int 0, .int (Int32.ofNat us.length)] (lenOf pd13 rfl) rfl (L' := [.val (.ref v), .val (.int 0), .val (.int (Int32.ofNat us.length))]) rfl rfl (hR.push (d' := 1) (w' := 14) (Nat.le_of_ble_eq_true rfl) (Nat.le_of_ble_eq_true rfl)) ?_
  refine c_corF C hw (us := us) hl (Meth.caller (M29 hw) d29_32) (hR.push (d' := 2) (w' := 54) (Nat.le_of_ble_eq_true rfl) (Nat.le_of_ble_eq_true rfl)) (List.Mem.tail _ hv) hk hn fun c => ?_
  refine wp_putfield C (M29 hw) d29_35 (w43 hw) (Or.inl rfl) (i := 1) (j := 0) rfl rfl (Or.inr ⟨(w5 hw), rfl, rfl⟩) (w3 hw) (ty := .array (.byte)) (by decide) rfl rfl (l' := (c, true, .inr (.byte, us.map byv)) :: (a, true, .inl ("java/lang/String", [("java/lang/String", "value", "[B", .ref c), ("java/lang/String", "coder", "B", .int 0)])) :: l) rfl ?_
  refine wp_seg C (M29 hw) [(.goto 59, 3)] (by decide +kernel) (pc' := 97) (L' := [.val (.ref a), .val (.ref o), .val (.null), .val (.ref v), .val (.int (Int32.ofNat us.length))]) (S' := []) rfl ?_
  refine wp_freeze ?_
  refine wp_front 1 rfl rfl ?_
  refine wp_freeze ?_
  exact wp_vret C (M29 hw) d29_97 Cr (K c)
theorem c_sibF {κ : Cx} (C : Ok κ) (hw : Ws κ) (hs : StrS κ) {a o v : Addr} {mo : Bool} {us : List UInt8} (hl : us.length < 1000) {yc : MethodName} {pcc : Nat} {Lc : List Slot} {Sc : List Value} {F : List Frame} {l : List Chunk} {k n : Nat} (Cr : Caller κ yc pcc 3) (hR : Rm κ (fr κ yc pcc Lc Sc :: F) 4 84) (ho : (o, mo, .inl ("java/lang/StringBuilder", [("java/lang/AbstractStringBuilder", "value", "[B", .ref v), ("java/lang/AbstractStringBuilder", "coder", "B", .int 0), ("java/lang/AbstractStringBuilder", "count", "I", .int (Int32.ofNat us.length))])) ∈ l) (hv : (v, true, .inr (.byte, us.map byv)) ∈ l) (hk : k + 1 ≤ (kR κ).cells) (hn : n + us.length ≤ (kR κ).slots) (K : ∀ c, WP κ yc (pcc + 3) Lc Sc F (strO a c 0 :: strB c us :: l) (k + 1) (n + us.length)) :
    WP κ y30 0 [.val (.ref a), .val (.ref o)] [] (fr κ yc pcc Lc Sc :: F) ((a, true, .inl ("java/lang/String", [("java/lang/String", "value", "[B", .null), ("java/lang/String", "coder", "B", .int 0)])) :: l) k n := by
  refine wp_seg C (M30 hw) [(.aload_n 0, 1), (.aload_n 1, 1), (.aconst_null, 1)] (by decide +kernel) (pc' := 3) (L' := [.val (.ref a), .val (.ref o)]) (S' := [.null, .ref o, .ref a]) rfl ?_
  refine wp_init C (M30 hw) d30_3 (M29 hw) rfl (w191 hw) (w192 hw) (by decide) (S' := []) a [.ref o, .null] (lenOf pd29 rfl) rfl (L' := [.val (.ref a), .val (.ref o), .val (.null), .unset, .unset]) rfl rfl (hR.push (d' := 1) (w' := 16) (Nat.le_of_ble_eq_true rfl) (Nat.le_of_ble_eq_true rfl)) ?_
  refine c_siaF C hw (mo := mo) hs hl (Meth.caller (M30 hw) d30_3) (hR.push (d' := 3) (w' := 71) (Nat.le_of_ble_eq_true rfl) (Nat.le_of_ble_eq_true rfl)) ho hv hk hn fun c => ?_
  exact wp_vret C (M30 hw) d30_6 Cr (K c)
theorem c_tosF {κ : Cx} (C : Ok κ) (hw : Ws κ) (hs : StrS κ) {o v : Addr} {mo : Bool} {us : List UInt8} (hl : us.length < 1000) {yc : MethodName} {pcc : Nat} {Lc : List Slot} {Sc : List Value} {F : List Frame} {l : List Chunk} {k n : Nat} (Cr : Caller κ yc pcc 3) (hR : Rm κ (fr κ yc pcc Lc Sc :: F) 5 97) (ho : (o, mo, .inl ("java/lang/StringBuilder", [("java/lang/AbstractStringBuilder", "value", "[B", .ref v), ("java/lang/AbstractStringBuilder", "coder", "B", .int 0), ("java/lang/AbstractStringBuilder", "count", "I", .int (Int32.ofNat us.length))])) ∈ l) (hv : (v, true, .inr (.byte, us.map byv)) ∈ l) (hk : k + 1 + 1 ≤ (kR κ).cells) (hn : n + 4 + us.length ≤ (kR κ).slots) (K : ∀ a c, WP κ yc (pcc + 3) Lc (.ref a :: Sc) F (strO a c 0 :: strB c us :: l) (k + 1 + 1) (n + 4 + us.length)) :
    WP κ y31 0 [.val (.ref o)] [] (fr κ yc pcc Lc Sc :: F) (l) k n := by
  refine wp_new C (M31 hw) d31_0 (w187 hw) (w3 hw) (w2 hw) (cls_Str hw) (Nat.le_trans (by omega) hk) (Nat.le_trans (by omega) hn) fun a1 => ?_
  refine wp_seg C (M31 hw) [(.dup, 1), (.aload_n 0, 1)] (by decide +kernel) (pc' := 5) (L' := [.val (.ref o)]) (S' := [.ref o, .ref a1, .ref a1]) rfl ?_
  refine wp_init C (M31 hw) d31_5 (M30 hw) rfl (w188 hw) (w189 hw) (by decide) (S' := [.ref a1]) a1 [.ref o] (lenOf pd30 rfl) rfl (L' := [.val (.ref a1), .val (.ref o)]) rfl rfl (hR.push (d' := 1) (w' := 13) (Nat.le_of_ble_eq_true rfl) (Nat.le_of_ble_eq_true rfl)) ?_
  refine c_sibF C hw (mo := mo) hs hl (Meth.caller (M31 hw) d31_5) (hR.push (d' := 4) (w' := 84) (Nat.le_of_ble_eq_true rfl) (Nat.le_of_ble_eq_true rfl)) ho hv hk hn fun c => ?_
  exact wp_aret C (M31 hw) d31_8 rfl (t := .object "java/lang/String") rfl rfl Cr (K a1 c)
theorem c_cani {κ : Cx} (C : Ok κ) (hw : Ws κ) {c : UInt8} {yc : MethodName} {pcc : Nat} {Lc : List Slot} {Sc : List Value} {F : List Frame} {l : List Chunk} {k n : Nat} (Cr : Caller κ yc pcc 3)  (K : WP κ yc (pcc + 3) Lc (.int 1 :: Sc) F (l) k n) :
    WP κ y35 0 [.val (.int (ch8 c))] [] (fr κ yc pcc Lc Sc :: F) (l) k n := by
  refine wp_seg C (M35 hw) [(.iload_n 0, 1)] (by decide +kernel) (pc' := 1) (L' := [.val (.int (ch8 c))]) (S' := [.int (ch8 c)]) rfl ?_
  refine wp_iff C (M35 hw) d35_1 (XT.i0_lt_f (by rw [ch8_nat]; exact nn32 (by have := c.toNat_lt; omega))) ?_
  refine wp_seg C (M35 hw) [(.iload_n 0, 1), (.sipush 255, 3)] (by decide +kernel) (pc' := 8) (L' := [.val (.int (ch8 c))]) (S' := [.int 255, .int (ch8 c)]) rfl ?_
  refine wp_icf C (M35 hw) d35_8 (XT.ii_gt_f (ch8_le c)) ?_
  refine wp_seg C (M35 hw) [(.iconst 1, 1), (.goto 4, 3)] (by decide +kernel) (pc' := 16) (L' := [.val (.int (ch8 c))]) (S' := [.int 1]) rfl ?_
  exact wp_iret C (M35 hw) d35_16 rfl (t := .boolean) (by decide) rfl Cr K
theorem c_lwr {κ : Cx} (C : Ok κ) (hw : Ws κ) {u : UInt8} {yc : MethodName} {pcc : Nat} {Lc : List Slot} {Sc : List Value} {F : List Frame} {l : List Chunk} {k n : Nat} (Cr : Caller κ yc pcc 3)  (K : WP κ yc (pcc + 3) Lc (.int (ch8 (lowB u)) :: Sc) F (l) k n) :
    WP κ y36 0 [.val (.int (ch8 u))] [] (fr κ yc pcc Lc Sc :: F) (l) k n := by
  refine wp_seg C (M36 hw) [(.iload_n 0, 1), (.bipush 65, 2)] (by decide +kernel) (pc' := 3) (L' := [.val (.int (ch8 u))]) (S' := [.int 65, .int (ch8 u)]) rfl ?_
  by_cases q0 : (ch8 u) < (65 : Int32)
  · refine wp_ict C (M36 hw) d36_3 (XT.ii_lt_t q0) (pc' := 18) (by decide) ?_
    refine wp_seg C (M36 hw) [(.iload_n 0, 1), (.sipush 192, 3)] (by decide +kernel) (pc' := 22) (L' := [.val (.int (ch8 u))]) (S' := [.int 192, .int (ch8 u)]) rfl ?_
    by_cases q1 : (ch8 u) < (192 : Int32)
    · refine wp_ict C (M36 hw) d36_22 (XT.ii_lt_t q1) (pc' := 45) (by decide) ?_
      refine wp_seg C (M36 hw) [(.iload_n 0, 1)] (by decide +kernel) (pc' := 46) (L' := [.val (.int (ch8 u))]) (S' := [.int (ch8 u)]) rfl ?_
      rw [show (ch8 u) = ch8 (lowB u) from by rw [← lw_eq u]; simp [lwI, lw2, q0, q1]]
      exact wp_iret C (M36 hw) d36_46 rfl (t := .char) (by decide) (ch8_narrow _) Cr K
    · refine wp_icf C (M36 hw) d36_22 (XT.ii_lt_f q1) ?_
      refine wp_seg C (M36 hw) [(.iload_n 0, 1), (.sipush 222, 3)] (by decide +kernel) (pc' := 29) (L' := [.val (.int (ch8 u))]) (S' := [.int 222, .int (ch8 u)]) rfl ?_
      by_cases q2 : (222 : Int32) < (ch8 u)
      · refine wp_ict C (M36 hw) d36_29 (XT.ii_gt_t q2) (pc' := 45) (by decide) ?_
        refine wp_seg C (M36 hw) [(.iload_n 0, 1)] (by decide +kernel) (pc' := 46) (L' := [.val (.int (ch8 u))]) (S' := [.int (ch8 u)]) rfl ?_
        rw [show (ch8 u) = ch8 (lowB u) from by rw [← lw_eq u]; simp [lwI, lw2, q0, q1, q2]]
        exact wp_iret C (M36 hw) d36_46 rfl (t := .char) (by decide) (ch8_narrow _) Cr K
      · refine wp_icf C (M36 hw) d36_29 (XT.ii_gt_f q2) ?_
        refine wp_seg C (M36 hw) [(.iload_n 0, 1), (.sipush 215, 3)] (by decide +kernel) (pc' := 36) (L' := [.val (.int (ch8 u))]) (S' := [.int 215, .int (ch8 u)]) rfl ?_
        by_cases q3 : (ch8 u) = (215 : Int32)
        · refine wp_ict C (M36 hw) d36_36 (XT.ii_eq_t q3) (pc' := 45) (by decide) ?_
          refine wp_seg C (M36 hw) [(.iload_n 0, 1)] (by decide +kernel) (pc' := 46) (L' := [.val (.int (ch8 u))]) (S' := [.int (ch8 u)]) rfl ?_
          rw [show (ch8 u) = ch8 (lowB u) from by rw [← lw_eq u]; simp [lwI, lw2, q0, q1, q2, q3]]
          exact wp_iret C (M36 hw) d36_46 rfl (t := .char) (by decide) (ch8_narrow _) Cr K
        · refine wp_icf C (M36 hw) d36_36 (XT.ii_eq_f q3) ?_
          refine wp_seg C (M36 hw) [(.iload_n 0, 1), (.bipush 32, 2), (.iadd, 1), (.i2c, 1)] (by decide +kernel) (pc' := 44) (L' := [.val (.int (ch8 u))]) (S' := [.int (i2c ((ch8 u) + (32 : Int32)))]) rfl ?_
          rw [show (i2c ((ch8 u) + (32 : Int32))) = ch8 (lowB u) from by rw [← lw_eq u]; simp [lwI, lw2, q0, q1, q2, q3]]
          exact wp_iret C (M36 hw) d36_44 rfl (t := .char) (by decide) (ch8_narrow _) Cr K
  · refine wp_icf C (M36 hw) d36_3 (XT.ii_lt_f q0) ?_
    refine wp_seg C (M36 hw) [(.iload_n 0, 1), (.bipush 90, 2)] (by decide +kernel) (pc' := 9) (L' := [.val (.int (ch8 u))]) (S' := [.int 90, .int (ch8 u)]) rfl ?_
    by_cases q1 : (90 : Int32) < (ch8 u)
    · refine wp_ict C (M36 hw) d36_9 (XT.ii_gt_t q1) (pc' := 18) (by decide) ?_
      refine wp_seg C (M36 hw) [(.iload_n 0, 1), (.sipush 192, 3)] (by decide +kernel) (pc' := 22) (L' := [.val (.int (ch8 u))]) (S' := [.int 192, .int (ch8 u)]) rfl ?_
      by_cases q2 : (ch8 u) < (192 : Int32)
      · refine wp_ict C (M36 hw) d36_22 (XT.ii_lt_t q2) (pc' := 45) (by decide) ?_
        refine wp_seg C (M36 hw) [(.iload_n 0, 1)] (by decide +kernel) (pc' := 46) (L' := [.val (.int (ch8 u))]) (S' := [.int (ch8 u)]) rfl ?_
        rw [show (ch8 u) = ch8 (lowB u) from by rw [← lw_eq u]; simp [lwI, lw2, q0, q1, q2]]
        exact wp_iret C (M36 hw) d36_46 rfl (t := .char) (by decide) (ch8_narrow _) Cr K
      · refine wp_icf C (M36 hw) d36_22 (XT.ii_lt_f q2) ?_
        refine wp_seg C (M36 hw) [(.iload_n 0, 1), (.sipush 222, 3)] (by decide +kernel) (pc' := 29) (L' := [.val (.int (ch8 u))]) (S' := [.int 222, .int (ch8 u)]) rfl ?_
        by_cases q3 : (222 : Int32) < (ch8 u)
        · refine wp_ict C (M36 hw) d36_29 (XT.ii_gt_t q3) (pc' := 45) (by decide) ?_
          refine wp_seg C (M36 hw) [(.iload_n 0, 1)] (by decide +kernel) (pc' := 46) (L' := [.val (.int (ch8 u))]) (S' := [.int (ch8 u)]) rfl ?_
          rw [show (ch8 u) = ch8 (lowB u) from by rw [← lw_eq u]; simp [lwI, lw2, q0, q1, q2, q3]]
          exact wp_iret C (M36 hw) d36_46 rfl (t := .char) (by decide) (ch8_narrow _) Cr K
        · refine wp_icf C (M36 hw) d36_29 (XT.ii_gt_f q3) ?_
          refine wp_seg C (M36 hw) [(.iload_n 0, 1), (.sipush 215, 3)] (by decide +kernel) (pc' := 36) (L' := [.val (.int (ch8 u))]) (S' := [.int 215, .int (ch8 u)]) rfl ?_
          by_cases q4 : (ch8 u) = (215 : Int32)
          · refine wp_ict C (M36 hw) d36_36 (XT.ii_eq_t q4) (pc' := 45) (by decide) ?_
            refine wp_seg C (M36 hw) [(.iload_n 0, 1)] (by decide +kernel) (pc' := 46) (L' := [.val (.int (ch8 u))]) (S' := [.int (ch8 u)]) rfl ?_
            rw [show (ch8 u) = ch8 (lowB u) from by rw [← lw_eq u]; simp [lwI, lw2, q0, q1, q2, q3, q4]]
            exact wp_iret C (M36 hw) d36_46 rfl (t := .char) (by decide) (ch8_narrow _) Cr K
          · refine wp_icf C (M36 hw) d36_36 (XT.ii_eq_f q4) ?_
            refine wp_seg C (M36 hw) [(.iload_n 0, 1), (.bipush 32, 2), (.iadd, 1), (.i2c, 1)] (by decide +kernel) (pc' := 44) (L' := [.val (.int (ch8 u))]) (S' := [.int (i2c ((ch8 u) + (32 : Int32)))]) rfl ?_
            rw [show (i2c ((ch8 u) + (32 : Int32))) = ch8 (lowB u) from by rw [← lw_eq u]; simp [lwI, lw2, q0, q1, q2, q3, q4]]
            exact wp_iret C (M36 hw) d36_44 rfl (t := .char) (by decide) (ch8_narrow _) Cr K
    · refine wp_icf C (M36 hw) d36_9 (XT.ii_gt_f q1) ?_
      refine wp_seg C (M36 hw) [(.iload_n 0, 1), (.bipush 32, 2), (.iadd, 1), (.i2c, 1)] (by decide +kernel) (pc' := 17) (L' := [.val (.int (ch8 u))]) (S' := [.int (i2c ((ch8 u) + (32 : Int32)))]) rfl ?_
      rw [show (i2c ((ch8 u) + (32 : Int32))) = ch8 (lowB u) from by rw [← lw_eq u]; simp [lwI, lw2, q0, q1]]
      exact wp_iret C (M36 hw) d36_17 rfl (t := .char) (by decide) (ch8_narrow _) Cr K
theorem c_jlw {κ : Cx} (C : Ok κ) (hw : Ws κ) {cdl : Addr} {u : UInt8} {yc : MethodName} {pcc : Nat} {Lc : List Slot} {Sc : List Value} {F : List Frame} {l : List Chunk} {k n : Nat} (Cr : Caller κ yc pcc 3)  (K : WP κ yc (pcc + 3) Lc (.int (ch8 (lowB u)) :: Sc) F (l) k n) :
    WP κ y37 0 [.val (.ref cdl), .val (.int (ch8 u)), .unset] [] (fr κ yc pcc Lc Sc :: F) (l) k n := by
  refine wp_seg C (M37 hw) [(.iload_n 1, 1), (.bipush 65, 2)] (by decide +kernel) (pc' := 3) (L' := [.val (.ref cdl), .val (.int (ch8 u)), .unset]) (S' := [.int 65, .int (ch8 u)]) rfl ?_
  by_cases q0 : (ch8 u) < (65 : Int32)
  · refine wp_icf C (M37 hw) d37_3 (XT.ii_ge_f q0) ?_
    refine wp_seg C (M37 hw) [(.iload_n 1, 1)] (by decide +kernel) (pc' := 7) (L' := [.val (.ref cdl), .val (.int (ch8 u)), .unset]) (S' := [.int (ch8 u)]) rfl ?_
    rw [show (ch8 u) = ch8 (lowB u) from by rw [← jl_eq u]; simp [jlI, q0]]
    exact wp_iret C (M37 hw) d37_7 rfl (t := .int) (by decide) rfl Cr K
  · refine wp_ict C (M37 hw) d37_3 (XT.ii_ge_t q0) (pc' := 8) (by decide) ?_
    refine wp_seg C (M37 hw) [(.iload_n 1, 1), (.bipush 32, 2), (.ior, 1), (.istore_n 2, 1), (.iload_n 2, 1), (.bipush 122, 2)] (by decide +kernel) (pc' := 16) (L' := [.val (.ref cdl), .val (.int (ch8 u)), .val (.int ((ch8 u) ||| (32 : Int32)))]) (S' := [.int 122, .int ((ch8 u) ||| (32 : Int32))]) rfl ?_
    by_cases q1 : (122 : Int32) < ((ch8 u) ||| (32 : Int32))
    · refine wp_icf C (M37 hw) d37_16 (XT.ii_le_f q1) ?_
      refine wp_seg C (M37 hw) [(.iload_n 2, 1), (.sipush 224, 3)] (by decide +kernel) (pc' := 23) (L' := [.val (.ref cdl), .val (.int (ch8 u)), .val (.int ((ch8 u) ||| (32 : Int32)))]) (S' := [.int 224, .int ((ch8 u) ||| (32 : Int32))]) rfl ?_
      by_cases q2 : ((ch8 u) ||| (32 : Int32)) < (224 : Int32)
      · refine wp_ict C (M37 hw) d37_23 (XT.ii_lt_t q2) (pc' := 42) (by decide) ?_
        refine wp_seg C (M37 hw) [(.iload_n 1, 1)] (by decide +kernel) (pc' := 43) (L' := [.val (.ref cdl), .val (.int (ch8 u)), .val (.int ((ch8 u) ||| (32 : Int32)))]) (S' := [.int (ch8 u)]) rfl ?_
        rw [show (ch8 u) = ch8 (lowB u) from by rw [← jl_eq u]; simp [jlI, q0, q1, q2]]
        exact wp_iret C (M37 hw) d37_43 rfl (t := .int) (by decide) rfl Cr K
      · refine wp_icf C (M37 hw) d37_23 (XT.ii_lt_f q2) ?_
        refine wp_seg C (M37 hw) [(.iload_n 2, 1), (.sipush 254, 3)] (by decide +kernel) (pc' := 30) (L' := [.val (.ref cdl), .val (.int (ch8 u)), .val (.int ((ch8 u) ||| (32 : Int32)))]) (S' := [.int 254, .int ((ch8 u) ||| (32 : Int32))]) rfl ?_
        by_cases q3 : (254 : Int32) < ((ch8 u) ||| (32 : Int32))
        · refine wp_ict C (M37 hw) d37_30 (XT.ii_gt_t q3) (pc' := 42) (by decide) ?_
          refine wp_seg C (M37 hw) [(.iload_n 1, 1)] (by decide +kernel) (pc' := 43) (L' := [.val (.ref cdl), .val (.int (ch8 u)), .val (.int ((ch8 u) ||| (32 : Int32)))]) (S' := [.int (ch8 u)]) rfl ?_
          rw [show (ch8 u) = ch8 (lowB u) from by rw [← jl_eq u]; simp [jlI, q0, q1, q2, q3]]
          exact wp_iret C (M37 hw) d37_43 rfl (t := .int) (by decide) rfl Cr K
        · refine wp_icf C (M37 hw) d37_30 (XT.ii_gt_f q3) ?_
          refine wp_seg C (M37 hw) [(.iload_n 2, 1), (.sipush 247, 3)] (by decide +kernel) (pc' := 37) (L' := [.val (.ref cdl), .val (.int (ch8 u)), .val (.int ((ch8 u) ||| (32 : Int32)))]) (S' := [.int 247, .int ((ch8 u) ||| (32 : Int32))]) rfl ?_
          by_cases q4 : ((ch8 u) ||| (32 : Int32)) = (247 : Int32)
          · refine wp_ict C (M37 hw) d37_37 (XT.ii_eq_t q4) (pc' := 42) (by decide) ?_
            refine wp_seg C (M37 hw) [(.iload_n 1, 1)] (by decide +kernel) (pc' := 43) (L' := [.val (.ref cdl), .val (.int (ch8 u)), .val (.int ((ch8 u) ||| (32 : Int32)))]) (S' := [.int (ch8 u)]) rfl ?_
            rw [show (ch8 u) = ch8 (lowB u) from by rw [← jl_eq u]; simp [jlI, q0, q1, q2, q3, q4]]
            exact wp_iret C (M37 hw) d37_43 rfl (t := .int) (by decide) rfl Cr K
          · refine wp_icf C (M37 hw) d37_37 (XT.ii_eq_f q4) ?_
            refine wp_seg C (M37 hw) [(.iload_n 2, 1)] (by decide +kernel) (pc' := 41) (L' := [.val (.ref cdl), .val (.int (ch8 u)), .val (.int ((ch8 u) ||| (32 : Int32)))]) (S' := [.int ((ch8 u) ||| (32 : Int32))]) rfl ?_
            rw [show ((ch8 u) ||| (32 : Int32)) = ch8 (lowB u) from by rw [← jl_eq u]; simp [jlI, q0, q1, q2, q3, q4]]
            exact wp_iret C (M37 hw) d37_41 rfl (t := .int) (by decide) rfl Cr K
    · refine wp_ict C (M37 hw) d37_16 (XT.ii_le_t q1) (pc' := 40) (by decide) ?_
      refine wp_seg C (M37 hw) [(.iload_n 2, 1)] (by decide +kernel) (pc' := 41) (L' := [.val (.ref cdl), .val (.int (ch8 u)), .val (.int ((ch8 u) ||| (32 : Int32)))]) (S' := [.int ((ch8 u) ||| (32 : Int32))]) rfl ?_
      rw [show ((ch8 u) ||| (32 : Int32)) = ch8 (lowB u) from by rw [← jl_eq u]; simp [jlI, q0, q1]]
      exact wp_iret C (M37 hw) d37_41 rfl (t := .int) (by decide) rfl Cr K
theorem c_bgl {κ : Cx} (C : Ok κ) (hw : Ws κ) {bl lg : Addr} {yc : MethodName} {pcc : Nat} {Lc : List Slot} {Sc : List Value} {F : List Frame} {l : List Chunk} {k n : Nat} (Cr : Caller κ yc pcc 3) (hbl : (bl, false, .inl ("sun/util/locale/BaseLocale", [("sun/util/locale/BaseLocale", "language", "Ljava/lang/String;", .ref lg)])) ∈ l) (K : WP κ yc (pcc + 3) Lc (.ref lg :: Sc) F (l) k n) :
    WP κ y38 0 [.val (.ref bl)] [] (fr κ yc pcc Lc Sc :: F) (l) k n := by
  refine wp_seg C (M38 hw) [(.aload_n 0, 1)] (by decide +kernel) (pc' := 1) (L' := [.val (.ref bl)]) (S' := [.ref bl]) rfl ?_
  refine wp_getfield C (M38 hw) d38_1 (w169 hw) (Or.inl rfl) (a := bl) (mu := false) (Cl := "sun/util/locale/BaseLocale") (fs := [("sun/util/locale/BaseLocale", "language", "Ljava/lang/String;", .ref lg)]) hbl (List.mem_of_getElem? (i := 0) rfl) ?_
  exact wp_aret C (M38 hw) d38_4 rfl (t := .object "java/lang/String") rfl rfl Cr K
theorem c_gl {κ : Cx} (C : Ok κ) (hw : Ws κ) {q bl lg : Addr} {yc : MethodName} {pcc : Nat} {Lc : List Slot} {Sc : List Value} {F : List Frame} {l : List Chunk} {k n : Nat} (Cr : Caller κ yc pcc 3) (hR : Rm κ (fr κ yc pcc Lc Sc :: F) 2 24) (hq : (q, false, .inl ("java/util/Locale", [("java/util/Locale", "baseLocale", "Lsun/util/locale/BaseLocale;", .ref bl)])) ∈ l) (hbl : (bl, false, .inl ("sun/util/locale/BaseLocale", [("sun/util/locale/BaseLocale", "language", "Ljava/lang/String;", .ref lg)])) ∈ l) (K : WP κ yc (pcc + 3) Lc (.ref lg :: Sc) F (l) k n) :
    WP κ y39 0 [.val (.ref q)] [] (fr κ yc pcc Lc Sc :: F) (l) k n := by
  refine wp_seg C (M39 hw) [(.aload_n 0, 1)] (by decide +kernel) (pc' := 1) (L' := [.val (.ref q)]) (S' := [.ref q]) rfl ?_
  refine wp_getfield C (M39 hw) d39_1 (w161 hw) (Or.inl rfl) (a := q) (mu := false) (Cl := "java/util/Locale") (fs := [("java/util/Locale", "baseLocale", "Lsun/util/locale/BaseLocale;", .ref bl)]) hq (List.mem_of_getElem? (i := 0) rfl) ?_
  refine wp_invokevirtual C (M39 hw) d39_4 (M38 hw) (Cl := "sun/util/locale/BaseLocale") (w163 hw) (w164 hw) (w166 hw) (w165 hw) (Or.inl ⟨_, (w166 hw)⟩) (by decide) (b := bl) hbl (S' := []) [] (lenOf pd38 rfl) rfl (L' := [.val (.ref bl)]) rfl rfl (hR.push (d' := 1) (w' := 12) (Nat.le_of_ble_eq_true rfl) (Nat.le_of_ble_eq_true rfl)) ?_
  refine c_bgl C hw  (Meth.caller (M39 hw) d39_4) hbl ?_
  exact wp_aret C (M39 hw) d39_7 rfl (t := .object "java/lang/String") rfl rfl Cr K
theorem h_lo1 {κ : Cx} (C : Ok κ) (hw : Ws κ) {a b q bl lg lb cdl : Addr} {us : List UInt8} (hl : us.length < 1000) (is : Sta (kZ κ) (kZ κ).heap "java/lang/CharacterDataLatin1" "instance" "Ljava/lang/CharacterDataLatin1;" (.ref cdl)) {yc : MethodName} {pcc : Nat} {Lc : List Slot} {Sc : List Value} {F : List Frame} {l : List Chunk} {k n : Nat} (hR : Rm κ (fr κ yc pcc Lc Sc :: F) 2 35) (ho : strO a b 0 ∈ l) (hb : strB b us ∈ l) (hq2 : (cdl, false, .inl ("java/lang/CharacterDataLatin1", [])) ∈ l) (hq : (q, false, .inl ("java/util/Locale", [("java/util/Locale", "baseLocale", "Lsun/util/locale/BaseLocale;", .ref bl)])) ∈ l) (hbl : (bl, false, .inl ("sun/util/locale/BaseLocale", [("sun/util/locale/BaseLocale", "language", "Ljava/lang/String;", .ref lg)])) ∈ l) (hl1 : strO lg lb 0 ∈ l) (hl2 : strB lb [] ∈ l) (K : ∀ f s5, f ≤ us.length → (∀ j, j < f → lowB (us.getD j 0) = us.getD j 0) → (s5 = .unset ∨ ∃ z : Int32, s5 = .val (.int z)) → WP κ y40 55 [.val (.ref a), .val (.ref b), .val (.ref q), .val (.int (Int32.ofNat f)), .val (.int (Int32.ofNat us.length)), s5, .unset, .unset, .unset] [] (fr κ yc pcc Lc Sc :: F) (l) k n) : ∀ (d t : Nat) (s5 : Slot), t + d = us.length → (∀ j, j < t → lowB (us.getD j 0) = us.getD j 0) → (s5 = .unset ∨ ∃ z : Int32, s5 = .val (.int z)) →
    WP κ y40 18 [.val (.ref a), .val (.ref b), .val (.ref q), .val (.int (Int32.ofNat t)), .val (.int (Int32.ofNat us.length)), s5, .unset, .unset, .unset] [] (fr κ yc pcc Lc Sc :: F) (l) k n := by
  intro d
  induction d with
  | zero =>
    intro t s5 ht hp g5
    rcases g5 with rfl | ⟨z5, rfl⟩
    · refine wp_seg C (M40 hw) [(.iload_n 3, 1), (.iload 4, 2)] (by decide +kernel) (pc' := 21) (L' := [.val (.ref a), .val (.ref b), .val (.ref q), .val (.int (Int32.ofNat t)), .val (.int (Int32.ofNat us.length)), .unset, .unset, .unset, .unset]) (S' := [.int (Int32.ofNat us.length), .int (Int32.ofNat t)]) rfl ?_
      refine wp_ict C (M40 hw) d40_21 (XT.ii_ge_t (fun q => by have := (lt32 (by omega) (by omega)).mp q; omega)) (pc' := 55) (by decide) ?_
      exact K t _ (by omega) hp (Or.inl rfl)
    · refine wp_seg C (M40 hw) [(.iload_n 3, 1), (.iload 4, 2)] (by decide +kernel) (pc' := 21) (L' := [.val (.ref a), .val (.ref b), .val (.ref q), .val (.int (Int32.ofNat t)), .val (.int (Int32.ofNat us.length)), .val (.int z5), .unset, .unset, .unset]) (S' := [.int (Int32.ofNat us.length), .int (Int32.ofNat t)]) rfl ?_
      refine wp_ict C (M40 hw) d40_21 (XT.ii_ge_t (fun q => by have := (lt32 (by omega) (by omega)).mp q; omega)) (pc' := 55) (by decide) ?_
      exact K t _ (by omega) hp (Or.inr ⟨_, rfl⟩)
  | succ d ih =>
    intro t s5 ht hp g5
    rcases g5 with rfl | ⟨z5, rfl⟩
    · refine wp_seg C (M40 hw) [(.iload_n 3, 1), (.iload 4, 2)] (by decide +kernel) (pc' := 21) (L' := [.val (.ref a), .val (.ref b), .val (.ref q), .val (.int (Int32.ofNat t)), .val (.int (Int32.ofNat us.length)), .unset, .unset, .unset, .unset]) (S' := [.int (Int32.ofNat us.length), .int (Int32.ofNat t)]) rfl ?_
      refine wp_icf C (M40 hw) d40_21 (XT.ii_ge_f ((lt32 (by omega) (by omega)).mpr (by omega))) ?_
      refine wp_seg C (M40 hw) [(.aload_n 1, 1), (.iload_n 3, 1)] (by decide +kernel) (pc' := 26) (L' := [.val (.ref a), .val (.ref b), .val (.ref q), .val (.int (Int32.ofNat t)), .val (.int (Int32.ofNat us.length)), .unset, .unset, .unset, .unset]) (S' := [.int (Int32.ofNat t), .ref b]) rfl ?_
      refine wp_baload C (M40 hw) d40_26 (a := b) hb (i := t) (Ix32 (by omega)) (v := .int ((us.getD t 0).toInt8.toInt32)) (getD_map (by omega)) ?_
      refine wp_seg C (M40 hw) [(.sipush 255, 3), (.iand, 1)] (by decide +kernel) (pc' := 31) (L' := [.val (.ref a), .val (.ref b), .val (.ref q), .val (.int (Int32.ofNat t)), .val (.int (Int32.ofNat us.length)), .unset, .unset, .unset, .unset]) (S' := [.int (((us.getD t 0).toInt8.toInt32) &&& (255 : Int32))]) rfl ?_
      rw [ch8_mask]
      refine wp_seg C (M40 hw) [(.istore 5, 2), (.iload 5, 2)] (by decide +kernel) (pc' := 35) (L' := [.val (.ref a), .val (.ref b), .val (.ref q), .val (.int (Int32.ofNat t)), .val (.int (Int32.ofNat us.length)), .val (.int (ch8 (us.getD t 0))), .unset, .unset, .unset]) (S' := [.int (ch8 (us.getD t 0))]) rfl ?_
      refine wp_getstatic C (M40 hw) d40_35 (w149 hw) (Or.inl rfl) is ?_
      refine wp_seg C (M40 hw) [(.iload 5, 2)] (by decide +kernel) (pc' := 40) (L' := [.val (.ref a), .val (.ref b), .val (.ref q), .val (.int (Int32.ofNat t)), .val (.int (Int32.ofNat us.length)), .val (.int (ch8 (us.getD t 0))), .unset, .unset, .unset]) (S' := [.int (ch8 (us.getD t 0)), .ref cdl, .int (ch8 (us.getD t 0))]) rfl ?_
      refine wp_invokevirtual C (M40 hw) d40_40 (M37 hw) (Cl := "java/lang/CharacterDataLatin1") (w151 hw) (w152 hw) (w154 hw) (w153 hw) (Or.inl ⟨_, (w154 hw)⟩) (by decide) (b := cdl) hq2 (S' := [.int (ch8 (us.getD t 0))]) [.int (ch8 (us.getD t 0))] (lenOf pd37 rfl) rfl (L' := [.val (.ref cdl), .val (.int (ch8 (us.getD t 0))), .unset]) rfl rfl (hR.push (d' := 1) (w' := 14) (Nat.le_of_ble_eq_true rfl) (Nat.le_of_ble_eq_true rfl)) ?_
      refine c_jlw C hw (u := us.getD t 0) (Meth.caller (M40 hw) d40_40)  ?_
      by_cases hz : lowB (us.getD t 0) = us.getD t 0
      · refine wp_ict C (M40 hw) d40_43 (XT.ii_eq_t (congrArg ch8 hz).symm) (pc' := 49) (by decide) ?_
        refine wp_seg C (M40 hw) [(.iinc 3 1, 3), (.goto (-34), 3)] (by decide +kernel) (pc' := 18) (L' := [.val (.ref a), .val (.ref b), .val (.ref q), .val (.int ((Int32.ofNat t) + 1)), .val (.int (Int32.ofNat us.length)), .val (.int (ch8 (us.getD t 0))), .unset, .unset, .unset]) (S' := []) rfl ?_
        rw [succ32]
        exact ih (t + 1) _ (by omega) (fun j hj => by
            by_cases e : j = t
            · rw [e]; exact hz
            · exact hp j (by omega)) (Or.inr ⟨_, rfl⟩)
      · refine wp_icf C (M40 hw) d40_43 (XT.ii_eq_f (fun q => hz (ch8_inj.mp q).symm)) ?_
        refine wp_seg C (M40 hw) [(.goto 9, 3)] (by decide +kernel) (pc' := 55) (L' := [.val (.ref a), .val (.ref b), .val (.ref q), .val (.int (Int32.ofNat t)), .val (.int (Int32.ofNat us.length)), .val (.int (ch8 (us.getD t 0))), .unset, .unset, .unset]) (S' := []) rfl ?_
        exact K t _ (by omega) hp (Or.inr ⟨_, rfl⟩)
    · refine wp_seg C (M40 hw) [(.iload_n 3, 1), (.iload 4, 2)] (by decide +kernel) (pc' := 21) (L' := [.val (.ref a), .val (.ref b), .val (.ref q), .val (.int (Int32.ofNat t)), .val (.int (Int32.ofNat us.length)), .val (.int z5), .unset, .unset, .unset]) (S' := [.int (Int32.ofNat us.length), .int (Int32.ofNat t)]) rfl ?_
      refine wp_icf C (M40 hw) d40_21 (XT.ii_ge_f ((lt32 (by omega) (by omega)).mpr (by omega))) ?_
      refine wp_seg C (M40 hw) [(.aload_n 1, 1), (.iload_n 3, 1)] (by decide +kernel) (pc' := 26) (L' := [.val (.ref a), .val (.ref b), .val (.ref q), .val (.int (Int32.ofNat t)), .val (.int (Int32.ofNat us.length)), .val (.int z5), .unset, .unset, .unset]) (S' := [.int (Int32.ofNat t), .ref b]) rfl ?_
      refine wp_baload C (M40 hw) d40_26 (a := b) hb (i := t) (Ix32 (by omega)) (v := .int ((us.getD t 0).toInt8.toInt32)) (getD_map (by omega)) ?_
      refine wp_seg C (M40 hw) [(.sipush 255, 3), (.iand, 1)] (by decide +kernel) (pc' := 31) (L' := [.val (.ref a), .val (.ref b), .val (.ref q), .val (.int (Int32.ofNat t)), .val (.int (Int32.ofNat us.length)), .val (.int z5), .unset, .unset, .unset]) (S' := [.int (((us.getD t 0).toInt8.toInt32) &&& (255 : Int32))]) rfl ?_
      rw [ch8_mask]
      refine wp_seg C (M40 hw) [(.istore 5, 2), (.iload 5, 2)] (by decide +kernel) (pc' := 35) (L' := [.val (.ref a), .val (.ref b), .val (.ref q), .val (.int (Int32.ofNat t)), .val (.int (Int32.ofNat us.length)), .val (.int (ch8 (us.getD t 0))), .unset, .unset, .unset]) (S' := [.int (ch8 (us.getD t 0))]) rfl ?_
      refine wp_getstatic C (M40 hw) d40_35 (w149 hw) (Or.inl rfl) is ?_
      refine wp_seg C (M40 hw) [(.iload 5, 2)] (by decide +kernel) (pc' := 40) (L' := [.val (.ref a), .val (.ref b), .val (.ref q), .val (.int (Int32.ofNat t)), .val (.int (Int32.ofNat us.length)), .val (.int (ch8 (us.getD t 0))), .unset, .unset, .unset]) (S' := [.int (ch8 (us.getD t 0)), .ref cdl, .int (ch8 (us.getD t 0))]) rfl ?_
      refine wp_invokevirtual C (M40 hw) d40_40 (M37 hw) (Cl := "java/lang/CharacterDataLatin1") (w151 hw) (w152 hw) (w154 hw) (w153 hw) (Or.inl ⟨_, (w154 hw)⟩) (by decide) (b := cdl) hq2 (S' := [.int (ch8 (us.getD t 0))]) [.int (ch8 (us.getD t 0))] (lenOf pd37 rfl) rfl (L' := [.val (.ref cdl), .val (.int (ch8 (us.getD t 0))), .unset]) rfl rfl (hR.push (d' := 1) (w' := 14) (Nat.le_of_ble_eq_true rfl) (Nat.le_of_ble_eq_true rfl)) ?_
      refine c_jlw C hw (u := us.getD t 0) (Meth.caller (M40 hw) d40_40)  ?_
      by_cases hz : lowB (us.getD t 0) = us.getD t 0
      · refine wp_ict C (M40 hw) d40_43 (XT.ii_eq_t (congrArg ch8 hz).symm) (pc' := 49) (by decide) ?_
        refine wp_seg C (M40 hw) [(.iinc 3 1, 3), (.goto (-34), 3)] (by decide +kernel) (pc' := 18) (L' := [.val (.ref a), .val (.ref b), .val (.ref q), .val (.int ((Int32.ofNat t) + 1)), .val (.int (Int32.ofNat us.length)), .val (.int (ch8 (us.getD t 0))), .unset, .unset, .unset]) (S' := []) rfl ?_
        rw [succ32]
        exact ih (t + 1) _ (by omega) (fun j hj => by
            by_cases e : j = t
            · rw [e]; exact hz
            · exact hp j (by omega)) (Or.inr ⟨_, rfl⟩)
      · refine wp_icf C (M40 hw) d40_43 (XT.ii_eq_f (fun q => hz (ch8_inj.mp q).symm)) ?_
        refine wp_seg C (M40 hw) [(.goto 9, 3)] (by decide +kernel) (pc' := 55) (L' := [.val (.ref a), .val (.ref b), .val (.ref q), .val (.int (Int32.ofNat t)), .val (.int (Int32.ofNat us.length)), .val (.int (ch8 (us.getD t 0))), .unset, .unset, .unset]) (S' := []) rfl ?_
        exact K t _ (by omega) hp (Or.inr ⟨_, rfl⟩)
theorem h_lo2 {κ : Cx} (C : Ok κ) (hw : Ws κ) {a b q bl lg lb cdl : Addr} {us : List UInt8} (hl : us.length < 1000) (is : Sta (kZ κ) (kZ κ).heap "java/lang/CharacterDataLatin1" "instance" "Ljava/lang/CharacterDataLatin1;" (.ref cdl)) {c : Addr} {f : Nat} {yc : MethodName} {pcc : Nat} {Lc : List Slot} {Sc : List Value} {F : List Frame} {l : List Chunk} {k n : Nat} (hR : Rm κ (fr κ yc pcc Lc Sc :: F) 2 35) (ho : strO a b 0 ∈ l) (hb : strB b us ∈ l) (hq2 : (cdl, false, .inl ("java/lang/CharacterDataLatin1", [])) ∈ l) (hq : (q, false, .inl ("java/util/Locale", [("java/util/Locale", "baseLocale", "Lsun/util/locale/BaseLocale;", .ref bl)])) ∈ l) (hbl : (bl, false, .inl ("sun/util/locale/BaseLocale", [("sun/util/locale/BaseLocale", "language", "Ljava/lang/String;", .ref lg)])) ∈ l) (hl1 : strO lg lb 0 ∈ l) (hl2 : strB lb [] ∈ l) (K : ∀ s8, (s8 = .unset ∨ ∃ z : Int32, s8 = .val (.int z)) → WP κ y40 175 [.val (.ref a), .val (.ref b), .val (.ref q), .val (.int (Int32.ofNat f)), .val (.int (Int32.ofNat us.length)), .val (.ref lg), .val (.ref c), .val (.int (Int32.ofNat us.length)), s8] [] (fr κ yc pcc Lc Sc :: F) ((c, true, .inr (.byte, (us.map lowB).map byv)) :: l) k n) : ∀ (d i : Nat) (s8 : Slot), i + d = us.length → (s8 = .unset ∨ ∃ z : Int32, s8 = .val (.int z)) →
    WP κ y40 117 [.val (.ref a), .val (.ref b), .val (.ref q), .val (.int (Int32.ofNat f)), .val (.int (Int32.ofNat us.length)), .val (.ref lg), .val (.ref c), .val (.int (Int32.ofNat i)), s8] [] (fr κ yc pcc Lc Sc :: F) ((c, true, .inr (.byte, part byv (.int 0) (us.map lowB) i)) :: l) k n := by
  intro d
  induction d with
  | zero =>
    intro i s8 ht g5
    rcases g5 with rfl | ⟨z8, rfl⟩
    · refine wp_seg C (M40 hw) [(.iload 7, 2), (.iload 4, 2)] (by decide +kernel) (pc' := 121) (L' := [.val (.ref a), .val (.ref b), .val (.ref q), .val (.int (Int32.ofNat f)), .val (.int (Int32.ofNat us.length)), .val (.ref lg), .val (.ref c), .val (.int (Int32.ofNat i)), .unset]) (S' := [.int (Int32.ofNat us.length), .int (Int32.ofNat i)]) rfl ?_
      refine wp_ict C (M40 hw) d40_121 (XT.ii_ge_t (fun q => by have := (lt32 (by omega) (by omega)).mp q; omega)) (pc' := 175) (by decide) ?_
      rw [show i = us.length by omega, show part byv (.int 0) (us.map lowB) us.length = (us.map lowB).map byv from by rw [show us.length = (us.map lowB).length by simp, part_n]]
      exact K _ (Or.inl rfl)
    · refine wp_seg C (M40 hw) [(.iload 7, 2), (.iload 4, 2)] (by decide +kernel) (pc' := 121) (L' := [.val (.ref a), .val (.ref b), .val (.ref q), .val (.int (Int32.ofNat f)), .val (.int (Int32.ofNat us.length)), .val (.ref lg), .val (.ref c), .val (.int (Int32.ofNat i)), .val (.int z8)]) (S' := [.int (Int32.ofNat us.length), .int (Int32.ofNat i)]) rfl ?_
      refine wp_ict C (M40 hw) d40_121 (XT.ii_ge_t (fun q => by have := (lt32 (by omega) (by omega)).mp q; omega)) (pc' := 175) (by decide) ?_
      rw [show i = us.length by omega, show part byv (.int 0) (us.map lowB) us.length = (us.map lowB).map byv from by rw [show us.length = (us.map lowB).length by simp, part_n]]
      exact K _ (Or.inr ⟨_, rfl⟩)
  | succ d ih =>
    intro i s8 ht g5
    rcases g5 with rfl | ⟨z8, rfl⟩
    · refine wp_seg C (M40 hw) [(.iload 7, 2), (.iload 4, 2)] (by decide +kernel) (pc' := 121) (L' := [.val (.ref a), .val (.ref b), .val (.ref q), .val (.int (Int32.ofNat f)), .val (.int (Int32.ofNat us.length)), .val (.ref lg), .val (.ref c), .val (.int (Int32.ofNat i)), .unset]) (S' := [.int (Int32.ofNat us.length), .int (Int32.ofNat i)]) rfl ?_
      refine wp_icf C (M40 hw) d40_121 (XT.ii_ge_f ((lt32 (by omega) (by omega)).mpr (by omega))) ?_
      refine wp_seg C (M40 hw) [(.aload_n 1, 1), (.iload 7, 2)] (by decide +kernel) (pc' := 127) (L' := [.val (.ref a), .val (.ref b), .val (.ref q), .val (.int (Int32.ofNat f)), .val (.int (Int32.ofNat us.length)), .val (.ref lg), .val (.ref c), .val (.int (Int32.ofNat i)), .unset]) (S' := [.int (Int32.ofNat i), .ref b]) rfl ?_
      refine wp_baload C (M40 hw) d40_127 (a := b) (List.Mem.tail _ hb) (i := i) (Ix32 (by omega)) (v := .int ((us.getD i 0).toInt8.toInt32)) (getD_map (by omega)) ?_
      refine wp_seg C (M40 hw) [(.sipush 255, 3), (.iand, 1)] (by decide +kernel) (pc' := 132) (L' := [.val (.ref a), .val (.ref b), .val (.ref q), .val (.int (Int32.ofNat f)), .val (.int (Int32.ofNat us.length)), .val (.ref lg), .val (.ref c), .val (.int (Int32.ofNat i)), .unset]) (S' := [.int (((us.getD i 0).toInt8.toInt32) &&& (255 : Int32))]) rfl ?_
      rw [ch8_mask]
      refine wp_seg C (M40 hw) [(.istore 8, 2)] (by decide +kernel) (pc' := 134) (L' := [.val (.ref a), .val (.ref b), .val (.ref q), .val (.int (Int32.ofNat f)), .val (.int (Int32.ofNat us.length)), .val (.ref lg), .val (.ref c), .val (.int (Int32.ofNat i)), .val (.int (ch8 (us.getD i 0)))]) (S' := []) rfl ?_
      refine wp_getstatic C (M40 hw) d40_134 (w149 hw) (Or.inl rfl) is ?_
      refine wp_seg C (M40 hw) [(.iload 8, 2)] (by decide +kernel) (pc' := 139) (L' := [.val (.ref a), .val (.ref b), .val (.ref q), .val (.int (Int32.ofNat f)), .val (.int (Int32.ofNat us.length)), .val (.ref lg), .val (.ref c), .val (.int (Int32.ofNat i)), .val (.int (ch8 (us.getD i 0)))]) (S' := [.int (ch8 (us.getD i 0)), .ref cdl]) rfl ?_
      refine wp_invokevirtual C (M40 hw) d40_139 (M37 hw) (Cl := "java/lang/CharacterDataLatin1") (w151 hw) (w152 hw) (w154 hw) (w153 hw) (Or.inl ⟨_, (w154 hw)⟩) (by decide) (b := cdl) (List.Mem.tail _ hq2) (S' := []) [.int (ch8 (us.getD i 0))] (lenOf pd37 rfl) rfl (L' := [.val (.ref cdl), .val (.int (ch8 (us.getD i 0))), .unset]) rfl rfl (hR.push (d' := 1) (w' := 14) (Nat.le_of_ble_eq_true rfl) (Nat.le_of_ble_eq_true rfl)) ?_
      refine c_jlw C hw (u := us.getD i 0) (Meth.caller (M40 hw) d40_139)  ?_
      refine wp_seg C (M40 hw) [(.istore 8, 2), (.iload 8, 2)] (by decide +kernel) (pc' := 146) (L' := [.val (.ref a), .val (.ref b), .val (.ref q), .val (.int (Int32.ofNat f)), .val (.int (Int32.ofNat us.length)), .val (.ref lg), .val (.ref c), .val (.int (Int32.ofNat i)), .val (.int (ch8 (lowB (us.getD i 0))))]) (S' := [.int (ch8 (lowB (us.getD i 0)))]) rfl ?_
      refine wp_invokestatic C (M40 hw) d40_146 (M35 hw) (w175 hw) (w176 hw) (w147 hw) (by decide) (S' := []) [.int (ch8 (lowB (us.getD i 0)))] (lenOf pd35 rfl) rfl (L' := [.val (.int (ch8 (lowB (us.getD i 0))))]) rfl rfl (hR.push (d' := 1) (w' := 12) (Nat.le_of_ble_eq_true rfl) (Nat.le_of_ble_eq_true rfl)) ?_
      refine c_cani C hw  (Meth.caller (M40 hw) d40_146)  ?_
      refine wp_ift C (M40 hw) d40_149 (XT.i0_ne_t (by decide)) (pc' := 161) (by decide) ?_
      refine wp_seg C (M40 hw) [(.aload 6, 2), (.iload 7, 2), (.iload 8, 2), (.i2b, 1)] (by decide +kernel) (pc' := 168) (L' := [.val (.ref a), .val (.ref b), .val (.ref q), .val (.int (Int32.ofNat f)), .val (.int (Int32.ofNat us.length)), .val (.ref lg), .val (.ref c), .val (.int (Int32.ofNat i)), .val (.int (ch8 (lowB (us.getD i 0))))]) (S' := [.int ((Int32.toInt8 (ch8 (lowB (us.getD i 0)))).toInt32), .int (Int32.ofNat i), .ref c]) rfl ?_
      have hi : i < us.length := by omega
      refine wp_bastore C (M40 hw) d40_168 (i := 0) (j := i) rfl (Ix32 (by omega)) (by rw [part_len _ _ _ (by simp <;> omega)]; simpa using hi) (v' := .int (((us.map lowB).getD i 0).toInt8.toInt32)) (by rw [lw_get hi]; exact congrArg Value.int (ch8_byte2 _)) (l' := (c, true, .inr (.byte, part byv (.int 0) (us.map lowB) (i + 1))) :: l) (by rw [show Value.int (((us.map lowB).getD i 0).toInt8.toInt32) = byv ((us.map lowB).getD i 0) from rfl, List.set_cons_zero, part_set _ _ _ (by simpa using hi)]) ?_
      refine wp_seg C (M40 hw) [(.iinc 7 1, 3), (.goto (-55), 3)] (by decide +kernel) (pc' := 117) (L' := [.val (.ref a), .val (.ref b), .val (.ref q), .val (.int (Int32.ofNat f)), .val (.int (Int32.ofNat us.length)), .val (.ref lg), .val (.ref c), .val (.int ((Int32.ofNat i) + 1)), .val (.int (ch8 (lowB (us.getD i 0))))]) (S' := []) rfl ?_
      rw [succ32]
      exact ih (i + 1) _ (by omega) (Or.inr ⟨_, rfl⟩)
    · refine wp_seg C (M40 hw) [(.iload 7, 2), (.iload 4, 2)] (by decide +kernel) (pc' := 121) (L' := [.val (.ref a), .val (.ref b), .val (.ref q), .val (.int (Int32.ofNat f)), .val (.int (Int32.ofNat us.length)), .val (.ref lg), .val (.ref c), .val (.int (Int32.ofNat i)), .val (.int z8)]) (S' := [.int (Int32.ofNat us.length), .int (Int32.ofNat i)]) rfl ?_
      refine wp_icf C (M40 hw) d40_121 (XT.ii_ge_f ((lt32 (by omega) (by omega)).mpr (by omega))) ?_
      refine wp_seg C (M40 hw) [(.aload_n 1, 1), (.iload 7, 2)] (by decide +kernel) (pc' := 127) (L' := [.val (.ref a), .val (.ref b), .val (.ref q), .val (.int (Int32.ofNat f)), .val (.int (Int32.ofNat us.length)), .val (.ref lg), .val (.ref c), .val (.int (Int32.ofNat i)), .val (.int z8)]) (S' := [.int (Int32.ofNat i), .ref b]) rfl ?_
      refine wp_baload C (M40 hw) d40_127 (a := b) (List.Mem.tail _ hb) (i := i) (Ix32 (by omega)) (v := .int ((us.getD i 0).toInt8.toInt32)) (getD_map (by omega)) ?_
      refine wp_seg C (M40 hw) [(.sipush 255, 3), (.iand, 1)] (by decide +kernel) (pc' := 132) (L' := [.val (.ref a), .val (.ref b), .val (.ref q), .val (.int (Int32.ofNat f)), .val (.int (Int32.ofNat us.length)), .val (.ref lg), .val (.ref c), .val (.int (Int32.ofNat i)), .val (.int z8)]) (S' := [.int (((us.getD i 0).toInt8.toInt32) &&& (255 : Int32))]) rfl ?_
      rw [ch8_mask]
      refine wp_seg C (M40 hw) [(.istore 8, 2)] (by decide +kernel) (pc' := 134) (L' := [.val (.ref a), .val (.ref b), .val (.ref q), .val (.int (Int32.ofNat f)), .val (.int (Int32.ofNat us.length)), .val (.ref lg), .val (.ref c), .val (.int (Int32.ofNat i)), .val (.int (ch8 (us.getD i 0)))]) (S' := []) rfl ?_
      refine wp_getstatic C (M40 hw) d40_134 (w149 hw) (Or.inl rfl) is ?_
      refine wp_seg C (M40 hw) [(.iload 8, 2)] (by decide +kernel) (pc' := 139) (L' := [.val (.ref a), .val (.ref b), .val (.ref q), .val (.int (Int32.ofNat f)), .val (.int (Int32.ofNat us.length)), .val (.ref lg), .val (.ref c), .val (.int (Int32.ofNat i)), .val (.int (ch8 (us.getD i 0)))]) (S' := [.int (ch8 (us.getD i 0)), .ref cdl]) rfl ?_
      refine wp_invokevirtual C (M40 hw) d40_139 (M37 hw) (Cl := "java/lang/CharacterDataLatin1") (w151 hw) (w152 hw) (w154 hw) (w153 hw) (Or.inl ⟨_, (w154 hw)⟩) (by decide) (b := cdl) (List.Mem.tail _ hq2) (S' := []) [.int (ch8 (us.getD i 0))] (lenOf pd37 rfl) rfl (L' := [.val (.ref cdl), .val (.int (ch8 (us.getD i 0))), .unset]) rfl rfl (hR.push (d' := 1) (w' := 14) (Nat.le_of_ble_eq_true rfl) (Nat.le_of_ble_eq_true rfl)) ?_
      refine c_jlw C hw (u := us.getD i 0) (Meth.caller (M40 hw) d40_139)  ?_
      refine wp_seg C (M40 hw) [(.istore 8, 2), (.iload 8, 2)] (by decide +kernel) (pc' := 146) (L' := [.val (.ref a), .val (.ref b), .val (.ref q), .val (.int (Int32.ofNat f)), .val (.int (Int32.ofNat us.length)), .val (.ref lg), .val (.ref c), .val (.int (Int32.ofNat i)), .val (.int (ch8 (lowB (us.getD i 0))))]) (S' := [.int (ch8 (lowB (us.getD i 0)))]) rfl ?_
      refine wp_invokestatic C (M40 hw) d40_146 (M35 hw) (w175 hw) (w176 hw) (w147 hw) (by decide) (S' := []) [.int (ch8 (lowB (us.getD i 0)))] (lenOf pd35 rfl) rfl (L' := [.val (.int (ch8 (lowB (us.getD i 0))))]) rfl rfl (hR.push (d' := 1) (w' := 12) (Nat.le_of_ble_eq_true rfl) (Nat.le_of_ble_eq_true rfl)) ?_
      refine c_cani C hw  (Meth.caller (M40 hw) d40_146)  ?_
      refine wp_ift C (M40 hw) d40_149 (XT.i0_ne_t (by decide)) (pc' := 161) (by decide) ?_
      refine wp_seg C (M40 hw) [(.aload 6, 2), (.iload 7, 2), (.iload 8, 2), (.i2b, 1)] (by decide +kernel) (pc' := 168) (L' := [.val (.ref a), .val (.ref b), .val (.ref q), .val (.int (Int32.ofNat f)), .val (.int (Int32.ofNat us.length)), .val (.ref lg), .val (.ref c), .val (.int (Int32.ofNat i)), .val (.int (ch8 (lowB (us.getD i 0))))]) (S' := [.int ((Int32.toInt8 (ch8 (lowB (us.getD i 0)))).toInt32), .int (Int32.ofNat i), .ref c]) rfl ?_
      have hi : i < us.length := by omega
      refine wp_bastore C (M40 hw) d40_168 (i := 0) (j := i) rfl (Ix32 (by omega)) (by rw [part_len _ _ _ (by simp <;> omega)]; simpa using hi) (v' := .int (((us.map lowB).getD i 0).toInt8.toInt32)) (by rw [lw_get hi]; exact congrArg Value.int (ch8_byte2 _)) (l' := (c, true, .inr (.byte, part byv (.int 0) (us.map lowB) (i + 1))) :: l) (by rw [show Value.int (((us.map lowB).getD i 0).toInt8.toInt32) = byv ((us.map lowB).getD i 0) from rfl, List.set_cons_zero, part_set _ _ _ (by simpa using hi)]) ?_
      refine wp_seg C (M40 hw) [(.iinc 7 1, 3), (.goto (-55), 3)] (by decide +kernel) (pc' := 117) (L' := [.val (.ref a), .val (.ref b), .val (.ref q), .val (.int (Int32.ofNat f)), .val (.int (Int32.ofNat us.length)), .val (.ref lg), .val (.ref c), .val (.int ((Int32.ofNat i) + 1)), .val (.int (ch8 (lowB (us.getD i 0))))]) (S' := []) rfl ?_
      rw [succ32]
      exact ih (i + 1) _ (by omega) (Or.inr ⟨_, rfl⟩)
theorem c_l1low {κ : Cx} (C : Ok κ) (hw : Ws κ) (hst : kS κ = false) (wS : StrW κ) (hE : kE κ = consts_1) {a b q bl lg lb cdl : Addr} {us : List UInt8} (hl : us.length < 1000) (is : Sta (kZ κ) (kZ κ).heap "java/lang/CharacterDataLatin1" "instance" "Ljava/lang/CharacterDataLatin1;" (.ref cdl)) {yc : MethodName} {pcc : Nat} {Lc : List Slot} {Sc : List Value} {F : List Frame} {l : List Chunk} {k n : Nat} (Cr : Caller κ yc pcc 3) (hR : Rm κ (fr κ yc pcc Lc Sc :: F) 3 60) (ho : strO a b 0 ∈ l) (hb : strB b us ∈ l) (hq2 : (cdl, false, .inl ("java/lang/CharacterDataLatin1", [])) ∈ l) (hq : (q, false, .inl ("java/util/Locale", [("java/util/Locale", "baseLocale", "Lsun/util/locale/BaseLocale;", .ref bl)])) ∈ l) (hbl : (bl, false, .inl ("sun/util/locale/BaseLocale", [("sun/util/locale/BaseLocale", "language", "Ljava/lang/String;", .ref lg)])) ∈ l) (hl1 : strO lg lb 0 ∈ l) (hl2 : strB lb [] ∈ l) (hk : k + 2 + 2 + 2 + 1 + 1 ≤ (kR κ).cells) (hn : n + (8 + 4) + (8 + 4) + (8 + 4) + us.length + 4 ≤ (kR κ).slots) (K : ∀ a b, WP κ yc (pcc + 3) Lc (.ref a :: Sc) F (strO a b 0 :: strB b (us.map lowB) :: l) (k + 2 + 2 + 2 + 1 + 1) (n + (8 + 4) + (8 + 4) + (8 + 4) + us.length + 4)) :
    WP κ y40 0 [.val (.ref a), .val (.ref b), .val (.ref q), .unset, .unset, .unset, .unset, .unset, .unset] [] (fr κ yc pcc Lc Sc :: F) (l) k n := by
  refine wp_seg C (M40 hw) [(.aload_n 2, 1)] (by decide +kernel) (pc' := 1) (L' := [.val (.ref a), .val (.ref b), .val (.ref q), .unset, .unset, .unset, .unset, .unset, .unset]) (S' := [.ref q]) rfl ?_
  refine wp_nonnullt C (M40 hw) d40_1 (pc' := 12) (by decide) ?_
  refine wp_seg C (M40 hw) [(.aload_n 1, 1)] (by decide +kernel) (pc' := 13) (L' := [.val (.ref a), .val (.ref b), .val (.ref q), .unset, .unset, .unset, .unset, .unset, .unset]) (S' := [.ref b]) rfl ?_
  refine wp_arraylength C (M40 hw) d40_13 (a := b) hb (z := (Int32.ofNat us.length)) (by simp) ?_
  refine wp_seg C (M40 hw) [(.istore 4, 2), (.iconst 0, 1), (.istore_n 3, 1)] (by decide +kernel) (pc' := 18) (L' := [.val (.ref a), .val (.ref b), .val (.ref q), .val (.int 0), .val (.int (Int32.ofNat us.length)), .unset, .unset, .unset, .unset]) (S' := []) rfl ?_
  refine h_lo1 C hw hl is (hR.mono (d' := 2) (w' := 35) (Nat.le_of_ble_eq_true rfl) (Nat.le_of_ble_eq_true rfl)) ho hb hq2 hq hbl hl1 hl2 (fun f s5 hf hp g5 => ?_) us.length 0 _ (by omega) (fun j hj => absurd hj (Nat.not_lt_zero _)) (Or.inl rfl)
  refine wp_seg C (M40 hw) [(.iload_n 3, 1), (.iload 4, 2)] (by decide +kernel) (pc' := 58) (L' := [.val (.ref a), .val (.ref b), .val (.ref q), .val (.int (Int32.ofNat f)), .val (.int (Int32.ofNat us.length)), s5, .unset, .unset, .unset]) (S' := [.int (Int32.ofNat us.length), .int (Int32.ofNat f)]) rfl ?_
  by_cases he : f = us.length
  · refine wp_icf C (M40 hw) d40_58 (XT.ii_ne_f ((eq32 (by omega) (by omega)).mpr he)) ?_
    refine wp_seg C (M40 hw) [(.aload_n 0, 1)] (by decide +kernel) (pc' := 62) (L' := [.val (.ref a), .val (.ref b), .val (.ref q), .val (.int (Int32.ofNat f)), .val (.int (Int32.ofNat us.length)), s5, .unset, .unset, .unset]) (S' := [.ref a]) rfl ?_
    rw [low_same (fun j hj => hp j (by omega))] at K
    refine wp_dup hb rfl ?_
    refine wp_dup (List.Mem.tail _ ho) rfl ?_
    refine wp_room (k' := k + 2 + 2 + 2 + 1 + 1) (n' := n + (8 + 4) + (8 + 4) + (8 + 4) + us.length + 4) (by omega) (by omega) hk hn ?_
    exact wp_aret C (M40 hw) d40_62 rfl (t := .object "java/lang/String") rfl rfl Cr (K a b)
  · refine wp_ict C (M40 hw) d40_58 (XT.ii_ne_t (fun q => he ((eq32 (by omega) (by omega)).mp q))) (pc' := 63) (by decide) ?_
    refine wp_seg C (M40 hw) [(.aload_n 2, 1)] (by decide +kernel) (pc' := 64) (L' := [.val (.ref a), .val (.ref b), .val (.ref q), .val (.int (Int32.ofNat f)), .val (.int (Int32.ofNat us.length)), s5, .unset, .unset, .unset]) (S' := [.ref q]) rfl ?_
    refine wp_invokevirtual C (M40 hw) d40_64 (M39 hw) (Cl := "java/util/Locale") (w156 hw) (w157 hw) (w159 hw) (w158 hw) (Or.inl ⟨_, (w159 hw)⟩) (by decide) (b := q) hq (S' := []) [] (lenOf pd39 rfl) rfl (L' := [.val (.ref q)]) rfl rfl (hR.push (d' := 1) (w' := 12) (Nat.le_of_ble_eq_true rfl) (Nat.le_of_ble_eq_true rfl)) ?_
    refine c_gl C hw  (Meth.caller (M40 hw) d40_64) (hR.push (d' := 2) (w' := 24) (Nat.le_of_ble_eq_true rfl) (Nat.le_of_ble_eq_true rfl)) hq hbl ?_
    rcases g5 with rfl | ⟨z5, rfl⟩
    · refine wp_seg C (M40 hw) [(.astore 5, 2), (.aload 5, 2)] (by decide +kernel) (pc' := 71) (L' := [.val (.ref a), .val (.ref b), .val (.ref q), .val (.int (Int32.ofNat f)), .val (.int (Int32.ofNat us.length)), .val (.ref lg), .unset, .unset, .unset]) (S' := [.ref lg]) rfl ?_
      refine wp_ldcS C hst wS (M40 hw) d40_71 (w171 hw) (by rw [hE]; exact List.mem_of_getElem? (i := 5) rfl) [116, 114] (by decide +kernel) (m := 8) (by decide) (by decide) (by omega) (by omega) fun s1 s2 => ?_
      by_cases haa : lg = s1
      · exact wp_same (a := lg) (b := lb) (us := []) (vs := [116, 114]) (List.Mem.tail _ (List.Mem.tail _ hl1)) (List.Mem.tail _ (List.Mem.tail _ hl2)) (by rw [haa]; exact List.mem_of_getElem? (i := 0) rfl) (List.mem_of_getElem? (i := 1) rfl) (fun _ e => by cases e)
      · refine wp_acf C (M40 hw) d40_73 rfl rfl (XT.aa_eq_f (fun q => haa (by injection q))) ?_
        refine wp_seg C (M40 hw) [(.aload 5, 2)] (by decide +kernel) (pc' := 78) (L' := [.val (.ref a), .val (.ref b), .val (.ref q), .val (.int (Int32.ofNat f)), .val (.int (Int32.ofNat us.length)), .val (.ref lg), .unset, .unset, .unset]) (S' := [.ref lg]) rfl ?_
        refine wp_ldcS C hst wS (M40 hw) d40_78 (w172 hw) (by rw [hE]; exact List.mem_of_getElem? (i := 6) rfl) [97, 122] (by decide +kernel) (m := 8) (by decide) (by decide) (by omega) (by omega) fun s3 s4 => ?_
        by_cases haa : lg = s3
        · exact wp_same (a := lg) (b := lb) (us := []) (vs := [97, 122]) (List.Mem.tail _ (List.Mem.tail _ (List.Mem.tail _ (List.Mem.tail _ hl1)))) (List.Mem.tail _ (List.Mem.tail _ (List.Mem.tail _ (List.Mem.tail _ hl2)))) (by rw [haa]; exact List.mem_of_getElem? (i := 0) rfl) (List.mem_of_getElem? (i := 1) rfl) (fun _ e => by cases e)
        · refine wp_acf C (M40 hw) d40_80 rfl rfl (XT.aa_eq_f (fun q => haa (by injection q))) ?_
          refine wp_seg C (M40 hw) [(.aload 5, 2)] (by decide +kernel) (pc' := 85) (L' := [.val (.ref a), .val (.ref b), .val (.ref q), .val (.int (Int32.ofNat f)), .val (.int (Int32.ofNat us.length)), .val (.ref lg), .unset, .unset, .unset]) (S' := [.ref lg]) rfl ?_
          refine wp_ldcS C hst wS (M40 hw) d40_85 (w173 hw) (by rw [hE]; exact List.mem_of_getElem? (i := 7) rfl) [108, 116] (by decide +kernel) (m := 8) (by decide) (by decide) (by omega) (by omega) fun s5 s6 => ?_
          by_cases haa : lg = s5
          · exact wp_same (a := lg) (b := lb) (us := []) (vs := [108, 116]) (List.Mem.tail _ (List.Mem.tail _ (List.Mem.tail _ (List.Mem.tail _ (List.Mem.tail _ (List.Mem.tail _ hl1)))))) (List.Mem.tail _ (List.Mem.tail _ (List.Mem.tail _ (List.Mem.tail _ (List.Mem.tail _ (List.Mem.tail _ hl2)))))) (by rw [haa]; exact List.mem_of_getElem? (i := 0) rfl) (List.mem_of_getElem? (i := 1) rfl) (fun _ e => by cases e)
          · refine wp_act C (M40 hw) d40_87 rfl rfl (XT.aa_ne_t (fun q => haa (by injection q))) (pc' := 99) (by decide) ?_
            refine wp_seg C (M40 hw) [(.iload 4, 2)] (by decide +kernel) (pc' := 101) (L' := [.val (.ref a), .val (.ref b), .val (.ref q), .val (.int (Int32.ofNat f)), .val (.int (Int32.ofNat us.length)), .val (.ref lg), .unset, .unset, .unset]) (S' := [.int (Int32.ofNat us.length)]) rfl ?_
            refine wp_newarray C (M40 hw) d40_101 rfl (w4 hw) (len := us.length) (Ix32 (by omega)) (by omega) (by omega) (by omega) (vs := List.replicate us.length (.int 0)) rfl fun a7 => ?_
            refine wp_seg C (M40 hw) [(.astore 6, 2), (.aload_n 1, 1), (.iconst 0, 1), (.aload 6, 2), (.iconst 0, 1), (.iload_n 3, 1)] (by decide +kernel) (pc' := 111) (L' := [.val (.ref a), .val (.ref b), .val (.ref q), .val (.int (Int32.ofNat f)), .val (.int (Int32.ofNat us.length)), .val (.ref lg), .val (.ref a7), .unset, .unset]) (S' := [.int (Int32.ofNat f), .int 0, .ref a7, .int 0, .ref b]) rfl ?_
            rw [byte0]
            refine wp_copy C (M40 hw) d40_111 (w174 hw) (w115 hw) (w113 hw) (w114 hw) (i := 0) (p := 0) (q := 0) (m := f) rfl (List.Mem.tail _ (List.Mem.tail _ (List.Mem.tail _ (List.Mem.tail _ (List.Mem.tail _ (List.Mem.tail _ (List.Mem.tail _ hb))))))) rfl (by simp <;> omega) (by simp <;> omega) (byv_all _) (byv_all _) (by simp <;> omega) (by simp <;> omega) (hR.push (d' := 1) (w' := 40) (Nat.le_of_ble_eq_true rfl) (Nat.le_of_ble_eq_true rfl)) (l' := (a7, true, .inr (.byte, part byv (.int 0) (us.map lowB) f)) :: strO s5 s6 0 :: strB s6 [108, 116] :: strO s3 s4 0 :: strB s4 [97, 122] :: strO s1 s2 0 :: strB s2 [116, 114] :: l) (by rw [List.set_cons_zero, low_cp hf hp]) ?_
            refine wp_seg C (M40 hw) [(.iload_n 3, 1), (.istore 7, 2)] (by decide +kernel) (pc' := 117) (L' := [.val (.ref a), .val (.ref b), .val (.ref q), .val (.int (Int32.ofNat f)), .val (.int (Int32.ofNat us.length)), .val (.ref lg), .val (.ref a7), .val (.int (Int32.ofNat f)), .unset]) (S' := []) rfl ?_
            refine h_lo2 C hw hl is (c := a7) (f := f) (l := strO s5 s6 0 :: strB s6 [108, 116] :: strO s3 s4 0 :: strB s4 [97, 122] :: strO s1 s2 0 :: strB s2 [116, 114] :: l) (hR.mono (d' := 2) (w' := 35) (Nat.le_of_ble_eq_true rfl) (Nat.le_of_ble_eq_true rfl)) (List.Mem.tail _ (List.Mem.tail _ (List.Mem.tail _ (List.Mem.tail _ (List.Mem.tail _ (List.Mem.tail _ ho)))))) (List.Mem.tail _ (List.Mem.tail _ (List.Mem.tail _ (List.Mem.tail _ (List.Mem.tail _ (List.Mem.tail _ hb)))))) (List.Mem.tail _ (List.Mem.tail _ (List.Mem.tail _ (List.Mem.tail _ (List.Mem.tail _ (List.Mem.tail _ hq2)))))) (List.Mem.tail _ (List.Mem.tail _ (List.Mem.tail _ (List.Mem.tail _ (List.Mem.tail _ (List.Mem.tail _ hq)))))) (List.Mem.tail _ (List.Mem.tail _ (List.Mem.tail _ (List.Mem.tail _ (List.Mem.tail _ (List.Mem.tail _ hbl)))))) (List.Mem.tail _ (List.Mem.tail _ (List.Mem.tail _ (List.Mem.tail _ (List.Mem.tail _ (List.Mem.tail _ hl1)))))) (List.Mem.tail _ (List.Mem.tail _ (List.Mem.tail _ (List.Mem.tail _ (List.Mem.tail _ (List.Mem.tail _ hl2)))))) (fun s8 g8 => ?_) (us.length - f) f _ (by omega) (Or.inl rfl)
            refine wp_new C (M40 hw) d40_175 (w178 hw) (w3 hw) (w2 hw) (cls_Str hw) (by omega) (by omega) fun a8 => ?_
            refine wp_seg C (M40 hw) [(.dup, 1), (.aload 6, 2), (.iconst 0, 1)] (by decide +kernel) (pc' := 182) (L' := [.val (.ref a), .val (.ref b), .val (.ref q), .val (.int (Int32.ofNat f)), .val (.int (Int32.ofNat us.length)), .val (.ref lg), .val (.ref a7), .val (.int (Int32.ofNat us.length)), s8]) (S' := [.int 0, .ref a7, .ref a8, .ref a8]) rfl ?_
            refine wp_front 1 rfl rfl ?_
            refine wp_freeze ?_
            refine wp_front 1 rfl rfl ?_
            refine wp_init C (M40 hw) d40_182 (M14 hw) rfl (w179 hw) (w180 hw) (by decide) (S' := [.ref a8]) a8 [.ref a7, .int 0] (lenOf pd14 rfl) rfl (L' := [.val (.ref a8), .val (.ref a7), .val (.int 0)]) rfl rfl (hR.push (d' := 1) (w' := 14) (Nat.le_of_ble_eq_true rfl) (Nat.le_of_ble_eq_true rfl)) ?_
            refine c_initb C hw (us := (us.map lowB)) (Meth.caller (M40 hw) d40_182) (hR.push (d' := 2) (w' := 26) (Nat.le_of_ble_eq_true rfl) (Nat.le_of_ble_eq_true rfl)) (List.mem_of_getElem? (i := 0) rfl) ?_
            refine wp_front 2 rfl rfl ?_
            refine wp_drop ?_
            refine wp_front 2 rfl rfl ?_
            refine wp_drop ?_
            refine wp_front 2 rfl rfl ?_
            refine wp_drop ?_
            refine wp_front 2 rfl rfl ?_
            refine wp_drop ?_
            refine wp_front 2 rfl rfl ?_
            refine wp_drop ?_
            refine wp_front 2 rfl rfl ?_
            refine wp_drop ?_
            exact wp_aret C (M40 hw) d40_185 rfl (t := .object "java/lang/String") rfl rfl Cr (K a8 a7)
    · refine wp_seg C (M40 hw) [(.astore 5, 2), (.aload 5, 2)] (by decide +kernel) (pc' := 71) (L' := [.val (.ref a), .val (.ref b), .val (.ref q), .val (.int (Int32.ofNat f)), .val (.int (Int32.ofNat us.length)), .val (.ref lg), .unset, .unset, .unset]) (S' := [.ref lg]) rfl ?_
      refine wp_ldcS C hst wS (M40 hw) d40_71 (w171 hw) (by rw [hE]; exact List.mem_of_getElem? (i := 5) rfl) [116, 114] (by decide +kernel) (m := 8) (by decide) (by decide) (by omega) (by omega) fun s1 s2 => ?_
      by_cases haa : lg = s1
      · exact wp_same (a := lg) (b := lb) (us := []) (vs := [116, 114]) (List.Mem.tail _ (List.Mem.tail _ hl1)) (List.Mem.tail _ (List.Mem.tail _ hl2)) (by rw [haa]; exact List.mem_of_getElem? (i := 0) rfl) (List.mem_of_getElem? (i := 1) rfl) (fun _ e => by cases e)
      · refine wp_acf C (M40 hw) d40_73 rfl rfl (XT.aa_eq_f (fun q => haa (by injection q))) ?_
        refine wp_seg C (M40 hw) [(.aload 5, 2)] (by decide +kernel) (pc' := 78) (L' := [.val (.ref a), .val (.ref b), .val (.ref q), .val (.int (Int32.ofNat f)), .val (.int (Int32.ofNat us.length)), .val (.ref lg), .unset, .unset, .unset]) (S' := [.ref lg]) rfl ?_
        refine wp_ldcS C hst wS (M40 hw) d40_78 (w172 hw) (by rw [hE]; exact List.mem_of_getElem? (i := 6) rfl) [97, 122] (by decide +kernel) (m := 8) (by decide) (by decide) (by omega) (by omega) fun s3 s4 => ?_
        by_cases haa : lg = s3
        · exact wp_same (a := lg) (b := lb) (us := []) (vs := [97, 122]) (List.Mem.tail _ (List.Mem.tail _ (List.Mem.tail _ (List.Mem.tail _ hl1)))) (List.Mem.tail _ (List.Mem.tail _ (List.Mem.tail _ (List.Mem.tail _ hl2)))) (by rw [haa]; exact List.mem_of_getElem? (i := 0) rfl) (List.mem_of_getElem? (i := 1) rfl) (fun _ e => by cases e)
        · refine wp_acf C (M40 hw) d40_80 rfl rfl (XT.aa_eq_f (fun q => haa (by injection q))) ?_
          refine wp_seg C (M40 hw) [(.aload 5, 2)] (by decide +kernel) (pc' := 85) (L' := [.val (.ref a), .val (.ref b), .val (.ref q), .val (.int (Int32.ofNat f)), .val (.int (Int32.ofNat us.length)), .val (.ref lg), .unset, .unset, .unset]) (S' := [.ref lg]) rfl ?_
          refine wp_ldcS C hst wS (M40 hw) d40_85 (w173 hw) (by rw [hE]; exact List.mem_of_getElem? (i := 7) rfl) [108, 116] (by decide +kernel) (m := 8) (by decide) (by decide) (by omega) (by omega) fun s5 s6 => ?_
          by_cases haa : lg = s5
          · exact wp_same (a := lg) (b := lb) (us := []) (vs := [108, 116]) (List.Mem.tail _ (List.Mem.tail _ (List.Mem.tail _ (List.Mem.tail _ (List.Mem.tail _ (List.Mem.tail _ hl1)))))) (List.Mem.tail _ (List.Mem.tail _ (List.Mem.tail _ (List.Mem.tail _ (List.Mem.tail _ (List.Mem.tail _ hl2)))))) (by rw [haa]; exact List.mem_of_getElem? (i := 0) rfl) (List.mem_of_getElem? (i := 1) rfl) (fun _ e => by cases e)
          · refine wp_act C (M40 hw) d40_87 rfl rfl (XT.aa_ne_t (fun q => haa (by injection q))) (pc' := 99) (by decide) ?_
            refine wp_seg C (M40 hw) [(.iload 4, 2)] (by decide +kernel) (pc' := 101) (L' := [.val (.ref a), .val (.ref b), .val (.ref q), .val (.int (Int32.ofNat f)), .val (.int (Int32.ofNat us.length)), .val (.ref lg), .unset, .unset, .unset]) (S' := [.int (Int32.ofNat us.length)]) rfl ?_
            refine wp_newarray C (M40 hw) d40_101 rfl (w4 hw) (len := us.length) (Ix32 (by omega)) (by omega) (by omega) (by omega) (vs := List.replicate us.length (.int 0)) rfl fun a7 => ?_
            refine wp_seg C (M40 hw) [(.astore 6, 2), (.aload_n 1, 1), (.iconst 0, 1), (.aload 6, 2), (.iconst 0, 1), (.iload_n 3, 1)] (by decide +kernel) (pc' := 111) (L' := [.val (.ref a), .val (.ref b), .val (.ref q), .val (.int (Int32.ofNat f)), .val (.int (Int32.ofNat us.length)), .val (.ref lg), .val (.ref a7), .unset, .unset]) (S' := [.int (Int32.ofNat f), .int 0, .ref a7, .int 0, .ref b]) rfl ?_
            rw [byte0]
            refine wp_copy C (M40 hw) d40_111 (w174 hw) (w115 hw) (w113 hw) (w114 hw) (i := 0) (p := 0) (q := 0) (m := f) rfl (List.Mem.tail _ (List.Mem.tail _ (List.Mem.tail _ (List.Mem.tail _ (List.Mem.tail _ (List.Mem.tail _ (List.Mem.tail _ hb))))))) rfl (by simp <;> omega) (by simp <;> omega) (byv_all _) (byv_all _) (by simp <;> omega) (by simp <;> omega) (hR.push (d' := 1) (w' := 40) (Nat.le_of_ble_eq_true rfl) (Nat.le_of_ble_eq_true rfl)) (l' := (a7, true, .inr (.byte, part byv (.int 0) (us.map lowB) f)) :: strO s5 s6 0 :: strB s6 [108, 116] :: strO s3 s4 0 :: strB s4 [97, 122] :: strO s1 s2 0 :: strB s2 [116, 114] :: l) (by rw [List.set_cons_zero, low_cp hf hp]) ?_
            refine wp_seg C (M40 hw) [(.iload_n 3, 1), (.istore 7, 2)] (by decide +kernel) (pc' := 117) (L' := [.val (.ref a), .val (.ref b), .val (.ref q), .val (.int (Int32.ofNat f)), .val (.int (Int32.ofNat us.length)), .val (.ref lg), .val (.ref a7), .val (.int (Int32.ofNat f)), .unset]) (S' := []) rfl ?_
            refine h_lo2 C hw hl is (c := a7) (f := f) (l := strO s5 s6 0 :: strB s6 [108, 116] :: strO s3 s4 0 :: strB s4 [97, 122] :: strO s1 s2 0 :: strB s2 [116, 114] :: l) (hR.mono (d' := 2) (w' := 35) (Nat.le_of_ble_eq_true rfl) (Nat.le_of_ble_eq_true rfl)) (List.Mem.tail _ (List.Mem.tail _ (List.Mem.tail _ (List.Mem.tail _ (List.Mem.tail _ (List.Mem.tail _ ho)))))) (List.Mem.tail _ (List.Mem.tail _ (List.Mem.tail _ (List.Mem.tail _ (List.Mem.tail _ (List.Mem.tail _ hb)))))) (List.Mem.tail _ (List.Mem.tail _ (List.Mem.tail _ (List.Mem.tail _ (List.Mem.tail _ (List.Mem.tail _ hq2)))))) (List.Mem.tail _ (List.Mem.tail _ (List.Mem.tail _ (List.Mem.tail _ (List.Mem.tail _ (List.Mem.tail _ hq)))))) (List.Mem.tail _ (List.Mem.tail _ (List.Mem.tail _ (List.Mem.tail _ (List.Mem.tail _ (List.Mem.tail _ hbl)))))) (List.Mem.tail _ (List.Mem.tail _ (List.Mem.tail _ (List.Mem.tail _ (List.Mem.tail _ (List.Mem.tail _ hl1)))))) (List.Mem.tail _ (List.Mem.tail _ (List.Mem.tail _ (List.Mem.tail _ (List.Mem.tail _ (List.Mem.tail _ hl2)))))) (fun s8 g8 => ?_) (us.length - f) f _ (by omega) (Or.inl rfl)
            refine wp_new C (M40 hw) d40_175 (w178 hw) (w3 hw) (w2 hw) (cls_Str hw) (by omega) (by omega) fun a8 => ?_
            refine wp_seg C (M40 hw) [(.dup, 1), (.aload 6, 2), (.iconst 0, 1)] (by decide +kernel) (pc' := 182) (L' := [.val (.ref a), .val (.ref b), .val (.ref q), .val (.int (Int32.ofNat f)), .val (.int (Int32.ofNat us.length)), .val (.ref lg), .val (.ref a7), .val (.int (Int32.ofNat us.length)), s8]) (S' := [.int 0, .ref a7, .ref a8, .ref a8]) rfl ?_
            refine wp_front 1 rfl rfl ?_
            refine wp_freeze ?_
            refine wp_front 1 rfl rfl ?_
            refine wp_init C (M40 hw) d40_182 (M14 hw) rfl (w179 hw) (w180 hw) (by decide) (S' := [.ref a8]) a8 [.ref a7, .int 0] (lenOf pd14 rfl) rfl (L' := [.val (.ref a8), .val (.ref a7), .val (.int 0)]) rfl rfl (hR.push (d' := 1) (w' := 14) (Nat.le_of_ble_eq_true rfl) (Nat.le_of_ble_eq_true rfl)) ?_
            refine c_initb C hw (us := (us.map lowB)) (Meth.caller (M40 hw) d40_182) (hR.push (d' := 2) (w' := 26) (Nat.le_of_ble_eq_true rfl) (Nat.le_of_ble_eq_true rfl)) (List.mem_of_getElem? (i := 0) rfl) ?_
            refine wp_front 2 rfl rfl ?_
            refine wp_drop ?_
            refine wp_front 2 rfl rfl ?_
            refine wp_drop ?_
            refine wp_front 2 rfl rfl ?_
            refine wp_drop ?_
            refine wp_front 2 rfl rfl ?_
            refine wp_drop ?_
            refine wp_front 2 rfl rfl ?_
            refine wp_drop ?_
            refine wp_front 2 rfl rfl ?_
            refine wp_drop ?_
            exact wp_aret C (M40 hw) d40_185 rfl (t := .object "java/lang/String") rfl rfl Cr (K a8 a7)
theorem c_low {κ : Cx} (C : Ok κ) (hw : Ws κ) (hs : StrS κ) (hst : kS κ = false) (wS : StrW κ) (hE : kE κ = consts_1) {a q bl lg lb cdl : Addr} {us : List UInt8} (hl : us.length < 1000) (is : Sta (kZ κ) (kZ κ).heap "java/lang/CharacterDataLatin1" "instance" "Ljava/lang/CharacterDataLatin1;" (.ref cdl)) {yc : MethodName} {pcc : Nat} {Lc : List Slot} {Sc : List Value} {F : List Frame} {l : List Chunk} {k n : Nat} (Cr : Caller κ yc pcc 3) (hR : Rm κ (fr κ yc pcc Lc Sc :: F) 4 73) (st : Str l a us) (hq2 : (cdl, false, .inl ("java/lang/CharacterDataLatin1", [])) ∈ l) (hq : (q, false, .inl ("java/util/Locale", [("java/util/Locale", "baseLocale", "Lsun/util/locale/BaseLocale;", .ref bl)])) ∈ l) (hbl : (bl, false, .inl ("sun/util/locale/BaseLocale", [("sun/util/locale/BaseLocale", "language", "Ljava/lang/String;", .ref lg)])) ∈ l) (hl1 : strO lg lb 0 ∈ l) (hl2 : strB lb [] ∈ l) (hk : k + 2 + 2 + 2 + 1 + 1 ≤ (kR κ).cells) (hn : n + (8 + 4) + (8 + 4) + (8 + 4) + us.length + 4 ≤ (kR κ).slots) (K : ∀ a b, WP κ yc (pcc + 3) Lc (.ref a :: Sc) F (strO a b 0 :: strB b (us.map lowB) :: l) (k + 2 + 2 + 2 + 1 + 1) (n + (8 + 4) + (8 + 4) + (8 + 4) + us.length + 4)) :
    WP κ y41 0 [.val (.ref a), .val (.ref q)] [] (fr κ yc pcc Lc Sc :: F) (l) k n := by
  obtain ⟨b, ho, hb⟩ := st
  refine wp_seg C (M41 hw) [(.aload_n 0, 1)] (by decide +kernel) (pc' := 1) (L' := [.val (.ref a), .val (.ref q)]) (S' := [.ref a]) rfl ?_
  refine wp_invokevirtual C (M41 hw) d41_1 (M3 hw) (Cl := "java/lang/String") (w140 hw) (w141 hw) (w143 hw) (w142 hw) (Or.inl ⟨_, (w143 hw)⟩) (by decide) (b := a) ho (S' := []) [] (lenOf pd3 rfl) rfl (L' := [.val (.ref a)]) rfl rfl (hR.push (d' := 1) (w' := 12) (Nat.le_of_ble_eq_true rfl) (Nat.le_of_ble_eq_true rfl)) ?_
  refine c_isl C hw hs (Meth.caller (M41 hw) d41_1) ho ?_
  refine wp_iff C (M41 hw) d41_4 (XT.i0_eq_f (by decide)) ?_
  refine wp_seg C (M41 hw) [(.aload_n 0, 1), (.aload_n 0, 1)] (by decide +kernel) (pc' := 9) (L' := [.val (.ref a), .val (.ref q)]) (S' := [.ref a, .ref a]) rfl ?_
  refine wp_getfield C (M41 hw) d41_9 (w43 hw) (Or.inl rfl) (a := a) (mu := false) (Cl := "java/lang/String") (fs := [("java/lang/String", "value", "[B", .ref b), ("java/lang/String", "coder", "B", .int 0)]) ho (List.mem_of_getElem? (i := 0) rfl) ?_
  refine wp_seg C (M41 hw) [(.aload_n 1, 1)] (by decide +kernel) (pc' := 13) (L' := [.val (.ref a), .val (.ref q)]) (S' := [.ref q, .ref b, .ref a]) rfl ?_
  refine wp_invokestatic C (M41 hw) d41_13 (M40 hw) (w145 hw) (w146 hw) (w147 hw) (by decide) (S' := []) [.ref a, .ref b, .ref q] (lenOf pd40 rfl) rfl (L' := [.val (.ref a), .val (.ref b), .val (.ref q), .unset, .unset, .unset, .unset, .unset, .unset]) rfl rfl (hR.push (d' := 1) (w' := 20) (Nat.le_of_ble_eq_true rfl) (Nat.le_of_ble_eq_true rfl)) ?_
  refine c_l1low C hw hst wS hE hl is (Meth.caller (M41 hw) d41_13) (hR.push (d' := 3) (w' := 60) (Nat.le_of_ble_eq_true rfl) (Nat.le_of_ble_eq_true rfl)) ho hb hq2 hq hbl hl1 hl2 hk hn fun a' b' => ?_
  refine wp_seg C (M41 hw) [(.goto 12, 3)] (by decide +kernel) (pc' := 28) (L' := [.val (.ref a), .val (.ref q)]) (S' := [.ref a']) rfl ?_
  exact wp_aret C (M41 hw) d41_28 rfl (t := .object "java/lang/String") rfl rfl Cr (K a' b')
theorem c_pk0 {κ : Cx} (C : Ok κ) (hw : Ws κ) (hs : StrS κ) (hst : kS κ = false) (wS : StrW κ) (hE : kE κ = consts_1)  {yc : MethodName} {pcc : Nat} {Lc : List Slot} {Sc : List Value} {F : List Frame} {l : List Chunk} {k n : Nat} (Cr : Caller κ yc pcc 3) (hk : k + 2 ≤ (kR κ).cells) (hn : n + (152 + 4) ≤ (kR κ).slots) (K : ∀ a b, WP κ yc (pcc + 3) Lc (.ref a :: Sc) F (strO a b 0 :: strB b [99, 111, 109, 46, 101, 120, 97, 109, 112, 108, 101, 46, 115, 116, 114, 105, 110, 103, 108, 105, 110, 101, 46, 115, 116, 114, 105, 110, 103, 108, 105, 110, 101, 46, 98, 105, 100, 105] :: l) (k + 2) (n + (152 + 4))) :
    WP κ y42 0 [.val (.null)] [] (fr κ yc pcc Lc Sc :: F) (l) k n := by
  refine wp_seg C (M42 hw) [(.aload_n 0, 1)] (by decide +kernel) (pc' := 1) (L' := [.val (.null)]) (S' := [.null]) rfl ?_
  refine wp_nonnullf C (M42 hw) d42_1 ?_
  refine wp_ldcS C hst wS (M42 hw) d42_4 (w13 hw) (by rw [hE]; exact List.mem_of_getElem? (i := 0) rfl) [99, 111, 109, 46, 101, 120, 97, 109, 112, 108, 101, 46, 115, 116, 114, 105, 110, 103, 108, 105, 110, 101, 46, 115, 116, 114, 105, 110, 103, 108, 105, 110, 101, 46, 98, 105, 100, 105] (by decide +kernel) (m := 152) (by decide) (by decide) (Nat.le_trans (by omega) hk) (Nat.le_trans (by omega) hn) fun s1 s2 => ?_
  refine wp_seg C (M42 hw) [(.goto 28, 3)] (by decide +kernel) (pc' := 34) (L' := [.val (.null)]) (S' := [.ref s1]) rfl ?_
  exact wp_aret C (M42 hw) d42_34 rfl (t := .object "java/lang/String") rfl rfl Cr (K s1 s2)
theorem c_pk1 {κ : Cx} (C : Ok κ) (hw : Ws κ) (hs : StrS κ) (hst : kS κ = false) (wS : StrW κ) (hE : kE κ = consts_1) {a q bl lg lb cdl : Addr} (is : Sta (kZ κ) (kZ κ).heap "java/lang/CharacterDataLatin1" "instance" "Ljava/lang/CharacterDataLatin1;" (.ref cdl)) (rs_ : Sta (kZ κ) (kZ κ).heap "java/util/Locale" "ROOT" "Ljava/util/Locale;" (.ref q)) {yc : MethodName} {pcc : Nat} {Lc : List Slot} {Sc : List Value} {F : List Frame} {l : List Chunk} {k n : Nat} (Cr : Caller κ yc pcc 3) (hR : Rm κ (fr κ yc pcc Lc Sc :: F) 7 109) (st : Str l a ([] : List UInt8)) (hq2 : (cdl, false, .inl ("java/lang/CharacterDataLatin1", [])) ∈ l) (hq : (q, false, .inl ("java/util/Locale", [("java/util/Locale", "baseLocale", "Lsun/util/locale/BaseLocale;", .ref bl)])) ∈ l) (hbl : (bl, false, .inl ("sun/util/locale/BaseLocale", [("sun/util/locale/BaseLocale", "language", "Ljava/lang/String;", .ref lg)])) ∈ l) (hl1 : strO lg lb 0 ∈ l) (hl2 : strB lb [] ∈ l) (hk : k + 20 ≤ (kR κ).cells) (hn : n + 700 ≤ (kR κ).slots) (K : ∀ a b, WP κ yc (pcc + 3) Lc (.ref a :: Sc) F (strO a b 0 :: strB b (([] ++ [99, 111, 109, 46, 101, 120, 97, 109, 112, 108, 101, 46, 115, 116, 114, 105, 110, 103, 108, 105, 110, 101, 46, 115, 116, 114, 105, 110, 103, 108, 105, 110, 101, 46, 98, 105, 100, 105, 46]) ++ (([] : List UInt8).map lowB)) :: l) (k + 20) (n + 700)) :
    WP κ y42 0 [.val (.ref a)] [] (fr κ yc pcc Lc Sc :: F) (l) k n := by
  have st0 := st
  obtain ⟨b, ho, hb⟩ := st
  refine wp_seg C (M42 hw) [(.aload_n 0, 1)] (by decide +kernel) (pc' := 1) (L' := [.val (.ref a)]) (S' := [.ref a]) rfl ?_
  refine wp_nonnullt C (M42 hw) d42_1 (pc' := 9) (by decide) ?_
  refine wp_new C (M42 hw) d42_9 (w44 hw) (w45 hw) (w46 hw) (cls_SB hw) (by omega) (by omega) fun a1 => ?_
  refine wp_seg C (M42 hw) [(.dup, 1)] (by decide +kernel) (pc' := 13) (L' := [.val (.ref a)]) (S' := [.ref a1, .ref a1]) rfl ?_
  refine wp_init C (M42 hw) d42_13 (M18 hw) rfl (w47 hw) (w48 hw) (by decide) (S' := [.ref a1]) a1 [] (lenOf pd18 rfl) rfl (L' := [.val (.ref a1)]) rfl rfl (hR.push (d' := 1) (w' := 12) (Nat.le_of_ble_eq_true rfl) (Nat.le_of_ble_eq_true rfl)) ?_
  refine c_sbi0 C hw hs (Meth.caller (M42 hw) d42_13) (hR.push (d' := 3) (w' := 37) (Nat.le_of_ble_eq_true rfl) (Nat.le_of_ble_eq_true rfl)) (by omega) (by omega) fun v => ?_
  refine wp_ldcS C hst wS (M42 hw) d42_16 (w62 hw) (by rw [hE]; exact List.mem_of_getElem? (i := 1) rfl) [99, 111, 109, 46, 101, 120, 97, 109, 112, 108, 101, 46, 115, 116, 114, 105, 110, 103, 108, 105, 110, 101, 46, 115, 116, 114, 105, 110, 103, 108, 105, 110, 101, 46, 98, 105, 100, 105, 46] (by decide +kernel) (m := 156) (by decide) (by decide) (by omega) (by omega) fun s2 s3 => ?_
  refine wp_front 2 rfl rfl ?_
  refine wp_front 3 rfl rfl ?_
  refine wp_front 1 rfl rfl ?_
  refine wp_invokevirtual C (M42 hw) d42_18 (M25 hw) (Cl := "java/lang/StringBuilder") (w63 hw) (w64 hw) (w66 hw) (w65 hw) (Or.inl ⟨_, (w66 hw)⟩) (by decide) (b := a1) (List.mem_of_getElem? (i := 0) rfl) (S' := []) [.ref s2] (lenOf pd25 rfl) rfl (L' := [.val (.ref a1), .val (.ref s2)]) rfl rfl (hR.push (d' := 1) (w' := 13) (Nat.le_of_ble_eq_true rfl) (Nat.le_of_ble_eq_true rfl)) ?_
  refine c_sasG1 C hw hs (us := []) (vs := [99, 111, 109, 46, 101, 120, 97, 109, 112, 108, 101, 46, 115, 116, 114, 105, 110, 103, 108, 105, 110, 101, 46, 115, 116, 114, 105, 110, 103, 108, 105, 110, 101, 46, 98, 105, 100, 105, 46]) (by decide) (by decide) (Meth.caller (M42 hw) d42_18) (hR.push (d' := 6) (w' := 96) (Nat.le_of_ble_eq_true rfl) (Nat.le_of_ble_eq_true rfl)) ⟨s3, List.mem_of_getElem? (i := 0) rfl, List.mem_of_getElem? (i := 1) rfl⟩ (by omega) (by omega) fun c1 => ?_
  refine wp_seg C (M42 hw) [(.aload_n 0, 1)] (by decide +kernel) (pc' := 22) (L' := [.val (.ref a)]) (S' := [.ref a, .ref a1]) rfl ?_
  refine wp_getstatic C (M42 hw) d42_22 (w133 hw) (Or.inl rfl) rs_ ?_
  refine wp_invokevirtual C (M42 hw) d42_25 (M41 hw) (Cl := "java/lang/String") (w135 hw) (w136 hw) (w138 hw) (w137 hw) (Or.inl ⟨_, (w138 hw)⟩) (by decide) (b := a) (List.Mem.tail _ (List.Mem.tail _ (List.Mem.tail _ (List.Mem.tail _ ho)))) (S' := [.ref a1]) [.ref q] (lenOf pd41 rfl) rfl (L' := [.val (.ref a), .val (.ref q)]) rfl rfl (hR.push (d' := 1) (w' := 13) (Nat.le_of_ble_eq_true rfl) (Nat.le_of_ble_eq_true rfl)) ?_
  refine c_low C hw hs hst wS hE (us := ([] : List UInt8)) (Nat.le_of_ble_eq_true rfl) is (Meth.caller (M42 hw) d42_25) (hR.push (d' := 4) (w' := 73) (Nat.le_of_ble_eq_true rfl) (Nat.le_of_ble_eq_true rfl)) (st0.mono fun _ q => (List.Mem.tail _ (List.Mem.tail _ (List.Mem.tail _ (List.Mem.tail _ q))))) (List.Mem.tail _ (List.Mem.tail _ (List.Mem.tail _ (List.Mem.tail _ hq2)))) (List.Mem.tail _ (List.Mem.tail _ (List.Mem.tail _ (List.Mem.tail _ hq)))) (List.Mem.tail _ (List.Mem.tail _ (List.Mem.tail _ (List.Mem.tail _ hbl)))) (List.Mem.tail _ (List.Mem.tail _ (List.Mem.tail _ (List.Mem.tail _ hl1)))) (List.Mem.tail _ (List.Mem.tail _ (List.Mem.tail _ (List.Mem.tail _ hl2)))) (by omega) (by simp <;> omega) fun a2 b2 => ?_
  refine wp_front 2 rfl rfl ?_
  refine wp_front 3 rfl rfl ?_
  refine wp_front 1 rfl rfl ?_
  refine wp_invokevirtual C (M42 hw) d42_28 (M25 hw) (Cl := "java/lang/StringBuilder") (w63 hw) (w64 hw) (w66 hw) (w65 hw) (Or.inl ⟨_, (w66 hw)⟩) (by decide) (b := a1) (List.mem_of_getElem? (i := 0) rfl) (S' := []) [.ref a2] (lenOf pd25 rfl) rfl (L' := [.val (.ref a1), .val (.ref a2)]) rfl rfl (hR.push (d' := 1) (w' := 13) (Nat.le_of_ble_eq_true rfl) (Nat.le_of_ble_eq_true rfl)) ?_
  refine c_sas C hw hs (us := ([] ++ [99, 111, 109, 46, 101, 120, 97, 109, 112, 108, 101, 46, 115, 116, 114, 105, 110, 103, 108, 105, 110, 101, 46, 115, 116, 114, 105, 110, 103, 108, 105, 110, 101, 46, 98, 105, 100, 105, 46])) (vs := (([] : List UInt8).map lowB)) (cap := 39) (by decide) (by decide) (Meth.caller (M42 hw) d42_28) (hR.push (d' := 5) (w' := 96) (Nat.le_of_ble_eq_true rfl) (Nat.le_of_ble_eq_true rfl)) ⟨b2, List.mem_of_getElem? (i := 0) rfl, List.mem_of_getElem? (i := 1) rfl⟩ ?_
  rw [show sbl (([] ++ [99, 111, 109, 46, 101, 120, 97, 109, 112, 108, 101, 46, 115, 116, 114, 105, 110, 103, 108, 105, 110, 101, 46, 115, 116, 114, 105, 110, 103, 108, 105, 110, 101, 46, 98, 105, 100, 105, 46]) ++ (([] : List UInt8).map lowB)) 39 = (([] ++ [99, 111, 109, 46, 101, 120, 97, 109, 112, 108, 101, 46, 115, 116, 114, 105, 110, 103, 108, 105, 110, 101, 46, 115, 116, 114, 105, 110, 103, 108, 105, 110, 101, 46, 98, 105, 100, 105, 46]) ++ (([] : List UInt8).map lowB)) from sbl_full (([] ++ [99, 111, 109, 46, 101, 120, 97, 109, 112, 108, 101, 46, 115, 116, 114, 105, 110, 103, 108, 105, 110, 101, 46, 115, 116, 114, 105, 110, 103, 108, 105, 110, 101, 46, 98, 105, 100, 105, 46]) ++ (([] : List UInt8).map lowB))]
  refine wp_invokevirtual C (M42 hw) d42_31 (M31 hw) (Cl := "java/lang/StringBuilder") (w182 hw) (w183 hw) (w185 hw) (w184 hw) (Or.inl ⟨_, (w185 hw)⟩) (by decide) (b := a1) (List.mem_of_getElem? (i := 0) rfl) (S' := []) [] (lenOf pd31 rfl) rfl (L' := [.val (.ref a1)]) rfl rfl (hR.push (d' := 1) (w' := 12) (Nat.le_of_ble_eq_true rfl) (Nat.le_of_ble_eq_true rfl)) ?_
  refine c_tosF C hw hs (us := (([] ++ [99, 111, 109, 46, 101, 120, 97, 109, 112, 108, 101, 46, 115, 116, 114, 105, 110, 103, 108, 105, 110, 101, 46, 115, 116, 114, 105, 110, 103, 108, 105, 110, 101, 46, 98, 105, 100, 105, 46]) ++ (([] : List UInt8).map lowB))) (mo := true) (by decide) (Meth.caller (M42 hw) d42_31) (hR.push (d' := 5) (w' := 97) (Nat.le_of_ble_eq_true rfl) (Nat.le_of_ble_eq_true rfl)) (List.mem_of_getElem? (i := 0) rfl) (List.mem_of_getElem? (i := 1) rfl) (by omega) (by simp <;> omega) fun z y => ?_
  refine wp_front 2 rfl rfl ?_
  refine wp_drop ?_
  refine wp_front 2 rfl rfl ?_
  refine wp_drop ?_
  refine wp_front 2 rfl rfl ?_
  refine wp_drop ?_
  refine wp_front 2 rfl rfl ?_
  refine wp_drop ?_
  refine wp_front 2 rfl rfl ?_
  refine wp_drop ?_
  refine wp_front 2 rfl rfl ?_
  refine wp_drop ?_
  refine wp_room (k' := k + 20) (n' := n + 700) (by omega) (by simp <;> omega) hk hn ?_
  exact wp_aret C (M42 hw) d42_34 rfl (t := .object "java/lang/String") rfl rfl Cr (K z y)
theorem c_pk3 {κ : Cx} (C : Ok κ) (hw : Ws κ) (hs : StrS κ) (hst : kS κ = false) (wS : StrW κ) (hE : kE κ = consts_1) {a q bl lg lb cdl : Addr} {u0 u1 u2 : UInt8} (is : Sta (kZ κ) (kZ κ).heap "java/lang/CharacterDataLatin1" "instance" "Ljava/lang/CharacterDataLatin1;" (.ref cdl)) (rs_ : Sta (kZ κ) (kZ κ).heap "java/util/Locale" "ROOT" "Ljava/util/Locale;" (.ref q)) {yc : MethodName} {pcc : Nat} {Lc : List Slot} {Sc : List Value} {F : List Frame} {l : List Chunk} {k n : Nat} (Cr : Caller κ yc pcc 3) (hR : Rm κ (fr κ yc pcc Lc Sc :: F) 7 125) (st : Str l a [u0, u1, u2]) (hq2 : (cdl, false, .inl ("java/lang/CharacterDataLatin1", [])) ∈ l) (hq : (q, false, .inl ("java/util/Locale", [("java/util/Locale", "baseLocale", "Lsun/util/locale/BaseLocale;", .ref bl)])) ∈ l) (hbl : (bl, false, .inl ("sun/util/locale/BaseLocale", [("sun/util/locale/BaseLocale", "language", "Ljava/lang/String;", .ref lg)])) ∈ l) (hl1 : strO lg lb 0 ∈ l) (hl2 : strB lb [] ∈ l) (hk : k + 20 ≤ (kR κ).cells) (hn : n + 700 ≤ (kR κ).slots) (K : ∀ a b, WP κ yc (pcc + 3) Lc (.ref a :: Sc) F (strO a b 0 :: strB b (([] ++ [99, 111, 109, 46, 101, 120, 97, 109, 112, 108, 101, 46, 115, 116, 114, 105, 110, 103, 108, 105, 110, 101, 46, 115, 116, 114, 105, 110, 103, 108, 105, 110, 101, 46, 98, 105, 100, 105, 46]) ++ ([u0, u1, u2].map lowB)) :: l) (k + 20) (n + 700)) :
    WP κ y42 0 [.val (.ref a)] [] (fr κ yc pcc Lc Sc :: F) (l) k n := by
  have st0 := st
  obtain ⟨b, ho, hb⟩ := st
  refine wp_seg C (M42 hw) [(.aload_n 0, 1)] (by decide +kernel) (pc' := 1) (L' := [.val (.ref a)]) (S' := [.ref a]) rfl ?_
  refine wp_nonnullt C (M42 hw) d42_1 (pc' := 9) (by decide) ?_
  refine wp_new C (M42 hw) d42_9 (w44 hw) (w45 hw) (w46 hw) (cls_SB hw) (by omega) (by omega) fun a1 => ?_
  refine wp_seg C (M42 hw) [(.dup, 1)] (by decide +kernel) (pc' := 13) (L' := [.val (.ref a)]) (S' := [.ref a1, .ref a1]) rfl ?_
  refine wp_init C (M42 hw) d42_13 (M18 hw) rfl (w47 hw) (w48 hw) (by decide) (S' := [.ref a1]) a1 [] (lenOf pd18 rfl) rfl (L' := [.val (.ref a1)]) rfl rfl (hR.push (d' := 1) (w' := 12) (Nat.le_of_ble_eq_true rfl) (Nat.le_of_ble_eq_true rfl)) ?_
  refine c_sbi0 C hw hs (Meth.caller (M42 hw) d42_13) (hR.push (d' := 3) (w' := 37) (Nat.le_of_ble_eq_true rfl) (Nat.le_of_ble_eq_true rfl)) (by omega) (by omega) fun v => ?_
  refine wp_ldcS C hst wS (M42 hw) d42_16 (w62 hw) (by rw [hE]; exact List.mem_of_getElem? (i := 1) rfl) [99, 111, 109, 46, 101, 120, 97, 109, 112, 108, 101, 46, 115, 116, 114, 105, 110, 103, 108, 105, 110, 101, 46, 115, 116, 114, 105, 110, 103, 108, 105, 110, 101, 46, 98, 105, 100, 105, 46] (by decide +kernel) (m := 156) (by decide) (by decide) (by omega) (by omega) fun s2 s3 => ?_
  refine wp_front 2 rfl rfl ?_
  refine wp_front 3 rfl rfl ?_
  refine wp_front 1 rfl rfl ?_
  refine wp_invokevirtual C (M42 hw) d42_18 (M25 hw) (Cl := "java/lang/StringBuilder") (w63 hw) (w64 hw) (w66 hw) (w65 hw) (Or.inl ⟨_, (w66 hw)⟩) (by decide) (b := a1) (List.mem_of_getElem? (i := 0) rfl) (S' := []) [.ref s2] (lenOf pd25 rfl) rfl (L' := [.val (.ref a1), .val (.ref s2)]) rfl rfl (hR.push (d' := 1) (w' := 13) (Nat.le_of_ble_eq_true rfl) (Nat.le_of_ble_eq_true rfl)) ?_
  refine c_sasG1 C hw hs (us := []) (vs := [99, 111, 109, 46, 101, 120, 97, 109, 112, 108, 101, 46, 115, 116, 114, 105, 110, 103, 108, 105, 110, 101, 46, 115, 116, 114, 105, 110, 103, 108, 105, 110, 101, 46, 98, 105, 100, 105, 46]) (by decide) (by decide) (Meth.caller (M42 hw) d42_18) (hR.push (d' := 6) (w' := 96) (Nat.le_of_ble_eq_true rfl) (Nat.le_of_ble_eq_true rfl)) ⟨s3, List.mem_of_getElem? (i := 0) rfl, List.mem_of_getElem? (i := 1) rfl⟩ (by omega) (by omega) fun c1 => ?_
  refine wp_seg C (M42 hw) [(.aload_n 0, 1)] (by decide +kernel) (pc' := 22) (L' := [.val (.ref a)]) (S' := [.ref a, .ref a1]) rfl ?_
  refine wp_getstatic C (M42 hw) d42_22 (w133 hw) (Or.inl rfl) rs_ ?_
  refine wp_invokevirtual C (M42 hw) d42_25 (M41 hw) (Cl := "java/lang/String") (w135 hw) (w136 hw) (w138 hw) (w137 hw) (Or.inl ⟨_, (w138 hw)⟩) (by decide) (b := a) (List.Mem.tail _ (List.Mem.tail _ (List.Mem.tail _ (List.Mem.tail _ ho)))) (S' := [.ref a1]) [.ref q] (lenOf pd41 rfl) rfl (L' := [.val (.ref a), .val (.ref q)]) rfl rfl (hR.push (d' := 1) (w' := 13) (Nat.le_of_ble_eq_true rfl) (Nat.le_of_ble_eq_true rfl)) ?_
  refine c_low C hw hs hst wS hE (us := [u0, u1, u2]) (Nat.le_of_ble_eq_true rfl) is (Meth.caller (M42 hw) d42_25) (hR.push (d' := 4) (w' := 73) (Nat.le_of_ble_eq_true rfl) (Nat.le_of_ble_eq_true rfl)) (st0.mono fun _ q => (List.Mem.tail _ (List.Mem.tail _ (List.Mem.tail _ (List.Mem.tail _ q))))) (List.Mem.tail _ (List.Mem.tail _ (List.Mem.tail _ (List.Mem.tail _ hq2)))) (List.Mem.tail _ (List.Mem.tail _ (List.Mem.tail _ (List.Mem.tail _ hq)))) (List.Mem.tail _ (List.Mem.tail _ (List.Mem.tail _ (List.Mem.tail _ hbl)))) (List.Mem.tail _ (List.Mem.tail _ (List.Mem.tail _ (List.Mem.tail _ hl1)))) (List.Mem.tail _ (List.Mem.tail _ (List.Mem.tail _ (List.Mem.tail _ hl2)))) (by omega) (by simp <;> omega) fun a2 b2 => ?_
  refine wp_front 2 rfl rfl ?_
  refine wp_front 3 rfl rfl ?_
  refine wp_front 1 rfl rfl ?_
  refine wp_invokevirtual C (M42 hw) d42_28 (M25 hw) (Cl := "java/lang/StringBuilder") (w63 hw) (w64 hw) (w66 hw) (w65 hw) (Or.inl ⟨_, (w66 hw)⟩) (by decide) (b := a1) (List.mem_of_getElem? (i := 0) rfl) (S' := []) [.ref a2] (lenOf pd25 rfl) rfl (L' := [.val (.ref a1), .val (.ref a2)]) rfl rfl (hR.push (d' := 1) (w' := 13) (Nat.le_of_ble_eq_true rfl) (Nat.le_of_ble_eq_true rfl)) ?_
  refine c_sasG2 C hw hs (us := ([] ++ [99, 111, 109, 46, 101, 120, 97, 109, 112, 108, 101, 46, 115, 116, 114, 105, 110, 103, 108, 105, 110, 101, 46, 115, 116, 114, 105, 110, 103, 108, 105, 110, 101, 46, 98, 105, 100, 105, 46])) (vs := ([u0, u1, u2].map lowB)) (by decide) rfl (Meth.caller (M42 hw) d42_28) (hR.push (d' := 6) (w' := 96) (Nat.le_of_ble_eq_true rfl) (Nat.le_of_ble_eq_true rfl)) ⟨b2, List.mem_of_getElem? (i := 0) rfl, List.mem_of_getElem? (i := 1) rfl⟩ (by omega) (by simp <;> omega) fun c2 => ?_
  refine wp_front 1 rfl rfl ?_
  refine wp_freeze ?_
  refine wp_invokevirtual C (M42 hw) d42_31 (M31 hw) (Cl := "java/lang/StringBuilder") (w182 hw) (w183 hw) (w185 hw) (w184 hw) (Or.inl ⟨_, (w185 hw)⟩) (by decide) (b := a1) (List.mem_of_getElem? (i := 1) rfl) (S' := []) [] (lenOf pd31 rfl) rfl (L' := [.val (.ref a1)]) rfl rfl (hR.push (d' := 1) (w' := 12) (Nat.le_of_ble_eq_true rfl) (Nat.le_of_ble_eq_true rfl)) ?_
  refine c_tos C hw hs (us := (([] ++ [99, 111, 109, 46, 101, 120, 97, 109, 112, 108, 101, 46, 115, 116, 114, 105, 110, 103, 108, 105, 110, 101, 46, 115, 116, 114, 105, 110, 103, 108, 105, 110, 101, 46, 98, 105, 100, 105, 46]) ++ ([u0, u1, u2].map lowB))) (cap := 80) (mo := true) (by decide) (by simp) (Meth.caller (M42 hw) d42_31) (hR.push (d' := 6) (w' := 113) (Nat.le_of_ble_eq_true rfl) (Nat.le_of_ble_eq_true rfl)) (List.mem_of_getElem? (i := 1) rfl) (List.mem_of_getElem? (i := 0) rfl) (by omega) (by simp <;> omega) fun z y => ?_
  refine wp_front 2 rfl rfl ?_
  refine wp_drop ?_
  refine wp_front 2 rfl rfl ?_
  refine wp_drop ?_
  refine wp_front 2 rfl rfl ?_
  refine wp_drop ?_
  refine wp_front 2 rfl rfl ?_
  refine wp_drop ?_
  refine wp_front 2 rfl rfl ?_
  refine wp_drop ?_
  refine wp_front 2 rfl rfl ?_
  refine wp_drop ?_
  refine wp_room (k' := k + 20) (n' := n + 700) (by omega) (by simp <;> omega) hk hn ?_
  exact wp_aret C (M42 hw) d42_34 rfl (t := .object "java/lang/String") rfl rfl Cr (K z y)
set_option maxRecDepth 65536 in
set_option maxHeartbeats 4000000 in
theorem law_wp {κ : Cx} (C : Ok κ) (hw : Ws κ) (hr : kR κ = room_1) (hx : kx κ = maxLocals) (hst : kS κ = false) (hE : kE κ = consts_1) (hs : StrS κ) (wS : StrW κ) (hj : ∀ d ∈ jdkStatics_1, Wd κ d) (sel : Int32) (a : Int32) (b : Int32) (c : Int32) :
    WP κ y0 0 [.val (.int sel), .val (.int a), .val (.int b), .val (.int c), .unset, .unset, .unset, .unset, .unset, .unset, .unset] [] [] [] 0 0 := by
  obtain ⟨q, qe⟩ := exa_v (Cond.before_iff.mp (hj _ (List.mem_of_getElem? (i := 11) rfl)))
  have qX := Exa.start qe (Cond.before_iff.mp (hj _ (List.mem_of_getElem? (i := 11) rfl)))
  have rs_ := Sta.start qe (Or.inl (hj _ (List.mem_of_getElem? (i := 10) rfl)))
  obtain ⟨bl, ble⟩ := exa_v (Cond.before_iff.mp (hj _ (List.mem_of_getElem? (i := 12) rfl)))
  have blX := Exa.start ble (Cond.before_iff.mp (hj _ (List.mem_of_getElem? (i := 12) rfl)))
  have qF := Fld.start ((fld_at qe).symm.trans ble)
  obtain ⟨lg, lge⟩ := exa_v (Cond.before_iff.mp (hj _ (List.mem_of_getElem? (i := 13) rfl)))
  have lgX := Exa.start lge (Cond.before_iff.mp (hj _ (List.mem_of_getElem? (i := 13) rfl)))
  have blF := Fld.start ((fld_at ble).symm.trans lge)
  have cdF := Fld.start ((fld_at lge).symm.trans (eqi_v (Cond.before_iff.mp (hj _ (List.mem_of_getElem? (i := 14) rfl)))))
  obtain ⟨lb, lbe⟩ := exa_v (Cond.before_iff.mp (hj _ (List.mem_of_getElem? (i := 16) rfl)))
  have vlF := Fld.start ((fld_at lge).symm.trans lbe)
  obtain ⟨lc, lA⟩ := Arr.start lbe (Cond.before_iff.mp (hj _ (List.mem_of_getElem? (i := 15) rfl)))
  have lz := len0_v lbe lA (Cond.before_iff.mp (hj _ (List.mem_of_getElem? (i := 17) rfl)))
  obtain ⟨cdl, cde⟩ := exa_v (Cond.before_iff.mp (hj _ (List.mem_of_getElem? (i := 20) rfl)))
  have cdX := Exa.start cde (Cond.before_iff.mp (hj _ (List.mem_of_getElem? (i := 20) rfl)))
  have is := Sta.start cde (Or.inl (hj _ (List.mem_of_getElem? (i := 19) rfl)))
  refine wp_old (a := lb) (c := .inr (.byte, ([] : List UInt8).map byv)) ⟨lc, lA, lz, (fun C h => by cases h), fun h => by cases h⟩ ?_
  have nS : ([("java/lang/String", "value", "[B", Value.ref lb), ("java/lang/String", "coder", "B", Value.int 0)].map (fslot κ)).Nodup := by
    have q := (cls_Str hw).2
    simpa [fslot] using q
  refine wp_old (a := lg) (c := .inl ("java/lang/String", [("java/lang/String", "value", "[B", .ref lb), ("java/lang/String", "coder", "B", .int 0)])) ⟨lgX, fun f hf => ?_, nS⟩ ?_
  · simp only [List.mem_cons, List.not_mem_nil, or_false] at hf
    rcases hf with rfl | rfl
    · exact vlF
    · exact cdF
  refine wp_old (a := bl) (c := .inl ("sun/util/locale/BaseLocale", [("sun/util/locale/BaseLocale", "language", "Ljava/lang/String;", .ref lg)])) ⟨blX, fun f hf => by rw [List.mem_singleton] at hf; subst hf; exact blF, by simp⟩ ?_
  refine wp_old (a := q) (c := .inl ("java/util/Locale", [("java/util/Locale", "baseLocale", "Lsun/util/locale/BaseLocale;", .ref bl)])) ⟨qX, fun f hf => by rw [List.mem_singleton] at hf; subst hf; exact qF, by simp⟩ ?_
  refine wp_old (a := cdl) (c := .inl ("java/lang/CharacterDataLatin1", [])) ⟨cdX, (fun f hf => nomatch hf), by simp⟩ ?_
  refine wp_seg C (M0 hw) [(.iload_n 0, 1), (.iconst 3, 1), (.iand, 1)] (by decide +kernel) (pc' := 3) (L' := [.val (.int sel), .val (.int a), .val (.int b), .val (.int c), .unset, .unset, .unset, .unset, .unset, .unset, .unset]) (S' := [.int (sel &&& (3 : Int32))]) rfl ?_
  have h3 := and3 sel
  generalize sel &&& 3 = kd at h3 ⊢
  refine wp_seg C (M0 hw) [(.istore 4, 2), (.iload 4, 2)] (by decide +kernel) (pc' := 7) (L' := [.val (.int sel), .val (.int a), .val (.int b), .val (.int c), .val (.int kd), .unset, .unset, .unset, .unset, .unset, .unset]) (S' := [.int kd]) rfl ?_
  by_cases k0 : kd = 0
  · refine wp_iff C (M0 hw) d0_7 (XT.i0_ne_f k0) ?_
    refine wp_ldcS C hst wS (M0 hw) d0_10 (w1 hw) (by rw [hE]; exact List.mem_of_getElem? (i := 2) rfl) [99, 111, 109, 46, 101, 120, 97, 109, 112, 108, 101, 46, 115, 116, 114, 105, 110, 103, 108, 105, 110, 101, 46, 115, 116, 114, 105, 110, 103, 108, 105, 110, 101, 46, 98, 105, 100, 105] (by decide +kernel) (m := 152) (by decide) (by decide) (rc hr (Nat.le_of_ble_eq_true rfl)) (rs hr (Nat.le_of_ble_eq_true rfl)) fun s1 s2 => ?_
    refine wp_seg C (M0 hw) [(.aconst_null, 1)] (by decide +kernel) (pc' := 13) (L' := [.val (.int sel), .val (.int a), .val (.int b), .val (.int c), .val (.int kd), .unset, .unset, .unset, .unset, .unset, .unset]) (S' := [.null, .ref s1]) rfl ?_
    refine wp_invokestatic C (M0 hw) d0_13 (M42 hw) (w9 hw) (w10 hw) (w11 hw) (by decide) (S' := [.ref s1]) [.null] (lenOf pd42 rfl) rfl (L' := [.val (.null)]) rfl rfl (Rm.law (d := 1) (w := 12) hr hx (Nat.le_of_ble_eq_true rfl) (Nat.le_of_ble_eq_true rfl)) ?_
    refine c_pk0 C hw hs hst wS hE (Meth.caller (M0 hw) d0_13) (rc hr (Nat.le_of_ble_eq_true rfl)) (rs hr (Nat.le_of_ble_eq_true rfl)) fun r t => ?_
    refine wp_invokevirtual C (M0 hw) d0_16 (M16 hw) (Cl := "java/lang/String") (w14 hw) (w15 hw) (w17 hw) (w16 hw) (Or.inl ⟨_, (w17 hw)⟩) (by decide) (b := s1) (List.mem_of_getElem? (i := 2) rfl) (S' := []) [.ref r] (lenOf pd16 rfl) rfl (L' := [.val (.ref s1), .val (.ref r), .unset]) rfl rfl (Rm.law (d := 1) (w := 14) hr hx (Nat.le_of_ble_eq_true rfl) (Nat.le_of_ble_eq_true rfl)) ?_
    refine c_eq C hw hs (us := [99, 111, 109, 46, 101, 120, 97, 109, 112, 108, 101, 46, 115, 116, 114, 105, 110, 103, 108, 105, 110, 101, 46, 115, 116, 114, 105, 110, 103, 108, 105, 110, 101, 46, 98, 105, 100, 105]) (vs := [99, 111, 109, 46, 101, 120, 97, 109, 112, 108, 101, 46, 115, 116, 114, 105, 110, 103, 108, 105, 110, 101, 46, 115, 116, 114, 105, 110, 103, 108, 105, 110, 101, 46, 98, 105, 100, 105]) (by decide) (by decide) (Or.inr rfl) (Meth.caller (M0 hw) d0_16) (Rm.law (d := 2) (w := 28) hr hx (Nat.le_of_ble_eq_true rfl) (Nat.le_of_ble_eq_true rfl)) ⟨s2, (List.mem_of_getElem? (i := 2) rfl), (List.mem_of_getElem? (i := 3) rfl)⟩ ⟨t, (List.mem_of_getElem? (i := 0) rfl), (List.mem_of_getElem? (i := 1) rfl)⟩ ?_
    rw [bi_t (show ([99, 111, 109, 46, 101, 120, 97, 109, 112, 108, 101, 46, 115, 116, 114, 105, 110, 103, 108, 105, 110, 101, 46, 115, 116, 114, 105, 110, 103, 108, 105, 110, 101, 46, 98, 105, 100, 105] : List UInt8) = [99, 111, 109, 46, 101, 120, 97, 109, 112, 108, 101, 46, 115, 116, 114, 105, 110, 103, 108, 105, 110, 101, 46, 115, 116, 114, 105, 110, 103, 108, 105, 110, 101, 46, 98, 105, 100, 105] from rfl)]
    exact wp_end C (M0 hw) d0_19
  · refine wp_ift C (M0 hw) d0_7 (XT.i0_ne_t k0) (pc' := 20) (by decide) ?_
    refine wp_seg C (M0 hw) [(.iload 4, 2), (.iconst 1, 1)] (by decide +kernel) (pc' := 23) (L' := [.val (.int sel), .val (.int a), .val (.int b), .val (.int c), .val (.int kd), .unset, .unset, .unset, .unset, .unset, .unset]) (S' := [.int 1, .int kd]) rfl ?_
    by_cases k1 : kd = 1
    · refine wp_icf C (M0 hw) d0_23 (XT.ii_ne_f k1) ?_
      refine wp_ldcS C hst wS (M0 hw) d0_26 (w229 hw) (by rw [hE]; exact List.mem_of_getElem? (i := 3) rfl) [99, 111, 109, 46, 101, 120, 97, 109, 112, 108, 101, 46, 115, 116, 114, 105, 110, 103, 108, 105, 110, 101, 46, 115, 116, 114, 105, 110, 103, 108, 105, 110, 101, 46, 98, 105, 100, 105, 46] (by decide +kernel) (m := 156) (by decide) (by decide) (rc hr (Nat.le_of_ble_eq_true rfl)) (rs hr (Nat.le_of_ble_eq_true rfl)) fun s3 s4 => ?_
      refine wp_ldcS C hst wS (M0 hw) d0_28 (w230 hw) (by rw [hE]; exact List.mem_of_getElem? (i := 4) rfl) [] (by decide +kernel) (m := 0) (by decide) (by decide) (rc hr (Nat.le_of_ble_eq_true rfl)) (rs hr (Nat.le_of_ble_eq_true rfl)) fun s5 s6 => ?_
      refine wp_invokestatic C (M0 hw) d0_30 (M42 hw) (w9 hw) (w10 hw) (w11 hw) (by decide) (S' := [.ref s3]) [.ref s5] (lenOf pd42 rfl) rfl (L' := [.val (.ref s5)]) rfl rfl (Rm.law (d := 1) (w := 12) hr hx (Nat.le_of_ble_eq_true rfl) (Nat.le_of_ble_eq_true rfl)) ?_
      refine c_pk1 C hw hs hst wS hE is rs_ (Meth.caller (M0 hw) d0_30) (Rm.law (d := 7) (w := 109) hr hx (Nat.le_of_ble_eq_true rfl) (Nat.le_of_ble_eq_true rfl)) ⟨s6, (List.mem_of_getElem? (i := 0) rfl), (List.mem_of_getElem? (i := 1) rfl)⟩ (List.mem_of_getElem? (i := 4) rfl) (List.mem_of_getElem? (i := 5) rfl) (List.mem_of_getElem? (i := 6) rfl) (List.mem_of_getElem? (i := 7) rfl) (List.mem_of_getElem? (i := 8) rfl) (rc hr (Nat.le_of_ble_eq_true rfl)) (rs hr (Nat.le_of_ble_eq_true rfl)) fun r t => ?_
      refine wp_invokevirtual C (M0 hw) d0_33 (M16 hw) (Cl := "java/lang/String") (w14 hw) (w15 hw) (w17 hw) (w16 hw) (Or.inl ⟨_, (w17 hw)⟩) (by decide) (b := s3) (List.mem_of_getElem? (i := 4) rfl) (S' := []) [.ref r] (lenOf pd16 rfl) rfl (L' := [.val (.ref s3), .val (.ref r), .unset]) rfl rfl (Rm.law (d := 1) (w := 14) hr hx (Nat.le_of_ble_eq_true rfl) (Nat.le_of_ble_eq_true rfl)) ?_
      refine c_eq C hw hs (us := [99, 111, 109, 46, 101, 120, 97, 109, 112, 108, 101, 46, 115, 116, 114, 105, 110, 103, 108, 105, 110, 101, 46, 115, 116, 114, 105, 110, 103, 108, 105, 110, 101, 46, 98, 105, 100, 105, 46]) (vs := (([] ++ [99, 111, 109, 46, 101, 120, 97, 109, 112, 108, 101, 46, 115, 116, 114, 105, 110, 103, 108, 105, 110, 101, 46, 115, 116, 114, 105, 110, 103, 108, 105, 110, 101, 46, 98, 105, 100, 105, 46]) ++ (([] : List UInt8).map lowB))) (by decide) (by decide) (Or.inr rfl) (Meth.caller (M0 hw) d0_33) (Rm.law (d := 2) (w := 28) hr hx (Nat.le_of_ble_eq_true rfl) (Nat.le_of_ble_eq_true rfl)) ⟨s4, (List.mem_of_getElem? (i := 4) rfl), (List.mem_of_getElem? (i := 5) rfl)⟩ ⟨t, (List.mem_of_getElem? (i := 0) rfl), (List.mem_of_getElem? (i := 1) rfl)⟩ ?_
      rw [bi_t (show ([99, 111, 109, 46, 101, 120, 97, 109, 112, 108, 101, 46, 115, 116, 114, 105, 110, 103, 108, 105, 110, 101, 46, 115, 116, 114, 105, 110, 103, 108, 105, 110, 101, 46, 98, 105, 100, 105, 46] : List UInt8) = (([] ++ [99, 111, 109, 46, 101, 120, 97, 109, 112, 108, 101, 46, 115, 116, 114, 105, 110, 103, 108, 105, 110, 101, 46, 115, 116, 114, 105, 110, 103, 108, 105, 110, 101, 46, 98, 105, 100, 105, 46]) ++ (([] : List UInt8).map lowB)) from rfl)]
      exact wp_end C (M0 hw) d0_36
    · refine wp_ict C (M0 hw) d0_23 (XT.ii_ne_t k1) (pc' := 37) (by decide) ?_
      refine wp_seg C (M0 hw) [(.iload_n 1, 1), (.sipush 255, 3)] (by decide +kernel) (pc' := 41) (L' := [.val (.int sel), .val (.int a), .val (.int b), .val (.int c), .val (.int kd), .unset, .unset, .unset, .unset, .unset, .unset]) (S' := [.int 255, .int a]) rfl ?_
      refine wp_seg C (M0 hw) [(.iand, 1)] (by decide +kernel) (pc' := 42) (L' := [.val (.int sel), .val (.int a), .val (.int b), .val (.int c), .val (.int kd), .unset, .unset, .unset, .unset, .unset, .unset]) (S' := [.int (a &&& (255 : Int32))]) rfl ?_
      rw [lo8_mask]
      refine wp_seg C (M0 hw) [(.i2c, 1)] (by decide +kernel) (pc' := 43) (L' := [.val (.int sel), .val (.int a), .val (.int b), .val (.int c), .val (.int kd), .unset, .unset, .unset, .unset, .unset, .unset]) (S' := [.int (i2c (ch8 (lo8 a)))]) rfl ?_
      rw [ch8_i2c]
      refine wp_seg C (M0 hw) [(.istore 5, 2), (.iload_n 2, 1), (.sipush 255, 3)] (by decide +kernel) (pc' := 49) (L' := [.val (.int sel), .val (.int a), .val (.int b), .val (.int c), .val (.int kd), .val (.int (ch8 (lo8 a))), .unset, .unset, .unset, .unset, .unset]) (S' := [.int 255, .int b]) rfl ?_
      refine wp_seg C (M0 hw) [(.iand, 1)] (by decide +kernel) (pc' := 50) (L' := [.val (.int sel), .val (.int a), .val (.int b), .val (.int c), .val (.int kd), .val (.int (ch8 (lo8 a))), .unset, .unset, .unset, .unset, .unset]) (S' := [.int (b &&& (255 : Int32))]) rfl ?_
      rw [lo8_mask]
      refine wp_seg C (M0 hw) [(.i2c, 1)] (by decide +kernel) (pc' := 51) (L' := [.val (.int sel), .val (.int a), .val (.int b), .val (.int c), .val (.int kd), .val (.int (ch8 (lo8 a))), .unset, .unset, .unset, .unset, .unset]) (S' := [.int (i2c (ch8 (lo8 b)))]) rfl ?_
      rw [ch8_i2c]
      refine wp_seg C (M0 hw) [(.istore 6, 2), (.iload_n 3, 1), (.sipush 255, 3)] (by decide +kernel) (pc' := 57) (L' := [.val (.int sel), .val (.int a), .val (.int b), .val (.int c), .val (.int kd), .val (.int (ch8 (lo8 a))), .val (.int (ch8 (lo8 b))), .unset, .unset, .unset, .unset]) (S' := [.int 255, .int c]) rfl ?_
      refine wp_seg C (M0 hw) [(.iand, 1)] (by decide +kernel) (pc' := 58) (L' := [.val (.int sel), .val (.int a), .val (.int b), .val (.int c), .val (.int kd), .val (.int (ch8 (lo8 a))), .val (.int (ch8 (lo8 b))), .unset, .unset, .unset, .unset]) (S' := [.int (c &&& (255 : Int32))]) rfl ?_
      rw [lo8_mask]
      refine wp_seg C (M0 hw) [(.i2c, 1)] (by decide +kernel) (pc' := 59) (L' := [.val (.int sel), .val (.int a), .val (.int b), .val (.int c), .val (.int kd), .val (.int (ch8 (lo8 a))), .val (.int (ch8 (lo8 b))), .unset, .unset, .unset, .unset]) (S' := [.int (i2c (ch8 (lo8 c)))]) rfl ?_
      rw [ch8_i2c]
      refine wp_seg C (M0 hw) [(.istore 7, 2), (.iconst 3, 1)] (by decide +kernel) (pc' := 62) (L' := [.val (.int sel), .val (.int a), .val (.int b), .val (.int c), .val (.int kd), .val (.int (ch8 (lo8 a))), .val (.int (ch8 (lo8 b))), .val (.int (ch8 (lo8 c))), .unset, .unset, .unset]) (S' := [.int 3]) rfl ?_
      refine wp_newarray C (M0 hw) d0_62 rfl (w19 hw) (len := 3) ⟨by decide, by decide⟩ (by decide) (rc hr (Nat.le_of_ble_eq_true rfl)) (rs hr (Nat.le_of_ble_eq_true rfl)) (vs := [.int 0, .int 0, .int 0]) rfl fun a7 => ?_
      refine wp_seg C (M0 hw) [(.dup, 1), (.iconst 0, 1), (.iload 5, 2)] (by decide +kernel) (pc' := 68) (L' := [.val (.int sel), .val (.int a), .val (.int b), .val (.int c), .val (.int kd), .val (.int (ch8 (lo8 a))), .val (.int (ch8 (lo8 b))), .val (.int (ch8 (lo8 c))), .unset, .unset, .unset]) (S' := [.int (ch8 (lo8 a)), .int 0, .ref a7, .ref a7]) rfl ?_
      refine wp_castore C (M0 hw) d0_68 (i := 0) (j := 0) rfl ⟨by decide, by decide⟩ (Nat.le_of_ble_eq_true rfl) (v' := .int (ch8 (lo8 a))) (congrArg Value.int (ch8_i2c _)) (l' := [(a7, true, .inr (.char, [.int (ch8 (lo8 a)), .int 0, .int 0])), (cdl, false, .inl ("java/lang/CharacterDataLatin1", [])), (q, false, .inl ("java/util/Locale", [("java/util/Locale", "baseLocale", "Lsun/util/locale/BaseLocale;", .ref bl)])), (bl, false, .inl ("sun/util/locale/BaseLocale", [("sun/util/locale/BaseLocale", "language", "Ljava/lang/String;", .ref lg)])), strO lg lb 0, strB lb []]) rfl ?_
      refine wp_seg C (M0 hw) [(.dup, 1), (.iconst 1, 1), (.iload 6, 2)] (by decide +kernel) (pc' := 73) (L' := [.val (.int sel), .val (.int a), .val (.int b), .val (.int c), .val (.int kd), .val (.int (ch8 (lo8 a))), .val (.int (ch8 (lo8 b))), .val (.int (ch8 (lo8 c))), .unset, .unset, .unset]) (S' := [.int (ch8 (lo8 b)), .int 1, .ref a7, .ref a7]) rfl ?_
      refine wp_castore C (M0 hw) d0_73 (i := 0) (j := 1) rfl ⟨by decide, by decide⟩ (Nat.le_of_ble_eq_true rfl) (v' := .int (ch8 (lo8 b))) (congrArg Value.int (ch8_i2c _)) (l' := [(a7, true, .inr (.char, [.int (ch8 (lo8 a)), .int (ch8 (lo8 b)), .int 0])), (cdl, false, .inl ("java/lang/CharacterDataLatin1", [])), (q, false, .inl ("java/util/Locale", [("java/util/Locale", "baseLocale", "Lsun/util/locale/BaseLocale;", .ref bl)])), (bl, false, .inl ("sun/util/locale/BaseLocale", [("sun/util/locale/BaseLocale", "language", "Ljava/lang/String;", .ref lg)])), strO lg lb 0, strB lb []]) rfl ?_
      refine wp_seg C (M0 hw) [(.dup, 1), (.iconst 2, 1), (.iload 7, 2)] (by decide +kernel) (pc' := 78) (L' := [.val (.int sel), .val (.int a), .val (.int b), .val (.int c), .val (.int kd), .val (.int (ch8 (lo8 a))), .val (.int (ch8 (lo8 b))), .val (.int (ch8 (lo8 c))), .unset, .unset, .unset]) (S' := [.int (ch8 (lo8 c)), .int 2, .ref a7, .ref a7]) rfl ?_
      refine wp_castore C (M0 hw) d0_78 (i := 0) (j := 2) rfl ⟨by decide, by decide⟩ (Nat.le_of_ble_eq_true rfl) (v' := .int (ch8 (lo8 c))) (congrArg Value.int (ch8_i2c _)) (l' := [(a7, true, .inr (.char, [.int (ch8 (lo8 a)), .int (ch8 (lo8 b)), .int (ch8 (lo8 c))])), (cdl, false, .inl ("java/lang/CharacterDataLatin1", [])), (q, false, .inl ("java/util/Locale", [("java/util/Locale", "baseLocale", "Lsun/util/locale/BaseLocale;", .ref bl)])), (bl, false, .inl ("sun/util/locale/BaseLocale", [("sun/util/locale/BaseLocale", "language", "Ljava/lang/String;", .ref lg)])), strO lg lb 0, strB lb []]) rfl ?_
      refine wp_seg C (M0 hw) [(.astore 8, 2)] (by decide +kernel) (pc' := 81) (L' := [.val (.int sel), .val (.int a), .val (.int b), .val (.int c), .val (.int kd), .val (.int (ch8 (lo8 a))), .val (.int (ch8 (lo8 b))), .val (.int (ch8 (lo8 c))), .val (.ref a7), .unset, .unset]) (S' := []) rfl ?_
      refine wp_new C (M0 hw) d0_81 (w20 hw) (w3 hw) (w2 hw) (cls_Str hw) (rc hr (Nat.le_of_ble_eq_true rfl)) (rs hr (Nat.le_of_ble_eq_true rfl)) fun a8 => ?_
      refine wp_seg C (M0 hw) [(.dup, 1), (.aload 8, 2)] (by decide +kernel) (pc' := 87) (L' := [.val (.int sel), .val (.int a), .val (.int b), .val (.int c), .val (.int kd), .val (.int (ch8 (lo8 a))), .val (.int (ch8 (lo8 b))), .val (.int (ch8 (lo8 c))), .val (.ref a7), .unset, .unset]) (S' := [.ref a7, .ref a8, .ref a8]) rfl ?_
      refine wp_init C (M0 hw) d0_87 (M8 hw) rfl (w21 hw) (w22 hw) (by decide) (S' := [.ref a8]) a8 [.ref a7] (lenOf pd8 rfl) rfl (L' := [.val (.ref a8), .val (.ref a7)]) rfl rfl (Rm.law (d := 1) (w := 13) hr hx (Nat.le_of_ble_eq_true rfl) (Nat.le_of_ble_eq_true rfl)) ?_
      refine c_init1 C hw (us := [(lo8 a), (lo8 b), (lo8 c)]) hs (Nat.le_of_ble_eq_true rfl) (Nat.le_of_ble_eq_true rfl) (Nat.succ_pos _) (Meth.caller (M0 hw) d0_87) (Rm.law (d := 4) (w := 65) hr hx (Nat.le_of_ble_eq_true rfl) (Nat.le_of_ble_eq_true rfl)) (mc := true) (List.mem_of_getElem? (i := 0) rfl) (rc hr (Nat.le_of_ble_eq_true rfl)) (rs hr (Nat.le_of_ble_eq_true rfl)) fun b9 => ?_
      refine wp_invokestatic C (M0 hw) d0_90 (M42 hw) (w9 hw) (w10 hw) (w11 hw) (by decide) (S' := []) [.ref a8] (lenOf pd42 rfl) rfl (L' := [.val (.ref a8)]) rfl rfl (Rm.law (d := 1) (w := 12) hr hx (Nat.le_of_ble_eq_true rfl) (Nat.le_of_ble_eq_true rfl)) ?_
      refine c_pk3 C hw hs hst wS hE (u0 := lo8 a) (u1 := lo8 b) (u2 := lo8 c) is rs_ (Meth.caller (M0 hw) d0_90) (Rm.law (d := 7) (w := 125) hr hx (Nat.le_of_ble_eq_true rfl) (Nat.le_of_ble_eq_true rfl)) ⟨b9, (List.mem_of_getElem? (i := 0) rfl), (List.mem_of_getElem? (i := 1) rfl)⟩ (List.mem_of_getElem? (i := 3) rfl) (List.mem_of_getElem? (i := 4) rfl) (List.mem_of_getElem? (i := 5) rfl) (List.mem_of_getElem? (i := 6) rfl) (List.mem_of_getElem? (i := 7) rfl) (rc hr (Nat.le_of_ble_eq_true rfl)) (rs hr (Nat.le_of_ble_eq_true rfl)) fun r t => ?_
      refine wp_seg C (M0 hw) [(.astore 9, 2), (.bipush 42, 2)] (by decide +kernel) (pc' := 97) (L' := [.val (.int sel), .val (.int a), .val (.int b), .val (.int c), .val (.int kd), .val (.int (ch8 (lo8 a))), .val (.int (ch8 (lo8 b))), .val (.int (ch8 (lo8 c))), .val (.ref a7), .val (.ref r), .unset]) (S' := [.int 42]) rfl ?_
      refine wp_newarray C (M0 hw) d0_97 rfl (w19 hw) (len := 42) ⟨by decide, by decide⟩ (by decide) (rc hr (Nat.le_of_ble_eq_true rfl)) (rs hr (Nat.le_of_ble_eq_true rfl)) (vs := [.int 0, .int 0, .int 0, .int 0, .int 0, .int 0, .int 0, .int 0, .int 0, .int 0, .int 0, .int 0, .int 0, .int 0, .int 0, .int 0, .int 0, .int 0, .int 0, .int 0, .int 0, .int 0, .int 0, .int 0, .int 0, .int 0, .int 0, .int 0, .int 0, .int 0, .int 0, .int 0, .int 0, .int 0, .int 0, .int 0, .int 0, .int 0, .int 0, .int 0, .int 0, .int 0]) rfl fun a10 => ?_
      refine wp_seg C (M0 hw) [(.dup, 1), (.iconst 0, 1), (.bipush 99, 2)] (by decide +kernel) (pc' := 103) (L' := [.val (.int sel), .val (.int a), .val (.int b), .val (.int c), .val (.int kd), .val (.int (ch8 (lo8 a))), .val (.int (ch8 (lo8 b))), .val (.int (ch8 (lo8 c))), .val (.ref a7), .val (.ref r), .unset]) (S' := [.int 99, .int 0, .ref a10, .ref a10]) rfl ?_
      refine wp_castore C (M0 hw) d0_103 (i := 0) (j := 0) rfl ⟨by decide, by decide⟩ (Nat.le_of_ble_eq_true rfl) (v' := .int 99) rfl (l' := [(a10, true, .inr (.char, [.int 99, .int 0, .int 0, .int 0, .int 0, .int 0, .int 0, .int 0, .int 0, .int 0, .int 0, .int 0, .int 0, .int 0, .int 0, .int 0, .int 0, .int 0, .int 0, .int 0, .int 0, .int 0, .int 0, .int 0, .int 0, .int 0, .int 0, .int 0, .int 0, .int 0, .int 0, .int 0, .int 0, .int 0, .int 0, .int 0, .int 0, .int 0, .int 0, .int 0, .int 0, .int 0])), strO r t 0, strB t (([] ++ [99, 111, 109, 46, 101, 120, 97, 109, 112, 108, 101, 46, 115, 116, 114, 105, 110, 103, 108, 105, 110, 101, 46, 115, 116, 114, 105, 110, 103, 108, 105, 110, 101, 46, 98, 105, 100, 105, 46]) ++ ([(lo8 a), (lo8 b), (lo8 c)].map lowB)), strO a8 b9 0, strB b9 [(lo8 a), (lo8 b), (lo8 c)], (a7, true, .inr (.char, [.int (ch8 (lo8 a)), .int (ch8 (lo8 b)), .int (ch8 (lo8 c))])), (cdl, false, .inl ("java/lang/CharacterDataLatin1", [])), (q, false, .inl ("java/util/Locale", [("java/util/Locale", "baseLocale", "Lsun/util/locale/BaseLocale;", .ref bl)])), (bl, false, .inl ("sun/util/locale/BaseLocale", [("sun/util/locale/BaseLocale", "language", "Ljava/lang/String;", .ref lg)])), strO lg lb 0, strB lb []]) rfl ?_
      refine wp_seg C (M0 hw) [(.dup, 1), (.iconst 1, 1), (.bipush 111, 2)] (by decide +kernel) (pc' := 108) (L' := [.val (.int sel), .val (.int a), .val (.int b), .val (.int c), .val (.int kd), .val (.int (ch8 (lo8 a))), .val (.int (ch8 (lo8 b))), .val (.int (ch8 (lo8 c))), .val (.ref a7), .val (.ref r), .unset]) (S' := [.int 111, .int 1, .ref a10, .ref a10]) rfl ?_
      refine wp_castore C (M0 hw) d0_108 (i := 0) (j := 1) rfl ⟨by decide, by decide⟩ (Nat.le_of_ble_eq_true rfl) (v' := .int 111) rfl (l' := [(a10, true, .inr (.char, [.int 99, .int 111, .int 0, .int 0, .int 0, .int 0, .int 0, .int 0, .int 0, .int 0, .int 0, .int 0, .int 0, .int 0, .int 0, .int 0, .int 0, .int 0, .int 0, .int 0, .int 0, .int 0, .int 0, .int 0, .int 0, .int 0, .int 0, .int 0, .int 0, .int 0, .int 0, .int 0, .int 0, .int 0, .int 0, .int 0, .int 0, .int 0, .int 0, .int 0, .int 0, .int 0])), strO r t 0, strB t (([] ++ [99, 111, 109, 46, 101, 120, 97, 109, 112, 108, 101, 46, 115, 116, 114, 105, 110, 103, 108, 105, 110, 101, 46, 115, 116, 114, 105, 110, 103, 108, 105, 110, 101, 46, 98, 105, 100, 105, 46]) ++ ([(lo8 a), (lo8 b), (lo8 c)].map lowB)), strO a8 b9 0, strB b9 [(lo8 a), (lo8 b), (lo8 c)], (a7, true, .inr (.char, [.int (ch8 (lo8 a)), .int (ch8 (lo8 b)), .int (ch8 (lo8 c))])), (cdl, false, .inl ("java/lang/CharacterDataLatin1", [])), (q, false, .inl ("java/util/Locale", [("java/util/Locale", "baseLocale", "Lsun/util/locale/BaseLocale;", .ref bl)])), (bl, false, .inl ("sun/util/locale/BaseLocale", [("sun/util/locale/BaseLocale", "language", "Ljava/lang/String;", .ref lg)])), strO lg lb 0, strB lb []]) rfl ?_
      refine wp_seg C (M0 hw) [(.dup, 1), (.iconst 2, 1), (.bipush 109, 2)] (by decide +kernel) (pc' := 113) (L' := [.val (.int sel), .val (.int a), .val (.int b), .val (.int c), .val (.int kd), .val (.int (ch8 (lo8 a))), .val (.int (ch8 (lo8 b))), .val (.int (ch8 (lo8 c))), .val (.ref a7), .val (.ref r), .unset]) (S' := [.int 109, .int 2, .ref a10, .ref a10]) rfl ?_
      refine wp_castore C (M0 hw) d0_113 (i := 0) (j := 2) rfl ⟨by decide, by decide⟩ (Nat.le_of_ble_eq_true rfl) (v' := .int 109) rfl (l' := [(a10, true, .inr (.char, [.int 99, .int 111, .int 109, .int 0, .int 0, .int 0, .int 0, .int 0, .int 0, .int 0, .int 0, .int 0, .int 0, .int 0, .int 0, .int 0, .int 0, .int 0, .int 0, .int 0, .int 0, .int 0, .int 0, .int 0, .int 0, .int 0, .int 0, .int 0, .int 0, .int 0, .int 0, .int 0, .int 0, .int 0, .int 0, .int 0, .int 0, .int 0, .int 0, .int 0, .int 0, .int 0])), strO r t 0, strB t (([] ++ [99, 111, 109, 46, 101, 120, 97, 109, 112, 108, 101, 46, 115, 116, 114, 105, 110, 103, 108, 105, 110, 101, 46, 115, 116, 114, 105, 110, 103, 108, 105, 110, 101, 46, 98, 105, 100, 105, 46]) ++ ([(lo8 a), (lo8 b), (lo8 c)].map lowB)), strO a8 b9 0, strB b9 [(lo8 a), (lo8 b), (lo8 c)], (a7, true, .inr (.char, [.int (ch8 (lo8 a)), .int (ch8 (lo8 b)), .int (ch8 (lo8 c))])), (cdl, false, .inl ("java/lang/CharacterDataLatin1", [])), (q, false, .inl ("java/util/Locale", [("java/util/Locale", "baseLocale", "Lsun/util/locale/BaseLocale;", .ref bl)])), (bl, false, .inl ("sun/util/locale/BaseLocale", [("sun/util/locale/BaseLocale", "language", "Ljava/lang/String;", .ref lg)])), strO lg lb 0, strB lb []]) rfl ?_
      refine wp_seg C (M0 hw) [(.dup, 1), (.iconst 3, 1), (.bipush 46, 2)] (by decide +kernel) (pc' := 118) (L' := [.val (.int sel), .val (.int a), .val (.int b), .val (.int c), .val (.int kd), .val (.int (ch8 (lo8 a))), .val (.int (ch8 (lo8 b))), .val (.int (ch8 (lo8 c))), .val (.ref a7), .val (.ref r), .unset]) (S' := [.int 46, .int 3, .ref a10, .ref a10]) rfl ?_
      refine wp_castore C (M0 hw) d0_118 (i := 0) (j := 3) rfl ⟨by decide, by decide⟩ (Nat.le_of_ble_eq_true rfl) (v' := .int 46) rfl (l' := [(a10, true, .inr (.char, [.int 99, .int 111, .int 109, .int 46, .int 0, .int 0, .int 0, .int 0, .int 0, .int 0, .int 0, .int 0, .int 0, .int 0, .int 0, .int 0, .int 0, .int 0, .int 0, .int 0, .int 0, .int 0, .int 0, .int 0, .int 0, .int 0, .int 0, .int 0, .int 0, .int 0, .int 0, .int 0, .int 0, .int 0, .int 0, .int 0, .int 0, .int 0, .int 0, .int 0, .int 0, .int 0])), strO r t 0, strB t (([] ++ [99, 111, 109, 46, 101, 120, 97, 109, 112, 108, 101, 46, 115, 116, 114, 105, 110, 103, 108, 105, 110, 101, 46, 115, 116, 114, 105, 110, 103, 108, 105, 110, 101, 46, 98, 105, 100, 105, 46]) ++ ([(lo8 a), (lo8 b), (lo8 c)].map lowB)), strO a8 b9 0, strB b9 [(lo8 a), (lo8 b), (lo8 c)], (a7, true, .inr (.char, [.int (ch8 (lo8 a)), .int (ch8 (lo8 b)), .int (ch8 (lo8 c))])), (cdl, false, .inl ("java/lang/CharacterDataLatin1", [])), (q, false, .inl ("java/util/Locale", [("java/util/Locale", "baseLocale", "Lsun/util/locale/BaseLocale;", .ref bl)])), (bl, false, .inl ("sun/util/locale/BaseLocale", [("sun/util/locale/BaseLocale", "language", "Ljava/lang/String;", .ref lg)])), strO lg lb 0, strB lb []]) rfl ?_
      refine wp_seg C (M0 hw) [(.dup, 1), (.iconst 4, 1), (.bipush 101, 2)] (by decide +kernel) (pc' := 123) (L' := [.val (.int sel), .val (.int a), .val (.int b), .val (.int c), .val (.int kd), .val (.int (ch8 (lo8 a))), .val (.int (ch8 (lo8 b))), .val (.int (ch8 (lo8 c))), .val (.ref a7), .val (.ref r), .unset]) (S' := [.int 101, .int 4, .ref a10, .ref a10]) rfl ?_
      refine wp_castore C (M0 hw) d0_123 (i := 0) (j := 4) rfl ⟨by decide, by decide⟩ (Nat.le_of_ble_eq_true rfl) (v' := .int 101) rfl (l' := [(a10, true, .inr (.char, [.int 99, .int 111, .int 109, .int 46, .int 101, .int 0, .int 0, .int 0, .int 0, .int 0, .int 0, .int 0, .int 0, .int 0, .int 0, .int 0, .int 0, .int 0, .int 0, .int 0, .int 0, .int 0, .int 0, .int 0, .int 0, .int 0, .int 0, .int 0, .int 0, .int 0, .int 0, .int 0, .int 0, .int 0, .int 0, .int 0, .int 0, .int 0, .int 0, .int 0, .int 0, .int 0])), strO r t 0, strB t (([] ++ [99, 111, 109, 46, 101, 120, 97, 109, 112, 108, 101, 46, 115, 116, 114, 105, 110, 103, 108, 105, 110, 101, 46, 115, 116, 114, 105, 110, 103, 108, 105, 110, 101, 46, 98, 105, 100, 105, 46]) ++ ([(lo8 a), (lo8 b), (lo8 c)].map lowB)), strO a8 b9 0, strB b9 [(lo8 a), (lo8 b), (lo8 c)], (a7, true, .inr (.char, [.int (ch8 (lo8 a)), .int (ch8 (lo8 b)), .int (ch8 (lo8 c))])), (cdl, false, .inl ("java/lang/CharacterDataLatin1", [])), (q, false, .inl ("java/util/Locale", [("java/util/Locale", "baseLocale", "Lsun/util/locale/BaseLocale;", .ref bl)])), (bl, false, .inl ("sun/util/locale/BaseLocale", [("sun/util/locale/BaseLocale", "language", "Ljava/lang/String;", .ref lg)])), strO lg lb 0, strB lb []]) rfl ?_
      refine wp_seg C (M0 hw) [(.dup, 1), (.iconst 5, 1), (.bipush 120, 2)] (by decide +kernel) (pc' := 128) (L' := [.val (.int sel), .val (.int a), .val (.int b), .val (.int c), .val (.int kd), .val (.int (ch8 (lo8 a))), .val (.int (ch8 (lo8 b))), .val (.int (ch8 (lo8 c))), .val (.ref a7), .val (.ref r), .unset]) (S' := [.int 120, .int 5, .ref a10, .ref a10]) rfl ?_
      refine wp_castore C (M0 hw) d0_128 (i := 0) (j := 5) rfl ⟨by decide, by decide⟩ (Nat.le_of_ble_eq_true rfl) (v' := .int 120) rfl (l' := [(a10, true, .inr (.char, [.int 99, .int 111, .int 109, .int 46, .int 101, .int 120, .int 0, .int 0, .int 0, .int 0, .int 0, .int 0, .int 0, .int 0, .int 0, .int 0, .int 0, .int 0, .int 0, .int 0, .int 0, .int 0, .int 0, .int 0, .int 0, .int 0, .int 0, .int 0, .int 0, .int 0, .int 0, .int 0, .int 0, .int 0, .int 0, .int 0, .int 0, .int 0, .int 0, .int 0, .int 0, .int 0])), strO r t 0, strB t (([] ++ [99, 111, 109, 46, 101, 120, 97, 109, 112, 108, 101, 46, 115, 116, 114, 105, 110, 103, 108, 105, 110, 101, 46, 115, 116, 114, 105, 110, 103, 108, 105, 110, 101, 46, 98, 105, 100, 105, 46]) ++ ([(lo8 a), (lo8 b), (lo8 c)].map lowB)), strO a8 b9 0, strB b9 [(lo8 a), (lo8 b), (lo8 c)], (a7, true, .inr (.char, [.int (ch8 (lo8 a)), .int (ch8 (lo8 b)), .int (ch8 (lo8 c))])), (cdl, false, .inl ("java/lang/CharacterDataLatin1", [])), (q, false, .inl ("java/util/Locale", [("java/util/Locale", "baseLocale", "Lsun/util/locale/BaseLocale;", .ref bl)])), (bl, false, .inl ("sun/util/locale/BaseLocale", [("sun/util/locale/BaseLocale", "language", "Ljava/lang/String;", .ref lg)])), strO lg lb 0, strB lb []]) rfl ?_
      refine wp_seg C (M0 hw) [(.dup, 1), (.bipush 6, 2), (.bipush 97, 2)] (by decide +kernel) (pc' := 134) (L' := [.val (.int sel), .val (.int a), .val (.int b), .val (.int c), .val (.int kd), .val (.int (ch8 (lo8 a))), .val (.int (ch8 (lo8 b))), .val (.int (ch8 (lo8 c))), .val (.ref a7), .val (.ref r), .unset]) (S' := [.int 97, .int 6, .ref a10, .ref a10]) rfl ?_
      refine wp_castore C (M0 hw) d0_134 (i := 0) (j := 6) rfl ⟨by decide, by decide⟩ (Nat.le_of_ble_eq_true rfl) (v' := .int 97) rfl (l' := [(a10, true, .inr (.char, [.int 99, .int 111, .int 109, .int 46, .int 101, .int 120, .int 97, .int 0, .int 0, .int 0, .int 0, .int 0, .int 0, .int 0, .int 0, .int 0, .int 0, .int 0, .int 0, .int 0, .int 0, .int 0, .int 0, .int 0, .int 0, .int 0, .int 0, .int 0, .int 0, .int 0, .int 0, .int 0, .int 0, .int 0, .int 0, .int 0, .int 0, .int 0, .int 0, .int 0, .int 0, .int 0])), strO r t 0, strB t (([] ++ [99, 111, 109, 46, 101, 120, 97, 109, 112, 108, 101, 46, 115, 116, 114, 105, 110, 103, 108, 105, 110, 101, 46, 115, 116, 114, 105, 110, 103, 108, 105, 110, 101, 46, 98, 105, 100, 105, 46]) ++ ([(lo8 a), (lo8 b), (lo8 c)].map lowB)), strO a8 b9 0, strB b9 [(lo8 a), (lo8 b), (lo8 c)], (a7, true, .inr (.char, [.int (ch8 (lo8 a)), .int (ch8 (lo8 b)), .int (ch8 (lo8 c))])), (cdl, false, .inl ("java/lang/CharacterDataLatin1", [])), (q, false, .inl ("java/util/Locale", [("java/util/Locale", "baseLocale", "Lsun/util/locale/BaseLocale;", .ref bl)])), (bl, false, .inl ("sun/util/locale/BaseLocale", [("sun/util/locale/BaseLocale", "language", "Ljava/lang/String;", .ref lg)])), strO lg lb 0, strB lb []]) rfl ?_
      refine wp_seg C (M0 hw) [(.dup, 1), (.bipush 7, 2), (.bipush 109, 2)] (by decide +kernel) (pc' := 140) (L' := [.val (.int sel), .val (.int a), .val (.int b), .val (.int c), .val (.int kd), .val (.int (ch8 (lo8 a))), .val (.int (ch8 (lo8 b))), .val (.int (ch8 (lo8 c))), .val (.ref a7), .val (.ref r), .unset]) (S' := [.int 109, .int 7, .ref a10, .ref a10]) rfl ?_
      refine wp_castore C (M0 hw) d0_140 (i := 0) (j := 7) rfl ⟨by decide, by decide⟩ (Nat.le_of_ble_eq_true rfl) (v' := .int 109) rfl (l' := [(a10, true, .inr (.char, [.int 99, .int 111, .int 109, .int 46, .int 101, .int 120, .int 97, .int 109, .int 0, .int 0, .int 0, .int 0, .int 0, .int 0, .int 0, .int 0, .int 0, .int 0, .int 0, .int 0, .int 0, .int 0, .int 0, .int 0, .int 0, .int 0, .int 0, .int 0, .int 0, .int 0, .int 0, .int 0, .int 0, .int 0, .int 0, .int 0, .int 0, .int 0, .int 0, .int 0, .int 0, .int 0])), strO r t 0, strB t (([] ++ [99, 111, 109, 46, 101, 120, 97, 109, 112, 108, 101, 46, 115, 116, 114, 105, 110, 103, 108, 105, 110, 101, 46, 115, 116, 114, 105, 110, 103, 108, 105, 110, 101, 46, 98, 105, 100, 105, 46]) ++ ([(lo8 a), (lo8 b), (lo8 c)].map lowB)), strO a8 b9 0, strB b9 [(lo8 a), (lo8 b), (lo8 c)], (a7, true, .inr (.char, [.int (ch8 (lo8 a)), .int (ch8 (lo8 b)), .int (ch8 (lo8 c))])), (cdl, false, .inl ("java/lang/CharacterDataLatin1", [])), (q, false, .inl ("java/util/Locale", [("java/util/Locale", "baseLocale", "Lsun/util/locale/BaseLocale;", .ref bl)])), (bl, false, .inl ("sun/util/locale/BaseLocale", [("sun/util/locale/BaseLocale", "language", "Ljava/lang/String;", .ref lg)])), strO lg lb 0, strB lb []]) rfl ?_
      refine wp_seg C (M0 hw) [(.dup, 1), (.bipush 8, 2), (.bipush 112, 2)] (by decide +kernel) (pc' := 146) (L' := [.val (.int sel), .val (.int a), .val (.int b), .val (.int c), .val (.int kd), .val (.int (ch8 (lo8 a))), .val (.int (ch8 (lo8 b))), .val (.int (ch8 (lo8 c))), .val (.ref a7), .val (.ref r), .unset]) (S' := [.int 112, .int 8, .ref a10, .ref a10]) rfl ?_
      refine wp_castore C (M0 hw) d0_146 (i := 0) (j := 8) rfl ⟨by decide, by decide⟩ (Nat.le_of_ble_eq_true rfl) (v' := .int 112) rfl (l' := [(a10, true, .inr (.char, [.int 99, .int 111, .int 109, .int 46, .int 101, .int 120, .int 97, .int 109, .int 112, .int 0, .int 0, .int 0, .int 0, .int 0, .int 0, .int 0, .int 0, .int 0, .int 0, .int 0, .int 0, .int 0, .int 0, .int 0, .int 0, .int 0, .int 0, .int 0, .int 0, .int 0, .int 0, .int 0, .int 0, .int 0, .int 0, .int 0, .int 0, .int 0, .int 0, .int 0, .int 0, .int 0])), strO r t 0, strB t (([] ++ [99, 111, 109, 46, 101, 120, 97, 109, 112, 108, 101, 46, 115, 116, 114, 105, 110, 103, 108, 105, 110, 101, 46, 115, 116, 114, 105, 110, 103, 108, 105, 110, 101, 46, 98, 105, 100, 105, 46]) ++ ([(lo8 a), (lo8 b), (lo8 c)].map lowB)), strO a8 b9 0, strB b9 [(lo8 a), (lo8 b), (lo8 c)], (a7, true, .inr (.char, [.int (ch8 (lo8 a)), .int (ch8 (lo8 b)), .int (ch8 (lo8 c))])), (cdl, false, .inl ("java/lang/CharacterDataLatin1", [])), (q, false, .inl ("java/util/Locale", [("java/util/Locale", "baseLocale", "Lsun/util/locale/BaseLocale;", .ref bl)])), (bl, false, .inl ("sun/util/locale/BaseLocale", [("sun/util/locale/BaseLocale", "language", "Ljava/lang/String;", .ref lg)])), strO lg lb 0, strB lb []]) rfl ?_
      refine wp_seg C (M0 hw) [(.dup, 1), (.bipush 9, 2), (.bipush 108, 2)] (by decide +kernel) (pc' := 152) (L' := [.val (.int sel), .val (.int a), .val (.int b), .val (.int c), .val (.int kd), .val (.int (ch8 (lo8 a))), .val (.int (ch8 (lo8 b))), .val (.int (ch8 (lo8 c))), .val (.ref a7), .val (.ref r), .unset]) (S' := [.int 108, .int 9, .ref a10, .ref a10]) rfl ?_
      refine wp_castore C (M0 hw) d0_152 (i := 0) (j := 9) rfl ⟨by decide, by decide⟩ (Nat.le_of_ble_eq_true rfl) (v' := .int 108) rfl (l' := [(a10, true, .inr (.char, [.int 99, .int 111, .int 109, .int 46, .int 101, .int 120, .int 97, .int 109, .int 112, .int 108, .int 0, .int 0, .int 0, .int 0, .int 0, .int 0, .int 0, .int 0, .int 0, .int 0, .int 0, .int 0, .int 0, .int 0, .int 0, .int 0, .int 0, .int 0, .int 0, .int 0, .int 0, .int 0, .int 0, .int 0, .int 0, .int 0, .int 0, .int 0, .int 0, .int 0, .int 0, .int 0])), strO r t 0, strB t (([] ++ [99, 111, 109, 46, 101, 120, 97, 109, 112, 108, 101, 46, 115, 116, 114, 105, 110, 103, 108, 105, 110, 101, 46, 115, 116, 114, 105, 110, 103, 108, 105, 110, 101, 46, 98, 105, 100, 105, 46]) ++ ([(lo8 a), (lo8 b), (lo8 c)].map lowB)), strO a8 b9 0, strB b9 [(lo8 a), (lo8 b), (lo8 c)], (a7, true, .inr (.char, [.int (ch8 (lo8 a)), .int (ch8 (lo8 b)), .int (ch8 (lo8 c))])), (cdl, false, .inl ("java/lang/CharacterDataLatin1", [])), (q, false, .inl ("java/util/Locale", [("java/util/Locale", "baseLocale", "Lsun/util/locale/BaseLocale;", .ref bl)])), (bl, false, .inl ("sun/util/locale/BaseLocale", [("sun/util/locale/BaseLocale", "language", "Ljava/lang/String;", .ref lg)])), strO lg lb 0, strB lb []]) rfl ?_
      refine wp_seg C (M0 hw) [(.dup, 1), (.bipush 10, 2), (.bipush 101, 2)] (by decide +kernel) (pc' := 158) (L' := [.val (.int sel), .val (.int a), .val (.int b), .val (.int c), .val (.int kd), .val (.int (ch8 (lo8 a))), .val (.int (ch8 (lo8 b))), .val (.int (ch8 (lo8 c))), .val (.ref a7), .val (.ref r), .unset]) (S' := [.int 101, .int 10, .ref a10, .ref a10]) rfl ?_
      refine wp_castore C (M0 hw) d0_158 (i := 0) (j := 10) rfl ⟨by decide, by decide⟩ (Nat.le_of_ble_eq_true rfl) (v' := .int 101) rfl (l' := [(a10, true, .inr (.char, [.int 99, .int 111, .int 109, .int 46, .int 101, .int 120, .int 97, .int 109, .int 112, .int 108, .int 101, .int 0, .int 0, .int 0, .int 0, .int 0, .int 0, .int 0, .int 0, .int 0, .int 0, .int 0, .int 0, .int 0, .int 0, .int 0, .int 0, .int 0, .int 0, .int 0, .int 0, .int 0, .int 0, .int 0, .int 0, .int 0, .int 0, .int 0, .int 0, .int 0, .int 0, .int 0])), strO r t 0, strB t (([] ++ [99, 111, 109, 46, 101, 120, 97, 109, 112, 108, 101, 46, 115, 116, 114, 105, 110, 103, 108, 105, 110, 101, 46, 115, 116, 114, 105, 110, 103, 108, 105, 110, 101, 46, 98, 105, 100, 105, 46]) ++ ([(lo8 a), (lo8 b), (lo8 c)].map lowB)), strO a8 b9 0, strB b9 [(lo8 a), (lo8 b), (lo8 c)], (a7, true, .inr (.char, [.int (ch8 (lo8 a)), .int (ch8 (lo8 b)), .int (ch8 (lo8 c))])), (cdl, false, .inl ("java/lang/CharacterDataLatin1", [])), (q, false, .inl ("java/util/Locale", [("java/util/Locale", "baseLocale", "Lsun/util/locale/BaseLocale;", .ref bl)])), (bl, false, .inl ("sun/util/locale/BaseLocale", [("sun/util/locale/BaseLocale", "language", "Ljava/lang/String;", .ref lg)])), strO lg lb 0, strB lb []]) rfl ?_
      refine wp_seg C (M0 hw) [(.dup, 1), (.bipush 11, 2), (.bipush 46, 2)] (by decide +kernel) (pc' := 164) (L' := [.val (.int sel), .val (.int a), .val (.int b), .val (.int c), .val (.int kd), .val (.int (ch8 (lo8 a))), .val (.int (ch8 (lo8 b))), .val (.int (ch8 (lo8 c))), .val (.ref a7), .val (.ref r), .unset]) (S' := [.int 46, .int 11, .ref a10, .ref a10]) rfl ?_
      refine wp_castore C (M0 hw) d0_164 (i := 0) (j := 11) rfl ⟨by decide, by decide⟩ (Nat.le_of_ble_eq_true rfl) (v' := .int 46) rfl (l' := [(a10, true, .inr (.char, [.int 99, .int 111, .int 109, .int 46, .int 101, .int 120, .int 97, .int 109, .int 112, .int 108, .int 101, .int 46, .int 0, .int 0, .int 0, .int 0, .int 0, .int 0, .int 0, .int 0, .int 0, .int 0, .int 0, .int 0, .int 0, .int 0, .int 0, .int 0, .int 0, .int 0, .int 0, .int 0, .int 0, .int 0, .int 0, .int 0, .int 0, .int 0, .int 0, .int 0, .int 0, .int 0])), strO r t 0, strB t (([] ++ [99, 111, 109, 46, 101, 120, 97, 109, 112, 108, 101, 46, 115, 116, 114, 105, 110, 103, 108, 105, 110, 101, 46, 115, 116, 114, 105, 110, 103, 108, 105, 110, 101, 46, 98, 105, 100, 105, 46]) ++ ([(lo8 a), (lo8 b), (lo8 c)].map lowB)), strO a8 b9 0, strB b9 [(lo8 a), (lo8 b), (lo8 c)], (a7, true, .inr (.char, [.int (ch8 (lo8 a)), .int (ch8 (lo8 b)), .int (ch8 (lo8 c))])), (cdl, false, .inl ("java/lang/CharacterDataLatin1", [])), (q, false, .inl ("java/util/Locale", [("java/util/Locale", "baseLocale", "Lsun/util/locale/BaseLocale;", .ref bl)])), (bl, false, .inl ("sun/util/locale/BaseLocale", [("sun/util/locale/BaseLocale", "language", "Ljava/lang/String;", .ref lg)])), strO lg lb 0, strB lb []]) rfl ?_
      refine wp_seg C (M0 hw) [(.dup, 1), (.bipush 12, 2), (.bipush 115, 2)] (by decide +kernel) (pc' := 170) (L' := [.val (.int sel), .val (.int a), .val (.int b), .val (.int c), .val (.int kd), .val (.int (ch8 (lo8 a))), .val (.int (ch8 (lo8 b))), .val (.int (ch8 (lo8 c))), .val (.ref a7), .val (.ref r), .unset]) (S' := [.int 115, .int 12, .ref a10, .ref a10]) rfl ?_
      refine wp_castore C (M0 hw) d0_170 (i := 0) (j := 12) rfl ⟨by decide, by decide⟩ (Nat.le_of_ble_eq_true rfl) (v' := .int 115) rfl (l' := [(a10, true, .inr (.char, [.int 99, .int 111, .int 109, .int 46, .int 101, .int 120, .int 97, .int 109, .int 112, .int 108, .int 101, .int 46, .int 115, .int 0, .int 0, .int 0, .int 0, .int 0, .int 0, .int 0, .int 0, .int 0, .int 0, .int 0, .int 0, .int 0, .int 0, .int 0, .int 0, .int 0, .int 0, .int 0, .int 0, .int 0, .int 0, .int 0, .int 0, .int 0, .int 0, .int 0, .int 0, .int 0])), strO r t 0, strB t (([] ++ [99, 111, 109, 46, 101, 120, 97, 109, 112, 108, 101, 46, 115, 116, 114, 105, 110, 103, 108, 105, 110, 101, 46, 115, 116, 114, 105, 110, 103, 108, 105, 110, 101, 46, 98, 105, 100, 105, 46]) ++ ([(lo8 a), (lo8 b), (lo8 c)].map lowB)), strO a8 b9 0, strB b9 [(lo8 a), (lo8 b), (lo8 c)], (a7, true, .inr (.char, [.int (ch8 (lo8 a)), .int (ch8 (lo8 b)), .int (ch8 (lo8 c))])), (cdl, false, .inl ("java/lang/CharacterDataLatin1", [])), (q, false, .inl ("java/util/Locale", [("java/util/Locale", "baseLocale", "Lsun/util/locale/BaseLocale;", .ref bl)])), (bl, false, .inl ("sun/util/locale/BaseLocale", [("sun/util/locale/BaseLocale", "language", "Ljava/lang/String;", .ref lg)])), strO lg lb 0, strB lb []]) rfl ?_
      refine wp_seg C (M0 hw) [(.dup, 1), (.bipush 13, 2), (.bipush 116, 2)] (by decide +kernel) (pc' := 176) (L' := [.val (.int sel), .val (.int a), .val (.int b), .val (.int c), .val (.int kd), .val (.int (ch8 (lo8 a))), .val (.int (ch8 (lo8 b))), .val (.int (ch8 (lo8 c))), .val (.ref a7), .val (.ref r), .unset]) (S' := [.int 116, .int 13, .ref a10, .ref a10]) rfl ?_
      refine wp_castore C (M0 hw) d0_176 (i := 0) (j := 13) rfl ⟨by decide, by decide⟩ (Nat.le_of_ble_eq_true rfl) (v' := .int 116) rfl (l' := [(a10, true, .inr (.char, [.int 99, .int 111, .int 109, .int 46, .int 101, .int 120, .int 97, .int 109, .int 112, .int 108, .int 101, .int 46, .int 115, .int 116, .int 0, .int 0, .int 0, .int 0, .int 0, .int 0, .int 0, .int 0, .int 0, .int 0, .int 0, .int 0, .int 0, .int 0, .int 0, .int 0, .int 0, .int 0, .int 0, .int 0, .int 0, .int 0, .int 0, .int 0, .int 0, .int 0, .int 0, .int 0])), strO r t 0, strB t (([] ++ [99, 111, 109, 46, 101, 120, 97, 109, 112, 108, 101, 46, 115, 116, 114, 105, 110, 103, 108, 105, 110, 101, 46, 115, 116, 114, 105, 110, 103, 108, 105, 110, 101, 46, 98, 105, 100, 105, 46]) ++ ([(lo8 a), (lo8 b), (lo8 c)].map lowB)), strO a8 b9 0, strB b9 [(lo8 a), (lo8 b), (lo8 c)], (a7, true, .inr (.char, [.int (ch8 (lo8 a)), .int (ch8 (lo8 b)), .int (ch8 (lo8 c))])), (cdl, false, .inl ("java/lang/CharacterDataLatin1", [])), (q, false, .inl ("java/util/Locale", [("java/util/Locale", "baseLocale", "Lsun/util/locale/BaseLocale;", .ref bl)])), (bl, false, .inl ("sun/util/locale/BaseLocale", [("sun/util/locale/BaseLocale", "language", "Ljava/lang/String;", .ref lg)])), strO lg lb 0, strB lb []]) rfl ?_
      refine wp_seg C (M0 hw) [(.dup, 1), (.bipush 14, 2), (.bipush 114, 2)] (by decide +kernel) (pc' := 182) (L' := [.val (.int sel), .val (.int a), .val (.int b), .val (.int c), .val (.int kd), .val (.int (ch8 (lo8 a))), .val (.int (ch8 (lo8 b))), .val (.int (ch8 (lo8 c))), .val (.ref a7), .val (.ref r), .unset]) (S' := [.int 114, .int 14, .ref a10, .ref a10]) rfl ?_
      refine wp_castore C (M0 hw) d0_182 (i := 0) (j := 14) rfl ⟨by decide, by decide⟩ (Nat.le_of_ble_eq_true rfl) (v' := .int 114) rfl (l' := [(a10, true, .inr (.char, [.int 99, .int 111, .int 109, .int 46, .int 101, .int 120, .int 97, .int 109, .int 112, .int 108, .int 101, .int 46, .int 115, .int 116, .int 114, .int 0, .int 0, .int 0, .int 0, .int 0, .int 0, .int 0, .int 0, .int 0, .int 0, .int 0, .int 0, .int 0, .int 0, .int 0, .int 0, .int 0, .int 0, .int 0, .int 0, .int 0, .int 0, .int 0, .int 0, .int 0, .int 0, .int 0])), strO r t 0, strB t (([] ++ [99, 111, 109, 46, 101, 120, 97, 109, 112, 108, 101, 46, 115, 116, 114, 105, 110, 103, 108, 105, 110, 101, 46, 115, 116, 114, 105, 110, 103, 108, 105, 110, 101, 46, 98, 105, 100, 105, 46]) ++ ([(lo8 a), (lo8 b), (lo8 c)].map lowB)), strO a8 b9 0, strB b9 [(lo8 a), (lo8 b), (lo8 c)], (a7, true, .inr (.char, [.int (ch8 (lo8 a)), .int (ch8 (lo8 b)), .int (ch8 (lo8 c))])), (cdl, false, .inl ("java/lang/CharacterDataLatin1", [])), (q, false, .inl ("java/util/Locale", [("java/util/Locale", "baseLocale", "Lsun/util/locale/BaseLocale;", .ref bl)])), (bl, false, .inl ("sun/util/locale/BaseLocale", [("sun/util/locale/BaseLocale", "language", "Ljava/lang/String;", .ref lg)])), strO lg lb 0, strB lb []]) rfl ?_
      refine wp_seg C (M0 hw) [(.dup, 1), (.bipush 15, 2), (.bipush 105, 2)] (by decide +kernel) (pc' := 188) (L' := [.val (.int sel), .val (.int a), .val (.int b), .val (.int c), .val (.int kd), .val (.int (ch8 (lo8 a))), .val (.int (ch8 (lo8 b))), .val (.int (ch8 (lo8 c))), .val (.ref a7), .val (.ref r), .unset]) (S' := [.int 105, .int 15, .ref a10, .ref a10]) rfl ?_
      refine wp_castore C (M0 hw) d0_188 (i := 0) (j := 15) rfl ⟨by decide, by decide⟩ (Nat.le_of_ble_eq_true rfl) (v' := .int 105) rfl (l' := [(a10, true, .inr (.char, [.int 99, .int 111, .int 109, .int 46, .int 101, .int 120, .int 97, .int 109, .int 112, .int 108, .int 101, .int 46, .int 115, .int 116, .int 114, .int 105, .int 0, .int 0, .int 0, .int 0, .int 0, .int 0, .int 0, .int 0, .int 0, .int 0, .int 0, .int 0, .int 0, .int 0, .int 0, .int 0, .int 0, .int 0, .int 0, .int 0, .int 0, .int 0, .int 0, .int 0, .int 0, .int 0])), strO r t 0, strB t (([] ++ [99, 111, 109, 46, 101, 120, 97, 109, 112, 108, 101, 46, 115, 116, 114, 105, 110, 103, 108, 105, 110, 101, 46, 115, 116, 114, 105, 110, 103, 108, 105, 110, 101, 46, 98, 105, 100, 105, 46]) ++ ([(lo8 a), (lo8 b), (lo8 c)].map lowB)), strO a8 b9 0, strB b9 [(lo8 a), (lo8 b), (lo8 c)], (a7, true, .inr (.char, [.int (ch8 (lo8 a)), .int (ch8 (lo8 b)), .int (ch8 (lo8 c))])), (cdl, false, .inl ("java/lang/CharacterDataLatin1", [])), (q, false, .inl ("java/util/Locale", [("java/util/Locale", "baseLocale", "Lsun/util/locale/BaseLocale;", .ref bl)])), (bl, false, .inl ("sun/util/locale/BaseLocale", [("sun/util/locale/BaseLocale", "language", "Ljava/lang/String;", .ref lg)])), strO lg lb 0, strB lb []]) rfl ?_
      refine wp_seg C (M0 hw) [(.dup, 1), (.bipush 16, 2), (.bipush 110, 2)] (by decide +kernel) (pc' := 194) (L' := [.val (.int sel), .val (.int a), .val (.int b), .val (.int c), .val (.int kd), .val (.int (ch8 (lo8 a))), .val (.int (ch8 (lo8 b))), .val (.int (ch8 (lo8 c))), .val (.ref a7), .val (.ref r), .unset]) (S' := [.int 110, .int 16, .ref a10, .ref a10]) rfl ?_
      refine wp_castore C (M0 hw) d0_194 (i := 0) (j := 16) rfl ⟨by decide, by decide⟩ (Nat.le_of_ble_eq_true rfl) (v' := .int 110) rfl (l' := [(a10, true, .inr (.char, [.int 99, .int 111, .int 109, .int 46, .int 101, .int 120, .int 97, .int 109, .int 112, .int 108, .int 101, .int 46, .int 115, .int 116, .int 114, .int 105, .int 110, .int 0, .int 0, .int 0, .int 0, .int 0, .int 0, .int 0, .int 0, .int 0, .int 0, .int 0, .int 0, .int 0, .int 0, .int 0, .int 0, .int 0, .int 0, .int 0, .int 0, .int 0, .int 0, .int 0, .int 0, .int 0])), strO r t 0, strB t (([] ++ [99, 111, 109, 46, 101, 120, 97, 109, 112, 108, 101, 46, 115, 116, 114, 105, 110, 103, 108, 105, 110, 101, 46, 115, 116, 114, 105, 110, 103, 108, 105, 110, 101, 46, 98, 105, 100, 105, 46]) ++ ([(lo8 a), (lo8 b), (lo8 c)].map lowB)), strO a8 b9 0, strB b9 [(lo8 a), (lo8 b), (lo8 c)], (a7, true, .inr (.char, [.int (ch8 (lo8 a)), .int (ch8 (lo8 b)), .int (ch8 (lo8 c))])), (cdl, false, .inl ("java/lang/CharacterDataLatin1", [])), (q, false, .inl ("java/util/Locale", [("java/util/Locale", "baseLocale", "Lsun/util/locale/BaseLocale;", .ref bl)])), (bl, false, .inl ("sun/util/locale/BaseLocale", [("sun/util/locale/BaseLocale", "language", "Ljava/lang/String;", .ref lg)])), strO lg lb 0, strB lb []]) rfl ?_
      refine wp_seg C (M0 hw) [(.dup, 1), (.bipush 17, 2), (.bipush 103, 2)] (by decide +kernel) (pc' := 200) (L' := [.val (.int sel), .val (.int a), .val (.int b), .val (.int c), .val (.int kd), .val (.int (ch8 (lo8 a))), .val (.int (ch8 (lo8 b))), .val (.int (ch8 (lo8 c))), .val (.ref a7), .val (.ref r), .unset]) (S' := [.int 103, .int 17, .ref a10, .ref a10]) rfl ?_
      refine wp_castore C (M0 hw) d0_200 (i := 0) (j := 17) rfl ⟨by decide, by decide⟩ (Nat.le_of_ble_eq_true rfl) (v' := .int 103) rfl (l' := [(a10, true, .inr (.char, [.int 99, .int 111, .int 109, .int 46, .int 101, .int 120, .int 97, .int 109, .int 112, .int 108, .int 101, .int 46, .int 115, .int 116, .int 114, .int 105, .int 110, .int 103, .int 0, .int 0, .int 0, .int 0, .int 0, .int 0, .int 0, .int 0, .int 0, .int 0, .int 0, .int 0, .int 0, .int 0, .int 0, .int 0, .int 0, .int 0, .int 0, .int 0, .int 0, .int 0, .int 0, .int 0])), strO r t 0, strB t (([] ++ [99, 111, 109, 46, 101, 120, 97, 109, 112, 108, 101, 46, 115, 116, 114, 105, 110, 103, 108, 105, 110, 101, 46, 115, 116, 114, 105, 110, 103, 108, 105, 110, 101, 46, 98, 105, 100, 105, 46]) ++ ([(lo8 a), (lo8 b), (lo8 c)].map lowB)), strO a8 b9 0, strB b9 [(lo8 a), (lo8 b), (lo8 c)], (a7, true, .inr (.char, [.int (ch8 (lo8 a)), .int (ch8 (lo8 b)), .int (ch8 (lo8 c))])), (cdl, false, .inl ("java/lang/CharacterDataLatin1", [])), (q, false, .inl ("java/util/Locale", [("java/util/Locale", "baseLocale", "Lsun/util/locale/BaseLocale;", .ref bl)])), (bl, false, .inl ("sun/util/locale/BaseLocale", [("sun/util/locale/BaseLocale", "language", "Ljava/lang/String;", .ref lg)])), strO lg lb 0, strB lb []]) rfl ?_
      refine wp_seg C (M0 hw) [(.dup, 1), (.bipush 18, 2), (.bipush 108, 2)] (by decide +kernel) (pc' := 206) (L' := [.val (.int sel), .val (.int a), .val (.int b), .val (.int c), .val (.int kd), .val (.int (ch8 (lo8 a))), .val (.int (ch8 (lo8 b))), .val (.int (ch8 (lo8 c))), .val (.ref a7), .val (.ref r), .unset]) (S' := [.int 108, .int 18, .ref a10, .ref a10]) rfl ?_
      refine wp_castore C (M0 hw) d0_206 (i := 0) (j := 18) rfl ⟨by decide, by decide⟩ (Nat.le_of_ble_eq_true rfl) (v' := .int 108) rfl (l' := [(a10, true, .inr (.char, [.int 99, .int 111, .int 109, .int 46, .int 101, .int 120, .int 97, .int 109, .int 112, .int 108, .int 101, .int 46, .int 115, .int 116, .int 114, .int 105, .int 110, .int 103, .int 108, .int 0, .int 0, .int 0, .int 0, .int 0, .int 0, .int 0, .int 0, .int 0, .int 0, .int 0, .int 0, .int 0, .int 0, .int 0, .int 0, .int 0, .int 0, .int 0, .int 0, .int 0, .int 0, .int 0])), strO r t 0, strB t (([] ++ [99, 111, 109, 46, 101, 120, 97, 109, 112, 108, 101, 46, 115, 116, 114, 105, 110, 103, 108, 105, 110, 101, 46, 115, 116, 114, 105, 110, 103, 108, 105, 110, 101, 46, 98, 105, 100, 105, 46]) ++ ([(lo8 a), (lo8 b), (lo8 c)].map lowB)), strO a8 b9 0, strB b9 [(lo8 a), (lo8 b), (lo8 c)], (a7, true, .inr (.char, [.int (ch8 (lo8 a)), .int (ch8 (lo8 b)), .int (ch8 (lo8 c))])), (cdl, false, .inl ("java/lang/CharacterDataLatin1", [])), (q, false, .inl ("java/util/Locale", [("java/util/Locale", "baseLocale", "Lsun/util/locale/BaseLocale;", .ref bl)])), (bl, false, .inl ("sun/util/locale/BaseLocale", [("sun/util/locale/BaseLocale", "language", "Ljava/lang/String;", .ref lg)])), strO lg lb 0, strB lb []]) rfl ?_
      refine wp_seg C (M0 hw) [(.dup, 1), (.bipush 19, 2), (.bipush 105, 2)] (by decide +kernel) (pc' := 212) (L' := [.val (.int sel), .val (.int a), .val (.int b), .val (.int c), .val (.int kd), .val (.int (ch8 (lo8 a))), .val (.int (ch8 (lo8 b))), .val (.int (ch8 (lo8 c))), .val (.ref a7), .val (.ref r), .unset]) (S' := [.int 105, .int 19, .ref a10, .ref a10]) rfl ?_
      refine wp_castore C (M0 hw) d0_212 (i := 0) (j := 19) rfl ⟨by decide, by decide⟩ (Nat.le_of_ble_eq_true rfl) (v' := .int 105) rfl (l' := [(a10, true, .inr (.char, [.int 99, .int 111, .int 109, .int 46, .int 101, .int 120, .int 97, .int 109, .int 112, .int 108, .int 101, .int 46, .int 115, .int 116, .int 114, .int 105, .int 110, .int 103, .int 108, .int 105, .int 0, .int 0, .int 0, .int 0, .int 0, .int 0, .int 0, .int 0, .int 0, .int 0, .int 0, .int 0, .int 0, .int 0, .int 0, .int 0, .int 0, .int 0, .int 0, .int 0, .int 0, .int 0])), strO r t 0, strB t (([] ++ [99, 111, 109, 46, 101, 120, 97, 109, 112, 108, 101, 46, 115, 116, 114, 105, 110, 103, 108, 105, 110, 101, 46, 115, 116, 114, 105, 110, 103, 108, 105, 110, 101, 46, 98, 105, 100, 105, 46]) ++ ([(lo8 a), (lo8 b), (lo8 c)].map lowB)), strO a8 b9 0, strB b9 [(lo8 a), (lo8 b), (lo8 c)], (a7, true, .inr (.char, [.int (ch8 (lo8 a)), .int (ch8 (lo8 b)), .int (ch8 (lo8 c))])), (cdl, false, .inl ("java/lang/CharacterDataLatin1", [])), (q, false, .inl ("java/util/Locale", [("java/util/Locale", "baseLocale", "Lsun/util/locale/BaseLocale;", .ref bl)])), (bl, false, .inl ("sun/util/locale/BaseLocale", [("sun/util/locale/BaseLocale", "language", "Ljava/lang/String;", .ref lg)])), strO lg lb 0, strB lb []]) rfl ?_
      refine wp_seg C (M0 hw) [(.dup, 1), (.bipush 20, 2), (.bipush 110, 2)] (by decide +kernel) (pc' := 218) (L' := [.val (.int sel), .val (.int a), .val (.int b), .val (.int c), .val (.int kd), .val (.int (ch8 (lo8 a))), .val (.int (ch8 (lo8 b))), .val (.int (ch8 (lo8 c))), .val (.ref a7), .val (.ref r), .unset]) (S' := [.int 110, .int 20, .ref a10, .ref a10]) rfl ?_
      refine wp_castore C (M0 hw) d0_218 (i := 0) (j := 20) rfl ⟨by decide, by decide⟩ (Nat.le_of_ble_eq_true rfl) (v' := .int 110) rfl (l' := [(a10, true, .inr (.char, [.int 99, .int 111, .int 109, .int 46, .int 101, .int 120, .int 97, .int 109, .int 112, .int 108, .int 101, .int 46, .int 115, .int 116, .int 114, .int 105, .int 110, .int 103, .int 108, .int 105, .int 110, .int 0, .int 0, .int 0, .int 0, .int 0, .int 0, .int 0, .int 0, .int 0, .int 0, .int 0, .int 0, .int 0, .int 0, .int 0, .int 0, .int 0, .int 0, .int 0, .int 0, .int 0])), strO r t 0, strB t (([] ++ [99, 111, 109, 46, 101, 120, 97, 109, 112, 108, 101, 46, 115, 116, 114, 105, 110, 103, 108, 105, 110, 101, 46, 115, 116, 114, 105, 110, 103, 108, 105, 110, 101, 46, 98, 105, 100, 105, 46]) ++ ([(lo8 a), (lo8 b), (lo8 c)].map lowB)), strO a8 b9 0, strB b9 [(lo8 a), (lo8 b), (lo8 c)], (a7, true, .inr (.char, [.int (ch8 (lo8 a)), .int (ch8 (lo8 b)), .int (ch8 (lo8 c))])), (cdl, false, .inl ("java/lang/CharacterDataLatin1", [])), (q, false, .inl ("java/util/Locale", [("java/util/Locale", "baseLocale", "Lsun/util/locale/BaseLocale;", .ref bl)])), (bl, false, .inl ("sun/util/locale/BaseLocale", [("sun/util/locale/BaseLocale", "language", "Ljava/lang/String;", .ref lg)])), strO lg lb 0, strB lb []]) rfl ?_
      refine wp_seg C (M0 hw) [(.dup, 1), (.bipush 21, 2), (.bipush 101, 2)] (by decide +kernel) (pc' := 224) (L' := [.val (.int sel), .val (.int a), .val (.int b), .val (.int c), .val (.int kd), .val (.int (ch8 (lo8 a))), .val (.int (ch8 (lo8 b))), .val (.int (ch8 (lo8 c))), .val (.ref a7), .val (.ref r), .unset]) (S' := [.int 101, .int 21, .ref a10, .ref a10]) rfl ?_
      refine wp_castore C (M0 hw) d0_224 (i := 0) (j := 21) rfl ⟨by decide, by decide⟩ (Nat.le_of_ble_eq_true rfl) (v' := .int 101) rfl (l' := [(a10, true, .inr (.char, [.int 99, .int 111, .int 109, .int 46, .int 101, .int 120, .int 97, .int 109, .int 112, .int 108, .int 101, .int 46, .int 115, .int 116, .int 114, .int 105, .int 110, .int 103, .int 108, .int 105, .int 110, .int 101, .int 0, .int 0, .int 0, .int 0, .int 0, .int 0, .int 0, .int 0, .int 0, .int 0, .int 0, .int 0, .int 0, .int 0, .int 0, .int 0, .int 0, .int 0, .int 0, .int 0])), strO r t 0, strB t (([] ++ [99, 111, 109, 46, 101, 120, 97, 109, 112, 108, 101, 46, 115, 116, 114, 105, 110, 103, 108, 105, 110, 101, 46, 115, 116, 114, 105, 110, 103, 108, 105, 110, 101, 46, 98, 105, 100, 105, 46]) ++ ([(lo8 a), (lo8 b), (lo8 c)].map lowB)), strO a8 b9 0, strB b9 [(lo8 a), (lo8 b), (lo8 c)], (a7, true, .inr (.char, [.int (ch8 (lo8 a)), .int (ch8 (lo8 b)), .int (ch8 (lo8 c))])), (cdl, false, .inl ("java/lang/CharacterDataLatin1", [])), (q, false, .inl ("java/util/Locale", [("java/util/Locale", "baseLocale", "Lsun/util/locale/BaseLocale;", .ref bl)])), (bl, false, .inl ("sun/util/locale/BaseLocale", [("sun/util/locale/BaseLocale", "language", "Ljava/lang/String;", .ref lg)])), strO lg lb 0, strB lb []]) rfl ?_
      refine wp_seg C (M0 hw) [(.dup, 1), (.bipush 22, 2), (.bipush 46, 2)] (by decide +kernel) (pc' := 230) (L' := [.val (.int sel), .val (.int a), .val (.int b), .val (.int c), .val (.int kd), .val (.int (ch8 (lo8 a))), .val (.int (ch8 (lo8 b))), .val (.int (ch8 (lo8 c))), .val (.ref a7), .val (.ref r), .unset]) (S' := [.int 46, .int 22, .ref a10, .ref a10]) rfl ?_
      refine wp_castore C (M0 hw) d0_230 (i := 0) (j := 22) rfl ⟨by decide, by decide⟩ (Nat.le_of_ble_eq_true rfl) (v' := .int 46) rfl (l' := [(a10, true, .inr (.char, [.int 99, .int 111, .int 109, .int 46, .int 101, .int 120, .int 97, .int 109, .int 112, .int 108, .int 101, .int 46, .int 115, .int 116, .int 114, .int 105, .int 110, .int 103, .int 108, .int 105, .int 110, .int 101, .int 46, .int 0, .int 0, .int 0, .int 0, .int 0, .int 0, .int 0, .int 0, .int 0, .int 0, .int 0, .int 0, .int 0, .int 0, .int 0, .int 0, .int 0, .int 0, .int 0])), strO r t 0, strB t (([] ++ [99, 111, 109, 46, 101, 120, 97, 109, 112, 108, 101, 46, 115, 116, 114, 105, 110, 103, 108, 105, 110, 101, 46, 115, 116, 114, 105, 110, 103, 108, 105, 110, 101, 46, 98, 105, 100, 105, 46]) ++ ([(lo8 a), (lo8 b), (lo8 c)].map lowB)), strO a8 b9 0, strB b9 [(lo8 a), (lo8 b), (lo8 c)], (a7, true, .inr (.char, [.int (ch8 (lo8 a)), .int (ch8 (lo8 b)), .int (ch8 (lo8 c))])), (cdl, false, .inl ("java/lang/CharacterDataLatin1", [])), (q, false, .inl ("java/util/Locale", [("java/util/Locale", "baseLocale", "Lsun/util/locale/BaseLocale;", .ref bl)])), (bl, false, .inl ("sun/util/locale/BaseLocale", [("sun/util/locale/BaseLocale", "language", "Ljava/lang/String;", .ref lg)])), strO lg lb 0, strB lb []]) rfl ?_
      refine wp_seg C (M0 hw) [(.dup, 1), (.bipush 23, 2), (.bipush 115, 2)] (by decide +kernel) (pc' := 236) (L' := [.val (.int sel), .val (.int a), .val (.int b), .val (.int c), .val (.int kd), .val (.int (ch8 (lo8 a))), .val (.int (ch8 (lo8 b))), .val (.int (ch8 (lo8 c))), .val (.ref a7), .val (.ref r), .unset]) (S' := [.int 115, .int 23, .ref a10, .ref a10]) rfl ?_
      refine wp_castore C (M0 hw) d0_236 (i := 0) (j := 23) rfl ⟨by decide, by decide⟩ (Nat.le_of_ble_eq_true rfl) (v' := .int 115) rfl (l' := [(a10, true, .inr (.char, [.int 99, .int 111, .int 109, .int 46, .int 101, .int 120, .int 97, .int 109, .int 112, .int 108, .int 101, .int 46, .int 115, .int 116, .int 114, .int 105, .int 110, .int 103, .int 108, .int 105, .int 110, .int 101, .int 46, .int 115, .int 0, .int 0, .int 0, .int 0, .int 0, .int 0, .int 0, .int 0, .int 0, .int 0, .int 0, .int 0, .int 0, .int 0, .int 0, .int 0, .int 0, .int 0])), strO r t 0, strB t (([] ++ [99, 111, 109, 46, 101, 120, 97, 109, 112, 108, 101, 46, 115, 116, 114, 105, 110, 103, 108, 105, 110, 101, 46, 115, 116, 114, 105, 110, 103, 108, 105, 110, 101, 46, 98, 105, 100, 105, 46]) ++ ([(lo8 a), (lo8 b), (lo8 c)].map lowB)), strO a8 b9 0, strB b9 [(lo8 a), (lo8 b), (lo8 c)], (a7, true, .inr (.char, [.int (ch8 (lo8 a)), .int (ch8 (lo8 b)), .int (ch8 (lo8 c))])), (cdl, false, .inl ("java/lang/CharacterDataLatin1", [])), (q, false, .inl ("java/util/Locale", [("java/util/Locale", "baseLocale", "Lsun/util/locale/BaseLocale;", .ref bl)])), (bl, false, .inl ("sun/util/locale/BaseLocale", [("sun/util/locale/BaseLocale", "language", "Ljava/lang/String;", .ref lg)])), strO lg lb 0, strB lb []]) rfl ?_
      refine wp_seg C (M0 hw) [(.dup, 1), (.bipush 24, 2), (.bipush 116, 2)] (by decide +kernel) (pc' := 242) (L' := [.val (.int sel), .val (.int a), .val (.int b), .val (.int c), .val (.int kd), .val (.int (ch8 (lo8 a))), .val (.int (ch8 (lo8 b))), .val (.int (ch8 (lo8 c))), .val (.ref a7), .val (.ref r), .unset]) (S' := [.int 116, .int 24, .ref a10, .ref a10]) rfl ?_
      refine wp_castore C (M0 hw) d0_242 (i := 0) (j := 24) rfl ⟨by decide, by decide⟩ (Nat.le_of_ble_eq_true rfl) (v' := .int 116) rfl (l' := [(a10, true, .inr (.char, [.int 99, .int 111, .int 109, .int 46, .int 101, .int 120, .int 97, .int 109, .int 112, .int 108, .int 101, .int 46, .int 115, .int 116, .int 114, .int 105, .int 110, .int 103, .int 108, .int 105, .int 110, .int 101, .int 46, .int 115, .int 116, .int 0, .int 0, .int 0, .int 0, .int 0, .int 0, .int 0, .int 0, .int 0, .int 0, .int 0, .int 0, .int 0, .int 0, .int 0, .int 0, .int 0])), strO r t 0, strB t (([] ++ [99, 111, 109, 46, 101, 120, 97, 109, 112, 108, 101, 46, 115, 116, 114, 105, 110, 103, 108, 105, 110, 101, 46, 115, 116, 114, 105, 110, 103, 108, 105, 110, 101, 46, 98, 105, 100, 105, 46]) ++ ([(lo8 a), (lo8 b), (lo8 c)].map lowB)), strO a8 b9 0, strB b9 [(lo8 a), (lo8 b), (lo8 c)], (a7, true, .inr (.char, [.int (ch8 (lo8 a)), .int (ch8 (lo8 b)), .int (ch8 (lo8 c))])), (cdl, false, .inl ("java/lang/CharacterDataLatin1", [])), (q, false, .inl ("java/util/Locale", [("java/util/Locale", "baseLocale", "Lsun/util/locale/BaseLocale;", .ref bl)])), (bl, false, .inl ("sun/util/locale/BaseLocale", [("sun/util/locale/BaseLocale", "language", "Ljava/lang/String;", .ref lg)])), strO lg lb 0, strB lb []]) rfl ?_
      refine wp_seg C (M0 hw) [(.dup, 1), (.bipush 25, 2), (.bipush 114, 2)] (by decide +kernel) (pc' := 248) (L' := [.val (.int sel), .val (.int a), .val (.int b), .val (.int c), .val (.int kd), .val (.int (ch8 (lo8 a))), .val (.int (ch8 (lo8 b))), .val (.int (ch8 (lo8 c))), .val (.ref a7), .val (.ref r), .unset]) (S' := [.int 114, .int 25, .ref a10, .ref a10]) rfl ?_
      refine wp_castore C (M0 hw) d0_248 (i := 0) (j := 25) rfl ⟨by decide, by decide⟩ (Nat.le_of_ble_eq_true rfl) (v' := .int 114) rfl (l' := [(a10, true, .inr (.char, [.int 99, .int 111, .int 109, .int 46, .int 101, .int 120, .int 97, .int 109, .int 112, .int 108, .int 101, .int 46, .int 115, .int 116, .int 114, .int 105, .int 110, .int 103, .int 108, .int 105, .int 110, .int 101, .int 46, .int 115, .int 116, .int 114, .int 0, .int 0, .int 0, .int 0, .int 0, .int 0, .int 0, .int 0, .int 0, .int 0, .int 0, .int 0, .int 0, .int 0, .int 0, .int 0])), strO r t 0, strB t (([] ++ [99, 111, 109, 46, 101, 120, 97, 109, 112, 108, 101, 46, 115, 116, 114, 105, 110, 103, 108, 105, 110, 101, 46, 115, 116, 114, 105, 110, 103, 108, 105, 110, 101, 46, 98, 105, 100, 105, 46]) ++ ([(lo8 a), (lo8 b), (lo8 c)].map lowB)), strO a8 b9 0, strB b9 [(lo8 a), (lo8 b), (lo8 c)], (a7, true, .inr (.char, [.int (ch8 (lo8 a)), .int (ch8 (lo8 b)), .int (ch8 (lo8 c))])), (cdl, false, .inl ("java/lang/CharacterDataLatin1", [])), (q, false, .inl ("java/util/Locale", [("java/util/Locale", "baseLocale", "Lsun/util/locale/BaseLocale;", .ref bl)])), (bl, false, .inl ("sun/util/locale/BaseLocale", [("sun/util/locale/BaseLocale", "language", "Ljava/lang/String;", .ref lg)])), strO lg lb 0, strB lb []]) rfl ?_
      refine wp_seg C (M0 hw) [(.dup, 1), (.bipush 26, 2), (.bipush 105, 2)] (by decide +kernel) (pc' := 254) (L' := [.val (.int sel), .val (.int a), .val (.int b), .val (.int c), .val (.int kd), .val (.int (ch8 (lo8 a))), .val (.int (ch8 (lo8 b))), .val (.int (ch8 (lo8 c))), .val (.ref a7), .val (.ref r), .unset]) (S' := [.int 105, .int 26, .ref a10, .ref a10]) rfl ?_
      refine wp_castore C (M0 hw) d0_254 (i := 0) (j := 26) rfl ⟨by decide, by decide⟩ (Nat.le_of_ble_eq_true rfl) (v' := .int 105) rfl (l' := [(a10, true, .inr (.char, [.int 99, .int 111, .int 109, .int 46, .int 101, .int 120, .int 97, .int 109, .int 112, .int 108, .int 101, .int 46, .int 115, .int 116, .int 114, .int 105, .int 110, .int 103, .int 108, .int 105, .int 110, .int 101, .int 46, .int 115, .int 116, .int 114, .int 105, .int 0, .int 0, .int 0, .int 0, .int 0, .int 0, .int 0, .int 0, .int 0, .int 0, .int 0, .int 0, .int 0, .int 0, .int 0])), strO r t 0, strB t (([] ++ [99, 111, 109, 46, 101, 120, 97, 109, 112, 108, 101, 46, 115, 116, 114, 105, 110, 103, 108, 105, 110, 101, 46, 115, 116, 114, 105, 110, 103, 108, 105, 110, 101, 46, 98, 105, 100, 105, 46]) ++ ([(lo8 a), (lo8 b), (lo8 c)].map lowB)), strO a8 b9 0, strB b9 [(lo8 a), (lo8 b), (lo8 c)], (a7, true, .inr (.char, [.int (ch8 (lo8 a)), .int (ch8 (lo8 b)), .int (ch8 (lo8 c))])), (cdl, false, .inl ("java/lang/CharacterDataLatin1", [])), (q, false, .inl ("java/util/Locale", [("java/util/Locale", "baseLocale", "Lsun/util/locale/BaseLocale;", .ref bl)])), (bl, false, .inl ("sun/util/locale/BaseLocale", [("sun/util/locale/BaseLocale", "language", "Ljava/lang/String;", .ref lg)])), strO lg lb 0, strB lb []]) rfl ?_
      refine wp_seg C (M0 hw) [(.dup, 1), (.bipush 27, 2), (.bipush 110, 2)] (by decide +kernel) (pc' := 260) (L' := [.val (.int sel), .val (.int a), .val (.int b), .val (.int c), .val (.int kd), .val (.int (ch8 (lo8 a))), .val (.int (ch8 (lo8 b))), .val (.int (ch8 (lo8 c))), .val (.ref a7), .val (.ref r), .unset]) (S' := [.int 110, .int 27, .ref a10, .ref a10]) rfl ?_
      refine wp_castore C (M0 hw) d0_260 (i := 0) (j := 27) rfl ⟨by decide, by decide⟩ (Nat.le_of_ble_eq_true rfl) (v' := .int 110) rfl (l' := [(a10, true, .inr (.char, [.int 99, .int 111, .int 109, .int 46, .int 101, .int 120, .int 97, .int 109, .int 112, .int 108, .int 101, .int 46, .int 115, .int 116, .int 114, .int 105, .int 110, .int 103, .int 108, .int 105, .int 110, .int 101, .int 46, .int 115, .int 116, .int 114, .int 105, .int 110, .int 0, .int 0, .int 0, .int 0, .int 0, .int 0, .int 0, .int 0, .int 0, .int 0, .int 0, .int 0, .int 0, .int 0])), strO r t 0, strB t (([] ++ [99, 111, 109, 46, 101, 120, 97, 109, 112, 108, 101, 46, 115, 116, 114, 105, 110, 103, 108, 105, 110, 101, 46, 115, 116, 114, 105, 110, 103, 108, 105, 110, 101, 46, 98, 105, 100, 105, 46]) ++ ([(lo8 a), (lo8 b), (lo8 c)].map lowB)), strO a8 b9 0, strB b9 [(lo8 a), (lo8 b), (lo8 c)], (a7, true, .inr (.char, [.int (ch8 (lo8 a)), .int (ch8 (lo8 b)), .int (ch8 (lo8 c))])), (cdl, false, .inl ("java/lang/CharacterDataLatin1", [])), (q, false, .inl ("java/util/Locale", [("java/util/Locale", "baseLocale", "Lsun/util/locale/BaseLocale;", .ref bl)])), (bl, false, .inl ("sun/util/locale/BaseLocale", [("sun/util/locale/BaseLocale", "language", "Ljava/lang/String;", .ref lg)])), strO lg lb 0, strB lb []]) rfl ?_
      refine wp_seg C (M0 hw) [(.dup, 1), (.bipush 28, 2), (.bipush 103, 2)] (by decide +kernel) (pc' := 266) (L' := [.val (.int sel), .val (.int a), .val (.int b), .val (.int c), .val (.int kd), .val (.int (ch8 (lo8 a))), .val (.int (ch8 (lo8 b))), .val (.int (ch8 (lo8 c))), .val (.ref a7), .val (.ref r), .unset]) (S' := [.int 103, .int 28, .ref a10, .ref a10]) rfl ?_
      refine wp_castore C (M0 hw) d0_266 (i := 0) (j := 28) rfl ⟨by decide, by decide⟩ (Nat.le_of_ble_eq_true rfl) (v' := .int 103) rfl (l' := [(a10, true, .inr (.char, [.int 99, .int 111, .int 109, .int 46, .int 101, .int 120, .int 97, .int 109, .int 112, .int 108, .int 101, .int 46, .int 115, .int 116, .int 114, .int 105, .int 110, .int 103, .int 108, .int 105, .int 110, .int 101, .int 46, .int 115, .int 116, .int 114, .int 105, .int 110, .int 103, .int 0, .int 0, .int 0, .int 0, .int 0, .int 0, .int 0, .int 0, .int 0, .int 0, .int 0, .int 0, .int 0])), strO r t 0, strB t (([] ++ [99, 111, 109, 46, 101, 120, 97, 109, 112, 108, 101, 46, 115, 116, 114, 105, 110, 103, 108, 105, 110, 101, 46, 115, 116, 114, 105, 110, 103, 108, 105, 110, 101, 46, 98, 105, 100, 105, 46]) ++ ([(lo8 a), (lo8 b), (lo8 c)].map lowB)), strO a8 b9 0, strB b9 [(lo8 a), (lo8 b), (lo8 c)], (a7, true, .inr (.char, [.int (ch8 (lo8 a)), .int (ch8 (lo8 b)), .int (ch8 (lo8 c))])), (cdl, false, .inl ("java/lang/CharacterDataLatin1", [])), (q, false, .inl ("java/util/Locale", [("java/util/Locale", "baseLocale", "Lsun/util/locale/BaseLocale;", .ref bl)])), (bl, false, .inl ("sun/util/locale/BaseLocale", [("sun/util/locale/BaseLocale", "language", "Ljava/lang/String;", .ref lg)])), strO lg lb 0, strB lb []]) rfl ?_
      refine wp_seg C (M0 hw) [(.dup, 1), (.bipush 29, 2), (.bipush 108, 2)] (by decide +kernel) (pc' := 272) (L' := [.val (.int sel), .val (.int a), .val (.int b), .val (.int c), .val (.int kd), .val (.int (ch8 (lo8 a))), .val (.int (ch8 (lo8 b))), .val (.int (ch8 (lo8 c))), .val (.ref a7), .val (.ref r), .unset]) (S' := [.int 108, .int 29, .ref a10, .ref a10]) rfl ?_
      refine wp_castore C (M0 hw) d0_272 (i := 0) (j := 29) rfl ⟨by decide, by decide⟩ (Nat.le_of_ble_eq_true rfl) (v' := .int 108) rfl (l' := [(a10, true, .inr (.char, [.int 99, .int 111, .int 109, .int 46, .int 101, .int 120, .int 97, .int 109, .int 112, .int 108, .int 101, .int 46, .int 115, .int 116, .int 114, .int 105, .int 110, .int 103, .int 108, .int 105, .int 110, .int 101, .int 46, .int 115, .int 116, .int 114, .int 105, .int 110, .int 103, .int 108, .int 0, .int 0, .int 0, .int 0, .int 0, .int 0, .int 0, .int 0, .int 0, .int 0, .int 0, .int 0])), strO r t 0, strB t (([] ++ [99, 111, 109, 46, 101, 120, 97, 109, 112, 108, 101, 46, 115, 116, 114, 105, 110, 103, 108, 105, 110, 101, 46, 115, 116, 114, 105, 110, 103, 108, 105, 110, 101, 46, 98, 105, 100, 105, 46]) ++ ([(lo8 a), (lo8 b), (lo8 c)].map lowB)), strO a8 b9 0, strB b9 [(lo8 a), (lo8 b), (lo8 c)], (a7, true, .inr (.char, [.int (ch8 (lo8 a)), .int (ch8 (lo8 b)), .int (ch8 (lo8 c))])), (cdl, false, .inl ("java/lang/CharacterDataLatin1", [])), (q, false, .inl ("java/util/Locale", [("java/util/Locale", "baseLocale", "Lsun/util/locale/BaseLocale;", .ref bl)])), (bl, false, .inl ("sun/util/locale/BaseLocale", [("sun/util/locale/BaseLocale", "language", "Ljava/lang/String;", .ref lg)])), strO lg lb 0, strB lb []]) rfl ?_
      refine wp_seg C (M0 hw) [(.dup, 1), (.bipush 30, 2), (.bipush 105, 2)] (by decide +kernel) (pc' := 278) (L' := [.val (.int sel), .val (.int a), .val (.int b), .val (.int c), .val (.int kd), .val (.int (ch8 (lo8 a))), .val (.int (ch8 (lo8 b))), .val (.int (ch8 (lo8 c))), .val (.ref a7), .val (.ref r), .unset]) (S' := [.int 105, .int 30, .ref a10, .ref a10]) rfl ?_
      refine wp_castore C (M0 hw) d0_278 (i := 0) (j := 30) rfl ⟨by decide, by decide⟩ (Nat.le_of_ble_eq_true rfl) (v' := .int 105) rfl (l' := [(a10, true, .inr (.char, [.int 99, .int 111, .int 109, .int 46, .int 101, .int 120, .int 97, .int 109, .int 112, .int 108, .int 101, .int 46, .int 115, .int 116, .int 114, .int 105, .int 110, .int 103, .int 108, .int 105, .int 110, .int 101, .int 46, .int 115, .int 116, .int 114, .int 105, .int 110, .int 103, .int 108, .int 105, .int 0, .int 0, .int 0, .int 0, .int 0, .int 0, .int 0, .int 0, .int 0, .int 0, .int 0])), strO r t 0, strB t (([] ++ [99, 111, 109, 46, 101, 120, 97, 109, 112, 108, 101, 46, 115, 116, 114, 105, 110, 103, 108, 105, 110, 101, 46, 115, 116, 114, 105, 110, 103, 108, 105, 110, 101, 46, 98, 105, 100, 105, 46]) ++ ([(lo8 a), (lo8 b), (lo8 c)].map lowB)), strO a8 b9 0, strB b9 [(lo8 a), (lo8 b), (lo8 c)], (a7, true, .inr (.char, [.int (ch8 (lo8 a)), .int (ch8 (lo8 b)), .int (ch8 (lo8 c))])), (cdl, false, .inl ("java/lang/CharacterDataLatin1", [])), (q, false, .inl ("java/util/Locale", [("java/util/Locale", "baseLocale", "Lsun/util/locale/BaseLocale;", .ref bl)])), (bl, false, .inl ("sun/util/locale/BaseLocale", [("sun/util/locale/BaseLocale", "language", "Ljava/lang/String;", .ref lg)])), strO lg lb 0, strB lb []]) rfl ?_
      refine wp_seg C (M0 hw) [(.dup, 1), (.bipush 31, 2), (.bipush 110, 2)] (by decide +kernel) (pc' := 284) (L' := [.val (.int sel), .val (.int a), .val (.int b), .val (.int c), .val (.int kd), .val (.int (ch8 (lo8 a))), .val (.int (ch8 (lo8 b))), .val (.int (ch8 (lo8 c))), .val (.ref a7), .val (.ref r), .unset]) (S' := [.int 110, .int 31, .ref a10, .ref a10]) rfl ?_
      refine wp_castore C (M0 hw) d0_284 (i := 0) (j := 31) rfl ⟨by decide, by decide⟩ (Nat.le_of_ble_eq_true rfl) (v' := .int 110) rfl (l' := [(a10, true, .inr (.char, [.int 99, .int 111, .int 109, .int 46, .int 101, .int 120, .int 97, .int 109, .int 112, .int 108, .int 101, .int 46, .int 115, .int 116, .int 114, .int 105, .int 110, .int 103, .int 108, .int 105, .int 110, .int 101, .int 46, .int 115, .int 116, .int 114, .int 105, .int 110, .int 103, .int 108, .int 105, .int 110, .int 0, .int 0, .int 0, .int 0, .int 0, .int 0, .int 0, .int 0, .int 0, .int 0])), strO r t 0, strB t (([] ++ [99, 111, 109, 46, 101, 120, 97, 109, 112, 108, 101, 46, 115, 116, 114, 105, 110, 103, 108, 105, 110, 101, 46, 115, 116, 114, 105, 110, 103, 108, 105, 110, 101, 46, 98, 105, 100, 105, 46]) ++ ([(lo8 a), (lo8 b), (lo8 c)].map lowB)), strO a8 b9 0, strB b9 [(lo8 a), (lo8 b), (lo8 c)], (a7, true, .inr (.char, [.int (ch8 (lo8 a)), .int (ch8 (lo8 b)), .int (ch8 (lo8 c))])), (cdl, false, .inl ("java/lang/CharacterDataLatin1", [])), (q, false, .inl ("java/util/Locale", [("java/util/Locale", "baseLocale", "Lsun/util/locale/BaseLocale;", .ref bl)])), (bl, false, .inl ("sun/util/locale/BaseLocale", [("sun/util/locale/BaseLocale", "language", "Ljava/lang/String;", .ref lg)])), strO lg lb 0, strB lb []]) rfl ?_
      refine wp_seg C (M0 hw) [(.dup, 1), (.bipush 32, 2), (.bipush 101, 2)] (by decide +kernel) (pc' := 290) (L' := [.val (.int sel), .val (.int a), .val (.int b), .val (.int c), .val (.int kd), .val (.int (ch8 (lo8 a))), .val (.int (ch8 (lo8 b))), .val (.int (ch8 (lo8 c))), .val (.ref a7), .val (.ref r), .unset]) (S' := [.int 101, .int 32, .ref a10, .ref a10]) rfl ?_
      refine wp_castore C (M0 hw) d0_290 (i := 0) (j := 32) rfl ⟨by decide, by decide⟩ (Nat.le_of_ble_eq_true rfl) (v' := .int 101) rfl (l' := [(a10, true, .inr (.char, [.int 99, .int 111, .int 109, .int 46, .int 101, .int 120, .int 97, .int 109, .int 112, .int 108, .int 101, .int 46, .int 115, .int 116, .int 114, .int 105, .int 110, .int 103, .int 108, .int 105, .int 110, .int 101, .int 46, .int 115, .int 116, .int 114, .int 105, .int 110, .int 103, .int 108, .int 105, .int 110, .int 101, .int 0, .int 0, .int 0, .int 0, .int 0, .int 0, .int 0, .int 0, .int 0])), strO r t 0, strB t (([] ++ [99, 111, 109, 46, 101, 120, 97, 109, 112, 108, 101, 46, 115, 116, 114, 105, 110, 103, 108, 105, 110, 101, 46, 115, 116, 114, 105, 110, 103, 108, 105, 110, 101, 46, 98, 105, 100, 105, 46]) ++ ([(lo8 a), (lo8 b), (lo8 c)].map lowB)), strO a8 b9 0, strB b9 [(lo8 a), (lo8 b), (lo8 c)], (a7, true, .inr (.char, [.int (ch8 (lo8 a)), .int (ch8 (lo8 b)), .int (ch8 (lo8 c))])), (cdl, false, .inl ("java/lang/CharacterDataLatin1", [])), (q, false, .inl ("java/util/Locale", [("java/util/Locale", "baseLocale", "Lsun/util/locale/BaseLocale;", .ref bl)])), (bl, false, .inl ("sun/util/locale/BaseLocale", [("sun/util/locale/BaseLocale", "language", "Ljava/lang/String;", .ref lg)])), strO lg lb 0, strB lb []]) rfl ?_
      refine wp_seg C (M0 hw) [(.dup, 1), (.bipush 33, 2), (.bipush 46, 2)] (by decide +kernel) (pc' := 296) (L' := [.val (.int sel), .val (.int a), .val (.int b), .val (.int c), .val (.int kd), .val (.int (ch8 (lo8 a))), .val (.int (ch8 (lo8 b))), .val (.int (ch8 (lo8 c))), .val (.ref a7), .val (.ref r), .unset]) (S' := [.int 46, .int 33, .ref a10, .ref a10]) rfl ?_
      refine wp_castore C (M0 hw) d0_296 (i := 0) (j := 33) rfl ⟨by decide, by decide⟩ (Nat.le_of_ble_eq_true rfl) (v' := .int 46) rfl (l' := [(a10, true, .inr (.char, [.int 99, .int 111, .int 109, .int 46, .int 101, .int 120, .int 97, .int 109, .int 112, .int 108, .int 101, .int 46, .int 115, .int 116, .int 114, .int 105, .int 110, .int 103, .int 108, .int 105, .int 110, .int 101, .int 46, .int 115, .int 116, .int 114, .int 105, .int 110, .int 103, .int 108, .int 105, .int 110, .int 101, .int 46, .int 0, .int 0, .int 0, .int 0, .int 0, .int 0, .int 0, .int 0])), strO r t 0, strB t (([] ++ [99, 111, 109, 46, 101, 120, 97, 109, 112, 108, 101, 46, 115, 116, 114, 105, 110, 103, 108, 105, 110, 101, 46, 115, 116, 114, 105, 110, 103, 108, 105, 110, 101, 46, 98, 105, 100, 105, 46]) ++ ([(lo8 a), (lo8 b), (lo8 c)].map lowB)), strO a8 b9 0, strB b9 [(lo8 a), (lo8 b), (lo8 c)], (a7, true, .inr (.char, [.int (ch8 (lo8 a)), .int (ch8 (lo8 b)), .int (ch8 (lo8 c))])), (cdl, false, .inl ("java/lang/CharacterDataLatin1", [])), (q, false, .inl ("java/util/Locale", [("java/util/Locale", "baseLocale", "Lsun/util/locale/BaseLocale;", .ref bl)])), (bl, false, .inl ("sun/util/locale/BaseLocale", [("sun/util/locale/BaseLocale", "language", "Ljava/lang/String;", .ref lg)])), strO lg lb 0, strB lb []]) rfl ?_
      refine wp_seg C (M0 hw) [(.dup, 1), (.bipush 34, 2), (.bipush 98, 2)] (by decide +kernel) (pc' := 302) (L' := [.val (.int sel), .val (.int a), .val (.int b), .val (.int c), .val (.int kd), .val (.int (ch8 (lo8 a))), .val (.int (ch8 (lo8 b))), .val (.int (ch8 (lo8 c))), .val (.ref a7), .val (.ref r), .unset]) (S' := [.int 98, .int 34, .ref a10, .ref a10]) rfl ?_
      refine wp_castore C (M0 hw) d0_302 (i := 0) (j := 34) rfl ⟨by decide, by decide⟩ (Nat.le_of_ble_eq_true rfl) (v' := .int 98) rfl (l' := [(a10, true, .inr (.char, [.int 99, .int 111, .int 109, .int 46, .int 101, .int 120, .int 97, .int 109, .int 112, .int 108, .int 101, .int 46, .int 115, .int 116, .int 114, .int 105, .int 110, .int 103, .int 108, .int 105, .int 110, .int 101, .int 46, .int 115, .int 116, .int 114, .int 105, .int 110, .int 103, .int 108, .int 105, .int 110, .int 101, .int 46, .int 98, .int 0, .int 0, .int 0, .int 0, .int 0, .int 0, .int 0])), strO r t 0, strB t (([] ++ [99, 111, 109, 46, 101, 120, 97, 109, 112, 108, 101, 46, 115, 116, 114, 105, 110, 103, 108, 105, 110, 101, 46, 115, 116, 114, 105, 110, 103, 108, 105, 110, 101, 46, 98, 105, 100, 105, 46]) ++ ([(lo8 a), (lo8 b), (lo8 c)].map lowB)), strO a8 b9 0, strB b9 [(lo8 a), (lo8 b), (lo8 c)], (a7, true, .inr (.char, [.int (ch8 (lo8 a)), .int (ch8 (lo8 b)), .int (ch8 (lo8 c))])), (cdl, false, .inl ("java/lang/CharacterDataLatin1", [])), (q, false, .inl ("java/util/Locale", [("java/util/Locale", "baseLocale", "Lsun/util/locale/BaseLocale;", .ref bl)])), (bl, false, .inl ("sun/util/locale/BaseLocale", [("sun/util/locale/BaseLocale", "language", "Ljava/lang/String;", .ref lg)])), strO lg lb 0, strB lb []]) rfl ?_
      refine wp_seg C (M0 hw) [(.dup, 1), (.bipush 35, 2), (.bipush 105, 2)] (by decide +kernel) (pc' := 308) (L' := [.val (.int sel), .val (.int a), .val (.int b), .val (.int c), .val (.int kd), .val (.int (ch8 (lo8 a))), .val (.int (ch8 (lo8 b))), .val (.int (ch8 (lo8 c))), .val (.ref a7), .val (.ref r), .unset]) (S' := [.int 105, .int 35, .ref a10, .ref a10]) rfl ?_
      refine wp_castore C (M0 hw) d0_308 (i := 0) (j := 35) rfl ⟨by decide, by decide⟩ (Nat.le_of_ble_eq_true rfl) (v' := .int 105) rfl (l' := [(a10, true, .inr (.char, [.int 99, .int 111, .int 109, .int 46, .int 101, .int 120, .int 97, .int 109, .int 112, .int 108, .int 101, .int 46, .int 115, .int 116, .int 114, .int 105, .int 110, .int 103, .int 108, .int 105, .int 110, .int 101, .int 46, .int 115, .int 116, .int 114, .int 105, .int 110, .int 103, .int 108, .int 105, .int 110, .int 101, .int 46, .int 98, .int 105, .int 0, .int 0, .int 0, .int 0, .int 0, .int 0])), strO r t 0, strB t (([] ++ [99, 111, 109, 46, 101, 120, 97, 109, 112, 108, 101, 46, 115, 116, 114, 105, 110, 103, 108, 105, 110, 101, 46, 115, 116, 114, 105, 110, 103, 108, 105, 110, 101, 46, 98, 105, 100, 105, 46]) ++ ([(lo8 a), (lo8 b), (lo8 c)].map lowB)), strO a8 b9 0, strB b9 [(lo8 a), (lo8 b), (lo8 c)], (a7, true, .inr (.char, [.int (ch8 (lo8 a)), .int (ch8 (lo8 b)), .int (ch8 (lo8 c))])), (cdl, false, .inl ("java/lang/CharacterDataLatin1", [])), (q, false, .inl ("java/util/Locale", [("java/util/Locale", "baseLocale", "Lsun/util/locale/BaseLocale;", .ref bl)])), (bl, false, .inl ("sun/util/locale/BaseLocale", [("sun/util/locale/BaseLocale", "language", "Ljava/lang/String;", .ref lg)])), strO lg lb 0, strB lb []]) rfl ?_
      refine wp_seg C (M0 hw) [(.dup, 1), (.bipush 36, 2), (.bipush 100, 2)] (by decide +kernel) (pc' := 314) (L' := [.val (.int sel), .val (.int a), .val (.int b), .val (.int c), .val (.int kd), .val (.int (ch8 (lo8 a))), .val (.int (ch8 (lo8 b))), .val (.int (ch8 (lo8 c))), .val (.ref a7), .val (.ref r), .unset]) (S' := [.int 100, .int 36, .ref a10, .ref a10]) rfl ?_
      refine wp_castore C (M0 hw) d0_314 (i := 0) (j := 36) rfl ⟨by decide, by decide⟩ (Nat.le_of_ble_eq_true rfl) (v' := .int 100) rfl (l' := [(a10, true, .inr (.char, [.int 99, .int 111, .int 109, .int 46, .int 101, .int 120, .int 97, .int 109, .int 112, .int 108, .int 101, .int 46, .int 115, .int 116, .int 114, .int 105, .int 110, .int 103, .int 108, .int 105, .int 110, .int 101, .int 46, .int 115, .int 116, .int 114, .int 105, .int 110, .int 103, .int 108, .int 105, .int 110, .int 101, .int 46, .int 98, .int 105, .int 100, .int 0, .int 0, .int 0, .int 0, .int 0])), strO r t 0, strB t (([] ++ [99, 111, 109, 46, 101, 120, 97, 109, 112, 108, 101, 46, 115, 116, 114, 105, 110, 103, 108, 105, 110, 101, 46, 115, 116, 114, 105, 110, 103, 108, 105, 110, 101, 46, 98, 105, 100, 105, 46]) ++ ([(lo8 a), (lo8 b), (lo8 c)].map lowB)), strO a8 b9 0, strB b9 [(lo8 a), (lo8 b), (lo8 c)], (a7, true, .inr (.char, [.int (ch8 (lo8 a)), .int (ch8 (lo8 b)), .int (ch8 (lo8 c))])), (cdl, false, .inl ("java/lang/CharacterDataLatin1", [])), (q, false, .inl ("java/util/Locale", [("java/util/Locale", "baseLocale", "Lsun/util/locale/BaseLocale;", .ref bl)])), (bl, false, .inl ("sun/util/locale/BaseLocale", [("sun/util/locale/BaseLocale", "language", "Ljava/lang/String;", .ref lg)])), strO lg lb 0, strB lb []]) rfl ?_
      refine wp_seg C (M0 hw) [(.dup, 1), (.bipush 37, 2), (.bipush 105, 2)] (by decide +kernel) (pc' := 320) (L' := [.val (.int sel), .val (.int a), .val (.int b), .val (.int c), .val (.int kd), .val (.int (ch8 (lo8 a))), .val (.int (ch8 (lo8 b))), .val (.int (ch8 (lo8 c))), .val (.ref a7), .val (.ref r), .unset]) (S' := [.int 105, .int 37, .ref a10, .ref a10]) rfl ?_
      refine wp_castore C (M0 hw) d0_320 (i := 0) (j := 37) rfl ⟨by decide, by decide⟩ (Nat.le_of_ble_eq_true rfl) (v' := .int 105) rfl (l' := [(a10, true, .inr (.char, [.int 99, .int 111, .int 109, .int 46, .int 101, .int 120, .int 97, .int 109, .int 112, .int 108, .int 101, .int 46, .int 115, .int 116, .int 114, .int 105, .int 110, .int 103, .int 108, .int 105, .int 110, .int 101, .int 46, .int 115, .int 116, .int 114, .int 105, .int 110, .int 103, .int 108, .int 105, .int 110, .int 101, .int 46, .int 98, .int 105, .int 100, .int 105, .int 0, .int 0, .int 0, .int 0])), strO r t 0, strB t (([] ++ [99, 111, 109, 46, 101, 120, 97, 109, 112, 108, 101, 46, 115, 116, 114, 105, 110, 103, 108, 105, 110, 101, 46, 115, 116, 114, 105, 110, 103, 108, 105, 110, 101, 46, 98, 105, 100, 105, 46]) ++ ([(lo8 a), (lo8 b), (lo8 c)].map lowB)), strO a8 b9 0, strB b9 [(lo8 a), (lo8 b), (lo8 c)], (a7, true, .inr (.char, [.int (ch8 (lo8 a)), .int (ch8 (lo8 b)), .int (ch8 (lo8 c))])), (cdl, false, .inl ("java/lang/CharacterDataLatin1", [])), (q, false, .inl ("java/util/Locale", [("java/util/Locale", "baseLocale", "Lsun/util/locale/BaseLocale;", .ref bl)])), (bl, false, .inl ("sun/util/locale/BaseLocale", [("sun/util/locale/BaseLocale", "language", "Ljava/lang/String;", .ref lg)])), strO lg lb 0, strB lb []]) rfl ?_
      refine wp_seg C (M0 hw) [(.dup, 1), (.bipush 38, 2), (.bipush 46, 2)] (by decide +kernel) (pc' := 326) (L' := [.val (.int sel), .val (.int a), .val (.int b), .val (.int c), .val (.int kd), .val (.int (ch8 (lo8 a))), .val (.int (ch8 (lo8 b))), .val (.int (ch8 (lo8 c))), .val (.ref a7), .val (.ref r), .unset]) (S' := [.int 46, .int 38, .ref a10, .ref a10]) rfl ?_
      refine wp_castore C (M0 hw) d0_326 (i := 0) (j := 38) rfl ⟨by decide, by decide⟩ (Nat.le_of_ble_eq_true rfl) (v' := .int 46) rfl (l' := [(a10, true, .inr (.char, [.int 99, .int 111, .int 109, .int 46, .int 101, .int 120, .int 97, .int 109, .int 112, .int 108, .int 101, .int 46, .int 115, .int 116, .int 114, .int 105, .int 110, .int 103, .int 108, .int 105, .int 110, .int 101, .int 46, .int 115, .int 116, .int 114, .int 105, .int 110, .int 103, .int 108, .int 105, .int 110, .int 101, .int 46, .int 98, .int 105, .int 100, .int 105, .int 46, .int 0, .int 0, .int 0])), strO r t 0, strB t (([] ++ [99, 111, 109, 46, 101, 120, 97, 109, 112, 108, 101, 46, 115, 116, 114, 105, 110, 103, 108, 105, 110, 101, 46, 115, 116, 114, 105, 110, 103, 108, 105, 110, 101, 46, 98, 105, 100, 105, 46]) ++ ([(lo8 a), (lo8 b), (lo8 c)].map lowB)), strO a8 b9 0, strB b9 [(lo8 a), (lo8 b), (lo8 c)], (a7, true, .inr (.char, [.int (ch8 (lo8 a)), .int (ch8 (lo8 b)), .int (ch8 (lo8 c))])), (cdl, false, .inl ("java/lang/CharacterDataLatin1", [])), (q, false, .inl ("java/util/Locale", [("java/util/Locale", "baseLocale", "Lsun/util/locale/BaseLocale;", .ref bl)])), (bl, false, .inl ("sun/util/locale/BaseLocale", [("sun/util/locale/BaseLocale", "language", "Ljava/lang/String;", .ref lg)])), strO lg lb 0, strB lb []]) rfl ?_
      refine wp_seg C (M0 hw) [(.dup, 1), (.bipush 39, 2), (.iload 5, 2)] (by decide +kernel) (pc' := 332) (L' := [.val (.int sel), .val (.int a), .val (.int b), .val (.int c), .val (.int kd), .val (.int (ch8 (lo8 a))), .val (.int (ch8 (lo8 b))), .val (.int (ch8 (lo8 c))), .val (.ref a7), .val (.ref r), .unset]) (S' := [.int (ch8 (lo8 a)), .int 39, .ref a10, .ref a10]) rfl ?_
      refine wp_invokestatic C (M0 hw) d0_332 (M36 hw) (w221 hw) (w222 hw) (w223 hw) (by decide) (S' := [.int 39, .ref a10, .ref a10]) [.int (ch8 (lo8 a))] (lenOf pd36 rfl) rfl (L' := [.val (.int (ch8 (lo8 a)))]) rfl rfl (Rm.law (d := 1) (w := 12) hr hx (Nat.le_of_ble_eq_true rfl) (Nat.le_of_ble_eq_true rfl)) ?_
      refine c_lwr C hw (u := lo8 a) (Meth.caller (M0 hw) d0_332)  ?_
      refine wp_castore C (M0 hw) d0_335 (i := 0) (j := 39) rfl ⟨by decide, by decide⟩ (Nat.le_of_ble_eq_true rfl) (v' := .int (ch8 (lowB (lo8 a)))) (congrArg Value.int (ch8_i2c _)) (l' := [(a10, true, .inr (.char, [.int 99, .int 111, .int 109, .int 46, .int 101, .int 120, .int 97, .int 109, .int 112, .int 108, .int 101, .int 46, .int 115, .int 116, .int 114, .int 105, .int 110, .int 103, .int 108, .int 105, .int 110, .int 101, .int 46, .int 115, .int 116, .int 114, .int 105, .int 110, .int 103, .int 108, .int 105, .int 110, .int 101, .int 46, .int 98, .int 105, .int 100, .int 105, .int 46, .int (ch8 (lowB (lo8 a))), .int 0, .int 0])), strO r t 0, strB t (([] ++ [99, 111, 109, 46, 101, 120, 97, 109, 112, 108, 101, 46, 115, 116, 114, 105, 110, 103, 108, 105, 110, 101, 46, 115, 116, 114, 105, 110, 103, 108, 105, 110, 101, 46, 98, 105, 100, 105, 46]) ++ ([(lo8 a), (lo8 b), (lo8 c)].map lowB)), strO a8 b9 0, strB b9 [(lo8 a), (lo8 b), (lo8 c)], (a7, true, .inr (.char, [.int (ch8 (lo8 a)), .int (ch8 (lo8 b)), .int (ch8 (lo8 c))])), (cdl, false, .inl ("java/lang/CharacterDataLatin1", [])), (q, false, .inl ("java/util/Locale", [("java/util/Locale", "baseLocale", "Lsun/util/locale/BaseLocale;", .ref bl)])), (bl, false, .inl ("sun/util/locale/BaseLocale", [("sun/util/locale/BaseLocale", "language", "Ljava/lang/String;", .ref lg)])), strO lg lb 0, strB lb []]) rfl ?_
      refine wp_seg C (M0 hw) [(.dup, 1), (.bipush 40, 2), (.iload 6, 2)] (by decide +kernel) (pc' := 341) (L' := [.val (.int sel), .val (.int a), .val (.int b), .val (.int c), .val (.int kd), .val (.int (ch8 (lo8 a))), .val (.int (ch8 (lo8 b))), .val (.int (ch8 (lo8 c))), .val (.ref a7), .val (.ref r), .unset]) (S' := [.int (ch8 (lo8 b)), .int 40, .ref a10, .ref a10]) rfl ?_
      refine wp_invokestatic C (M0 hw) d0_341 (M36 hw) (w221 hw) (w222 hw) (w223 hw) (by decide) (S' := [.int 40, .ref a10, .ref a10]) [.int (ch8 (lo8 b))] (lenOf pd36 rfl) rfl (L' := [.val (.int (ch8 (lo8 b)))]) rfl rfl (Rm.law (d := 1) (w := 12) hr hx (Nat.le_of_ble_eq_true rfl) (Nat.le_of_ble_eq_true rfl)) ?_
      refine c_lwr C hw (u := lo8 b) (Meth.caller (M0 hw) d0_341)  ?_
      refine wp_castore C (M0 hw) d0_344 (i := 0) (j := 40) rfl ⟨by decide, by decide⟩ (Nat.le_of_ble_eq_true rfl) (v' := .int (ch8 (lowB (lo8 b)))) (congrArg Value.int (ch8_i2c _)) (l' := [(a10, true, .inr (.char, [.int 99, .int 111, .int 109, .int 46, .int 101, .int 120, .int 97, .int 109, .int 112, .int 108, .int 101, .int 46, .int 115, .int 116, .int 114, .int 105, .int 110, .int 103, .int 108, .int 105, .int 110, .int 101, .int 46, .int 115, .int 116, .int 114, .int 105, .int 110, .int 103, .int 108, .int 105, .int 110, .int 101, .int 46, .int 98, .int 105, .int 100, .int 105, .int 46, .int (ch8 (lowB (lo8 a))), .int (ch8 (lowB (lo8 b))), .int 0])), strO r t 0, strB t (([] ++ [99, 111, 109, 46, 101, 120, 97, 109, 112, 108, 101, 46, 115, 116, 114, 105, 110, 103, 108, 105, 110, 101, 46, 115, 116, 114, 105, 110, 103, 108, 105, 110, 101, 46, 98, 105, 100, 105, 46]) ++ ([(lo8 a), (lo8 b), (lo8 c)].map lowB)), strO a8 b9 0, strB b9 [(lo8 a), (lo8 b), (lo8 c)], (a7, true, .inr (.char, [.int (ch8 (lo8 a)), .int (ch8 (lo8 b)), .int (ch8 (lo8 c))])), (cdl, false, .inl ("java/lang/CharacterDataLatin1", [])), (q, false, .inl ("java/util/Locale", [("java/util/Locale", "baseLocale", "Lsun/util/locale/BaseLocale;", .ref bl)])), (bl, false, .inl ("sun/util/locale/BaseLocale", [("sun/util/locale/BaseLocale", "language", "Ljava/lang/String;", .ref lg)])), strO lg lb 0, strB lb []]) rfl ?_
      refine wp_seg C (M0 hw) [(.dup, 1), (.bipush 41, 2), (.iload 7, 2)] (by decide +kernel) (pc' := 350) (L' := [.val (.int sel), .val (.int a), .val (.int b), .val (.int c), .val (.int kd), .val (.int (ch8 (lo8 a))), .val (.int (ch8 (lo8 b))), .val (.int (ch8 (lo8 c))), .val (.ref a7), .val (.ref r), .unset]) (S' := [.int (ch8 (lo8 c)), .int 41, .ref a10, .ref a10]) rfl ?_
      refine wp_invokestatic C (M0 hw) d0_350 (M36 hw) (w221 hw) (w222 hw) (w223 hw) (by decide) (S' := [.int 41, .ref a10, .ref a10]) [.int (ch8 (lo8 c))] (lenOf pd36 rfl) rfl (L' := [.val (.int (ch8 (lo8 c)))]) rfl rfl (Rm.law (d := 1) (w := 12) hr hx (Nat.le_of_ble_eq_true rfl) (Nat.le_of_ble_eq_true rfl)) ?_
      refine c_lwr C hw (u := lo8 c) (Meth.caller (M0 hw) d0_350)  ?_
      refine wp_castore C (M0 hw) d0_353 (i := 0) (j := 41) rfl ⟨by decide, by decide⟩ (Nat.le_of_ble_eq_true rfl) (v' := .int (ch8 (lowB (lo8 c)))) (congrArg Value.int (ch8_i2c _)) (l' := [(a10, true, .inr (.char, [.int 99, .int 111, .int 109, .int 46, .int 101, .int 120, .int 97, .int 109, .int 112, .int 108, .int 101, .int 46, .int 115, .int 116, .int 114, .int 105, .int 110, .int 103, .int 108, .int 105, .int 110, .int 101, .int 46, .int 115, .int 116, .int 114, .int 105, .int 110, .int 103, .int 108, .int 105, .int 110, .int 101, .int 46, .int 98, .int 105, .int 100, .int 105, .int 46, .int (ch8 (lowB (lo8 a))), .int (ch8 (lowB (lo8 b))), .int (ch8 (lowB (lo8 c)))])), strO r t 0, strB t (([] ++ [99, 111, 109, 46, 101, 120, 97, 109, 112, 108, 101, 46, 115, 116, 114, 105, 110, 103, 108, 105, 110, 101, 46, 115, 116, 114, 105, 110, 103, 108, 105, 110, 101, 46, 98, 105, 100, 105, 46]) ++ ([(lo8 a), (lo8 b), (lo8 c)].map lowB)), strO a8 b9 0, strB b9 [(lo8 a), (lo8 b), (lo8 c)], (a7, true, .inr (.char, [.int (ch8 (lo8 a)), .int (ch8 (lo8 b)), .int (ch8 (lo8 c))])), (cdl, false, .inl ("java/lang/CharacterDataLatin1", [])), (q, false, .inl ("java/util/Locale", [("java/util/Locale", "baseLocale", "Lsun/util/locale/BaseLocale;", .ref bl)])), (bl, false, .inl ("sun/util/locale/BaseLocale", [("sun/util/locale/BaseLocale", "language", "Ljava/lang/String;", .ref lg)])), strO lg lb 0, strB lb []]) rfl ?_
      refine wp_seg C (M0 hw) [(.astore 10, 2)] (by decide +kernel) (pc' := 356) (L' := [.val (.int sel), .val (.int a), .val (.int b), .val (.int c), .val (.int kd), .val (.int (ch8 (lo8 a))), .val (.int (ch8 (lo8 b))), .val (.int (ch8 (lo8 c))), .val (.ref a7), .val (.ref r), .val (.ref a10)]) (S' := []) rfl ?_
      refine wp_new C (M0 hw) d0_356 (w20 hw) (w3 hw) (w2 hw) (cls_Str hw) (rc hr (Nat.le_of_ble_eq_true rfl)) (rs hr (Nat.le_of_ble_eq_true rfl)) fun a11 => ?_
      refine wp_seg C (M0 hw) [(.dup, 1), (.aload 10, 2)] (by decide +kernel) (pc' := 362) (L' := [.val (.int sel), .val (.int a), .val (.int b), .val (.int c), .val (.int kd), .val (.int (ch8 (lo8 a))), .val (.int (ch8 (lo8 b))), .val (.int (ch8 (lo8 c))), .val (.ref a7), .val (.ref r), .val (.ref a10)]) (S' := [.ref a10, .ref a11, .ref a11]) rfl ?_
      refine wp_init C (M0 hw) d0_362 (M8 hw) rfl (w21 hw) (w22 hw) (by decide) (S' := [.ref a11]) a11 [.ref a10] (lenOf pd8 rfl) rfl (L' := [.val (.ref a11), .val (.ref a10)]) rfl rfl (Rm.law (d := 1) (w := 13) hr hx (Nat.le_of_ble_eq_true rfl) (Nat.le_of_ble_eq_true rfl)) ?_
      refine c_init1 C hw (us := [99, 111, 109, 46, 101, 120, 97, 109, 112, 108, 101, 46, 115, 116, 114, 105, 110, 103, 108, 105, 110, 101, 46, 115, 116, 114, 105, 110, 103, 108, 105, 110, 101, 46, 98, 105, 100, 105, 46, (lowB (lo8 a)), (lowB (lo8 b)), (lowB (lo8 c))]) hs (Nat.le_of_ble_eq_true rfl) (Nat.le_of_ble_eq_true rfl) (Nat.succ_pos _) (Meth.caller (M0 hw) d0_362) (Rm.law (d := 4) (w := 65) hr hx (Nat.le_of_ble_eq_true rfl) (Nat.le_of_ble_eq_true rfl)) (mc := true) (List.mem_of_getElem? (i := 0) rfl) (rc hr (Nat.le_of_ble_eq_true rfl)) (rs hr (Nat.le_of_ble_eq_true rfl)) fun b12 => ?_
      refine wp_seg C (M0 hw) [(.aload 9, 2)] (by decide +kernel) (pc' := 367) (L' := [.val (.int sel), .val (.int a), .val (.int b), .val (.int c), .val (.int kd), .val (.int (ch8 (lo8 a))), .val (.int (ch8 (lo8 b))), .val (.int (ch8 (lo8 c))), .val (.ref a7), .val (.ref r), .val (.ref a10)]) (S' := [.ref r, .ref a11]) rfl ?_
      refine wp_invokevirtual C (M0 hw) d0_367 (M16 hw) (Cl := "java/lang/String") (w14 hw) (w15 hw) (w17 hw) (w16 hw) (Or.inl ⟨_, (w17 hw)⟩) (by decide) (b := a11) (List.mem_of_getElem? (i := 0) rfl) (S' := []) [.ref r] (lenOf pd16 rfl) rfl (L' := [.val (.ref a11), .val (.ref r), .unset]) rfl rfl (Rm.law (d := 1) (w := 14) hr hx (Nat.le_of_ble_eq_true rfl) (Nat.le_of_ble_eq_true rfl)) ?_
      refine c_eq C hw hs (us := [99, 111, 109, 46, 101, 120, 97, 109, 112, 108, 101, 46, 115, 116, 114, 105, 110, 103, 108, 105, 110, 101, 46, 115, 116, 114, 105, 110, 103, 108, 105, 110, 101, 46, 98, 105, 100, 105, 46, (lowB (lo8 a)), (lowB (lo8 b)), (lowB (lo8 c))]) (vs := (([] ++ [99, 111, 109, 46, 101, 120, 97, 109, 112, 108, 101, 46, 115, 116, 114, 105, 110, 103, 108, 105, 110, 101, 46, 115, 116, 114, 105, 110, 103, 108, 105, 110, 101, 46, 98, 105, 100, 105, 46]) ++ ([(lo8 a), (lo8 b), (lo8 c)].map lowB))) (by simp) (by simp) (Or.inr rfl) (Meth.caller (M0 hw) d0_367) (Rm.law (d := 2) (w := 28) hr hx (Nat.le_of_ble_eq_true rfl) (Nat.le_of_ble_eq_true rfl)) ⟨b12, (List.mem_of_getElem? (i := 0) rfl), (List.mem_of_getElem? (i := 1) rfl)⟩ ⟨t, (List.mem_of_getElem? (i := 3) rfl), (List.mem_of_getElem? (i := 4) rfl)⟩ ?_
      rw [bi_t (show ([99, 111, 109, 46, 101, 120, 97, 109, 112, 108, 101, 46, 115, 116, 114, 105, 110, 103, 108, 105, 110, 101, 46, 115, 116, 114, 105, 110, 103, 108, 105, 110, 101, 46, 98, 105, 100, 105, 46, (lowB (lo8 a)), (lowB (lo8 b)), (lowB (lo8 c))] : List UInt8) = (([] ++ [99, 111, 109, 46, 101, 120, 97, 109, 112, 108, 101, 46, 115, 116, 114, 105, 110, 103, 108, 105, 110, 101, 46, 115, 116, 114, 105, 110, 103, 108, 105, 110, 101, 46, 98, 105, 100, 105, 46]) ++ ([(lo8 a), (lo8 b), (lo8 c)].map lowB)) from rfl)]
      exact wp_end C (M0 hw) d0_370
def Pst (av : Array Value) (U : State) : Prop := (∃ (sel : Int32) (a : Int32) (b : Int32) (c : Int32), av = #[.int sel, .int a, .int b, .int c]) ∧ ((∃ cs : Int32, ¬ cs = 0 ∧ Sta U U.heap "java/lang/String" "COMPACT_STRINGS" "Z" (.int cs)) ∧
  ∃ v : Value, v.isRef = true ∧ Sta U U.heap "jdk/internal/util/Preconditions" "SIOOBE_FORMATTER" "Ljava/util/function/BiFunction;" v) ∧ EW U av consts_1 ∧ CHv U consts_1 U.vm U.heap ∧ (∀ d ∈ jdkStatics_1, d.before av U = true) ∧ narrow_1.before av U = true
theorem met_1 (l : Launch) : MetFree l x (head1 (Jvm.Cond.code x code maxLocals ret :: tables_1) room_1) Pst (fun _ _ _ _ _ => True) (fun _ U o U' => Left false room_1 U o U') :=
  start_wp (EL := consts_1) (PL := []) (strict := false) (by decide +kernel) Pst (fun _ _ h => h.2.2.1) (fun _ _ h => h.2.2.2.1) (hPc := Nat.le_of_ble_eq_true rfl) (hPs := Nat.le_of_ble_eq_true rfl) fun κ C hr hE hst hx hPP hw hP => by
    obtain ⟨⟨sel, a, b, c, ha⟩, hs, -, -, hj, hnw⟩ := hP
    refine ⟨[.val (.int sel), .val (.int a), .val (.int b), .val (.int c), .unset, .unset, .unset, .unset, .unset, .unset, .unset], ?_, rfl, law_wp C hw hr hx hst hE hs (str_W hw) hj sel a b c⟩
    rw [ha]; rfl
set_option maxRecDepth 65536 in
set_option maxHeartbeats 40000000 in
theorem comes_1 {Post : Tables → Env → Array Value → State → Outcome → State → Prop} (hpost : ∀ tb e args s v u, (limb_1_1.after args s (.returned v) u = true ∧ limb_1_2.after args s (.returned v) u = true ∧ True) → Jvm.D.FramedW s (.returned v) u (Jvm.fieldLocs frame_1_writes args s ++ Jvm.arrayLocs frame_1_arrays args s ++ Jvm.staticLocs frame_1_statics s) 56 8896 → Post tb e args s (.returned v) u) :
    Jvm.D.ArmFor flags0 classFile x code maxLocals ret World_1 tables_1 room_1 Calls_1 rest_1 Pre_1 Post := by
  intro l hfl _ _ p e ha hc hk s m args below hf hA hF happ hP
  obtain ⟨hcalls, hrest, hpre⟩ := hP
  obtain ⟨-, -, -, hnamed, -, -, -, hat⟩ := (Spec.applies_iff hf).mp happ
  obtain ⟨hg, hn⟩ := and_e (Cond.before_iff.mp (show (Jvm.Cond.and given_1 narrow_1).before args s = true from hpre))
  obtain ⟨g0, h1⟩ := and_e hg
  obtain ⟨g1, h2⟩ := and_e h1
  obtain ⟨g2, h3⟩ := and_e h2
  obtain ⟨g3, h4⟩ := and_e h3
  obtain ⟨w0_, w1_, w2_, w3_, rfl⟩ : ∃ w0_ w1_ w2_ w3_ : Value, args = #[w0_, w1_, w2_, w3_] := by
    have hs : args.size = 4 := by simpa [Cond.value, given_1] using g0
    obtain ⟨L⟩ := args
    match L, hs with
    | [w0_, w1_, w2_, w3_], _ => exact ⟨w0_, w1_, w2_, w3_, rfl⟩
  obtain ⟨i0_, e0_⟩ := is_v g1
  obtain rfl : w0_ = (.int i0_) := Option.some.inj e0_
  obtain ⟨i1_, e1_⟩ := is_v g2
  obtain rfl : w1_ = (.int i1_) := Option.some.inj e1_
  obtain ⟨i2_, e2_⟩ := is_v g3
  obtain rfl : w2_ = (.int i2_) := Option.some.inj e2_
  obtain ⟨i3_, e3_⟩ := is_v h4
  obtain rfl : w3_ = (.int i3_) := Option.some.inj e3_
  have hw := fun d (hd : d ∈ tables_1) => atoms_spec (ws := Jvm.Cond.code x code maxLocals ret :: tables_1) hat d (List.mem_cons_of_mem _ hd)
  obtain ⟨hsets, hown0⟩ := atoms_of _ (rest_1_c_eq ▸ (show rest_1_c.before _ s = true from hrest))
  have n5 := not_v (Cond.before_iff.mp (hsets _ (List.mem_of_getElem? (i := 2) rfl)))
  obtain ⟨i11, e10⟩ := is_v (Cond.before_iff.mp (hsets _ (List.mem_of_getElem? (i := 1) rfl)))
  have S12 : Sta s s.heap "java/lang/String" "COMPACT_STRINGS" "Z" (.int i11) := Sta.start e10 (Or.inl (hsets _ (List.mem_of_getElem? (i := 0) rfl)))
  obtain ⟨v13, e14, r15⟩ := isR_v (Cond.before_iff.mp (hsets _ (List.mem_of_getElem? (i := 8) rfl)))
  have S16 : Sta s s.heap "jdk/internal/util/Preconditions" "SIOOBE_FORMATTER" "Ljava/util/function/BiFunction;" v13 := Sta.start e14 (Or.inl (hsets _ (List.mem_of_getElem? (i := 7) rfl)))
  have c17 : ¬ (i11 = (0 : Int32)) := gotF (Cond.eq_ints e10 (Term.int_eval (0))) n5
  have ew : EW s #[.int i0_, .int i1_, .int i2_, .int i3_] consts_1 := EW.cons (text := "com.example.stringline.stringline.bidi") (hw _ (List.mem_of_getElem? (i := 12) rfl)) (by decide +kernel) (EW.cons (text := "com.example.stringline.stringline.bidi.") (hw _ (List.mem_of_getElem? (i := 61) rfl)) (by decide +kernel) (EW.cons (text := "com.example.stringline.stringline.bidi") (hw _ (List.mem_of_getElem? (i := 0) rfl)) (by decide +kernel) (EW.cons (text := "com.example.stringline.stringline.bidi.") (hw _ (List.mem_of_getElem? (i := 228) rfl)) (by decide +kernel) (EW.cons (text := "") (hw _ (List.mem_of_getElem? (i := 229) rfl)) (by decide +kernel) (EW.cons (text := "tr") (hw _ (List.mem_of_getElem? (i := 170) rfl)) (by decide +kernel) (EW.cons (text := "az") (hw _ (List.mem_of_getElem? (i := 171) rfl)) (by decide +kernel) (EW.cons (text := "lt") (hw _ (List.mem_of_getElem? (i := 172) rfl)) (by decide +kernel) (EW.nil))))))))
  have ch : CHv s consts_1 s.vm s.heap := CHv.start ew (fun p hp => hcalls.1 p hp) (hsets _ (List.mem_of_getElem? (i := 2) rfl)) (hw _ (List.mem_of_getElem? (i := 3) rfl)) (hw _ (List.mem_of_getElem? (i := 2) rfl))
  obtain ⟨n, o, h1, h2, h3, rfl, q1, q2, q3⟩ := met_1 l p e ha hc hk s m _ below hf ((Spec.applies_iff_loose hf).mp happ).1 ⟨⟨i0_, i1_, i2_, i3_, rfl⟩, ⟨⟨i11, c17, S12⟩, v13, r15, S16⟩, ew, ch, hsets, Cond.before_iff.mpr hn⟩ trivial
  refine ⟨n, _, h1, h2, h3, hpost _ _ _ _ _ _ ⟨Cond.after_iff.mpr rfl, Cond.after_iff.mpr (eq_i res_at (Term.int_eval (1)) rfl), trivial⟩ ⟨⟨_, rfl⟩, q1.1, q1.2, q3⟩⟩
theorem main_1_1 : Claimed_1_1 := comes_1 fun _ _ _ _ _ _ h hF => ⟨h.1, hF⟩
theorem main_1_2 : Claimed_1_2 := comes_1 fun _ _ _ _ _ _ h hF => ⟨h.2.1, hF⟩
end Jvm.Pilot.@@N@@
namespace Jvm.Pilot.@@N@@
open Jvm Jvm.ClassFile Sem Op Lib Jvm.Free Jvm.Stand Jvm.Pilot.@@N@@.Jvm.D
/-! MADE BY PROGRAM (witnessworld.py) out of the Statement's table words and the real class files: 30 classes; the members and pool entries that the words name. The judged class is class 1, her method 1. -/
namespace start1
open Jvm.ClassFile
def u (s : String) : CpInfo := .utf8 (stringToUtf16 s)
/-- a pool by its gaps: so many unusable entries, then the entry; so many at the end -/
def gap : Nat → List CpInfo → List CpInfo
  | 0, r => r
  | n + 1, r => .unusable :: gap n r
def poolList (es : List (Nat × CpInfo)) (last : Nat) : List CpInfo := es.foldr (fun e r => gap e.1 (e.2 :: r)) (gap last [])
def pool (es : List (Nat × CpInfo)) (last : Nat) : Array CpInfo := ⟨poolList es last⟩
def fileOf (pool : Array CpInfo) (this : Nat) (attrs : Array Attribute := #[]) (ms : Array MethodInfo := #[]) (fl : Nat := 33) (sup : Nat := 0) (ifs : Array Nat := #[]) (fds : Array FieldInfo := #[]) : ClassFile where
  minorVersion := 0
  majorVersion := 65
  constantPool := pool
  accessFlags := fl
  thisClass := this
  superClass := sup
  interfaces := ifs
  fields := fds
  methods := ms
  attributes := attrs
def plain (name : String) (sup : Option ClassId) : Class where
  name := name
  kind := .ordinary
  loader := none
  accessFlags := 33
  super := sup
  interfaces := #[]
  cf := none
  fields := #[]
  methods := #[]
  instanceTypes := #[]
  staticTypes := #[]
  resolved := #[]
  callSites := []
  init := .initialized
  statics := none
  mirror := none

def pool0 : Array CpInfo := pool [(5, u "<init>"), (0, u "()V"), (1, .class_ 10), (1, u "java/lang/Object"), (85, u "clone"), (0, u "()Ljava/lang/Object;")] 26

def k0c0 : Code := { maxStack := 0, maxLocals := 1, code := object_method_1_code, exceptionTable := #[], attributes := #[] }
def k0m0 : Method := { name := "<init>", desc := "()V", sig := { parameters := [], returnType := none }, accessFlags := 1, code := some k0c0 }
def k0m1 : Method := { name := "clone", desc := "()Ljava/lang/Object;", sig := { parameters := [], returnType := some (.object "java/lang/Object") }, accessFlags := 260, code := none }
/-- java/lang/Object -/
def k0 : Class := { plain "java/lang/Object" none with
  accessFlags := 33
  interfaces := #[]
  cf := some (fileOf pool0 8 #[] #[{ accessFlags := 1, nameIndex := 5, descriptorIndex := 6, attributes := #[] }, { accessFlags := 260, nameIndex := 96, descriptorIndex := 97, attributes := #[] }] 33 0 #[] #[])
  fields := #[]
  methods := #[k0m0, k0m1]
  instanceTypes := #[]
  staticTypes := #[]
  resolved := Array.replicate 124 none
  statics := none }

def pool1 : Array CpInfo := pool [(2, .class_ 4), (1, u "java/lang/Object"), (0, u "<init>"), (0, u "()V"), (0, .string 8), (0, u "com.example.stringline.stringline.bidi"), (0, .methodref 10 11), (0, .class_ 12), (0, .nameAndType 13 14), (0, u "com/example/stringline/derive/Derivation"), (0, u "packageOf"), (0, u "(Ljava/lang/String;)Ljava/lang/String;"), (0, .methodref 16 17), (0, .class_ 18), (0, .nameAndType 19 20), (0, u "java/lang/String"), (0, u "equals"), (0, u "(Ljava/lang/Object;)Z"), (0, .string 22), (0, u "com.example.stringline.stringline.bidi."), (0, .string 24), (0, u ""), (0, .methodref 16 26), (0, .nameAndType 5 27), (0, u "([C)V"), (0, .methodref 29 30), (0, .class_ 31), (0, .nameAndType 32 33), (0, u "com/example/stringline/derive/DerivationPackageOfPinLaw"), (0, u "lower"), (0, u "(C)C"), (2, u "law"), (0, u "(IIII)Z")] 3

def k1m0 : Method := { name := "<init>", desc := "()V", sig := { parameters := [], returnType := none }, accessFlags := 2, code := none }
def k1c1 : Code := { maxStack := 4, maxLocals := 11, code := code, exceptionTable := #[], attributes := #[] }
def k1m1 : Method := { name := "law", desc := "(IIII)Z", sig := { parameters := [.int, .int, .int, .int], returnType := some .boolean }, accessFlags := 9, code := some k1c1 }
def k1c2 : Code := { maxStack := 2, maxLocals := 1, code := method_3_code, exceptionTable := #[], attributes := #[] }
def k1m2 : Method := { name := "lower", desc := "(C)C", sig := { parameters := [.char], returnType := some .char }, accessFlags := 10, code := some k1c2 }
/-- com/example/stringline/derive/DerivationPackageOfPinLaw -/
def k1 : Class := { plain "com/example/stringline/derive/DerivationPackageOfPinLaw" (some 0) with
  accessFlags := 49
  interfaces := #[]
  cf := some (fileOf pool1 29 #[] #[{ accessFlags := 2, nameIndex := 5, descriptorIndex := 6, attributes := #[] }, { accessFlags := 9, nameIndex := 36, descriptorIndex := 37, attributes := #[] }, { accessFlags := 10, nameIndex := 32, descriptorIndex := 33, attributes := #[] }] 49 2 #[] #[])
  fields := #[]
  methods := #[k1m0, k1m1, k1m2]
  instanceTypes := #[]
  staticTypes := #[]
  resolved := Array.replicate 41 none
  statics := none }

def pool2 : Array CpInfo := pool [(1, .class_ 2), (0, u "java/io/Serializable"), (0, .class_ 4), (0, u "java/lang/Object")] 2

/-- java/io/Serializable -/
def k2 : Class := { plain "java/io/Serializable" (some 0) with
  accessFlags := 1537
  interfaces := #[]
  cf := some (fileOf pool2 1 #[] #[] 1537 3 #[] #[])
  fields := #[]
  methods := #[]
  instanceTypes := #[]
  staticTypes := #[]
  resolved := Array.replicate 7 none
  statics := none }

def pool3 : Array CpInfo := pool [(1, .class_ 2), (0, u "java/lang/Comparable"), (0, .class_ 4), (0, u "java/lang/Object")] 7

/-- java/lang/Comparable -/
def k3 : Class := { plain "java/lang/Comparable" (some 0) with
  accessFlags := 1537
  interfaces := #[]
  cf := some (fileOf pool3 1 #[] #[] 1537 3 #[] #[])
  fields := #[]
  methods := #[]
  instanceTypes := #[]
  staticTypes := #[]
  resolved := Array.replicate 12 none
  statics := none }

def pool4 : Array CpInfo := pool [(2, .class_ 4), (1, u "java/lang/CharSequence"), (42, .class_ 48), (0, u "java/lang/CharSequence$1CodePointIterator"), (10, .class_ 60), (0, u "java/lang/CharSequence$1CharIterator"), (5, .class_ 67), (0, u "java/lang/Object")] 63

/-- java/lang/CharSequence -/
def k4 : Class := { plain "java/lang/CharSequence" (some 0) with
  accessFlags := 1537
  interfaces := #[]
  cf := some (fileOf pool4 2 #[.nestMembers #[47, 59]] #[] 1537 66 #[] #[])
  fields := #[]
  methods := #[]
  instanceTypes := #[]
  staticTypes := #[]
  resolved := Array.replicate 131 none
  statics := none }

def pool5 : Array CpInfo := pool [(1, .class_ 2), (0, u "java/lang/constant/Constable"), (0, .class_ 4), (0, u "java/lang/Object")] 6

/-- java/lang/constant/Constable -/
def k5 : Class := { plain "java/lang/constant/Constable" (some 0) with
  accessFlags := 1537
  interfaces := #[]
  cf := some (fileOf pool5 1 #[] #[] 1537 3 #[] #[])
  fields := #[]
  methods := #[]
  instanceTypes := #[]
  staticTypes := #[]
  resolved := Array.replicate 11 none
  statics := none }

def pool6 : Array CpInfo := pool [(1, .class_ 2), (0, u "java/lang/constant/ConstantDesc"), (0, .class_ 4), (0, u "java/lang/Object")] 32

/-- java/lang/constant/ConstantDesc -/
def k6 : Class := { plain "java/lang/constant/ConstantDesc" (some 0) with
  accessFlags := 1537
  interfaces := #[]
  cf := some (fileOf pool6 1 #[] #[] 1537 3 #[] #[])
  fields := #[]
  methods := #[]
  instanceTypes := #[]
  staticTypes := #[]
  resolved := Array.replicate 37 none
  statics := none }

def pool7 : Array CpInfo := pool [(1, .methodref 2 3), (0, .class_ 4), (0, .nameAndType 5 6), (0, u "java/lang/Object"), (0, u "<init>"), (0, u "()V"), (2, .fieldref 10 11), (0, .class_ 12), (0, .nameAndType 13 14), (0, u "java/lang/String"), (0, u "value"), (0, u "[B"), (0, .fieldref 10 16), (0, .nameAndType 17 18), (0, u "coder"), (0, u "B"), (2, u "hash"), (0, u "I"), (2, u "hashIsZero"), (0, u "Z"), (0, .methodref 10 28), (0, .nameAndType 5 29), (0, u "([CIILjava/lang/Void;)V"), (8, .fieldref 10 39), (0, .nameAndType 40 26), (0, u "COMPACT_STRINGS"), (1, .class_ 44), (1, u "java/lang/StringUTF16"), (0, u "compress"), (1, .methodref 42 48), (0, .nameAndType 49 50), (0, u "coderFromArrayLen"), (0, u "([BI)B"), (3, .methodref 55 56), (0, .class_ 57), (0, .nameAndType 58 59), (0, u "java/util/Arrays"), (0, u "copyOfRange"), (0, u "([BII)[B"), (47, .class_ 109), (1, u "java/lang/StringLatin1"), (32, u "()Z"), (34, .methodref 42 178), (0, .nameAndType 45 179), (0, u "([CII)[B"), (13, .class_ 195), (1, u "java/lang/System"), (15, u "([BB)V"), (0, .methodref 193 213), (0, .nameAndType 214 215), (0, u "arraycopy"), (0, u "(Ljava/lang/Object;ILjava/lang/Object;II)V"), (118, u "()I"), (0, .methodref 10 336), (0, .nameAndType 17 337), (0, u "()B"), (2, u "()[B"), (148, .methodref 10 490), (0, .nameAndType 5 491), (0, u "(Ljava/lang/AbstractStringBuilder;Ljava/lang/Void;)V"), (0, .methodref 10 493), (0, .nameAndType 494 142), (0, u "isLatin1"), (11, .nameAndType 507 334), (0, u "length"), (24, u "getBytes"), (8, .methodref 107 542), (0, .nameAndType 543 544), (0, u "equals"), (0, u "([B[B)Z"), (4, .methodref 550 506), (0, .class_ 551), (0, u "java/lang/AbstractStringBuilder"), (0, .methodref 550 553), (0, .nameAndType 554 340), (0, u "getValue"), (18, u "(Ljava/lang/Object;)Z"), (1, .class_ 576), (0, u "java/lang/CharSequence"), (22, u "CASE_INSENSITIVE_ORDER"), (0, u "Ljava/util/Comparator;"), (220, u "([BIB)V"), (17, .methodref 107 840), (0, .nameAndType 841 842), (0, u "toLowerCase"), (0, u "(Ljava/lang/String;[BLjava/util/Locale;)Ljava/lang/String;"), (9, u "(Ljava/util/Locale;)Ljava/lang/String;"), (157, u "([C)V"), (36, .methodref 550 493), (53, u "serialPersistentFields"), (0, u "[Ljava/io/ObjectStreamField;"), (0, .class_ 1104), (0, u "java/lang/String$CaseInsensitiveComparator"), (1, .class_ 1107), (0, u "java/io/Serializable"), (0, .class_ 1109), (0, u "java/lang/Comparable"), (0, .class_ 1111), (0, u "java/lang/constant/Constable"), (0, .class_ 1113), (0, u "java/lang/constant/ConstantDesc"), (2, u "serialVersionUID"), (0, u "J"), (3, u "REPL"), (0, u "C"), (2, u "LATIN1"), (1, u "UTF16"), (105, u "(Ljava/lang/StringBuilder;)V")] 217

def k7m0 : Method := { name := "<init>", desc := "()V", sig := { parameters := [], returnType := none }, accessFlags := 1, code := none }
def k7c1 : Code := { maxStack := 5, maxLocals := 2, code := jdk_42_method_3_code, exceptionTable := #[], attributes := #[] }
def k7m1 : Method := { name := "<init>", desc := "([C)V", sig := { parameters := [(.array .char)], returnType := none }, accessFlags := 1, code := some k7c1 }
def k7c2 : Code := { maxStack := 3, maxLocals := 2, code := jdk_42_method_53_code, exceptionTable := #[], attributes := #[] }
def k7m2 : Method := { name := "<init>", desc := "(Ljava/lang/StringBuilder;)V", sig := { parameters := [(.object "java/lang/StringBuilder")], returnType := none }, accessFlags := 1, code := some k7c2 }
def k7c3 : Code := { maxStack := 2, maxLocals := 1, code := jdk_42_method_54_code, exceptionTable := #[], attributes := #[] }
def k7m3 : Method := { name := "length", desc := "()I", sig := { parameters := [], returnType := some .int }, accessFlags := 1, code := some k7c3 }
def k7c4 : Code := { maxStack := 2, maxLocals := 3, code := jdk_42_method_66_code, exceptionTable := #[], attributes := #[] }
def k7m4 : Method := { name := "equals", desc := "(Ljava/lang/Object;)Z", sig := { parameters := [(.object "java/lang/Object")], returnType := some .boolean }, accessFlags := 1, code := some k7c4 }
def k7c5 : Code := { maxStack := 3, maxLocals := 2, code := jdk_42_method_109_code, exceptionTable := #[], attributes := #[] }
def k7m5 : Method := { name := "toLowerCase", desc := "(Ljava/util/Locale;)Ljava/lang/String;", sig := { parameters := [(.object "java/util/Locale")], returnType := some (.object "java/lang/String") }, accessFlags := 1, code := some k7c5 }
def k7c6 : Code := { maxStack := 5, maxLocals := 4, code := jdk_42_method_147_code, exceptionTable := #[], attributes := #[] }
def k7m6 : Method := { name := "getBytes", desc := "([BIB)V", sig := { parameters := [(.array .byte), .int, .byte], returnType := none }, accessFlags := 0, code := some k7c6 }
def k7c7 : Code := { maxStack := 4, maxLocals := 6, code := jdk_42_method_149_code, exceptionTable := #[], attributes := #[] }
def k7m7 : Method := { name := "<init>", desc := "([CIILjava/lang/Void;)V", sig := { parameters := [(.array .char), .int, .int, (.object "java/lang/Void")], returnType := none }, accessFlags := 2, code := some k7c7 }
def k7c8 : Code := { maxStack := 5, maxLocals := 5, code := jdk_42_method_150_code, exceptionTable := #[], attributes := #[] }
def k7m8 : Method := { name := "<init>", desc := "(Ljava/lang/AbstractStringBuilder;Ljava/lang/Void;)V", sig := { parameters := [(.object "java/lang/AbstractStringBuilder"), (.object "java/lang/Void")], returnType := none }, accessFlags := 0, code := some k7c8 }
def k7c9 : Code := { maxStack := 2, maxLocals := 3, code := jdk_42_method_151_code, exceptionTable := #[], attributes := #[] }
def k7m9 : Method := { name := "<init>", desc := "([BB)V", sig := { parameters := [(.array .byte), .byte], returnType := none }, accessFlags := 0, code := some k7c9 }
def k7c10 : Code := { maxStack := 1, maxLocals := 1, code := jdk_42_method_152_code, exceptionTable := #[], attributes := #[] }
def k7m10 : Method := { name := "coder", desc := "()B", sig := { parameters := [], returnType := some .byte }, accessFlags := 0, code := some k7c10 }
def k7c11 : Code := { maxStack := 1, maxLocals := 1, code := jdk_42_method_154_code, exceptionTable := #[], attributes := #[] }
def k7m11 : Method := { name := "isLatin1", desc := "()Z", sig := { parameters := [], returnType := some .boolean }, accessFlags := 0, code := some k7c11 }
/-- java/lang/String -/
def k7 : Class := { plain "java/lang/String" (some 0) with
  accessFlags := 49
  interfaces := #[2, 3, 4, 5, 6]
  cf := some (fileOf pool7 10 #[.nestMembers #[1103]] #[{ accessFlags := 1, nameIndex := 5, descriptorIndex := 6, attributes := #[] }, { accessFlags := 1, nameIndex := 5, descriptorIndex := 1010, attributes := #[] }, { accessFlags := 1, nameIndex := 5, descriptorIndex := 1233, attributes := #[] }, { accessFlags := 1, nameIndex := 507, descriptorIndex := 334, attributes := #[] }, { accessFlags := 1, nameIndex := 543, descriptorIndex := 573, attributes := #[] }, { accessFlags := 1, nameIndex := 841, descriptorIndex := 852, attributes := #[] }, { accessFlags := 0, nameIndex := 532, descriptorIndex := 821, attributes := #[] }, { accessFlags := 2, nameIndex := 5, descriptorIndex := 29, attributes := #[] }, { accessFlags := 0, nameIndex := 5, descriptorIndex := 491, attributes := #[] }, { accessFlags := 0, nameIndex := 5, descriptorIndex := 211, attributes := #[] }, { accessFlags := 0, nameIndex := 17, descriptorIndex := 337, attributes := #[] }, { accessFlags := 0, nameIndex := 494, descriptorIndex := 142, attributes := #[] }] 49 2 #[1106, 1108, 575, 1110, 1112] #[{ accessFlags := 18, nameIndex := 13, descriptorIndex := 14, attributes := #[] }, { accessFlags := 18, nameIndex := 17, descriptorIndex := 18, attributes := #[] }, { accessFlags := 2, nameIndex := 21, descriptorIndex := 22, attributes := #[] }, { accessFlags := 2, nameIndex := 25, descriptorIndex := 26, attributes := #[] }, { accessFlags := 26, nameIndex := 1116, descriptorIndex := 1117, attributes := #[] }, { accessFlags := 24, nameIndex := 40, descriptorIndex := 26, attributes := #[] }, { accessFlags := 26, nameIndex := 1101, descriptorIndex := 1102, attributes := #[] }, { accessFlags := 26, nameIndex := 1121, descriptorIndex := 1122, attributes := #[] }, { accessFlags := 25, nameIndex := 599, descriptorIndex := 600, attributes := #[] }, { accessFlags := 24, nameIndex := 1125, descriptorIndex := 18, attributes := #[] }, { accessFlags := 24, nameIndex := 1127, descriptorIndex := 18, attributes := #[] }])
  fields := #[{ name := "value", type := (.array .byte), accessFlags := 18, slot := 0, constantValue := 0 }, { name := "coder", type := .byte, accessFlags := 18, slot := 1, constantValue := 0 }, { name := "hash", type := .int, accessFlags := 2, slot := 2, constantValue := 0 }, { name := "hashIsZero", type := .boolean, accessFlags := 2, slot := 3, constantValue := 0 }, { name := "serialVersionUID", type := .long, accessFlags := 26, slot := 0, constantValue := 0 }, { name := "COMPACT_STRINGS", type := .boolean, accessFlags := 24, slot := 1, constantValue := 0 }, { name := "serialPersistentFields", type := (.array (.object "java/io/ObjectStreamField")), accessFlags := 26, slot := 2, constantValue := 0 }, { name := "REPL", type := .char, accessFlags := 26, slot := 3, constantValue := 0 }, { name := "CASE_INSENSITIVE_ORDER", type := (.object "java/util/Comparator"), accessFlags := 25, slot := 4, constantValue := 0 }, { name := "LATIN1", type := .byte, accessFlags := 24, slot := 5, constantValue := 0 }, { name := "UTF16", type := .byte, accessFlags := 24, slot := 6, constantValue := 0 }]
  methods := #[k7m0, k7m1, k7m2, k7m3, k7m4, k7m5, k7m6, k7m7, k7m8, k7m9, k7m10, k7m11]
  instanceTypes := #[(.array .byte), .byte, .int, .boolean]
  staticTypes := #[.long, .boolean, (.array (.object "java/io/ObjectStreamField")), .char, (.object "java/util/Comparator"), .byte, .byte]
  resolved := Array.replicate 1451 none
  statics := some 0 }

def pool8 : Array CpInfo := pool [(2, .class_ 4), (0, .nameAndType 5 6), (0, u "java/lang/Object"), (0, u "<init>"), (0, u "()V"), (4, .class_ 13), (1, u "com/example/stringline/derive/Derivation"), (0, u "rules"), (0, u "Ljava/util/Map;"), (5, u "named"), (2, u "groupClasses"), (5, u "deriving"), (0, u "Ljava/util/Set;"), (5, u "unfilled"), (0, u "Ljava/util/Queue;"), (5, u "declarations"), (0, u "Ljava/util/List;"), (36, .class_ 83), (0, u "java/lang/String"), (10, .class_ 95), (0, u "java/lang/StringBuilder"), (0, .methodref 94 3), (0, .methodref 94 98), (0, .nameAndType 99 100), (0, u "append"), (0, u "(Ljava/lang/String;)Ljava/lang/StringBuilder;"), (2, .methodref 94 104), (0, .nameAndType 105 106), (0, u "toString"), (0, u "()Ljava/lang/String;"), (50, .string 158), (0, u "com.example.stringline.stringline.bidi"), (0, .string 160), (0, u "com.example.stringline.stringline.bidi."), (0, .fieldref 162 163), (0, .class_ 164), (0, .nameAndType 165 166), (0, u "java/util/Locale"), (0, u "ROOT"), (0, u "Ljava/util/Locale;"), (0, .methodref 82 168), (0, .nameAndType 169 170), (0, u "toLowerCase"), (0, u "(Ljava/util/Locale;)Ljava/lang/String;"), (173, .class_ 346), (1, u "com/example/stringline/derive/Derivation$Naming"), (74, u "IGNORED_CONTROLS"), (19, .class_ 443), (1, u "com/example/stringline/derive/Derivation$Alternatives"), (8, u "Ljava/lang/String;"), (201, u "(Ljava/lang/String;)Ljava/lang/String;"), (57, u "MEMBER_NAME"), (0, u "Ljava/util/regex/Pattern;"), (53, u "ORDINALS"), (10, u "TYPE_NAME"), (35, u "DASH"), (100, u "PACKAGE"), (1, u "ERROR_CODE"), (21, u "packageOf")] 175

def k8c0 : Code := { maxStack := 3, maxLocals := 1, code := prog_17_method_7_code, exceptionTable := #[], attributes := #[] }
def k8m0 : Method := { name := "packageOf", desc := "(Ljava/lang/String;)Ljava/lang/String;", sig := { parameters := [(.object "java/lang/String")], returnType := some (.object "java/lang/String") }, accessFlags := 8, code := some k8c0 }
/-- com/example/stringline/derive/Derivation -/
def k8 : Class := { plain "com/example/stringline/derive/Derivation" (some 0) with
  accessFlags := 48
  interfaces := #[]
  cf := some (fileOf pool8 11 #[.nestMembers #[344, 441]] #[{ accessFlags := 8, nameIndex := 939, descriptorIndex := 654, attributes := #[] }] 48 2 #[] #[{ accessFlags := 24, nameIndex := 915, descriptorIndex := 452, attributes := #[] }, { accessFlags := 26, nameIndex := 917, descriptorIndex := 452, attributes := #[] }, { accessFlags := 26, nameIndex := 778, descriptorIndex := 713, attributes := #[] }, { accessFlags := 26, nameIndex := 712, descriptorIndex := 713, attributes := #[] }, { accessFlags := 26, nameIndex := 814, descriptorIndex := 713, attributes := #[] }, { accessFlags := 26, nameIndex := 421, descriptorIndex := 31, attributes := #[] }, { accessFlags := 26, nameIndex := 767, descriptorIndex := 45, attributes := #[] }, { accessFlags := 18, nameIndex := 14, descriptorIndex := 15, attributes := #[] }, { accessFlags := 18, nameIndex := 21, descriptorIndex := 15, attributes := #[] }, { accessFlags := 18, nameIndex := 24, descriptorIndex := 15, attributes := #[] }, { accessFlags := 18, nameIndex := 30, descriptorIndex := 31, attributes := #[] }, { accessFlags := 18, nameIndex := 37, descriptorIndex := 38, attributes := #[] }, { accessFlags := 18, nameIndex := 44, descriptorIndex := 45, attributes := #[] }])
  fields := #[{ name := "PACKAGE", type := (.object "java/lang/String"), accessFlags := 24, slot := 0, constantValue := 0 }, { name := "ERROR_CODE", type := (.object "java/lang/String"), accessFlags := 26, slot := 1, constantValue := 0 }, { name := "TYPE_NAME", type := (.object "java/util/regex/Pattern"), accessFlags := 26, slot := 2, constantValue := 0 }, { name := "MEMBER_NAME", type := (.object "java/util/regex/Pattern"), accessFlags := 26, slot := 3, constantValue := 0 }, { name := "DASH", type := (.object "java/util/regex/Pattern"), accessFlags := 26, slot := 4, constantValue := 0 }, { name := "IGNORED_CONTROLS", type := (.object "java/util/Set"), accessFlags := 26, slot := 5, constantValue := 0 }, { name := "ORDINALS", type := (.object "java/util/List"), accessFlags := 26, slot := 6, constantValue := 0 }, { name := "rules", type := (.object "java/util/Map"), accessFlags := 18, slot := 0, constantValue := 0 }, { name := "named", type := (.object "java/util/Map"), accessFlags := 18, slot := 1, constantValue := 0 }, { name := "groupClasses", type := (.object "java/util/Map"), accessFlags := 18, slot := 2, constantValue := 0 }, { name := "deriving", type := (.object "java/util/Set"), accessFlags := 18, slot := 3, constantValue := 0 }, { name := "unfilled", type := (.object "java/util/Queue"), accessFlags := 18, slot := 4, constantValue := 0 }, { name := "declarations", type := (.object "java/util/List"), accessFlags := 18, slot := 5, constantValue := 0 }]
  methods := #[k8m0]
  instanceTypes := #[(.object "java/util/Map"), (.object "java/util/Map"), (.object "java/util/Map"), (.object "java/util/Set"), (.object "java/util/Queue"), (.object "java/util/List")]
  staticTypes := #[(.object "java/lang/String"), (.object "java/lang/String"), (.object "java/util/regex/Pattern"), (.object "java/util/regex/Pattern"), (.object "java/util/regex/Pattern"), (.object "java/util/Set"), (.object "java/util/List")]
  resolved := Array.replicate 1115 none
  statics := none }

def pool9 : Array CpInfo := pool [(6, .class_ 8), (1, u "java/lang/Object"), (0, u "<init>"), (0, u "()V"), (1, .class_ 14), (1, u "java/lang/StringUTF16"), (31, u "$assertionsDisabled"), (0, u "Z"), (13, u "HI_BYTE_SHIFT"), (0, u "I"), (2, u "LO_BYTE_SHIFT"), (49, .methodref 12 116), (0, .nameAndType 117 118), (0, u "compress"), (0, u "([CI[BII)I"), (3, u "([CII)[B"), (138, u "coderFromArrayLen"), (0, u "([BI)B"), (106, .class_ 371), (1, u "java/lang/StringUTF16$LinesSpliterator"), (58, u "MAX_LENGTH"), (196, .class_ 628), (0, u "java/lang/StringUTF16$CodePointsSpliterator"), (0, .class_ 630), (0, u "java/lang/StringUTF16$CharsSpliterator")] 4

def k9m0 : Method := { name := "<init>", desc := "()V", sig := { parameters := [], returnType := none }, accessFlags := 0, code := none }
def k9c1 : Code := { maxStack := 2, maxLocals := 2, code := jdk_52_method_15_code, exceptionTable := #[], attributes := #[] }
def k9m1 : Method := { name := "coderFromArrayLen", desc := "([BI)B", sig := { parameters := [(.array .byte), .int], returnType := some .byte }, accessFlags := 8, code := some k9c1 }
def k9c2 : Code := { maxStack := 5, maxLocals := 6, code := jdk_52_method_16_code, exceptionTable := #[], attributes := #[] }
def k9m2 : Method := { name := "compress", desc := "([CII)[B", sig := { parameters := [(.array .char), .int, .int], returnType := some (.array .byte) }, accessFlags := 9, code := some k9c2 }
def k9c3 : Code := { maxStack := 3, maxLocals := 7, code := jdk_52_method_21_code, exceptionTable := #[], attributes := #[] }
def k9m3 : Method := { name := "compress", desc := "([CI[BII)I", sig := { parameters := [(.array .char), .int, (.array .byte), .int, .int], returnType := some .int }, accessFlags := 9, code := some k9c3 }
/-- java/lang/StringUTF16 -/
def k9 : Class := { plain "java/lang/StringUTF16" (some 0) with
  accessFlags := 48
  interfaces := #[]
  cf := some (fileOf pool9 12 #[.nestMembers #[627, 629, 369]] #[{ accessFlags := 0, nameIndex := 9, descriptorIndex := 10, attributes := #[] }, { accessFlags := 8, nameIndex := 261, descriptorIndex := 262, attributes := #[] }, { accessFlags := 9, nameIndex := 117, descriptorIndex := 122, attributes := #[] }, { accessFlags := 9, nameIndex := 117, descriptorIndex := 118, attributes := #[] }] 48 6 #[] #[{ accessFlags := 26, nameIndex := 61, descriptorIndex := 62, attributes := #[] }, { accessFlags := 26, nameIndex := 65, descriptorIndex := 62, attributes := #[] }, { accessFlags := 24, nameIndex := 430, descriptorIndex := 62, attributes := #[] }, { accessFlags := 4120, nameIndex := 46, descriptorIndex := 47, attributes := #[] }])
  fields := #[{ name := "HI_BYTE_SHIFT", type := .int, accessFlags := 26, slot := 0, constantValue := 0 }, { name := "LO_BYTE_SHIFT", type := .int, accessFlags := 26, slot := 1, constantValue := 0 }, { name := "MAX_LENGTH", type := .int, accessFlags := 24, slot := 2, constantValue := 0 }, { name := "$assertionsDisabled", type := .boolean, accessFlags := 4120, slot := 3, constantValue := 0 }]
  methods := #[k9m0, k9m1, k9m2, k9m3]
  instanceTypes := #[]
  staticTypes := #[.int, .int, .int, .boolean]
  resolved := Array.replicate 635 none
  statics := none }

def pool10 : Array CpInfo := pool [(1, .class_ 2), (0, u "java/lang/Appendable"), (0, .class_ 4), (0, u "java/lang/Object")] 9

/-- java/lang/Appendable -/
def k10 : Class := { plain "java/lang/Appendable" (some 0) with
  accessFlags := 1537
  interfaces := #[]
  cf := some (fileOf pool10 1 #[] #[] 1537 3 #[] #[])
  fields := #[]
  methods := #[]
  instanceTypes := #[]
  staticTypes := #[]
  resolved := Array.replicate 14 none
  statics := none }

def pool11 : Array CpInfo := pool [(1, .class_ 2), (0, u "java/lang/String"), (0, .methodref 4 5), (0, .class_ 6), (0, .nameAndType 7 8), (0, u "java/lang/Object"), (0, u "<init>"), (0, u "()V"), (1, .class_ 12), (1, u "java/lang/AbstractStringBuilder"), (0, u "EMPTYVALUE"), (0, u "[B"), (0, .fieldref 10 16), (0, .nameAndType 17 14), (0, u "value"), (0, .fieldref 1 19), (0, .nameAndType 20 21), (0, u "COMPACT_STRINGS"), (0, u "Z"), (0, .fieldref 10 23), (0, .nameAndType 24 25), (0, u "coder"), (0, u "B"), (6, .methodref 1 33), (0, .nameAndType 34 35), (0, u "length"), (0, u "()I"), (3, .integer 2147483647), (0, .methodref 1 41), (0, .nameAndType 24 42), (0, u "()B"), (2, u "append"), (0, u "(Ljava/lang/String;)Ljava/lang/AbstractStringBuilder;"), (1, .class_ 49), (0, u "java/lang/CharSequence"), (19, u "(Ljava/lang/String;)V"), (5, u "maybeLatin1"), (3, .fieldref 10 80), (0, .nameAndType 81 82), (0, u "count"), (0, u "I"), (2, u "isLatin1"), (0, u "()Z"), (13, .methodref 10 101), (0, .nameAndType 102 103), (0, u "ensureCapacityInternal"), (0, u "(I)V"), (0, .methodref 10 105), (0, .nameAndType 106 107), (0, u "newCapacity"), (0, u "(I)I"), (0, .methodref 109 110), (0, .class_ 111), (0, .nameAndType 112 113), (0, u "java/util/Arrays"), (0, u "copyOf"), (0, u "([BI)[B"), (0, .methodref 115 116), (0, .class_ 117), (0, .nameAndType 118 119), (0, u "jdk/internal/util/ArraysSupport"), (0, u "newLength"), (0, u "(III)I"), (88, .methodref 10 209), (0, .nameAndType 210 211), (0, u "putStringAt"), (0, u "(ILjava/lang/String;)V"), (5, u "inflateIfNeededFor"), (2, .nameAndType 221 222), (0, u "getBytes"), (0, u "([BIB)V"), (174, .methodref 10 398), (0, .nameAndType 217 69), (0, .methodref 1 220), (3, u "()[B"), (40, .class_ 445), (0, u "java/lang/Appendable"), (106, u "getValue")] 56

def k11m0 : Method := { name := "<init>", desc := "()V", sig := { parameters := [], returnType := none }, accessFlags := 0, code := none }
def k11c1 : Code := { maxStack := 2, maxLocals := 2, code := jdk_68_method_2_code, exceptionTable := #[], attributes := #[] }
def k11m1 : Method := { name := "<init>", desc := "(I)V", sig := { parameters := [.int], returnType := none }, accessFlags := 0, code := some k11c1 }
def k11c2 : Code := { maxStack := 1, maxLocals := 1, code := jdk_68_method_6_code, exceptionTable := #[], attributes := #[] }
def k11m2 : Method := { name := "length", desc := "()I", sig := { parameters := [], returnType := some .int }, accessFlags := 1, code := some k11c2 }
def k11c3 : Code := { maxStack := 4, maxLocals := 3, code := jdk_68_method_9_code, exceptionTable := #[], attributes := #[] }
def k11m3 : Method := { name := "ensureCapacityInternal", desc := "(I)V", sig := { parameters := [.int], returnType := none }, accessFlags := 2, code := some k11c3 }
def k11c4 : Code := { maxStack := 5, maxLocals := 6, code := jdk_68_method_10_code, exceptionTable := #[], attributes := #[] }
def k11m4 : Method := { name := "newCapacity", desc := "(I)I", sig := { parameters := [.int], returnType := some .int }, accessFlags := 2, code := some k11c4 }
def k11c5 : Code := { maxStack := 3, maxLocals := 3, code := jdk_68_method_22_code, exceptionTable := #[], attributes := #[] }
def k11m5 : Method := { name := "append", desc := "(Ljava/lang/String;)Ljava/lang/AbstractStringBuilder;", sig := { parameters := [(.object "java/lang/String")], returnType := some (.object "java/lang/AbstractStringBuilder") }, accessFlags := 1, code := some k11c5 }
def k11c6 : Code := { maxStack := 1, maxLocals := 1, code := jdk_68_method_64_code, exceptionTable := #[], attributes := #[] }
def k11m6 : Method := { name := "getValue", desc := "()[B", sig := { parameters := [], returnType := some (.array .byte) }, accessFlags := 16, code := some k11c6 }
def k11c7 : Code := { maxStack := 1, maxLocals := 1, code := jdk_68_method_68_code, exceptionTable := #[], attributes := #[] }
def k11m7 : Method := { name := "isLatin1", desc := "()Z", sig := { parameters := [], returnType := some .boolean }, accessFlags := 16, code := some k11c7 }
def k11c8 : Code := { maxStack := 2, maxLocals := 2, code := jdk_68_method_71_code, exceptionTable := #[], attributes := #[] }
def k11m8 : Method := { name := "inflateIfNeededFor", desc := "(Ljava/lang/String;)V", sig := { parameters := [(.object "java/lang/String")], returnType := none }, accessFlags := 2, code := some k11c8 }
def k11c9 : Code := { maxStack := 4, maxLocals := 3, code := jdk_68_method_73_code, exceptionTable := #[], attributes := #[] }
def k11m9 : Method := { name := "putStringAt", desc := "(ILjava/lang/String;)V", sig := { parameters := [.int, (.object "java/lang/String")], returnType := none }, accessFlags := 2, code := some k11c9 }
/-- java/lang/AbstractStringBuilder -/
def k11 : Class := { plain "java/lang/AbstractStringBuilder" (some 0) with
  accessFlags := 1056
  interfaces := #[10, 4]
  cf := some (fileOf pool11 10 #[] #[{ accessFlags := 0, nameIndex := 7, descriptorIndex := 8, attributes := #[] }, { accessFlags := 0, nameIndex := 7, descriptorIndex := 103, attributes := #[] }, { accessFlags := 1, nameIndex := 34, descriptorIndex := 35, attributes := #[] }, { accessFlags := 2, nameIndex := 102, descriptorIndex := 103, attributes := #[] }, { accessFlags := 2, nameIndex := 106, descriptorIndex := 107, attributes := #[] }, { accessFlags := 1, nameIndex := 45, descriptorIndex := 46, attributes := #[] }, { accessFlags := 16, nameIndex := 552, descriptorIndex := 403, attributes := #[] }, { accessFlags := 16, nameIndex := 85, descriptorIndex := 86, attributes := #[] }, { accessFlags := 2, nameIndex := 217, descriptorIndex := 69, attributes := #[] }, { accessFlags := 2, nameIndex := 210, descriptorIndex := 211, attributes := #[] }] 1056 4 #[444, 48] #[{ accessFlags := 0, nameIndex := 17, descriptorIndex := 14, attributes := #[] }, { accessFlags := 0, nameIndex := 24, descriptorIndex := 25, attributes := #[] }, { accessFlags := 0, nameIndex := 75, descriptorIndex := 21, attributes := #[] }, { accessFlags := 0, nameIndex := 81, descriptorIndex := 82, attributes := #[] }, { accessFlags := 26, nameIndex := 13, descriptorIndex := 14, attributes := #[] }])
  fields := #[{ name := "value", type := (.array .byte), accessFlags := 0, slot := 0, constantValue := 0 }, { name := "coder", type := .byte, accessFlags := 0, slot := 1, constantValue := 0 }, { name := "maybeLatin1", type := .boolean, accessFlags := 0, slot := 2, constantValue := 0 }, { name := "count", type := .int, accessFlags := 0, slot := 3, constantValue := 0 }, { name := "EMPTYVALUE", type := (.array .byte), accessFlags := 26, slot := 0, constantValue := 0 }]
  methods := #[k11m0, k11m1, k11m2, k11m3, k11m4, k11m5, k11m6, k11m7, k11m8, k11m9]
  instanceTypes := #[(.array .byte), .byte, .boolean, .int]
  staticTypes := #[(.array .byte)]
  resolved := Array.replicate 609 none
  statics := none }

def pool12 : Array CpInfo := pool [(1, .methodref 2 3), (0, .class_ 4), (0, .nameAndType 5 6), (0, u "java/lang/AbstractStringBuilder"), (0, u "<init>"), (0, u "(I)V"), (11, .class_ 20), (1, u "java/lang/String"), (3, .class_ 26), (1, u "java/lang/StringBuilder"), (0, u "append"), (0, u "(Ljava/lang/String;)Ljava/lang/StringBuilder;"), (0, .methodref 2 30), (0, .nameAndType 27 31), (0, u "(Ljava/lang/String;)Ljava/lang/AbstractStringBuilder;"), (105, .methodref 18 138), (0, .nameAndType 5 139), (0, u "(Ljava/lang/StringBuilder;)V"), (5, u "()V"), (10, u "()I"), (186, .methodref 2 344), (0, .nameAndType 345 156), (0, u "length"), (3, .class_ 350), (0, u "java/lang/Appendable"), (0, .class_ 352), (0, u "java/io/Serializable"), (0, .class_ 354), (0, u "java/lang/Comparable"), (0, .class_ 356), (0, u "java/lang/CharSequence"), (0, u "serialVersionUID"), (0, u "J"), (40, u "toString"), (0, u "()Ljava/lang/String;")] 21

def k12c0 : Code := { maxStack := 2, maxLocals := 1, code := jdk_67_method_1_code, exceptionTable := #[], attributes := #[] }
def k12m0 : Method := { name := "<init>", desc := "()V", sig := { parameters := [], returnType := none }, accessFlags := 1, code := some k12c0 }
def k12c1 : Code := { maxStack := 2, maxLocals := 2, code := jdk_67_method_7_code, exceptionTable := #[], attributes := #[] }
def k12m1 : Method := { name := "append", desc := "(Ljava/lang/String;)Ljava/lang/StringBuilder;", sig := { parameters := [(.object "java/lang/String")], returnType := some (.object "java/lang/StringBuilder") }, accessFlags := 1, code := some k12c1 }
def k12c2 : Code := { maxStack := 3, maxLocals := 1, code := jdk_67_method_42_code, exceptionTable := #[], attributes := #[] }
def k12m2 : Method := { name := "toString", desc := "()Ljava/lang/String;", sig := { parameters := [], returnType := some (.object "java/lang/String") }, accessFlags := 1, code := some k12c2 }
def k12c3 : Code := { maxStack := 1, maxLocals := 1, code := jdk_67_method_93_code, exceptionTable := #[], attributes := #[] }
def k12m3 : Method := { name := "length", desc := "()I", sig := { parameters := [], returnType := some .int }, accessFlags := 4161, code := some k12c3 }
/-- java/lang/StringBuilder -/
def k12 : Class := { plain "java/lang/StringBuilder" (some 11) with
  accessFlags := 49
  interfaces := #[10, 2, 3, 4]
  cf := some (fileOf pool12 24 #[] #[{ accessFlags := 1, nameIndex := 5, descriptorIndex := 145, attributes := #[] }, { accessFlags := 1, nameIndex := 27, descriptorIndex := 28, attributes := #[] }, { accessFlags := 1, nameIndex := 399, descriptorIndex := 400, attributes := #[] }, { accessFlags := 4161, nameIndex := 345, descriptorIndex := 156, attributes := #[] }] 49 2 #[349, 351, 353, 355] #[{ accessFlags := 24, nameIndex := 357, descriptorIndex := 358, attributes := #[] }])
  fields := #[{ name := "serialVersionUID", type := .long, accessFlags := 24, slot := 0, constantValue := 0 }]
  methods := #[k12m0, k12m1, k12m2, k12m3]
  instanceTypes := #[(.array .byte), .byte, .boolean, .int]
  staticTypes := #[.long]
  resolved := Array.replicate 422 none
  statics := none }

def pool13 : Array CpInfo := pool [(9, u "<init>"), (6, .class_ 18), (1, u "java/lang/Object"), (0, u "()V"), (1, .class_ 23), (1, u "jdk/internal/util/ArraysSupport"), (0, u "LOG2_ARRAY_LONG_INDEX_SCALE"), (0, u "I"), (2, u "U"), (0, u "Ljdk/internal/misc/Unsafe;"), (8, u "BIG_ENDIAN"), (0, u "Z"), (8, u "LOG2_BYTE_BIT_SIZE"), (4, u "LOG2_ARRAY_INT_INDEX_SCALE"), (54, u "JLA"), (0, u "Ljdk/internal/access/JavaLangAccess;"), (11, u "LOG2_ARRAY_BOOLEAN_INDEX_SCALE"), (9, u "LOG2_ARRAY_BYTE_INDEX_SCALE"), (5, u "LOG2_ARRAY_CHAR_INDEX_SCALE"), (5, u "LOG2_ARRAY_SHORT_INDEX_SCALE"), (18, u "LOG2_ARRAY_FLOAT_INDEX_SCALE"), (24, u "LOG2_ARRAY_DOUBLE_INDEX_SCALE"), (6, .methodref 195 196), (0, .class_ 197), (0, .nameAndType 198 199), (0, u "java/lang/Math"), (0, u "max"), (0, u "(II)I"), (0, .integer 2147483639), (76, u "T_BOOLEAN"), (2, u "T_CHAR"), (1, u "T_FLOAT"), (1, u "T_DOUBLE"), (1, u "T_BYTE"), (1, u "T_SHORT"), (1, u "T_INT"), (1, u "T_LONG"), (1, u "SOFT_MAX_ARRAY_LENGTH"), (56, u "newLength"), (0, u "(III)I")] 25

def k13m0 : Method := { name := "<init>", desc := "()V", sig := { parameters := [], returnType := none }, accessFlags := 2, code := none }
def k13c1 : Code := { maxStack := 3, maxLocals := 4, code := jdk_48_method_27_code, exceptionTable := #[], attributes := #[] }
def k13m1 : Method := { name := "newLength", desc := "(III)I", sig := { parameters := [.int, .int, .int], returnType := some .int }, accessFlags := 9, code := some k13c1 }
/-- jdk/internal/util/ArraysSupport -/
def k13 : Class := { plain "jdk/internal/util/ArraysSupport" (some 0) with
  accessFlags := 33
  interfaces := #[]
  cf := some (fileOf pool13 21 #[] #[{ accessFlags := 2, nameIndex := 9, descriptorIndex := 19, attributes := #[] }, { accessFlags := 9, nameIndex := 351, descriptorIndex := 352, attributes := #[] }] 33 16 #[] #[{ accessFlags := 24, nameIndex := 28, descriptorIndex := 29, attributes := #[] }, { accessFlags := 26, nameIndex := 38, descriptorIndex := 39, attributes := #[] }, { accessFlags := 25, nameIndex := 121, descriptorIndex := 25, attributes := #[] }, { accessFlags := 25, nameIndex := 131, descriptorIndex := 25, attributes := #[] }, { accessFlags := 25, nameIndex := 137, descriptorIndex := 25, attributes := #[] }, { accessFlags := 25, nameIndex := 143, descriptorIndex := 25, attributes := #[] }, { accessFlags := 25, nameIndex := 53, descriptorIndex := 25, attributes := #[] }, { accessFlags := 25, nameIndex := 24, descriptorIndex := 25, attributes := #[] }, { accessFlags := 25, nameIndex := 162, descriptorIndex := 25, attributes := #[] }, { accessFlags := 25, nameIndex := 187, descriptorIndex := 25, attributes := #[] }, { accessFlags := 26, nameIndex := 48, descriptorIndex := 25, attributes := #[] }, { accessFlags := 25, nameIndex := 277, descriptorIndex := 25, attributes := #[] }, { accessFlags := 25, nameIndex := 280, descriptorIndex := 25, attributes := #[] }, { accessFlags := 25, nameIndex := 282, descriptorIndex := 25, attributes := #[] }, { accessFlags := 25, nameIndex := 284, descriptorIndex := 25, attributes := #[] }, { accessFlags := 25, nameIndex := 286, descriptorIndex := 25, attributes := #[] }, { accessFlags := 25, nameIndex := 288, descriptorIndex := 25, attributes := #[] }, { accessFlags := 25, nameIndex := 290, descriptorIndex := 25, attributes := #[] }, { accessFlags := 25, nameIndex := 292, descriptorIndex := 25, attributes := #[] }, { accessFlags := 26, nameIndex := 108, descriptorIndex := 109, attributes := #[] }, { accessFlags := 25, nameIndex := 294, descriptorIndex := 25, attributes := #[] }])
  fields := #[{ name := "U", type := (.object "jdk/internal/misc/Unsafe"), accessFlags := 24, slot := 0, constantValue := 0 }, { name := "BIG_ENDIAN", type := .boolean, accessFlags := 26, slot := 1, constantValue := 0 }, { name := "LOG2_ARRAY_BOOLEAN_INDEX_SCALE", type := .int, accessFlags := 25, slot := 2, constantValue := 0 }, { name := "LOG2_ARRAY_BYTE_INDEX_SCALE", type := .int, accessFlags := 25, slot := 3, constantValue := 0 }, { name := "LOG2_ARRAY_CHAR_INDEX_SCALE", type := .int, accessFlags := 25, slot := 4, constantValue := 0 }, { name := "LOG2_ARRAY_SHORT_INDEX_SCALE", type := .int, accessFlags := 25, slot := 5, constantValue := 0 }, { name := "LOG2_ARRAY_INT_INDEX_SCALE", type := .int, accessFlags := 25, slot := 6, constantValue := 0 }, { name := "LOG2_ARRAY_LONG_INDEX_SCALE", type := .int, accessFlags := 25, slot := 7, constantValue := 0 }, { name := "LOG2_ARRAY_FLOAT_INDEX_SCALE", type := .int, accessFlags := 25, slot := 8, constantValue := 0 }, { name := "LOG2_ARRAY_DOUBLE_INDEX_SCALE", type := .int, accessFlags := 25, slot := 9, constantValue := 0 }, { name := "LOG2_BYTE_BIT_SIZE", type := .int, accessFlags := 26, slot := 10, constantValue := 0 }, { name := "T_BOOLEAN", type := .int, accessFlags := 25, slot := 11, constantValue := 0 }, { name := "T_CHAR", type := .int, accessFlags := 25, slot := 12, constantValue := 0 }, { name := "T_FLOAT", type := .int, accessFlags := 25, slot := 13, constantValue := 0 }, { name := "T_DOUBLE", type := .int, accessFlags := 25, slot := 14, constantValue := 0 }, { name := "T_BYTE", type := .int, accessFlags := 25, slot := 15, constantValue := 0 }, { name := "T_SHORT", type := .int, accessFlags := 25, slot := 16, constantValue := 0 }, { name := "T_INT", type := .int, accessFlags := 25, slot := 17, constantValue := 0 }, { name := "T_LONG", type := .int, accessFlags := 25, slot := 18, constantValue := 0 }, { name := "JLA", type := (.object "jdk/internal/access/JavaLangAccess"), accessFlags := 26, slot := 19, constantValue := 0 }, { name := "SOFT_MAX_ARRAY_LENGTH", type := .int, accessFlags := 25, slot := 20, constantValue := 0 }]
  methods := #[k13m0, k13m1]
  instanceTypes := #[]
  staticTypes := #[(.object "jdk/internal/misc/Unsafe"), .boolean, .int, .int, .int, .int, .int, .int, .int, .int, .int, .int, .int, .int, .int, .int, .int, .int, .int, (.object "jdk/internal/access/JavaLangAccess"), .int]
  resolved := Array.replicate 378 none
  statics := none }

def pool14 : Array CpInfo := pool [(1, .class_ 2), (0, u "java/lang/Math"), (1, .class_ 6), (1, u "java/lang/Object"), (0, u "<init>"), (0, u "()V"), (89, .class_ 100), (1, u "java/lang/Math$RandomNumberGeneratorHolder"), (71, u "negativeZeroFloatBits"), (0, u "J"), (2, u "negativeZeroDoubleBits"), (21, u "max"), (2, u "min"), (43, u "$assertionsDisabled"), (0, u "Z"), (88, u "(II)I"), (2, u "twoToTheDoubleScaleDown"), (0, u "D"), (4, u "twoToTheDoubleScaleUp"), (9, u "E"), (3, u "PI"), (2, u "TAU"), (2, u "DEGREES_TO_RADIANS"), (0, u "RADIANS_TO_DEGREES")] 94

def k14m0 : Method := { name := "<init>", desc := "()V", sig := { parameters := [], returnType := none }, accessFlags := 2, code := none }
def k14c1 : Code := { maxStack := 2, maxLocals := 2, code := jdk_29_method_65_code, exceptionTable := #[], attributes := #[] }
def k14m1 : Method := { name := "max", desc := "(II)I", sig := { parameters := [.int, .int], returnType := some .int }, accessFlags := 9, code := some k14c1 }
def k14c2 : Code := { maxStack := 2, maxLocals := 2, code := jdk_29_method_69_code, exceptionTable := #[], attributes := #[] }
def k14m2 : Method := { name := "min", desc := "(II)I", sig := { parameters := [.int, .int], returnType := some .int }, accessFlags := 9, code := some k14c2 }
/-- java/lang/Math -/
def k14 : Class := { plain "java/lang/Math" (some 0) with
  accessFlags := 49
  interfaces := #[]
  cf := some (fileOf pool14 1 #[.nestMembers #[98]] #[{ accessFlags := 2, nameIndex := 7, descriptorIndex := 8, attributes := #[] }, { accessFlags := 9, nameIndex := 198, descriptorIndex := 335, attributes := #[] }, { accessFlags := 9, nameIndex := 201, descriptorIndex := 335, attributes := #[] }] 49 4 #[] #[{ accessFlags := 25, nameIndex := 354, descriptorIndex := 339, attributes := #[] }, { accessFlags := 25, nameIndex := 358, descriptorIndex := 339, attributes := #[] }, { accessFlags := 25, nameIndex := 361, descriptorIndex := 339, attributes := #[] }, { accessFlags := 26, nameIndex := 364, descriptorIndex := 339, attributes := #[] }, { accessFlags := 26, nameIndex := 365, descriptorIndex := 339, attributes := #[] }, { accessFlags := 26, nameIndex := 172, descriptorIndex := 173, attributes := #[] }, { accessFlags := 26, nameIndex := 176, descriptorIndex := 173, attributes := #[] }, { accessFlags := 8, nameIndex := 344, descriptorIndex := 339, attributes := #[] }, { accessFlags := 8, nameIndex := 338, descriptorIndex := 339, attributes := #[] }, { accessFlags := 4120, nameIndex := 245, descriptorIndex := 246, attributes := #[] }])
  fields := #[{ name := "E", type := .double, accessFlags := 25, slot := 0, constantValue := 0 }, { name := "PI", type := .double, accessFlags := 25, slot := 1, constantValue := 0 }, { name := "TAU", type := .double, accessFlags := 25, slot := 2, constantValue := 0 }, { name := "DEGREES_TO_RADIANS", type := .double, accessFlags := 26, slot := 3, constantValue := 0 }, { name := "RADIANS_TO_DEGREES", type := .double, accessFlags := 26, slot := 4, constantValue := 0 }, { name := "negativeZeroFloatBits", type := .long, accessFlags := 26, slot := 5, constantValue := 0 }, { name := "negativeZeroDoubleBits", type := .long, accessFlags := 26, slot := 6, constantValue := 0 }, { name := "twoToTheDoubleScaleUp", type := .double, accessFlags := 8, slot := 7, constantValue := 0 }, { name := "twoToTheDoubleScaleDown", type := .double, accessFlags := 8, slot := 8, constantValue := 0 }, { name := "$assertionsDisabled", type := .boolean, accessFlags := 4120, slot := 9, constantValue := 0 }]
  methods := #[k14m0, k14m1, k14m2]
  instanceTypes := #[]
  staticTypes := #[.double, .double, .double, .double, .double, .long, .long, .double, .double, .boolean]
  resolved := Array.replicate 460 none
  statics := none }

def pool15 : Array CpInfo := pool [(2, .class_ 4), (1, u "java/lang/Object"), (0, u "<init>"), (0, u "()V"), (7, .class_ 16), (1, u "java/util/Arrays"), (57, .class_ 76), (1, u "java/util/Arrays$NaturalOrder"), (32, u "()Ljava/lang/Object;"), (3, .class_ 115), (1, u "java/util/Arrays$LegacyMergeSort"), (1, u "Z"), (10, .nameAndType 129 109), (0, u "clone"), (9, u "copyOfRange"), (10, .methodref 151 152), (0, .class_ 153), (0, .nameAndType 154 155), (0, u "java/lang/System"), (0, u "arraycopy"), (0, u "(Ljava/lang/Object;ILjava/lang/Object;II)V"), (146, u "copyOf"), (1, .methodref 305 306), (0, .class_ 307), (0, .nameAndType 308 309), (0, u "java/lang/Math"), (0, u "min"), (0, u "(II)I"), (0, .methodref 311 128), (0, .class_ 312), (0, u "[B"), (26, .methodref 14 340), (0, .nameAndType 341 342), (0, u "copyOfRangeByte"), (0, u "([BII)[B"), (0, .methodref 14 344), (0, .nameAndType 345 346), (0, u "checkLength"), (0, u "(II)V"), (28, .class_ 376), (0, u "java/util/Arrays$ArrayList"), (68, u "$assertionsDisabled"), (269, u "MIN_ARRAY_SORT_GRAN"), (0, u "I"), (2, u "INSERTIONSORT_THRESHOLD"), (149, u "([BI)[B"), (105, .class_ 976), (0, u "java/util/Arrays$ArrayItr")] 52

def k15m0 : Method := { name := "<init>", desc := "()V", sig := { parameters := [], returnType := none }, accessFlags := 2, code := none }
def k15c1 : Code := { maxStack := 6, maxLocals := 3, code := jdk_65_method_121_code, exceptionTable := #[], attributes := #[] }
def k15m1 : Method := { name := "copyOf", desc := "([BI)[B", sig := { parameters := [(.array .byte), .int], returnType := some (.array .byte) }, accessFlags := 9, code := some k15c1 }
def k15c2 : Code := { maxStack := 4, maxLocals := 2, code := jdk_65_method_131_code, exceptionTable := #[], attributes := #[] }
def k15m2 : Method := { name := "checkLength", desc := "(II)V", sig := { parameters := [.int, .int], returnType := none }, accessFlags := 10, code := some k15c2 }
def k15c3 : Code := { maxStack := 3, maxLocals := 3, code := jdk_65_method_132_code, exceptionTable := #[], attributes := #[] }
def k15m3 : Method := { name := "copyOfRange", desc := "([BII)[B", sig := { parameters := [(.array .byte), .int, .int], returnType := some (.array .byte) }, accessFlags := 9, code := some k15c3 }
def k15c4 : Code := { maxStack := 6, maxLocals := 5, code := jdk_65_method_133_code, exceptionTable := #[], attributes := #[] }
def k15m4 : Method := { name := "copyOfRangeByte", desc := "([BII)[B", sig := { parameters := [(.array .byte), .int, .int], returnType := some (.array .byte) }, accessFlags := 10, code := some k15c4 }
/-- java/util/Arrays -/
def k15 : Class := { plain "java/util/Arrays" (some 0) with
  accessFlags := 49
  interfaces := #[]
  cf := some (fileOf pool15 14 #[.nestMembers #[975, 375, 113, 74]] #[{ accessFlags := 2, nameIndex := 5, descriptorIndex := 6, attributes := #[] }, { accessFlags := 9, nameIndex := 302, descriptorIndex := 869, attributes := #[] }, { accessFlags := 10, nameIndex := 345, descriptorIndex := 346, attributes := #[] }, { accessFlags := 9, nameIndex := 139, descriptorIndex := 342, attributes := #[] }, { accessFlags := 10, nameIndex := 341, descriptorIndex := 342, attributes := #[] }] 49 2 #[] #[{ accessFlags := 26, nameIndex := 715, descriptorIndex := 716, attributes := #[] }, { accessFlags := 26, nameIndex := 719, descriptorIndex := 716, attributes := #[] }, { accessFlags := 4120, nameIndex := 445, descriptorIndex := 117, attributes := #[] }])
  fields := #[{ name := "MIN_ARRAY_SORT_GRAN", type := .int, accessFlags := 26, slot := 0, constantValue := 0 }, { name := "INSERTIONSORT_THRESHOLD", type := .int, accessFlags := 26, slot := 1, constantValue := 0 }, { name := "$assertionsDisabled", type := .boolean, accessFlags := 4120, slot := 2, constantValue := 0 }]
  methods := #[k15m0, k15m1, k15m2, k15m3, k15m4]
  instanceTypes := #[]
  staticTypes := #[.int, .int, .boolean]
  resolved := Array.replicate 1029 none
  statics := none }

def pool16 : Array CpInfo := pool [(2, .class_ 4), (1, u "java/lang/Object"), (0, u "<init>"), (0, u "()V"), (1, .class_ 10), (1, u "java/lang/System"), (0, u "allowSecurityManager"), (0, u "I"), (16, u "cons"), (0, u "Ljava/io/Console;"), (77, .class_ 110), (1, u "java/lang/System$CallersHolder"), (43, u "initialErrStream"), (0, u "Ljava/io/PrintStream;"), (19, u "security"), (0, u "Ljava/lang/SecurityManager;"), (31, .class_ 209), (0, u "java/lang/System$1"), (7, u "props"), (0, u "Ljava/util/Properties;"), (2, u "lineSeparator"), (0, u "Ljava/lang/String;"), (96, .class_ 321), (1, u "java/lang/System$LoggerFinder"), (5, .class_ 328), (0, u "java/lang/System$Logger"), (67, u "err"), (2, u "out"), (91, u "notSupportedJnuEncoding"), (15, u "in"), (17, u "initialIn"), (0, u "Ljava/io/InputStream;"), (35, u "bootLayer"), (0, u "Ljava/lang/ModuleLayer;"), (99, .class_ 664), (0, u "java/lang/System$2"), (9, u "NEVER"), (2, u "MAYBE"), (49, u "arraycopy"), (0, u "(Ljava/lang/Object;ILjava/lang/Object;II)V"), (72, .class_ 802), (0, u "java/lang/System$Logger$Level")] 31

def k16m0 : Method := { name := "<init>", desc := "()V", sig := { parameters := [], returnType := none }, accessFlags := 2, code := none }
def k16m1 : Method := { name := "arraycopy", desc := "(Ljava/lang/Object;ILjava/lang/Object;II)V", sig := { parameters := [(.object "java/lang/Object"), .int, (.object "java/lang/Object"), .int, .int], returnType := none }, accessFlags := 265, code := none }
/-- java/lang/System -/
def k16 : Class := { plain "java/lang/System" (some 0) with
  accessFlags := 49
  interfaces := #[]
  cf := some (fileOf pool16 8 #[.nestMembers #[319, 327, 801, 108, 663, 208]] #[{ accessFlags := 2, nameIndex := 5, descriptorIndex := 6, attributes := #[] }, { accessFlags := 265, nameIndex := 727, descriptorIndex := 728, attributes := #[] }] 49 2 #[] #[{ accessFlags := 25, nameIndex := 507, descriptorIndex := 526, attributes := #[] }, { accessFlags := 25, nameIndex := 399, descriptorIndex := 155, attributes := #[] }, { accessFlags := 25, nameIndex := 396, descriptorIndex := 155, attributes := #[] }, { accessFlags := 10, nameIndex := 525, descriptorIndex := 526, attributes := #[] }, { accessFlags := 26, nameIndex := 674, descriptorIndex := 12, attributes := #[] }, { accessFlags := 26, nameIndex := 677, descriptorIndex := 12, attributes := #[] }, { accessFlags := 10, nameIndex := 11, descriptorIndex := 12, attributes := #[] }, { accessFlags := 74, nameIndex := 175, descriptorIndex := 176, attributes := #[] }, { accessFlags := 10, nameIndex := 491, descriptorIndex := 222, attributes := #[] }, { accessFlags := 74, nameIndex := 29, descriptorIndex := 30, attributes := #[] }, { accessFlags := 74, nameIndex := 154, descriptorIndex := 155, attributes := #[] }, { accessFlags := 10, nameIndex := 217, descriptorIndex := 218, attributes := #[] }, { accessFlags := 10, nameIndex := 221, descriptorIndex := 222, attributes := #[] }, { accessFlags := 8, nameIndex := 562, descriptorIndex := 563, attributes := #[] }])
  fields := #[{ name := "in", type := (.object "java/io/InputStream"), accessFlags := 25, slot := 0, constantValue := 0 }, { name := "out", type := (.object "java/io/PrintStream"), accessFlags := 25, slot := 1, constantValue := 0 }, { name := "err", type := (.object "java/io/PrintStream"), accessFlags := 25, slot := 2, constantValue := 0 }, { name := "initialIn", type := (.object "java/io/InputStream"), accessFlags := 10, slot := 3, constantValue := 0 }, { name := "NEVER", type := .int, accessFlags := 26, slot := 4, constantValue := 0 }, { name := "MAYBE", type := .int, accessFlags := 26, slot := 5, constantValue := 0 }, { name := "allowSecurityManager", type := .int, accessFlags := 10, slot := 6, constantValue := 0 }, { name := "security", type := (.object "java/lang/SecurityManager"), accessFlags := 74, slot := 7, constantValue := 0 }, { name := "notSupportedJnuEncoding", type := (.object "java/lang/String"), accessFlags := 10, slot := 8, constantValue := 0 }, { name := "cons", type := (.object "java/io/Console"), accessFlags := 74, slot := 9, constantValue := 0 }, { name := "initialErrStream", type := (.object "java/io/PrintStream"), accessFlags := 74, slot := 10, constantValue := 0 }, { name := "props", type := (.object "java/util/Properties"), accessFlags := 10, slot := 11, constantValue := 0 }, { name := "lineSeparator", type := (.object "java/lang/String"), accessFlags := 10, slot := 12, constantValue := 0 }, { name := "bootLayer", type := (.object "java/lang/ModuleLayer"), accessFlags := 8, slot := 13, constantValue := 0 }]
  methods := #[k16m0, k16m1]
  instanceTypes := #[]
  staticTypes := #[(.object "java/io/InputStream"), (.object "java/io/PrintStream"), (.object "java/io/PrintStream"), (.object "java/io/InputStream"), .int, .int, .int, (.object "java/lang/SecurityManager"), (.object "java/lang/String"), (.object "java/io/Console"), (.object "java/io/PrintStream"), (.object "java/util/Properties"), (.object "java/lang/String"), (.object "java/lang/ModuleLayer")]
  resolved := Array.replicate 834 none
  statics := none }

def pool17 : Array CpInfo := pool [(1, .class_ 2), (0, u "java/lang/Cloneable"), (0, .class_ 4), (0, u "java/lang/Object")] 2

/-- java/lang/Cloneable -/
def k17 : Class := { plain "java/lang/Cloneable" (some 0) with
  accessFlags := 1537
  interfaces := #[]
  cf := some (fileOf pool17 1 #[] #[] 1537 3 #[] #[])
  fields := #[]
  methods := #[]
  instanceTypes := #[]
  staticTypes := #[]
  resolved := Array.replicate 7 none
  statics := none }

def pool18 : Array CpInfo := pool [(2, .class_ 4), (1, u "sun/util/locale/BaseLocale"), (2, .class_ 8), (0, u "java/util/Locale"), (6, u "CONSTANT_LOCALES"), (0, u "Ljava/util/Map;"), (7, .class_ 26), (1, u "java/lang/Object"), (1, .fieldref 7 29), (0, .nameAndType 30 31), (0, u "baseLocale"), (0, u "Lsun/util/locale/BaseLocale;"), (2, u "localeExtensions"), (0, u "Lsun/util/locale/LocaleExtensions;"), (31, .class_ 69), (1, u "java/util/Locale$Cache"), (3, .class_ 74), (0, u "java/util/Locale$LocaleKey"), (3, u "defaultLocale"), (0, u "Ljava/util/Locale;"), (6, .class_ 88), (1, u "java/util/Locale$Category"), (4, u "defaultDisplayLocale"), (6, u "$assertionsDisabled"), (0, u "Z"), (12, u "defaultFormatLocale"), (12, u "Ljava/lang/String;"), (131, u "isoCountries"), (0, u "[Ljava/lang/String;"), (15, .class_ 278), (1, u "java/util/Locale$IsoCountryCode"), (4, u "isoLanguages"), (9, .methodref 2 294), (0, .nameAndType 295 296), (0, u "getLanguage"), (0, u "()Ljava/lang/String;"), (78, u "languageTag"), (114, .class_ 492), (1, u "java/util/Locale$LocaleNameGetter"), (125, u "hashCodeValue"), (0, u "I"), (29, u "ROOT"), (129, .class_ 781), (1, u "java/util/Locale$FilteringMode"), (39, u "ENGLISH"), (2, u "FRENCH"), (2, u "GERMAN"), (2, u "ITALIAN"), (2, u "JAPANESE"), (2, u "KOREAN"), (2, u "CHINESE"), (2, u "SIMPLIFIED_CHINESE"), (2, u "TRADITIONAL_CHINESE"), (2, u "FRANCE"), (2, u "GERMANY"), (2, u "ITALY"), (2, u "JAPAN"), (2, u "KOREA"), (2, u "UK"), (2, u "US"), (2, u "CANADA"), (2, u "CANADA_FRENCH"), (2, u "CHINA"), (2, u "PRC"), (2, u "TAIWAN"), (13, u "serialPersistentFields"), (0, u "[Ljava/io/ObjectStreamField;"), (0, .class_ 898), (0, u "java/lang/Cloneable"), (0, .class_ 900), (0, u "java/io/Serializable"), (2, u "PRIVATE_USE_EXTENSION"), (0, u "C"), (2, u "UNICODE_LOCALE_EXTENSION"), (1, u "serialVersionUID"), (0, u "J"), (2, u "DISPLAY_LANGUAGE"), (1, u "DISPLAY_COUNTRY"), (1, u "DISPLAY_VARIANT"), (1, u "DISPLAY_SCRIPT"), (1, u "DISPLAY_UEXT_KEY"), (1, u "DISPLAY_UEXT_TYPE"), (174, .class_ 1099), (0, u "java/util/Locale$LanguageRange"), (0, .class_ 1101), (0, u "java/util/Locale$Builder"), (0, .class_ 1103), (0, u "java/util/Locale$IsoCountryCode$3"), (0, .class_ 1105), (0, u "java/util/Locale$IsoCountryCode$2"), (0, .class_ 1107), (0, u "java/util/Locale$IsoCountryCode$1")] 46

def k18c0 : Code := { maxStack := 1, maxLocals := 1, code := jdk_2628_method_27_code, exceptionTable := #[], attributes := #[] }
def k18m0 : Method := { name := "getLanguage", desc := "()Ljava/lang/String;", sig := { parameters := [], returnType := some (.object "java/lang/String") }, accessFlags := 1, code := some k18c0 }
/-- java/util/Locale -/
def k18 : Class := { plain "java/util/Locale" (some 0) with
  accessFlags := 49
  interfaces := #[17, 2]
  cf := some (fileOf pool18 7 #[.nestMembers #[1098, 779, 1100, 86, 490, 73, 67, 276, 1102, 1104, 1106]] #[{ accessFlags := 1, nameIndex := 295, descriptorIndex := 296, attributes := #[] }] 49 24 #[897, 899] #[{ accessFlags := 25, nameIndex := 821, descriptorIndex := 79, attributes := #[] }, { accessFlags := 25, nameIndex := 824, descriptorIndex := 79, attributes := #[] }, { accessFlags := 25, nameIndex := 827, descriptorIndex := 79, attributes := #[] }, { accessFlags := 25, nameIndex := 830, descriptorIndex := 79, attributes := #[] }, { accessFlags := 25, nameIndex := 833, descriptorIndex := 79, attributes := #[] }, { accessFlags := 25, nameIndex := 836, descriptorIndex := 79, attributes := #[] }, { accessFlags := 25, nameIndex := 839, descriptorIndex := 79, attributes := #[] }, { accessFlags := 25, nameIndex := 842, descriptorIndex := 79, attributes := #[] }, { accessFlags := 25, nameIndex := 845, descriptorIndex := 79, attributes := #[] }, { accessFlags := 25, nameIndex := 848, descriptorIndex := 79, attributes := #[] }, { accessFlags := 25, nameIndex := 851, descriptorIndex := 79, attributes := #[] }, { accessFlags := 25, nameIndex := 854, descriptorIndex := 79, attributes := #[] }, { accessFlags := 25, nameIndex := 857, descriptorIndex := 79, attributes := #[] }, { accessFlags := 25, nameIndex := 860, descriptorIndex := 79, attributes := #[] }, { accessFlags := 25, nameIndex := 863, descriptorIndex := 79, attributes := #[] }, { accessFlags := 25, nameIndex := 866, descriptorIndex := 79, attributes := #[] }, { accessFlags := 25, nameIndex := 869, descriptorIndex := 79, attributes := #[] }, { accessFlags := 25, nameIndex := 872, descriptorIndex := 79, attributes := #[] }, { accessFlags := 25, nameIndex := 649, descriptorIndex := 79, attributes := #[] }, { accessFlags := 26, nameIndex := 15, descriptorIndex := 16, attributes := #[] }, { accessFlags := 25, nameIndex := 875, descriptorIndex := 79, attributes := #[] }, { accessFlags := 25, nameIndex := 878, descriptorIndex := 79, attributes := #[] }, { accessFlags := 25, nameIndex := 881, descriptorIndex := 79, attributes := #[] }, { accessFlags := 25, nameIndex := 903, descriptorIndex := 904, attributes := #[] }, { accessFlags := 25, nameIndex := 907, descriptorIndex := 904, attributes := #[] }, { accessFlags := 24, nameIndex := 909, descriptorIndex := 910, attributes := #[] }, { accessFlags := 26, nameIndex := 913, descriptorIndex := 619, attributes := #[] }, { accessFlags := 26, nameIndex := 915, descriptorIndex := 619, attributes := #[] }, { accessFlags := 26, nameIndex := 917, descriptorIndex := 619, attributes := #[] }, { accessFlags := 26, nameIndex := 919, descriptorIndex := 619, attributes := #[] }, { accessFlags := 26, nameIndex := 921, descriptorIndex := 619, attributes := #[] }, { accessFlags := 26, nameIndex := 923, descriptorIndex := 619, attributes := #[] }, { accessFlags := 130, nameIndex := 30, descriptorIndex := 31, attributes := #[] }, { accessFlags := 130, nameIndex := 34, descriptorIndex := 35, attributes := #[] }, { accessFlags := 130, nameIndex := 618, descriptorIndex := 619, attributes := #[] }, { accessFlags := 74, nameIndex := 78, descriptorIndex := 79, attributes := #[] }, { accessFlags := 74, nameIndex := 93, descriptorIndex := 79, attributes := #[] }, { accessFlags := 74, nameIndex := 114, descriptorIndex := 79, attributes := #[] }, { accessFlags := 194, nameIndex := 375, descriptorIndex := 127, attributes := #[] }, { accessFlags := 26, nameIndex := 895, descriptorIndex := 896, attributes := #[] }, { accessFlags := 74, nameIndex := 283, descriptorIndex := 260, attributes := #[] }, { accessFlags := 74, nameIndex := 259, descriptorIndex := 260, attributes := #[] }, { accessFlags := 4120, nameIndex := 100, descriptorIndex := 101, attributes := #[] }])
  fields := #[{ name := "ENGLISH", type := (.object "java/util/Locale"), accessFlags := 25, slot := 0, constantValue := 0 }, { name := "FRENCH", type := (.object "java/util/Locale"), accessFlags := 25, slot := 1, constantValue := 0 }, { name := "GERMAN", type := (.object "java/util/Locale"), accessFlags := 25, slot := 2, constantValue := 0 }, { name := "ITALIAN", type := (.object "java/util/Locale"), accessFlags := 25, slot := 3, constantValue := 0 }, { name := "JAPANESE", type := (.object "java/util/Locale"), accessFlags := 25, slot := 4, constantValue := 0 }, { name := "KOREAN", type := (.object "java/util/Locale"), accessFlags := 25, slot := 5, constantValue := 0 }, { name := "CHINESE", type := (.object "java/util/Locale"), accessFlags := 25, slot := 6, constantValue := 0 }, { name := "SIMPLIFIED_CHINESE", type := (.object "java/util/Locale"), accessFlags := 25, slot := 7, constantValue := 0 }, { name := "TRADITIONAL_CHINESE", type := (.object "java/util/Locale"), accessFlags := 25, slot := 8, constantValue := 0 }, { name := "FRANCE", type := (.object "java/util/Locale"), accessFlags := 25, slot := 9, constantValue := 0 }, { name := "GERMANY", type := (.object "java/util/Locale"), accessFlags := 25, slot := 10, constantValue := 0 }, { name := "ITALY", type := (.object "java/util/Locale"), accessFlags := 25, slot := 11, constantValue := 0 }, { name := "JAPAN", type := (.object "java/util/Locale"), accessFlags := 25, slot := 12, constantValue := 0 }, { name := "KOREA", type := (.object "java/util/Locale"), accessFlags := 25, slot := 13, constantValue := 0 }, { name := "UK", type := (.object "java/util/Locale"), accessFlags := 25, slot := 14, constantValue := 0 }, { name := "US", type := (.object "java/util/Locale"), accessFlags := 25, slot := 15, constantValue := 0 }, { name := "CANADA", type := (.object "java/util/Locale"), accessFlags := 25, slot := 16, constantValue := 0 }, { name := "CANADA_FRENCH", type := (.object "java/util/Locale"), accessFlags := 25, slot := 17, constantValue := 0 }, { name := "ROOT", type := (.object "java/util/Locale"), accessFlags := 25, slot := 18, constantValue := 0 }, { name := "CONSTANT_LOCALES", type := (.object "java/util/Map"), accessFlags := 26, slot := 19, constantValue := 0 }, { name := "CHINA", type := (.object "java/util/Locale"), accessFlags := 25, slot := 20, constantValue := 0 }, { name := "PRC", type := (.object "java/util/Locale"), accessFlags := 25, slot := 21, constantValue := 0 }, { name := "TAIWAN", type := (.object "java/util/Locale"), accessFlags := 25, slot := 22, constantValue := 0 }, { name := "PRIVATE_USE_EXTENSION", type := .char, accessFlags := 25, slot := 23, constantValue := 0 }, { name := "UNICODE_LOCALE_EXTENSION", type := .char, accessFlags := 25, slot := 24, constantValue := 0 }, { name := "serialVersionUID", type := .long, accessFlags := 24, slot := 25, constantValue := 0 }, { name := "DISPLAY_LANGUAGE", type := .int, accessFlags := 26, slot := 26, constantValue := 0 }, { name := "DISPLAY_COUNTRY", type := .int, accessFlags := 26, slot := 27, constantValue := 0 }, { name := "DISPLAY_VARIANT", type := .int, accessFlags := 26, slot := 28, constantValue := 0 }, { name := "DISPLAY_SCRIPT", type := .int, accessFlags := 26, slot := 29, constantValue := 0 }, { name := "DISPLAY_UEXT_KEY", type := .int, accessFlags := 26, slot := 30, constantValue := 0 }, { name := "DISPLAY_UEXT_TYPE", type := .int, accessFlags := 26, slot := 31, constantValue := 0 }, { name := "baseLocale", type := (.object "sun/util/locale/BaseLocale"), accessFlags := 130, slot := 0, constantValue := 0 }, { name := "localeExtensions", type := (.object "sun/util/locale/LocaleExtensions"), accessFlags := 130, slot := 1, constantValue := 0 }, { name := "hashCodeValue", type := .int, accessFlags := 130, slot := 2, constantValue := 0 }, { name := "defaultLocale", type := (.object "java/util/Locale"), accessFlags := 74, slot := 32, constantValue := 0 }, { name := "defaultDisplayLocale", type := (.object "java/util/Locale"), accessFlags := 74, slot := 33, constantValue := 0 }, { name := "defaultFormatLocale", type := (.object "java/util/Locale"), accessFlags := 74, slot := 34, constantValue := 0 }, { name := "languageTag", type := (.object "java/lang/String"), accessFlags := 194, slot := 3, constantValue := 0 }, { name := "serialPersistentFields", type := (.array (.object "java/io/ObjectStreamField")), accessFlags := 26, slot := 35, constantValue := 0 }, { name := "isoLanguages", type := (.array (.object "java/lang/String")), accessFlags := 74, slot := 36, constantValue := 0 }, { name := "isoCountries", type := (.array (.object "java/lang/String")), accessFlags := 74, slot := 37, constantValue := 0 }, { name := "$assertionsDisabled", type := .boolean, accessFlags := 4120, slot := 38, constantValue := 0 }]
  methods := #[k18m0]
  instanceTypes := #[(.object "sun/util/locale/BaseLocale"), (.object "sun/util/locale/LocaleExtensions"), .int, (.object "java/lang/String")]
  staticTypes := #[(.object "java/util/Locale"), (.object "java/util/Locale"), (.object "java/util/Locale"), (.object "java/util/Locale"), (.object "java/util/Locale"), (.object "java/util/Locale"), (.object "java/util/Locale"), (.object "java/util/Locale"), (.object "java/util/Locale"), (.object "java/util/Locale"), (.object "java/util/Locale"), (.object "java/util/Locale"), (.object "java/util/Locale"), (.object "java/util/Locale"), (.object "java/util/Locale"), (.object "java/util/Locale"), (.object "java/util/Locale"), (.object "java/util/Locale"), (.object "java/util/Locale"), (.object "java/util/Map"), (.object "java/util/Locale"), (.object "java/util/Locale"), (.object "java/util/Locale"), .char, .char, .long, .int, .int, .int, .int, .int, .int, (.object "java/util/Locale"), (.object "java/util/Locale"), (.object "java/util/Locale"), (.array (.object "java/io/ObjectStreamField")), (.array (.object "java/lang/String")), (.array (.object "java/lang/String")), .boolean]
  resolved := Array.replicate 1154 none
  statics := some 1 }

def pool19 : Array CpInfo := pool [(1, .class_ 2), (0, u "java/lang/String"), (1, .class_ 6), (1, u "java/lang/Object"), (0, u "<init>"), (0, u "()V"), (5, .class_ 16), (1, u "java/lang/StringLatin1"), (11, .methodref 29 30), (0, .class_ 31), (0, .nameAndType 32 33), (0, u "java/lang/System"), (0, u "arraycopy"), (0, u "(Ljava/lang/Object;ILjava/lang/Object;II)V"), (32, .fieldref 67 68), (0, .class_ 69), (0, .nameAndType 70 71), (0, u "java/lang/CharacterDataLatin1"), (0, u "instance"), (0, u "Ljava/lang/CharacterDataLatin1;"), (3, u "(I)I"), (4, u "toLowerCase"), (7, .methodref 14 89), (0, .nameAndType 90 91), (0, u "canEncode"), (0, u "(I)Z"), (20, .methodref 1 113), (0, .nameAndType 7 114), (0, u "([BB)V"), (6, u "$assertionsDisabled"), (0, u "Z"), (37, .methodref 67 161), (0, .nameAndType 80 75), (0, .methodref 163 164), (0, .class_ 165), (0, .nameAndType 166 167), (0, u "java/util/Locale"), (0, u "getLanguage"), (0, u "()Ljava/lang/String;"), (0, .string 169), (0, u "tr"), (0, .string 171), (0, u "az"), (0, .string 173), (0, u "lt"), (47, .class_ 223), (1, u "java/lang/StringLatin1$LinesSpliterator"), (57, u "equals"), (0, u "([B[B)Z"), (67, u "(Ljava/lang/String;[BLjava/util/Locale;)Ljava/lang/String;"), (39, .class_ 391), (0, u "java/lang/StringLatin1$CharsSpliterator")] 3

def k19m0 : Method := { name := "<init>", desc := "()V", sig := { parameters := [], returnType := none }, accessFlags := 0, code := none }
def k19c1 : Code := { maxStack := 2, maxLocals := 1, code := jdk_43_method_4_code, exceptionTable := #[], attributes := #[] }
def k19m1 : Method := { name := "canEncode", desc := "(I)Z", sig := { parameters := [.int], returnType := some .boolean }, accessFlags := 9, code := some k19c1 }
def k19c2 : Code := { maxStack := 3, maxLocals := 3, code := jdk_43_method_13_code, exceptionTable := #[], attributes := #[] }
def k19m2 : Method := { name := "equals", desc := "([B[B)Z", sig := { parameters := [(.array .byte), (.array .byte)], returnType := some .boolean }, accessFlags := 9, code := some k19c2 }
def k19c3 : Code := { maxStack := 5, maxLocals := 9, code := jdk_43_method_32_code, exceptionTable := #[], attributes := #[] }
def k19m3 : Method := { name := "toLowerCase", desc := "(Ljava/lang/String;[BLjava/util/Locale;)Ljava/lang/String;", sig := { parameters := [(.object "java/lang/String"), (.array .byte), (.object "java/util/Locale")], returnType := some (.object "java/lang/String") }, accessFlags := 9, code := some k19c3 }
/-- java/lang/StringLatin1 -/
def k19 : Class := { plain "java/lang/StringLatin1" (some 0) with
  accessFlags := 48
  interfaces := #[]
  cf := some (fileOf pool19 14 #[.nestMembers #[390, 221]] #[{ accessFlags := 0, nameIndex := 7, descriptorIndex := 8, attributes := #[] }, { accessFlags := 9, nameIndex := 90, descriptorIndex := 91, attributes := #[] }, { accessFlags := 9, nameIndex := 281, descriptorIndex := 282, attributes := #[] }, { accessFlags := 9, nameIndex := 80, descriptorIndex := 350, attributes := #[] }] 48 4 #[] #[{ accessFlags := 4120, nameIndex := 121, descriptorIndex := 122, attributes := #[] }])
  fields := #[{ name := "$assertionsDisabled", type := .boolean, accessFlags := 4120, slot := 0, constantValue := 0 }]
  methods := #[k19m0, k19m1, k19m2, k19m3]
  instanceTypes := #[]
  staticTypes := #[.boolean]
  resolved := Array.replicate 395 none
  statics := none }

def pool20 : Array CpInfo := pool [(2, .class_ 4), (1, u "java/lang/Object"), (0, u "<init>"), (0, u "()V"), (1, .class_ 10), (1, u "java/lang/CharacterData")] 75

def k20m0 : Method := { name := "<init>", desc := "()V", sig := { parameters := [], returnType := none }, accessFlags := 0, code := none }
/-- java/lang/CharacterData -/
def k20 : Class := { plain "java/lang/CharacterData" (some 0) with
  accessFlags := 1056
  interfaces := #[]
  cf := some (fileOf pool20 8 #[] #[{ accessFlags := 0, nameIndex := 5, descriptorIndex := 6, attributes := #[] }] 1056 2 #[] #[])
  fields := #[]
  methods := #[k20m0]
  instanceTypes := #[]
  staticTypes := #[]
  resolved := Array.replicate 86 none
  statics := none }

def pool21 : Array CpInfo := pool [(2, .class_ 4), (1, u "java/lang/CharacterDataLatin1"), (0, u "A"), (0, u "[I"), (2, u "B"), (0, u "[C"), (3, u "(I)I"), (12, u "DIGITS"), (0, u "[B"), (8, u "sharpsMap"), (1, .class_ 41), (1, u "java/lang/CharacterData"), (0, u "<init>"), (0, u "()V"), (3, u "instance"), (0, u "Ljava/lang/CharacterDataLatin1;"), (63, u "toLowerCase")] 28

def k21c0 : Code := { maxStack := 2, maxLocals := 3, code := jdk_116_method_20_code, exceptionTable := #[], attributes := #[] }
def k21m0 : Method := { name := "toLowerCase", desc := "(I)I", sig := { parameters := [.int], returnType := some .int }, accessFlags := 0, code := some k21c0 }
def k21m1 : Method := { name := "<init>", desc := "()V", sig := { parameters := [], returnType := none }, accessFlags := 2, code := none }
/-- java/lang/CharacterDataLatin1 -/
def k21 : Class := { plain "java/lang/CharacterDataLatin1" (some 20) with
  accessFlags := 32
  interfaces := #[]
  cf := some (fileOf pool21 2 #[] #[{ accessFlags := 0, nameIndex := 112, descriptorIndex := 14, attributes := #[] }, { accessFlags := 2, nameIndex := 42, descriptorIndex := 43, attributes := #[] }] 32 39 #[] #[{ accessFlags := 26, nameIndex := 27, descriptorIndex := 28, attributes := #[] }, { accessFlags := 8, nameIndex := 37, descriptorIndex := 10, attributes := #[] }, { accessFlags := 24, nameIndex := 47, descriptorIndex := 48, attributes := #[] }, { accessFlags := 24, nameIndex := 5, descriptorIndex := 6, attributes := #[] }, { accessFlags := 24, nameIndex := 9, descriptorIndex := 10, attributes := #[] }])
  fields := #[{ name := "DIGITS", type := (.array .byte), accessFlags := 26, slot := 0, constantValue := 0 }, { name := "sharpsMap", type := (.array .char), accessFlags := 8, slot := 1, constantValue := 0 }, { name := "instance", type := (.object "java/lang/CharacterDataLatin1"), accessFlags := 24, slot := 2, constantValue := 0 }, { name := "A", type := (.array .int), accessFlags := 24, slot := 3, constantValue := 0 }, { name := "B", type := (.array .char), accessFlags := 24, slot := 4, constantValue := 0 }]
  methods := #[k21m0, k21m1]
  instanceTypes := #[]
  staticTypes := #[(.array .byte), (.array .char), (.object "java/lang/CharacterDataLatin1"), (.array .int), (.array .char)]
  resolved := Array.replicate 141 none
  statics := some 2 }

def pool22 : Array CpInfo := pool [(2, .class_ 4), (1, u "java/lang/Object"), (13, u "()Ljava/lang/String;"), (0, .fieldref 20 21), (0, .class_ 22), (0, .nameAndType 23 24), (0, u "sun/util/locale/BaseLocale"), (0, u "language"), (0, u "Ljava/lang/String;"), (5, u "script"), (5, u "region"), (2, u "variant"), (11, u "constantBaseLocales"), (0, u "[Lsun/util/locale/BaseLocale;"), (2, u "getLanguage"), (10, .class_ 67), (0, u "sun/util/locale/BaseLocale$Key"), (2, .class_ 72), (1, u "sun/util/locale/BaseLocale$Cache"), (24, u "OLD_ISO_CODES"), (0, u "Z"), (32, u "hash"), (0, u "I"), (41, u "US"), (15, u "ENGLISH"), (0, u "B"), (2, u "FRENCH"), (1, u "GERMAN"), (1, u "ITALIAN"), (1, u "JAPANESE"), (1, u "KOREAN"), (1, u "CHINESE"), (1, u "SIMPLIFIED_CHINESE"), (1, u "TRADITIONAL_CHINESE"), (1, u "FRANCE"), (1, u "GERMANY"), (1, u "ITALY"), (1, u "JAPAN"), (1, u "KOREA"), (1, u "UK"), (2, u "CANADA"), (1, u "CANADA_FRENCH"), (1, u "ROOT"), (1, u "NUM_CONSTANTS"), (1, u "SEP")] 31

def k22c0 : Code := { maxStack := 1, maxLocals := 1, code := jdk_3003_method_5_code, exceptionTable := #[], attributes := #[] }
def k22m0 : Method := { name := "getLanguage", desc := "()Ljava/lang/String;", sig := { parameters := [], returnType := some (.object "java/lang/String") }, accessFlags := 1, code := some k22c0 }
/-- sun/util/locale/BaseLocale -/
def k22 : Class := { plain "sun/util/locale/BaseLocale" (some 0) with
  accessFlags := 49
  interfaces := #[]
  cf := some (fileOf pool22 20 #[.nestMembers #[70, 66]] #[{ accessFlags := 1, nameIndex := 55, descriptorIndex := 18, attributes := #[] }] 49 2 #[] #[{ accessFlags := 9, nameIndex := 51, descriptorIndex := 52, attributes := #[] }, { accessFlags := 25, nameIndex := 190, descriptorIndex := 191, attributes := #[] }, { accessFlags := 25, nameIndex := 194, descriptorIndex := 191, attributes := #[] }, { accessFlags := 25, nameIndex := 196, descriptorIndex := 191, attributes := #[] }, { accessFlags := 25, nameIndex := 198, descriptorIndex := 191, attributes := #[] }, { accessFlags := 25, nameIndex := 200, descriptorIndex := 191, attributes := #[] }, { accessFlags := 25, nameIndex := 202, descriptorIndex := 191, attributes := #[] }, { accessFlags := 25, nameIndex := 204, descriptorIndex := 191, attributes := #[] }, { accessFlags := 25, nameIndex := 206, descriptorIndex := 191, attributes := #[] }, { accessFlags := 25, nameIndex := 208, descriptorIndex := 191, attributes := #[] }, { accessFlags := 25, nameIndex := 210, descriptorIndex := 191, attributes := #[] }, { accessFlags := 25, nameIndex := 212, descriptorIndex := 191, attributes := #[] }, { accessFlags := 25, nameIndex := 214, descriptorIndex := 191, attributes := #[] }, { accessFlags := 25, nameIndex := 216, descriptorIndex := 191, attributes := #[] }, { accessFlags := 25, nameIndex := 218, descriptorIndex := 191, attributes := #[] }, { accessFlags := 25, nameIndex := 220, descriptorIndex := 191, attributes := #[] }, { accessFlags := 25, nameIndex := 174, descriptorIndex := 191, attributes := #[] }, { accessFlags := 25, nameIndex := 223, descriptorIndex := 191, attributes := #[] }, { accessFlags := 25, nameIndex := 225, descriptorIndex := 191, attributes := #[] }, { accessFlags := 25, nameIndex := 227, descriptorIndex := 191, attributes := #[] }, { accessFlags := 25, nameIndex := 229, descriptorIndex := 191, attributes := #[] }, { accessFlags := 25, nameIndex := 231, descriptorIndex := 24, attributes := #[] }, { accessFlags := 18, nameIndex := 23, descriptorIndex := 24, attributes := #[] }, { accessFlags := 18, nameIndex := 30, descriptorIndex := 24, attributes := #[] }, { accessFlags := 18, nameIndex := 36, descriptorIndex := 24, attributes := #[] }, { accessFlags := 18, nameIndex := 39, descriptorIndex := 24, attributes := #[] }, { accessFlags := 2, nameIndex := 131, descriptorIndex := 132, attributes := #[] }, { accessFlags := 26, nameIndex := 97, descriptorIndex := 98, attributes := #[] }])
  fields := #[{ name := "constantBaseLocales", type := (.array (.object "sun/util/locale/BaseLocale")), accessFlags := 9, slot := 0, constantValue := 0 }, { name := "ENGLISH", type := .byte, accessFlags := 25, slot := 1, constantValue := 0 }, { name := "FRENCH", type := .byte, accessFlags := 25, slot := 2, constantValue := 0 }, { name := "GERMAN", type := .byte, accessFlags := 25, slot := 3, constantValue := 0 }, { name := "ITALIAN", type := .byte, accessFlags := 25, slot := 4, constantValue := 0 }, { name := "JAPANESE", type := .byte, accessFlags := 25, slot := 5, constantValue := 0 }, { name := "KOREAN", type := .byte, accessFlags := 25, slot := 6, constantValue := 0 }, { name := "CHINESE", type := .byte, accessFlags := 25, slot := 7, constantValue := 0 }, { name := "SIMPLIFIED_CHINESE", type := .byte, accessFlags := 25, slot := 8, constantValue := 0 }, { name := "TRADITIONAL_CHINESE", type := .byte, accessFlags := 25, slot := 9, constantValue := 0 }, { name := "FRANCE", type := .byte, accessFlags := 25, slot := 10, constantValue := 0 }, { name := "GERMANY", type := .byte, accessFlags := 25, slot := 11, constantValue := 0 }, { name := "ITALY", type := .byte, accessFlags := 25, slot := 12, constantValue := 0 }, { name := "JAPAN", type := .byte, accessFlags := 25, slot := 13, constantValue := 0 }, { name := "KOREA", type := .byte, accessFlags := 25, slot := 14, constantValue := 0 }, { name := "UK", type := .byte, accessFlags := 25, slot := 15, constantValue := 0 }, { name := "US", type := .byte, accessFlags := 25, slot := 16, constantValue := 0 }, { name := "CANADA", type := .byte, accessFlags := 25, slot := 17, constantValue := 0 }, { name := "CANADA_FRENCH", type := .byte, accessFlags := 25, slot := 18, constantValue := 0 }, { name := "ROOT", type := .byte, accessFlags := 25, slot := 19, constantValue := 0 }, { name := "NUM_CONSTANTS", type := .byte, accessFlags := 25, slot := 20, constantValue := 0 }, { name := "SEP", type := (.object "java/lang/String"), accessFlags := 25, slot := 21, constantValue := 0 }, { name := "language", type := (.object "java/lang/String"), accessFlags := 18, slot := 0, constantValue := 0 }, { name := "script", type := (.object "java/lang/String"), accessFlags := 18, slot := 1, constantValue := 0 }, { name := "region", type := (.object "java/lang/String"), accessFlags := 18, slot := 2, constantValue := 0 }, { name := "variant", type := (.object "java/lang/String"), accessFlags := 18, slot := 3, constantValue := 0 }, { name := "hash", type := .int, accessFlags := 2, slot := 4, constantValue := 0 }, { name := "OLD_ISO_CODES", type := .boolean, accessFlags := 26, slot := 22, constantValue := 0 }]
  methods := #[k22m0]
  instanceTypes := #[(.object "java/lang/String"), (.object "java/lang/String"), (.object "java/lang/String"), (.object "java/lang/String"), .int]
  staticTypes := #[(.array (.object "sun/util/locale/BaseLocale")), .byte, .byte, .byte, .byte, .byte, .byte, .byte, .byte, .byte, .byte, .byte, .byte, .byte, .byte, .byte, .byte, .byte, .byte, .byte, .byte, (.object "java/lang/String"), .boolean]
  resolved := Array.replicate 263 none
  statics := none }

def pool23 : Array CpInfo := pool [(2, .class_ 4), (1, u "java/lang/Object"), (0, u "<init>"), (0, u "()V"), (17, .class_ 26), (1, u "jdk/internal/util/Preconditions"), (28, .class_ 56), (0, u "jdk/internal/util/Preconditions$4"), (57, .class_ 115), (0, u "jdk/internal/util/Preconditions$1"), (7, u "SIOOBE_FORMATTER"), (0, u "Ljava/util/function/BiFunction;"), (0, .class_ 126), (0, u "jdk/internal/util/Preconditions$2"), (3, u "AIOOBE_FORMATTER"), (0, .class_ 132), (0, u "jdk/internal/util/Preconditions$3"), (3, u "IOOBE_FORMATTER")] 57

def k23m0 : Method := { name := "<init>", desc := "()V", sig := { parameters := [], returnType := none }, accessFlags := 1, code := none }
/-- jdk/internal/util/Preconditions -/
def k23 : Class := { plain "jdk/internal/util/Preconditions" (some 0) with
  accessFlags := 33
  interfaces := #[]
  cf := some (fileOf pool23 24 #[.nestMembers #[55, 131, 125, 114]] #[{ accessFlags := 1, nameIndex := 5, descriptorIndex := 6, attributes := #[] }] 33 2 #[] #[{ accessFlags := 25, nameIndex := 123, descriptorIndex := 124, attributes := #[] }, { accessFlags := 25, nameIndex := 130, descriptorIndex := 124, attributes := #[] }, { accessFlags := 25, nameIndex := 136, descriptorIndex := 124, attributes := #[] }])
  fields := #[{ name := "SIOOBE_FORMATTER", type := (.object "java/util/function/BiFunction"), accessFlags := 25, slot := 0, constantValue := 0 }, { name := "AIOOBE_FORMATTER", type := (.object "java/util/function/BiFunction"), accessFlags := 25, slot := 1, constantValue := 0 }, { name := "IOOBE_FORMATTER", type := (.object "java/util/function/BiFunction"), accessFlags := 25, slot := 2, constantValue := 0 }]
  methods := #[k23m0]
  instanceTypes := #[]
  staticTypes := #[(.object "java/util/function/BiFunction"), (.object "java/util/function/BiFunction"), (.object "java/util/function/BiFunction")]
  resolved := Array.replicate 194 none
  statics := some 3 }

/-- the primitive byte -/
def k24 : Class := { plain "byte" none with kind := .primitive 'B', accessFlags := 0x411 }
/-- [B -/
def k25 : Class := { plain "[B" (some 0) with kind := .array 24 .byte, interfaces := #[17, 2], accessFlags := 1041 }

/-- the primitive char -/
def k26 : Class := { plain "char" none with kind := .primitive 'C', accessFlags := 0x411 }
/-- [C -/
def k27 : Class := { plain "[C" (some 0) with kind := .array 26 .char, interfaces := #[17, 2], accessFlags := 1041 }

/-- the primitive int -/
def k28 : Class := { plain "int" none with kind := .primitive 'I', accessFlags := 0x411 }
/-- [I -/
def k29 : Class := { plain "[I" (some 0) with kind := .array 28 .int, interfaces := #[17, 2], accessFlags := 1041 }

def heap : Heap := #[{ cls := 7, slots := #[.long 0, .int 1, .null, .int 0, .null, .int 0, .int 0], vm := .statics 7 },
  { cls := 18, slots := #[.null, .null, .null, .null, .null, .null, .null, .null, .null, .null, .null, .null, .null, .null, .null, .null, .null, .null, .ref 4, .null, .null, .null, .null, .int 0, .int 0, .long 0, .int 0, .int 0, .int 0, .int 0, .int 0, .int 0, .null, .null, .null, .null, .null, .null, .int 0], vm := .statics 18 },
  { cls := 21, slots := #[.null, .null, .ref 8, .null, .null], vm := .statics 21 },
  { cls := 23, slots := #[.null, .null, .null], vm := .statics 23 },
  { cls := 18, slots := #[.ref 5, .null, .int 0, .null], vm := .none },
  { cls := 22, slots := #[.ref 6, .ref 6, .ref 6, .ref 6, .int 0], vm := .none },
  { cls := 7, slots := #[.ref 7, .int 0, .int 0, .int 0], vm := .none },
  { cls := 25, slots := #[], vm := .none },
  { cls := 21, slots := #[], vm := .none }]
def classes : Array Class := #[k0, k1, k2, k3, k4, k5, k6, k7, k8, k9, k10, k11, k12, k13, k14, k15, k16, k17, k18, k19, k20, k21, k22, k23, k24, k25, k26, k27, k28, k29]
def interned : List (Array UInt16 × Addr) := []
def slotsUsed : Nat := 67
def theMethod : MethodId := ⟨1, 1⟩
def args0 : Array Value := #[.int 5, .int 6, .int 7, .int 2]
def aboutOver (below : List Frame) : State where
  vm := { classes := classes, interned := interned.toArray }
  heap := heap
  slotsUsed := slotsUsed
  threads := #[{ frames := .invoking theMethod args0 :: below }]
def below0 : List Frame := [.native { method := ⟨0, 0⟩, args := #[] }]
def about1 : State := aboutOver below0
def p0 : Program := .bare "" "" ""
def e0 : Env := launch0.env 0 0 0
theorem w_frames : about1.frames = Frame.invoking theMethod args0 :: below0 := rfl
set_option maxRecDepth 65536 in
theorem w_args : argsFit about1.vm theMethod args0 = true := by decide +kernel
set_option maxRecDepth 65536 in
theorem w_heap : heapFits about1 = true := by decide +kernel
set_option maxRecDepth 65536 in
theorem w_runnable : about1.curStatus? = some .runnable := by decide +kernel
set_option maxRecDepth 65536 in
theorem w_alone : about1.alone = true := by decide +kernel
set_option maxRecDepth 65536 in
theorem w_named : about1.methodNamed? x = some theMethod := by decide +kernel
set_option maxRecDepth 65536 in
theorem w_hears : about1.hears theMethod below0 = true := by decide +kernel
set_option maxRecDepth 65536 in
theorem w_ripe : about1.ripe theMethod args0 below0 = true := by decide +kernel
theorem w_running : about1.status = .running := rfl
set_option maxRecDepth 65536 in
theorem w_room : about1.hasRoom e0.platform room_1 = true :=
  launch0.hasRoom_least _ room_1 (by decide +kernel) (by decide +kernel) (by decide +kernel) (by decide +kernel) (by decide +kernel) (by decide +kernel)
theorem allAtoms_all (ts : List Jvm.Cond) (a : Array Jvm.Value) (st : Jvm.State) : (allAtoms ts).before a st = ts.all (fun c => c.before a st) := by
  induction ts with
  | nil => rfl
  | cons c t ih =>
    show (Jvm.Cond.and c (allAtoms t)).before a st = _
    rw [Jvm.Cond.before_and, ih, List.all_cons]
def words1 : List Jvm.Cond := Jvm.Cond.code x code maxLocals ret :: tables_1
/-- a 'code' word, met by the world's own term for the bytes: nothing is compared byte by byte -/
theorem code_word {y : MethodName} {bytes : ByteArray} {mx : Nat} {rt : Option FieldType} {a : Array Value} {s : State} {m : MethodId} {meth : Method} {c : Code} (h1 : s.methodNamed? y = some m) (h2 : s.vm.method? m = some meth) (h3 : meth.code = some c) (h4 : c.code = bytes)
    (h5 : (c.maxLocals == mx && c.exceptionTable.isEmpty && decide (c.maxStack ≤ mostOperands) && decide (meth.sig.returnType = rt) && !meth.locks && decide (parseMethodDescriptor y.desc = some meth.sig)) = true) : (Jvm.Cond.code y bytes mx rt).before a s = true := by
  simp only [Bool.and_eq_true, beq_iff_eq, Bool.not_eq_true', decide_eq_true_eq] at h5
  obtain ⟨⟨⟨⟨⟨g1, g2⟩, g3⟩, g4⟩, g5⟩, g6⟩ := h5
  simp [Cond.before, Cond.holds, Cond.value, h1, h2, h3, h4, g1, g2, g3, g4, g5, g6]
def isCode : Jvm.Cond → Bool
  | .code _ _ _ _ => true
  | _ => false
theorem all_split {L : List Jvm.Cond} {P : Jvm.Cond → Bool} (h1 : L.all (fun c => isCode c || P c) = true) (h2 : ∀ c ∈ L.filter isCode, P c = true) : L.all P = true := by
  refine List.all_eq_true.mpr fun c hc => ?_
  have h := List.all_eq_true.mp h1 c hc
  rcases Bool.eq_false_or_eq_true (isCode c) with hi | hi
  · exact h2 c (List.mem_filter.mpr ⟨hc, hi⟩)
  · simpa [hi] using h
set_option maxRecDepth 65536 in
theorem w_c0 : (Jvm.Cond.code x code maxLocals ret).before args0 about1 = true := code_word (m := ⟨1, 1⟩) (meth := k1m1) (c := k1c1) (by decide +kernel) rfl rfl rfl (by decide +kernel)
set_option maxRecDepth 65536 in
theorem w_c1 : (Jvm.Cond.code ({ cls := "com/example/stringline/derive/Derivation", name := "packageOf", desc := "(Ljava/lang/String;)Ljava/lang/String;" } : Jvm.MethodName) prog_17_method_7_code (1 : Nat) (Option.some (Jvm.ClassFile.FieldType.object "java/lang/String"))).before args0 about1 = true := code_word (m := ⟨8, 0⟩) (meth := k8m0) (c := k8c0) (by decide +kernel) rfl rfl rfl (by decide +kernel)
set_option maxRecDepth 65536 in
theorem w_c2 : (Jvm.Cond.code ({ cls := "java/lang/String", name := "equals", desc := "(Ljava/lang/Object;)Z" } : Jvm.MethodName) jdk_42_method_66_code (3 : Nat) (Option.some Jvm.ClassFile.FieldType.boolean)).before args0 about1 = true := code_word (m := ⟨7, 4⟩) (meth := k7m4) (c := k7c4) (by decide +kernel) rfl rfl rfl (by decide +kernel)
set_option maxRecDepth 65536 in
theorem w_c3 : (Jvm.Cond.code ({ cls := "java/lang/String", name := "<init>", desc := "([C)V" } : Jvm.MethodName) jdk_42_method_3_code (2 : Nat) (Option.none : Option Jvm.ClassFile.FieldType)).before args0 about1 = true := code_word (m := ⟨7, 1⟩) (meth := k7m1) (c := k7c1) (by decide +kernel) rfl rfl rfl (by decide +kernel)
set_option maxRecDepth 65536 in
theorem w_c4 : (Jvm.Cond.code ({ cls := "java/lang/String", name := "<init>", desc := "([CIILjava/lang/Void;)V" } : Jvm.MethodName) jdk_42_method_149_code (6 : Nat) (Option.none : Option Jvm.ClassFile.FieldType)).before args0 about1 = true := code_word (m := ⟨7, 7⟩) (meth := k7m7) (c := k7c7) (by decide +kernel) rfl rfl rfl (by decide +kernel)
set_option maxRecDepth 65536 in
theorem w_c5 : (Jvm.Cond.code ({ cls := "java/lang/Object", name := "<init>", desc := "()V" } : Jvm.MethodName) object_method_1_code (1 : Nat) (Option.none : Option Jvm.ClassFile.FieldType)).before args0 about1 = true := code_word (m := ⟨0, 0⟩) (meth := k0m0) (c := k0c0) (by decide +kernel) rfl rfl rfl (by decide +kernel)
set_option maxRecDepth 65536 in
theorem w_c6 : (Jvm.Cond.code ({ cls := "java/lang/StringUTF16", name := "compress", desc := "([CII)[B" } : Jvm.MethodName) jdk_52_method_16_code (6 : Nat) (Option.some (Jvm.ClassFile.FieldType.array Jvm.ClassFile.FieldType.byte))).before args0 about1 = true := code_word (m := ⟨9, 2⟩) (meth := k9m2) (c := k9c2) (by decide +kernel) rfl rfl rfl (by decide +kernel)
set_option maxRecDepth 65536 in
theorem w_c7 : (Jvm.Cond.code ({ cls := "java/lang/StringUTF16", name := "compress", desc := "([CI[BII)I" } : Jvm.MethodName) jdk_52_method_21_code (7 : Nat) (Option.some Jvm.ClassFile.FieldType.int)).before args0 about1 = true := code_word (m := ⟨9, 3⟩) (meth := k9m3) (c := k9c3) (by decide +kernel) rfl rfl rfl (by decide +kernel)
set_option maxRecDepth 65536 in
theorem w_c8 : (Jvm.Cond.code ({ cls := "java/lang/StringUTF16", name := "coderFromArrayLen", desc := "([BI)B" } : Jvm.MethodName) jdk_52_method_15_code (2 : Nat) (Option.some Jvm.ClassFile.FieldType.byte)).before args0 about1 = true := code_word (m := ⟨9, 1⟩) (meth := k9m1) (c := k9c1) (by decide +kernel) rfl rfl rfl (by decide +kernel)
set_option maxRecDepth 65536 in
theorem w_c9 : (Jvm.Cond.code ({ cls := "java/lang/StringBuilder", name := "<init>", desc := "()V" } : Jvm.MethodName) jdk_67_method_1_code (1 : Nat) (Option.none : Option Jvm.ClassFile.FieldType)).before args0 about1 = true := code_word (m := ⟨12, 0⟩) (meth := k12m0) (c := k12c0) (by decide +kernel) rfl rfl rfl (by decide +kernel)
set_option maxRecDepth 65536 in
theorem w_c10 : (Jvm.Cond.code ({ cls := "java/lang/AbstractStringBuilder", name := "<init>", desc := "(I)V" } : Jvm.MethodName) jdk_68_method_2_code (2 : Nat) (Option.none : Option Jvm.ClassFile.FieldType)).before args0 about1 = true := code_word (m := ⟨11, 1⟩) (meth := k11m1) (c := k11c1) (by decide +kernel) rfl rfl rfl (by decide +kernel)
set_option maxRecDepth 65536 in
theorem w_c11 : (Jvm.Cond.code ({ cls := "java/lang/StringBuilder", name := "append", desc := "(Ljava/lang/String;)Ljava/lang/StringBuilder;" } : Jvm.MethodName) jdk_67_method_7_code (2 : Nat) (Option.some (Jvm.ClassFile.FieldType.object "java/lang/StringBuilder"))).before args0 about1 = true := code_word (m := ⟨12, 1⟩) (meth := k12m1) (c := k12c1) (by decide +kernel) rfl rfl rfl (by decide +kernel)
set_option maxRecDepth 65536 in
theorem w_c12 : (Jvm.Cond.code ({ cls := "java/lang/AbstractStringBuilder", name := "append", desc := "(Ljava/lang/String;)Ljava/lang/AbstractStringBuilder;" } : Jvm.MethodName) jdk_68_method_22_code (3 : Nat) (Option.some (Jvm.ClassFile.FieldType.object "java/lang/AbstractStringBuilder"))).before args0 about1 = true := code_word (m := ⟨11, 5⟩) (meth := k11m5) (c := k11c5) (by decide +kernel) rfl rfl rfl (by decide +kernel)
set_option maxRecDepth 65536 in
theorem w_c13 : (Jvm.Cond.code ({ cls := "java/lang/String", name := "length", desc := "()I" } : Jvm.MethodName) jdk_42_method_54_code (1 : Nat) (Option.some Jvm.ClassFile.FieldType.int)).before args0 about1 = true := code_word (m := ⟨7, 3⟩) (meth := k7m3) (c := k7c3) (by decide +kernel) rfl rfl rfl (by decide +kernel)
set_option maxRecDepth 65536 in
theorem w_c14 : (Jvm.Cond.code ({ cls := "java/lang/String", name := "coder", desc := "()B" } : Jvm.MethodName) jdk_42_method_152_code (1 : Nat) (Option.some Jvm.ClassFile.FieldType.byte)).before args0 about1 = true := code_word (m := ⟨7, 10⟩) (meth := k7m10) (c := k7c10) (by decide +kernel) rfl rfl rfl (by decide +kernel)
set_option maxRecDepth 65536 in
theorem w_c15 : (Jvm.Cond.code ({ cls := "java/lang/AbstractStringBuilder", name := "ensureCapacityInternal", desc := "(I)V" } : Jvm.MethodName) jdk_68_method_9_code (3 : Nat) (Option.none : Option Jvm.ClassFile.FieldType)).before args0 about1 = true := code_word (m := ⟨11, 3⟩) (meth := k11m3) (c := k11c3) (by decide +kernel) rfl rfl rfl (by decide +kernel)
set_option maxRecDepth 65536 in
theorem w_c16 : (Jvm.Cond.code ({ cls := "java/lang/AbstractStringBuilder", name := "newCapacity", desc := "(I)I" } : Jvm.MethodName) jdk_68_method_10_code (6 : Nat) (Option.some Jvm.ClassFile.FieldType.int)).before args0 about1 = true := code_word (m := ⟨11, 4⟩) (meth := k11m4) (c := k11c4) (by decide +kernel) rfl rfl rfl (by decide +kernel)
set_option maxRecDepth 65536 in
theorem w_c17 : (Jvm.Cond.code ({ cls := "jdk/internal/util/ArraysSupport", name := "newLength", desc := "(III)I" } : Jvm.MethodName) jdk_48_method_27_code (4 : Nat) (Option.some Jvm.ClassFile.FieldType.int)).before args0 about1 = true := code_word (m := ⟨13, 1⟩) (meth := k13m1) (c := k13c1) (by decide +kernel) rfl rfl rfl (by decide +kernel)
set_option maxRecDepth 65536 in
theorem w_c18 : (Jvm.Cond.code ({ cls := "java/lang/Math", name := "max", desc := "(II)I" } : Jvm.MethodName) jdk_29_method_65_code (2 : Nat) (Option.some Jvm.ClassFile.FieldType.int)).before args0 about1 = true := code_word (m := ⟨14, 1⟩) (meth := k14m1) (c := k14c1) (by decide +kernel) rfl rfl rfl (by decide +kernel)
set_option maxRecDepth 65536 in
theorem w_c19 : (Jvm.Cond.code ({ cls := "java/util/Arrays", name := "copyOf", desc := "([BI)[B" } : Jvm.MethodName) jdk_65_method_121_code (3 : Nat) (Option.some (Jvm.ClassFile.FieldType.array Jvm.ClassFile.FieldType.byte))).before args0 about1 = true := code_word (m := ⟨15, 1⟩) (meth := k15m1) (c := k15c1) (by decide +kernel) rfl rfl rfl (by decide +kernel)
set_option maxRecDepth 65536 in
theorem w_c20 : (Jvm.Cond.code ({ cls := "java/lang/Math", name := "min", desc := "(II)I" } : Jvm.MethodName) jdk_29_method_69_code (2 : Nat) (Option.some Jvm.ClassFile.FieldType.int)).before args0 about1 = true := code_word (m := ⟨14, 2⟩) (meth := k14m2) (c := k14c2) (by decide +kernel) rfl rfl rfl (by decide +kernel)
set_option maxRecDepth 65536 in
theorem w_c21 : (Jvm.Cond.code ({ cls := "java/lang/AbstractStringBuilder", name := "putStringAt", desc := "(ILjava/lang/String;)V" } : Jvm.MethodName) jdk_68_method_73_code (3 : Nat) (Option.none : Option Jvm.ClassFile.FieldType)).before args0 about1 = true := code_word (m := ⟨11, 9⟩) (meth := k11m9) (c := k11c9) (by decide +kernel) rfl rfl rfl (by decide +kernel)
set_option maxRecDepth 65536 in
theorem w_c22 : (Jvm.Cond.code ({ cls := "java/lang/AbstractStringBuilder", name := "inflateIfNeededFor", desc := "(Ljava/lang/String;)V" } : Jvm.MethodName) jdk_68_method_71_code (2 : Nat) (Option.none : Option Jvm.ClassFile.FieldType)).before args0 about1 = true := code_word (m := ⟨11, 8⟩) (meth := k11m8) (c := k11c8) (by decide +kernel) rfl rfl rfl (by decide +kernel)
set_option maxRecDepth 65536 in
theorem w_c23 : (Jvm.Cond.code ({ cls := "java/lang/String", name := "getBytes", desc := "([BIB)V" } : Jvm.MethodName) jdk_42_method_147_code (4 : Nat) (Option.none : Option Jvm.ClassFile.FieldType)).before args0 about1 = true := code_word (m := ⟨7, 6⟩) (meth := k7m6) (c := k7c6) (by decide +kernel) rfl rfl rfl (by decide +kernel)
set_option maxRecDepth 65536 in
theorem w_c24 : (Jvm.Cond.code ({ cls := "java/lang/String", name := "toLowerCase", desc := "(Ljava/util/Locale;)Ljava/lang/String;" } : Jvm.MethodName) jdk_42_method_109_code (2 : Nat) (Option.some (Jvm.ClassFile.FieldType.object "java/lang/String"))).before args0 about1 = true := code_word (m := ⟨7, 5⟩) (meth := k7m5) (c := k7c5) (by decide +kernel) rfl rfl rfl (by decide +kernel)
set_option maxRecDepth 65536 in
theorem w_c25 : (Jvm.Cond.code ({ cls := "java/lang/String", name := "isLatin1", desc := "()Z" } : Jvm.MethodName) jdk_42_method_154_code (1 : Nat) (Option.some Jvm.ClassFile.FieldType.boolean)).before args0 about1 = true := code_word (m := ⟨7, 11⟩) (meth := k7m11) (c := k7c11) (by decide +kernel) rfl rfl rfl (by decide +kernel)
set_option maxRecDepth 65536 in
theorem w_c26 : (Jvm.Cond.code ({ cls := "java/lang/StringLatin1", name := "toLowerCase", desc := "(Ljava/lang/String;[BLjava/util/Locale;)Ljava/lang/String;" } : Jvm.MethodName) jdk_43_method_32_code (9 : Nat) (Option.some (Jvm.ClassFile.FieldType.object "java/lang/String"))).before args0 about1 = true := code_word (m := ⟨19, 3⟩) (meth := k19m3) (c := k19c3) (by decide +kernel) rfl rfl rfl (by decide +kernel)
set_option maxRecDepth 65536 in
theorem w_c27 : (Jvm.Cond.code ({ cls := "java/lang/CharacterDataLatin1", name := "toLowerCase", desc := "(I)I" } : Jvm.MethodName) jdk_116_method_20_code (3 : Nat) (Option.some Jvm.ClassFile.FieldType.int)).before args0 about1 = true := code_word (m := ⟨21, 0⟩) (meth := k21m0) (c := k21c0) (by decide +kernel) rfl rfl rfl (by decide +kernel)
set_option maxRecDepth 65536 in
theorem w_c28 : (Jvm.Cond.code ({ cls := "java/util/Locale", name := "getLanguage", desc := "()Ljava/lang/String;" } : Jvm.MethodName) jdk_2628_method_27_code (1 : Nat) (Option.some (Jvm.ClassFile.FieldType.object "java/lang/String"))).before args0 about1 = true := code_word (m := ⟨18, 0⟩) (meth := k18m0) (c := k18c0) (by decide +kernel) rfl rfl rfl (by decide +kernel)
set_option maxRecDepth 65536 in
theorem w_c29 : (Jvm.Cond.code ({ cls := "sun/util/locale/BaseLocale", name := "getLanguage", desc := "()Ljava/lang/String;" } : Jvm.MethodName) jdk_3003_method_5_code (1 : Nat) (Option.some (Jvm.ClassFile.FieldType.object "java/lang/String"))).before args0 about1 = true := code_word (m := ⟨22, 0⟩) (meth := k22m0) (c := k22c0) (by decide +kernel) rfl rfl rfl (by decide +kernel)
set_option maxRecDepth 65536 in
theorem w_c30 : (Jvm.Cond.code ({ cls := "java/lang/StringLatin1", name := "canEncode", desc := "(I)Z" } : Jvm.MethodName) jdk_43_method_4_code (1 : Nat) (Option.some Jvm.ClassFile.FieldType.boolean)).before args0 about1 = true := code_word (m := ⟨19, 1⟩) (meth := k19m1) (c := k19c1) (by decide +kernel) rfl rfl rfl (by decide +kernel)
set_option maxRecDepth 65536 in
theorem w_c31 : (Jvm.Cond.code ({ cls := "java/lang/String", name := "<init>", desc := "([BB)V" } : Jvm.MethodName) jdk_42_method_151_code (3 : Nat) (Option.none : Option Jvm.ClassFile.FieldType)).before args0 about1 = true := code_word (m := ⟨7, 9⟩) (meth := k7m9) (c := k7c9) (by decide +kernel) rfl rfl rfl (by decide +kernel)
set_option maxRecDepth 65536 in
theorem w_c32 : (Jvm.Cond.code ({ cls := "java/lang/StringBuilder", name := "toString", desc := "()Ljava/lang/String;" } : Jvm.MethodName) jdk_67_method_42_code (1 : Nat) (Option.some (Jvm.ClassFile.FieldType.object "java/lang/String"))).before args0 about1 = true := code_word (m := ⟨12, 2⟩) (meth := k12m2) (c := k12c2) (by decide +kernel) rfl rfl rfl (by decide +kernel)
set_option maxRecDepth 65536 in
theorem w_c33 : (Jvm.Cond.code ({ cls := "java/lang/String", name := "<init>", desc := "(Ljava/lang/StringBuilder;)V" } : Jvm.MethodName) jdk_42_method_53_code (2 : Nat) (Option.none : Option Jvm.ClassFile.FieldType)).before args0 about1 = true := code_word (m := ⟨7, 2⟩) (meth := k7m2) (c := k7c2) (by decide +kernel) rfl rfl rfl (by decide +kernel)
set_option maxRecDepth 65536 in
theorem w_c34 : (Jvm.Cond.code ({ cls := "java/lang/String", name := "<init>", desc := "(Ljava/lang/AbstractStringBuilder;Ljava/lang/Void;)V" } : Jvm.MethodName) jdk_42_method_150_code (5 : Nat) (Option.none : Option Jvm.ClassFile.FieldType)).before args0 about1 = true := code_word (m := ⟨7, 8⟩) (meth := k7m8) (c := k7c8) (by decide +kernel) rfl rfl rfl (by decide +kernel)
set_option maxRecDepth 65536 in
theorem w_c35 : (Jvm.Cond.code ({ cls := "java/lang/AbstractStringBuilder", name := "getValue", desc := "()[B" } : Jvm.MethodName) jdk_68_method_64_code (1 : Nat) (Option.some (Jvm.ClassFile.FieldType.array Jvm.ClassFile.FieldType.byte))).before args0 about1 = true := code_word (m := ⟨11, 6⟩) (meth := k11m6) (c := k11c6) (by decide +kernel) rfl rfl rfl (by decide +kernel)
set_option maxRecDepth 65536 in
theorem w_c36 : (Jvm.Cond.code ({ cls := "java/lang/StringBuilder", name := "length", desc := "()I" } : Jvm.MethodName) jdk_67_method_93_code (1 : Nat) (Option.some Jvm.ClassFile.FieldType.int)).before args0 about1 = true := code_word (m := ⟨12, 3⟩) (meth := k12m3) (c := k12c3) (by decide +kernel) rfl rfl rfl (by decide +kernel)
set_option maxRecDepth 65536 in
theorem w_c37 : (Jvm.Cond.code ({ cls := "java/lang/AbstractStringBuilder", name := "length", desc := "()I" } : Jvm.MethodName) jdk_68_method_6_code (1 : Nat) (Option.some Jvm.ClassFile.FieldType.int)).before args0 about1 = true := code_word (m := ⟨11, 2⟩) (meth := k11m2) (c := k11c2) (by decide +kernel) rfl rfl rfl (by decide +kernel)
set_option maxRecDepth 65536 in
theorem w_c38 : (Jvm.Cond.code ({ cls := "java/lang/AbstractStringBuilder", name := "isLatin1", desc := "()Z" } : Jvm.MethodName) jdk_68_method_68_code (1 : Nat) (Option.some Jvm.ClassFile.FieldType.boolean)).before args0 about1 = true := code_word (m := ⟨11, 7⟩) (meth := k11m7) (c := k11c7) (by decide +kernel) rfl rfl rfl (by decide +kernel)
set_option maxRecDepth 65536 in
theorem w_c39 : (Jvm.Cond.code ({ cls := "java/util/Arrays", name := "copyOfRange", desc := "([BII)[B" } : Jvm.MethodName) jdk_65_method_132_code (3 : Nat) (Option.some (Jvm.ClassFile.FieldType.array Jvm.ClassFile.FieldType.byte))).before args0 about1 = true := code_word (m := ⟨15, 3⟩) (meth := k15m3) (c := k15c3) (by decide +kernel) rfl rfl rfl (by decide +kernel)
set_option maxRecDepth 65536 in
theorem w_c40 : (Jvm.Cond.code ({ cls := "java/util/Arrays", name := "copyOfRangeByte", desc := "([BII)[B" } : Jvm.MethodName) jdk_65_method_133_code (5 : Nat) (Option.some (Jvm.ClassFile.FieldType.array Jvm.ClassFile.FieldType.byte))).before args0 about1 = true := code_word (m := ⟨15, 4⟩) (meth := k15m4) (c := k15c4) (by decide +kernel) rfl rfl rfl (by decide +kernel)
set_option maxRecDepth 65536 in
theorem w_c41 : (Jvm.Cond.code ({ cls := "java/util/Arrays", name := "checkLength", desc := "(II)V" } : Jvm.MethodName) jdk_65_method_131_code (2 : Nat) (Option.none : Option Jvm.ClassFile.FieldType)).before args0 about1 = true := code_word (m := ⟨15, 2⟩) (meth := k15m2) (c := k15c2) (by decide +kernel) rfl rfl rfl (by decide +kernel)
set_option maxRecDepth 65536 in
theorem w_c42 : (Jvm.Cond.code ({ cls := "com/example/stringline/derive/DerivationPackageOfPinLaw", name := "lower", desc := "(C)C" } : Jvm.MethodName) method_3_code (1 : Nat) (Option.some Jvm.ClassFile.FieldType.char)).before args0 about1 = true := code_word (m := ⟨1, 2⟩) (meth := k1m2) (c := k1c2) (by decide +kernel) rfl rfl rfl (by decide +kernel)
set_option maxRecDepth 65536 in
theorem w_c43 : (Jvm.Cond.code ({ cls := "java/lang/StringLatin1", name := "equals", desc := "([B[B)Z" } : Jvm.MethodName) jdk_43_method_13_code (3 : Nat) (Option.some Jvm.ClassFile.FieldType.boolean)).before args0 about1 = true := code_word (m := ⟨19, 2⟩) (meth := k19m2) (c := k19c2) (by decide +kernel) rfl rfl rfl (by decide +kernel)
def codes1 : List Jvm.Cond := [Jvm.Cond.code x code maxLocals ret, Jvm.Cond.code ({ cls := "com/example/stringline/derive/Derivation", name := "packageOf", desc := "(Ljava/lang/String;)Ljava/lang/String;" } : Jvm.MethodName) prog_17_method_7_code (1 : Nat) (Option.some (Jvm.ClassFile.FieldType.object "java/lang/String")), Jvm.Cond.code ({ cls := "java/lang/String", name := "equals", desc := "(Ljava/lang/Object;)Z" } : Jvm.MethodName) jdk_42_method_66_code (3 : Nat) (Option.some Jvm.ClassFile.FieldType.boolean), Jvm.Cond.code ({ cls := "java/lang/String", name := "<init>", desc := "([C)V" } : Jvm.MethodName) jdk_42_method_3_code (2 : Nat) (Option.none : Option Jvm.ClassFile.FieldType), Jvm.Cond.code ({ cls := "java/lang/String", name := "<init>", desc := "([CIILjava/lang/Void;)V" } : Jvm.MethodName) jdk_42_method_149_code (6 : Nat) (Option.none : Option Jvm.ClassFile.FieldType), Jvm.Cond.code ({ cls := "java/lang/Object", name := "<init>", desc := "()V" } : Jvm.MethodName) object_method_1_code (1 : Nat) (Option.none : Option Jvm.ClassFile.FieldType), Jvm.Cond.code ({ cls := "java/lang/StringUTF16", name := "compress", desc := "([CII)[B" } : Jvm.MethodName) jdk_52_method_16_code (6 : Nat) (Option.some (Jvm.ClassFile.FieldType.array Jvm.ClassFile.FieldType.byte)), Jvm.Cond.code ({ cls := "java/lang/StringUTF16", name := "compress", desc := "([CI[BII)I" } : Jvm.MethodName) jdk_52_method_21_code (7 : Nat) (Option.some Jvm.ClassFile.FieldType.int), Jvm.Cond.code ({ cls := "java/lang/StringUTF16", name := "coderFromArrayLen", desc := "([BI)B" } : Jvm.MethodName) jdk_52_method_15_code (2 : Nat) (Option.some Jvm.ClassFile.FieldType.byte), Jvm.Cond.code ({ cls := "java/lang/StringBuilder", name := "<init>", desc := "()V" } : Jvm.MethodName) jdk_67_method_1_code (1 : Nat) (Option.none : Option Jvm.ClassFile.FieldType), Jvm.Cond.code ({ cls := "java/lang/AbstractStringBuilder", name := "<init>", desc := "(I)V" } : Jvm.MethodName) jdk_68_method_2_code (2 : Nat) (Option.none : Option Jvm.ClassFile.FieldType), Jvm.Cond.code ({ cls := "java/lang/StringBuilder", name := "append", desc := "(Ljava/lang/String;)Ljava/lang/StringBuilder;" } : Jvm.MethodName) jdk_67_method_7_code (2 : Nat) (Option.some (Jvm.ClassFile.FieldType.object "java/lang/StringBuilder")), Jvm.Cond.code ({ cls := "java/lang/AbstractStringBuilder", name := "append", desc := "(Ljava/lang/String;)Ljava/lang/AbstractStringBuilder;" } : Jvm.MethodName) jdk_68_method_22_code (3 : Nat) (Option.some (Jvm.ClassFile.FieldType.object "java/lang/AbstractStringBuilder")), Jvm.Cond.code ({ cls := "java/lang/String", name := "length", desc := "()I" } : Jvm.MethodName) jdk_42_method_54_code (1 : Nat) (Option.some Jvm.ClassFile.FieldType.int), Jvm.Cond.code ({ cls := "java/lang/String", name := "coder", desc := "()B" } : Jvm.MethodName) jdk_42_method_152_code (1 : Nat) (Option.some Jvm.ClassFile.FieldType.byte), Jvm.Cond.code ({ cls := "java/lang/AbstractStringBuilder", name := "ensureCapacityInternal", desc := "(I)V" } : Jvm.MethodName) jdk_68_method_9_code (3 : Nat) (Option.none : Option Jvm.ClassFile.FieldType), Jvm.Cond.code ({ cls := "java/lang/AbstractStringBuilder", name := "newCapacity", desc := "(I)I" } : Jvm.MethodName) jdk_68_method_10_code (6 : Nat) (Option.some Jvm.ClassFile.FieldType.int), Jvm.Cond.code ({ cls := "jdk/internal/util/ArraysSupport", name := "newLength", desc := "(III)I" } : Jvm.MethodName) jdk_48_method_27_code (4 : Nat) (Option.some Jvm.ClassFile.FieldType.int), Jvm.Cond.code ({ cls := "java/lang/Math", name := "max", desc := "(II)I" } : Jvm.MethodName) jdk_29_method_65_code (2 : Nat) (Option.some Jvm.ClassFile.FieldType.int), Jvm.Cond.code ({ cls := "java/util/Arrays", name := "copyOf", desc := "([BI)[B" } : Jvm.MethodName) jdk_65_method_121_code (3 : Nat) (Option.some (Jvm.ClassFile.FieldType.array Jvm.ClassFile.FieldType.byte)), Jvm.Cond.code ({ cls := "java/lang/Math", name := "min", desc := "(II)I" } : Jvm.MethodName) jdk_29_method_69_code (2 : Nat) (Option.some Jvm.ClassFile.FieldType.int), Jvm.Cond.code ({ cls := "java/lang/AbstractStringBuilder", name := "putStringAt", desc := "(ILjava/lang/String;)V" } : Jvm.MethodName) jdk_68_method_73_code (3 : Nat) (Option.none : Option Jvm.ClassFile.FieldType), Jvm.Cond.code ({ cls := "java/lang/AbstractStringBuilder", name := "inflateIfNeededFor", desc := "(Ljava/lang/String;)V" } : Jvm.MethodName) jdk_68_method_71_code (2 : Nat) (Option.none : Option Jvm.ClassFile.FieldType), Jvm.Cond.code ({ cls := "java/lang/String", name := "getBytes", desc := "([BIB)V" } : Jvm.MethodName) jdk_42_method_147_code (4 : Nat) (Option.none : Option Jvm.ClassFile.FieldType), Jvm.Cond.code ({ cls := "java/lang/String", name := "toLowerCase", desc := "(Ljava/util/Locale;)Ljava/lang/String;" } : Jvm.MethodName) jdk_42_method_109_code (2 : Nat) (Option.some (Jvm.ClassFile.FieldType.object "java/lang/String")), Jvm.Cond.code ({ cls := "java/lang/String", name := "isLatin1", desc := "()Z" } : Jvm.MethodName) jdk_42_method_154_code (1 : Nat) (Option.some Jvm.ClassFile.FieldType.boolean), Jvm.Cond.code ({ cls := "java/lang/StringLatin1", name := "toLowerCase", desc := "(Ljava/lang/String;[BLjava/util/Locale;)Ljava/lang/String;" } : Jvm.MethodName) jdk_43_method_32_code (9 : Nat) (Option.some (Jvm.ClassFile.FieldType.object "java/lang/String")), Jvm.Cond.code ({ cls := "java/lang/CharacterDataLatin1", name := "toLowerCase", desc := "(I)I" } : Jvm.MethodName) jdk_116_method_20_code (3 : Nat) (Option.some Jvm.ClassFile.FieldType.int), Jvm.Cond.code ({ cls := "java/util/Locale", name := "getLanguage", desc := "()Ljava/lang/String;" } : Jvm.MethodName) jdk_2628_method_27_code (1 : Nat) (Option.some (Jvm.ClassFile.FieldType.object "java/lang/String")), Jvm.Cond.code ({ cls := "sun/util/locale/BaseLocale", name := "getLanguage", desc := "()Ljava/lang/String;" } : Jvm.MethodName) jdk_3003_method_5_code (1 : Nat) (Option.some (Jvm.ClassFile.FieldType.object "java/lang/String")), Jvm.Cond.code ({ cls := "java/lang/StringLatin1", name := "canEncode", desc := "(I)Z" } : Jvm.MethodName) jdk_43_method_4_code (1 : Nat) (Option.some Jvm.ClassFile.FieldType.boolean), Jvm.Cond.code ({ cls := "java/lang/String", name := "<init>", desc := "([BB)V" } : Jvm.MethodName) jdk_42_method_151_code (3 : Nat) (Option.none : Option Jvm.ClassFile.FieldType), Jvm.Cond.code ({ cls := "java/lang/StringBuilder", name := "toString", desc := "()Ljava/lang/String;" } : Jvm.MethodName) jdk_67_method_42_code (1 : Nat) (Option.some (Jvm.ClassFile.FieldType.object "java/lang/String")), Jvm.Cond.code ({ cls := "java/lang/String", name := "<init>", desc := "(Ljava/lang/StringBuilder;)V" } : Jvm.MethodName) jdk_42_method_53_code (2 : Nat) (Option.none : Option Jvm.ClassFile.FieldType), Jvm.Cond.code ({ cls := "java/lang/String", name := "<init>", desc := "(Ljava/lang/AbstractStringBuilder;Ljava/lang/Void;)V" } : Jvm.MethodName) jdk_42_method_150_code (5 : Nat) (Option.none : Option Jvm.ClassFile.FieldType), Jvm.Cond.code ({ cls := "java/lang/AbstractStringBuilder", name := "getValue", desc := "()[B" } : Jvm.MethodName) jdk_68_method_64_code (1 : Nat) (Option.some (Jvm.ClassFile.FieldType.array Jvm.ClassFile.FieldType.byte)), Jvm.Cond.code ({ cls := "java/lang/StringBuilder", name := "length", desc := "()I" } : Jvm.MethodName) jdk_67_method_93_code (1 : Nat) (Option.some Jvm.ClassFile.FieldType.int), Jvm.Cond.code ({ cls := "java/lang/AbstractStringBuilder", name := "length", desc := "()I" } : Jvm.MethodName) jdk_68_method_6_code (1 : Nat) (Option.some Jvm.ClassFile.FieldType.int), Jvm.Cond.code ({ cls := "java/lang/AbstractStringBuilder", name := "isLatin1", desc := "()Z" } : Jvm.MethodName) jdk_68_method_68_code (1 : Nat) (Option.some Jvm.ClassFile.FieldType.boolean), Jvm.Cond.code ({ cls := "java/util/Arrays", name := "copyOfRange", desc := "([BII)[B" } : Jvm.MethodName) jdk_65_method_132_code (3 : Nat) (Option.some (Jvm.ClassFile.FieldType.array Jvm.ClassFile.FieldType.byte)), Jvm.Cond.code ({ cls := "java/util/Arrays", name := "copyOfRangeByte", desc := "([BII)[B" } : Jvm.MethodName) jdk_65_method_133_code (5 : Nat) (Option.some (Jvm.ClassFile.FieldType.array Jvm.ClassFile.FieldType.byte)), Jvm.Cond.code ({ cls := "java/util/Arrays", name := "checkLength", desc := "(II)V" } : Jvm.MethodName) jdk_65_method_131_code (2 : Nat) (Option.none : Option Jvm.ClassFile.FieldType), Jvm.Cond.code ({ cls := "com/example/stringline/derive/DerivationPackageOfPinLaw", name := "lower", desc := "(C)C" } : Jvm.MethodName) method_3_code (1 : Nat) (Option.some Jvm.ClassFile.FieldType.char), Jvm.Cond.code ({ cls := "java/lang/StringLatin1", name := "equals", desc := "([B[B)Z" } : Jvm.MethodName) jdk_43_method_13_code (3 : Nat) (Option.some Jvm.ClassFile.FieldType.boolean)]
set_option maxRecDepth 65536 in
theorem codes_eq : words1.filter isCode = codes1 := rfl
theorem w_codes : ∀ c ∈ words1.filter isCode, c.before args0 about1 = true := by
  rw [codes_eq]
  intro c hc
  simp only [codes1, List.mem_cons, List.not_mem_nil, or_false] at hc
  rcases hc with rfl | rfl | rfl | rfl | rfl | rfl | rfl | rfl | rfl | rfl | rfl | rfl | rfl | rfl | rfl | rfl | rfl | rfl | rfl | rfl | rfl | rfl | rfl | rfl | rfl | rfl | rfl | rfl | rfl | rfl | rfl | rfl | rfl | rfl | rfl | rfl | rfl | rfl | rfl | rfl | rfl | rfl | rfl | rfl
  · exact w_c0
  · exact w_c1
  · exact w_c2
  · exact w_c3
  · exact w_c4
  · exact w_c5
  · exact w_c6
  · exact w_c7
  · exact w_c8
  · exact w_c9
  · exact w_c10
  · exact w_c11
  · exact w_c12
  · exact w_c13
  · exact w_c14
  · exact w_c15
  · exact w_c16
  · exact w_c17
  · exact w_c18
  · exact w_c19
  · exact w_c20
  · exact w_c21
  · exact w_c22
  · exact w_c23
  · exact w_c24
  · exact w_c25
  · exact w_c26
  · exact w_c27
  · exact w_c28
  · exact w_c29
  · exact w_c30
  · exact w_c31
  · exact w_c32
  · exact w_c33
  · exact w_c34
  · exact w_c35
  · exact w_c36
  · exact w_c37
  · exact w_c38
  · exact w_c39
  · exact w_c40
  · exact w_c41
  · exact w_c42
  · exact w_c43
set_option maxRecDepth 65536 in
theorem w_t1 : (words1.take 24).all (fun c => isCode c || c.before args0 about1) = true := by decide +kernel
set_option maxRecDepth 65536 in
theorem w_t2 : ((words1.drop 24).take 24).all (fun c => isCode c || c.before args0 about1) = true := by decide +kernel
set_option maxRecDepth 65536 in
theorem w_t3 : (((words1.drop 24).drop 24).take 24).all (fun c => isCode c || c.before args0 about1) = true := by decide +kernel
set_option maxRecDepth 65536 in
theorem w_t4 : ((((words1.drop 24).drop 24).drop 24).take 24).all (fun c => isCode c || c.before args0 about1) = true := by decide +kernel
set_option maxRecDepth 65536 in
theorem w_t5 : (((((words1.drop 24).drop 24).drop 24).drop 24).take 24).all (fun c => isCode c || c.before args0 about1) = true := by decide +kernel
set_option maxRecDepth 65536 in
theorem w_t6 : ((((((words1.drop 24).drop 24).drop 24).drop 24).drop 24).take 24).all (fun c => isCode c || c.before args0 about1) = true := by decide +kernel
set_option maxRecDepth 65536 in
theorem w_t7 : (((((((words1.drop 24).drop 24).drop 24).drop 24).drop 24).drop 24).take 24).all (fun c => isCode c || c.before args0 about1) = true := by decide +kernel
set_option maxRecDepth 65536 in
theorem w_t8 : ((((((((words1.drop 24).drop 24).drop 24).drop 24).drop 24).drop 24).drop 24).take 24).all (fun c => isCode c || c.before args0 about1) = true := by decide +kernel
set_option maxRecDepth 65536 in
theorem w_t9 : (((((((((words1.drop 24).drop 24).drop 24).drop 24).drop 24).drop 24).drop 24).drop 24).take 24).all (fun c => isCode c || c.before args0 about1) = true := by decide +kernel
set_option maxRecDepth 65536 in
theorem w_t10 : (((((((((words1.drop 24).drop 24).drop 24).drop 24).drop 24).drop 24).drop 24).drop 24).drop 24).all (fun c => isCode c || c.before args0 about1) = true := by decide +kernel
theorem w_tables : (allAtoms (Jvm.Cond.code x code maxLocals ret :: tables_1)).before args0 about1 = true := by
  rw [allAtoms_all]
  show words1.all (fun c => c.before args0 about1) = true
  refine all_split ?_ w_codes
  rw [← List.take_append_drop 24 words1, List.all_append, w_t1, ← List.take_append_drop 24 (words1.drop 24), List.all_append, w_t2, ← List.take_append_drop 24 ((words1.drop 24).drop 24), List.all_append, w_t3, ← List.take_append_drop 24 (((words1.drop 24).drop 24).drop 24), List.all_append, w_t4, ← List.take_append_drop 24 ((((words1.drop 24).drop 24).drop 24).drop 24), List.all_append, w_t5, ← List.take_append_drop 24 (((((words1.drop 24).drop 24).drop 24).drop 24).drop 24), List.all_append, w_t6, ← List.take_append_drop 24 ((((((words1.drop 24).drop 24).drop 24).drop 24).drop 24).drop 24), List.all_append, w_t7, ← List.take_append_drop 24 (((((((words1.drop 24).drop 24).drop 24).drop 24).drop 24).drop 24).drop 24), List.all_append, w_t8, ← List.take_append_drop 24 ((((((((words1.drop 24).drop 24).drop 24).drop 24).drop 24).drop 24).drop 24).drop 24), List.all_append, w_t9, w_t10]
  rfl
set_option maxRecDepth 65536 in
theorem w_rest : rest_1_c.before args0 about1 = true := by decide +kernel
set_option maxRecDepth 65536 in
theorem w_case : (Jvm.Cond.and given_1 narrow_1).before args0 about1 = true := by decide +kernel
set_option maxRecDepth 65536 in
theorem w_consts : constsHeld consts_1 about1 := Jvm.Lit.constsHeldB_iff.mp (by decide +kernel)
theorem w_applies : (headSpec (Jvm.Cond.code x code maxLocals ret :: tables_1) room_1).applies x e0.platform about1 = true :=
  (Spec.applies_iff w_frames).mpr ⟨w_running, w_runnable, w_alone, w_named, w_hears, w_ripe, w_room, w_tables⟩
theorem atStart : AtStart classFile x code maxLocals ret World_1 tables_1 room_1 Calls_1 rest_1 Pre_1 launch0 p0 e0 about1 theMethod args0 below0 :=
  ⟨lists_1, trivial, launch0.admits_env _ _ _, launch0.least_env, fairChoices_fair.cas, fairChoices_fair.clock, w_frames, w_args, w_heap, w_applies, ⟨w_consts, trivial⟩, w_rest, w_case⟩
end start1
theorem witness_1 : WitnessClaimed_1 := ⟨start1.p0, start1.e0, start1.about1, start1.theMethod, start1.args0, start1.below0, start1.atStart⟩
end Jvm.Pilot.@@N@@
