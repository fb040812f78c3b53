import PyProof.Rows.All
import Wide.All
import OpenK.AllK
import Wide.FinOn
import Lean
import PySem.Challenge.RW_zz0004_01
set_option Elab.async false
section
open PySem PySem.W PyProof.Rows
set_option maxRecDepth 100000
set_option maxHeartbeats 8000000
namespace Mine
open_top hd for PySem.Challenge.rw_zz0004_01
end Mine
end
section
set_option maxRecDepth 100000
set_option maxHeartbeats 8000000
namespace Mine
open PySem PySem.Spec PySem.Calls PyProof.Rows PySem.W
/-- what the base heap still says of the heap at the call -/
def Hid (H : Heap) (news : List (Addr × Obj)) (g : Heap) : Prop := ∀ b o, H.get? b = some o → b ∉ news.map (·.1) → g.get? b = some o
/-- the heap at a call, without what the caller's ledger names -/
def under (H : Heap) (led : List (Addr × Obj)) : Heap := hideAll H (led.map (·.1))
theorem under_hid (H : Heap) (led : List (Addr × Obj)) : Hid H led (under H led) := fun _ _ e n => hideAll_get _ e n
theorem under_size (H : Heap) (led : List (Addr × Obj)) : (under H led).objs.size = H.objs.size := hideAll_size _ _
/-- the place of a call: what its caller knows of itself -/
structure Here (A₀ A : Around) (env : Env) (outer : List Env) (base h₀ H : Heap) (L : Addr) (m : Str → Option Value) (led : List (Addr × Obj)) : Prop where
  low : Below A₀ base outer h₀
  own : Fr h₀ L H m
  made : News h₀ L H led
  pile : A.frames = some (env :: outer)
  spot : env.frame = some L
  sort : env.scope.kind = .function
/-- what a def may build on when it is entered at the address `top` -/
structure Ground (A : Around) (pile : List Env) (base h₀ H g : Heap) (top : Addr) (led : List (Addr × Obj)) : Prop where
  hid : Hid H led g
  low : Below A base pile g
  stays : h₀.StaysIn g
  lower : ∀ p ∈ led, p.1 < top
  fresh : H.objs.size ≤ top
/-- the def's body runs in `env`; what it gives back or raises is told to R -/
def Runs (prog : Program) (w : World) (A : Around) (env : Env) (body : List Stmt) (R : Result → Shared → Prop) (s : Shared) : Prop :=
  wpAny (model prog w) (A.deeper env) (execs body env)
    (fun fl => R (.ok (.ret (match fl with | .ret v => v | _ => .none))))
    (fun e => wpAny (model prog w) (A.deeper env) (leaving env e) (fun _ => R (.error e)) (fun e' => R (.error e'))) s
section
variable {prog : Program} {w : World} {A₀ A : Around} {env : Env} {outer : List Env} {base h₀ : Heap} {L f : Addr} {m : Str → Option Value} {s : Shared} {led : List (Addr × Obj)} {R : Result → Shared → Prop}
theorem Here.ground {H : Heap} (P : Here A₀ A env outer base h₀ H L m led) : Ground A (env :: outer) base h₀ H (under H led) H.objs.size led := by
  have G := groundX (s := { heap := H }) (R := fun _ _ => True) P.low P.own P.made P.pile P.spot P.sort
  exact ⟨under_hid H led, G.2.1, G.2.2.1, fun p hp => Heap.lt_size (P.made p hp).1, Nat.le_refl _⟩
/-- the callee's frame and ledger, in a heap that keeps the caller's -/
theorem Here.enters {H h : Heap} {mine : Str → Option Value} (P : Here A₀ A env outer base h₀ H L m led) (ns : h.Ns H.objs.size mine) (up : H.StaysIn h) :
    Fr (under H led) H.objs.size h mine ∧ News (under H led) H.objs.size h led := by
  constructor
  · exact { ns := ns, keep := fun b o e => up b o (of_hideAll _ e), above := by rw [under_size]; exact Nat.le_refl _ }
  · intro q hq
    obtain ⟨there, -, -⟩ := P.made q hq
    exact ⟨up _ _ there, fun e => absurd (Heap.lt_size there) (by rw [e]; exact Nat.lt_irrefl _), hideAll_none _ (List.mem_map_of_mem hq)⟩
/-- a function that lies on the heap, called with what its parameters take -/
structure Callee (s : Shared) (f : Addr) (fd : FuncData) (body : List Stmt) : Prop where
  lies : ∃ o, s.heap.get? f = some o ∧ o.data = .func fd
  free : s.heap.NoLimit
  code : s.heap.CodeRec fd.code fd.qualname
  text : fd.body = .stmts body
  sync : fd.scope.isCoroutine = false
  full : fd.scope.isGenerator = false
  sort : fd.scope.kind = .function
theorem enter_plain {fd : FuncData} {body : List Stmt} {args : Args} {binds : List (Str × Value)} (P : Here A₀ A env outer base h₀ s.heap L m led) (D : Callee s f fd body) (room : A.depth < recursionLimit)
    (bound : BindsTo s fd args binds) (inLocals : ∀ y ∈ binds, fd.scope.names.lookup y.1 = some .local) (noCell : ∀ y ∈ fd.scope.names, y.2 ≠ .cell)
    (run : ∀ g top h, Ground A (env :: outer) base h₀ s.heap g top led → Fr g top h (fun y => binds.reverse.lookup y) → News g top h led →
      Runs prog w A (callEnv fd top f) body R { s with heap := h, toks := s.toks + binds.length }) : codeAny (model prog w) A (.call (.ref f) args) R s := by
  obtain ⟨o, there, isFn⟩ := D.lies
  refine codeAny_call_def room there isFn D.free D.code D.text bound noCell inLocals ?_ D.sync D.full D.sort
  intro h ns up
  have E := P.enters ns up
  exact run _ _ h P.ground E.1 E.2
theorem cells_apart {names : List (Str × NameKind)} {n : Nat} {x : Str} {c : Addr} (nd : ((cellsFrom 0 names []).map (·.1)).Nodup) (hm : (x, c) ∈ cellsFrom n names []) : (cellsFrom n names []).lookup x = some c := by
  refine lookup_of_mem_nodup ?_ hm
  rwa [cellsFrom_names names n 0 [] [] rfl]
theorem enter_cells {fd : FuncData} {body : List Stmt} {vals : List Value} {binds : List (Str × Value)} (P : Here A₀ A env outer base h₀ s.heap L m led) (D : Callee s f fd body) (room : A.depth < recursionLimit)
    (bound : bindArgs fd ⟨vals, []⟩ = pure binds) (shut : fd.closure = []) (kinds : (binds.all fun y => fd.scope.names.lookup y.1 == some .local || fd.scope.names.lookup y.1 == some .cell) = true)
    (nd : ((cellsFrom 0 fd.scope.names []).map (·.1)).Nodup)
    (run : ∀ g top h tk cells, Ground A (env :: outer) base h₀ s.heap g top led → Fr g top h (bindL (callEnvC fd top f).kindOf binds fun _ => none) → News g top h (cells ++ led) →
      CellsAre (bindC (callEnvC fd top f).kindOf binds fun _ => none) (cellsFrom (top + 1) fd.scope.names []) cells → Runs prog w A (callEnvC fd top f) body R { s with heap := h, toks := tk }) :
    codeAny (model prog w) A (.call (.ref f) ⟨vals, []⟩) R s := by
  obtain ⟨o, there, isFn⟩ := D.lies
  refine codeAny_call_cells room there isFn D.free D.code D.text bound shut (kindsX kinds _) ?_ D.sync D.full D.sort
  intro s₁ x
  obtain ⟨h, tk, rfl, up⟩ := x.done
  have E := P.enters x.toInCall.ns up
  obtain ⟨cells, NC, Y⟩ := Cl.news (Nat.le_of_eq (under_size s.heap led)) fun y c hm => ⟨x.cell y c (cells_apart nd hm), x.above y c hm⟩
  exact run _ _ h tk cells P.ground E.1 (NC.append E.2) Y
end
section
variable {prog : Program} {w : World} {A₀ A : Around} {env : Env} {outer : List Env} {base h₀ : Heap} {L f : Addr} {m mg mb : Str → Option Value} {s : Shared} {led : List (Addr × Obj)} {R : Result → Shared → Prop} {K : Frag} {p : Program} {loose : List Str} {mean : ExcName → Option Value}
  {name qual : Str} {params : Arguments} {body : List Stmt} {scope : Scope} {dV kV doc pm cdv ct oc : Value} {an od : Option Addr} {osl : Array (Option Value)} {binds : List (Str × Value)}
/-- a def of the program lies where the base heap has it -/
theorem callee_base (F : Fr h₀ L s.heap m) (X : K.In h₀) (T : Top p loose mean mg mb h₀) (here : K.lookup f = some ⟨oc, od, .func (fnOf name qual params body scope dV kV doc pm an cdv ct), osl⟩) (code : codeIn K cdv qual = true)
    (sync : scope.isCoroutine = false) (full : scope.isGenerator = false) (sort : scope.kind = .function) : Callee s f (fnOf name qual params body scope dV kV doc pm an cdv ct) body :=
  { lies := ⟨_, X.keeps F.keep f _ here, rfl⟩, free := T.nolimit.keeps F.keep, code := codeRec_of (X.keeps F.keep) code, text := rfl, sync := sync, full := full, sort := sort }
/-- a def of the program's own, that closes over nothing -/
theorem enterK {args : Args} (P : Here A₀ A env outer base h₀ s.heap L m led) (X : K.In h₀) (T : Top p loose mean mg mb h₀) (D : Callee s f (fnOf name qual params body scope dV kV doc pm an cdv ct) body) (room : A.depth < recursionLimit)
    (bound : BindsTo s (fnOf name qual params body scope dV kV doc pm an cdv ct) args binds) (inLocals : ∀ y ∈ binds, scope.names.lookup y.1 = some .local) (noCell : ∀ y ∈ scope.names, y.2 ≠ .cell)
    (run : ∀ g top h, Ground A (env :: outer) base h₀ s.heap g top led → Fr g top h (fun y => binds.reverse.lookup y) → News g top h led → K.In g → Top p loose mean mg mb g →
      Runs prog w A (envOf qual scope top f cdv) body R { s with heap := h, toks := s.toks + binds.length }) : codeAny (model prog w) A (.call (.ref f) args) R s :=
  enter_plain P D room bound inLocals noCell fun g top h G F' N' => run g top h G F' N' (X.keeps G.stays) (T.keeps G.stays)
/-- a def of the program's own whose names are captured -/
theorem enterKC {vals : List Value} (P : Here A₀ A env outer base h₀ s.heap L m led) (X : K.In h₀) (T : Top p loose mean mg mb h₀) (D : Callee s f (fnOf name qual params body scope dV kV doc pm an cdv ct) body) (room : A.depth < recursionLimit)
    (bound : bindArgs (fnOf name qual params body scope dV kV doc pm an cdv ct) ⟨vals, []⟩ = pure binds) (kinds : (binds.all fun y => scope.names.lookup y.1 == some .local || scope.names.lookup y.1 == some .cell) = true)
    (nd : ((cellsFrom 0 scope.names []).map (·.1)).Nodup)
    (run : ∀ g top h tk cells, Ground A (env :: outer) base h₀ s.heap g top led → Fr g top h (bindL (envOfC qual scope top f cdv).kindOf binds fun _ => none) → News g top h (cells ++ led) →
      CellsAre (bindC (envOfC qual scope top f cdv).kindOf binds fun _ => none) (cellsFrom (top + 1) scope.names []) cells → K.In g → Top p loose mean mg mb g →
      Runs prog w A (envOfC qual scope top f cdv) body R { s with heap := h, toks := tk }) : codeAny (model prog w) A (.call (.ref f) ⟨vals, []⟩) R s :=
  enter_cells P D room bound rfl kinds nd fun g top h tk cells G F' N' Y => run g top h tk cells G F' N' Y (X.keeps G.stays) (T.keeps G.stays)
/-- a def made within the call -/
theorem enterN {args : Args} {cl : List (Str × Addr)} {c' : Addr} {ctv : Value} (P : Here A₀ A env outer base h₀ s.heap L m led) (X : K.In h₀) (T : Top p loose mean mg mb h₀) (here : (f, fnMade name qual params body scope cl doc pm c' ctv) ∈ led) (code : s.heap.CodeRec (.ref c') qual)
    (room : A.depth < recursionLimit) (bound : BindsTo s (fnX name qual params body scope cl .none .none doc pm none (.ref c') ctv) args binds) (inLocals : ∀ y ∈ binds, scope.names.lookup y.1 = some .local) (noCell : ∀ y ∈ scope.names, y.2 ≠ .cell)
    (sync : scope.isCoroutine = false) (full : scope.isGenerator = false) (sort : scope.kind = .function)
    (run : ∀ g top h, Ground A (env :: outer) base h₀ s.heap g top led → Fr g top h (fun y => binds.reverse.lookup y) → News g top h led → K.In g → Top p loose mean mg mb g →
      Runs prog w A (envX qual scope top f (.ref c') cl) body R { s with heap := h, toks := s.toks + binds.length }) : codeAny (model prog w) A (.call (.ref f) args) R s :=
  enter_plain P ⟨⟨_, (P.made _ here).1, rfl⟩, T.nolimit.keeps P.own.keep, code, rfl, sync, full, sort⟩ room bound inLocals noCell fun g top h G F' N' => run g top h G F' N' (X.keeps G.stays) (T.keeps G.stays)
end
section
variable {H h h₀ g : Heap} {L L' : Addr} {m m' : Str → Option Value} {news news' : List (Addr × Obj)} {a : Addr} {o : Obj}
theorem stays_of (N : News h₀ L H news) (hh : Hid H news g) (F' : Fr g L' h m') (N' : News g L' h news') (hs : ∀ p ∈ news, p ∈ news') : H.StaysIn h := fun b ob e => by
  by_cases hb : b ∈ news.map (·.1)
  · obtain ⟨q, hq, rfl⟩ := List.mem_map.mp hb
    have e1 := (N q hq).1
    rw [e] at e1; cases e1
    exact (N' q (hs q hq)).1
  · exact F'.keep b ob (hh b ob e hb)
/-- all stands but what lies at D -/
def StaysBut (D : Addr) (H h : Heap) : Prop := ∀ b o, b ≠ D → H.get? b = some o → h.get? b = some o
theorem staysBut_of {D : Addr} (N : News h₀ L H news) (hh : Hid H news g) (F' : Fr g L' h m') (N' : News g L' h news') (hs : ∀ p ∈ news, p.1 ≠ D → p ∈ news') : StaysBut D H h := fun b ob hD e => by
  by_cases hb : b ∈ news.map (·.1)
  · obtain ⟨q, hq, rfl⟩ := List.mem_map.mp hb
    have e1 := (N q hq).1
    rw [e] at e1; cases e1
    exact (N' q (hs q hq hD)).1
  · exact F'.keep b ob (hh b ob e hb)
theorem fr_after (F : Fr h₀ L H m) (st : H.StaysIn h) : Fr h₀ L h m := ⟨F.ns.keeps st, fun b o e => st b o (F.keep b o e), F.above⟩
theorem news_after (N : News h₀ L H news) (st : H.StaysIn h) : News h₀ L h news := fun p hp => ⟨st _ _ (N p hp).1, (N p hp).2⟩
theorem news_more (F : Fr h₀ L H m) (N : News h₀ L H news) (st : H.StaysIn h) (ha : H.objs.size ≤ a) (ho : h.get? a = some o) : News h₀ L h ((a, o) :: news) := fun p hp => by
  rcases List.mem_cons.mp hp with rfl | hp
  · have hL : L < H.objs.size := F.ns.lt
    exact ⟨ho, Nat.ne_of_gt (Nat.lt_of_lt_of_le hL ha), Heap.get?_none_of_le (Nat.le_trans F.above (Nat.le_of_lt (Nat.lt_of_lt_of_le hL ha)))⟩
  · exact news_after N st p hp
theorem news_lt (N : News h₀ L H news) (ha : H.objs.size ≤ a) : ∀ p ∈ news, p.1 < a := fun p hp => Nat.lt_of_lt_of_le (Heap.lt_size (N p hp).1) ha
end
end Mine
end
section
namespace Mine
/-- the number that the digits make, the least first -/
def dv (n : Nat) : List Int → Int
  | [] => 0
  | d :: r => d + 2 ^ n * dv n r
theorem dv_append (n : Nat) (xs ys : List Int) : dv n (xs ++ ys) = dv n xs + 2 ^ (n * xs.length) * dv n ys := by
  induction xs with
  | nil => simp [dv]
  | cons d r ih =>
    simp only [List.cons_append, dv, ih, List.length_cons, Nat.mul_add, Nat.mul_one, Int.pow_add, Int.mul_add]
    rw [Int.add_assoc, ← Int.mul_assoc, Int.mul_comm (2 ^ n : Int) (2 ^ (n * r.length))]
theorem dv_nonneg (n : Nat) : ∀ xs : List Int, (∀ d ∈ xs, 0 ≤ d) → 0 ≤ dv n xs
  | [], _ => Int.le_refl _
  | d :: r, h => by
    have h1 := h d (by simp)
    have h2 := dv_nonneg n r fun x hx => h x (by simp [hx])
    have h3 : (0 : Int) ≤ 2 ^ n * dv n r := Int.mul_nonneg (Int.le_of_lt (Int.pow_pos (by decide))) h2
    simp only [dv]; omega
theorem dv_lt (n : Nat) : ∀ xs : List Int, (∀ d ∈ xs, d < 2 ^ n) → dv n xs < 2 ^ (n * xs.length)
  | [], _ => by simp [dv]
  | d :: r, h => by
    have h1 := h d (by simp)
    have h2 := dv_lt n r fun x hx => h x (by simp [hx])
    have h3 : (2 : Int) ^ n * dv n r ≤ 2 ^ n * (2 ^ (n * r.length) - 1) := Int.mul_le_mul_of_nonneg_left (by omega) (Int.le_of_lt (Int.pow_pos (by decide)))
    simp only [dv, List.length_cons, Nat.mul_add, Nat.mul_one]
    rw [Nat.add_comm (n * r.length) n, Int.pow_add]
    rw [Int.mul_sub, Int.mul_one] at h3
    omega
/-- digits i .. j - 1 -/
def cutIJ (ns : List Int) (i j : Int) : List Int := (ns.take j.toNat).drop i.toNat
theorem cutIJ_length {ns : List Int} {i j : Int} (_h0 : 0 ≤ i) (_h1 : i ≤ j) (h2 : j ≤ ns.length) : (cutIJ ns i j).length = (j - i).toNat := by
  simp only [cutIJ, List.length_drop, List.length_take]; omega
theorem cutIJ_one {ns : List Int} {i : Int} (h0 : 0 ≤ i) (h2 : i < ns.length) : cutIJ ns i (i + 1) = [ns.getD i.toNat 0] := by
  have e : (i + 1).toNat = i.toNat + 1 := by omega
  have hl : i.toNat < ns.length := by omega
  simp only [cutIJ, e, List.take_add_one]
  rw [List.drop_append_of_le_length (by rw [List.length_take]; omega), List.drop_take_self]
  simp [List.getD, List.getElem?_eq_getElem hl]
theorem cutIJ_split {ns : List Int} {i k j : Int} (h0 : 0 ≤ i) (h1 : i ≤ k) (h2 : k ≤ j) (_h3 : j ≤ ns.length) : cutIJ ns i j = cutIJ ns i k ++ cutIJ ns k j := by
  simp only [cutIJ]
  obtain ⟨a, ha⟩ : ∃ a : Nat, k.toNat = i.toNat + a := ⟨k.toNat - i.toNat, by omega⟩
  obtain ⟨b, hb⟩ : ∃ b : Nat, j.toNat = k.toNat + b := ⟨j.toNat - k.toNat, by omega⟩
  have e : ns.take j.toNat = ns.take k.toNat ++ (ns.take j.toNat).drop k.toNat := by
    have := (List.take_append_drop k.toNat (ns.take j.toNat)).symm
    rwa [List.take_take, Nat.min_eq_left (by omega)] at this
  conv => lhs; rw [e]
  rw [List.drop_append_of_le_length (by rw [List.length_take]; omega)]
theorem cutIJ_mem {ns : List Int} {i j d : Int} (h : d ∈ cutIJ ns i j) : d ∈ ns := List.mem_of_mem_take (List.mem_of_mem_drop h)
end Mine
namespace Mine
theorem dv_cut_bound {n : Nat} {ns : List Int} {i j : Int} (hlen : n * ns.length < 60) (hds : ∀ d ∈ ns, 0 ≤ d ∧ d < 2 ^ n) : 0 ≤ dv n (cutIJ ns i j) ∧ dv n (cutIJ ns i j) < 2 ^ 60 := by
  refine ⟨dv_nonneg n _ fun d hd => (hds d (cutIJ_mem hd)).1, Int.lt_of_lt_of_le (dv_lt n _ fun d hd => (hds d (cutIJ_mem hd)).2) ?_⟩
  have h1 : (cutIJ ns i j).length ≤ ns.length := by simp only [cutIJ, List.length_drop, List.length_take]; omega
  have h2 : n * (cutIJ ns i j).length ≤ 60 := Nat.le_trans (Nat.mul_le_mul_left n h1) (Nat.le_of_lt hlen)
  exact_mod_cast Nat.pow_le_pow_right (by decide : 0 < 2) h2
theorem dv_mid {n : Nat} {ns : List Int} {i k j z x1 x2 : Int} (h0 : 0 ≤ i) (h1 : i ≤ k) (h2 : k ≤ j) (h3 : j ≤ ns.length) (hz : z = (k - i) * n) (e1 : x1 = dv n (cutIJ ns k j)) (e2 : x2 = dv n (cutIJ ns i k)) :
    x1 * 2 ^ z.toNat + x2 = dv n (cutIJ ns i j) := by
  rw [cutIJ_split h0 h1 h2 h3, dv_append, cutIJ_length h0 h1 (by omega), e1, e2]
  have e : z.toNat = n * (k - i).toNat := by
    obtain ⟨a, ha⟩ : ∃ a : Nat, k - i = a := ⟨(k - i).toNat, by omega⟩
    rw [hz, ha, Int.toNat_natCast, Nat.mul_comm]
    exact Int.toNat_natCast (a * n)
  rw [e, Int.add_comm, Int.mul_comm]
theorem dv_one {n : Nat} {ns : List Int} {i j : Int} (h0 : 0 ≤ i) (h1 : i + 1 = j) (h2 : j ≤ ns.length) : ns.getD i.toNat 0 = dv n (cutIJ ns i j) := by
  subst h1
  rw [cutIJ_one h0 (by omega)]
  simp [dv]
theorem cut_all {ns : List Int} : cutIJ ns 0 ns.length = ns := by simp [cutIJ]
end Mine
end
section
namespace Mine
open PySem PyProof.Rows
theorem nat_and_high (x z : Nat) : x &&& (x / 2 ^ z * 2 ^ z) = x / 2 ^ z * 2 ^ z := by
  apply Nat.eq_of_testBit_eq
  intro i
  rw [Nat.testBit_and, Nat.testBit_mul_two_pow, Nat.testBit_div_two_pow]
  by_cases h : z ≤ i
  · have e : i - z + z = i := by omega
    simp [h, e]
  · simp [h]
theorem xor_low {x : Int} {z : Nat} (hx : 0 ≤ x) : Builtin.bitXor x (x / 2 ^ z * 2 ^ z) = x % 2 ^ z := by
  obtain ⟨a, rfl⟩ := Int.eq_ofNat_of_zero_le hx
  have e : ((a : Int) / 2 ^ z * 2 ^ z) = ((a / 2 ^ z * 2 ^ z : Nat) : Int) := by
    push_cast; rfl
  rw [bitXor_and, e, bitAnd_pp (by omega) (by omega)]
  simp only [Int.toNat_natCast]
  rw [nat_and_high]
  have h1 := Nat.div_add_mod a (2 ^ z)
  have h2 : ((a : Int) % 2 ^ z) = ((a % 2 ^ z : Nat) : Int) := by
    push_cast; rfl
  rw [h2]
  rw [Nat.mul_comm] at h1
  omega
/-- N digits of x, the least first -/
def dg (n : Nat) : Nat → Int → List Int
  | 0, _ => []
  | N + 1, x => x % 2 ^ n :: dg n N (x / 2 ^ n)
theorem dg_length (n : Nat) : ∀ (N : Nat) (x : Int), (dg n N x).length = N
  | 0, _ => rfl
  | N + 1, x => by simp [dg, dg_length n N]
theorem dg_mem (n : Nat) : ∀ (N : Nat) (x d : Int), d ∈ dg n N x → 0 ≤ d ∧ d < 2 ^ n
  | 0, _, _, h => nomatch h
  | N + 1, x, d, h => by
    have hp : (0 : Int) < 2 ^ n := Int.pow_pos (by decide)
    rcases List.mem_cons.mp h with rfl | h
    · exact ⟨Int.emod_nonneg _ (by omega), Int.emod_lt_of_pos _ hp⟩
    · exact dg_mem n N _ d h
theorem dg_add (n : Nat) : ∀ (M N : Nat) (x : Int), dg n (M + N) x = dg n M x ++ dg n N (x / 2 ^ (n * M))
  | 0, N, x => by simp [dg]
  | M + 1, N, x => by
    have e : M + 1 + N = (M + N) + 1 := by omega
    rw [e]
    simp only [dg, List.cons_append]
    rw [dg_add n M N]
    have e2 : x / 2 ^ n / 2 ^ (n * M) = x / 2 ^ (n * (M + 1)) := by
      rw [Int.ediv_ediv_of_nonneg (Int.le_of_lt (Int.pow_pos (by decide))), ← Int.pow_add, Nat.mul_add, Nat.mul_one, Nat.add_comm]
    rw [e2]
theorem dg_mod (n : Nat) : ∀ (M : Nat) (x : Int), 0 ≤ x → dg n M (x % 2 ^ (n * M)) = dg n M x
  | 0, _, _ => rfl
  | M + 1, x, h0 => by
    have hp : (0 : Int) < 2 ^ n := Int.pow_pos (by decide)
    have hs : (2 : Int) ^ (n * (M + 1)) = 2 ^ n * 2 ^ (n * M) := by rw [← Int.pow_add, Nat.mul_add, Nat.mul_one, Nat.add_comm]
    simp only [dg]
    have e1 : x % 2 ^ (n * (M + 1)) % 2 ^ n = x % 2 ^ n := Int.emod_emod_of_dvd x ⟨2 ^ (n * M), hs⟩
    have e2 : x % 2 ^ (n * (M + 1)) / 2 ^ n = x / 2 ^ n % 2 ^ (n * M) := by
      rw [hs]
      obtain ⟨a, rfl⟩ := Int.eq_ofNat_of_zero_le h0
      exact_mod_cast Nat.mod_mul_right_div_self a (2 ^ n) (2 ^ (n * M))
    rw [e1, e2, dg_mod n M _ (Int.ediv_nonneg h0 (Int.le_of_lt hp))]
theorem dv_dg (n : Nat) : ∀ (N : Nat) (x : Int), 0 ≤ x → x < 2 ^ (n * N) → dv n (dg n N x) = x
  | 0, x, h0, h1 => by simp [dg, dv] at *; omega
  | N + 1, x, h0, h1 => by
    have hp : (0 : Int) < 2 ^ n := Int.pow_pos (by decide)
    have hs : (2 : Int) ^ (n * (N + 1)) = 2 ^ n * 2 ^ (n * N) := by rw [← Int.pow_add, Nat.mul_add, Nat.mul_one, Nat.add_comm]
    simp only [dg, dv]
    rw [dv_dg n N (x / 2 ^ n) (Int.ediv_nonneg h0 (Int.le_of_lt hp)) (by
      rw [hs] at h1
      exact Int.ediv_lt_of_lt_mul hp (by rw [Int.mul_comm]; exact h1))]
    have := Int.emod_add_mul_ediv x (2 ^ n)
    omega
end Mine
namespace Mine
open PySem PyProof.Rows
/-- ds in the place of what lies from i on and ahead of j -/
def spl (ns : List Int) (i j : Int) (ds : List Int) : List Int := ns.take i.toNat ++ (ds ++ ns.drop j.toNat)
theorem spl_length {ns : List Int} {i j : Int} {ds : List Int} (_h0 : 0 ≤ i) (_h1 : i ≤ j) (h2 : j ≤ ns.length) (hd : ds.length = (j - i).toNat) : (spl ns i j ds).length = ns.length := by
  simp only [spl, List.length_append, List.length_take, List.length_drop, hd]; omega
theorem spl_one {ns : List Int} {i j x : Int} (h0 : 0 ≤ i) (h1 : i + 1 = j) (h2 : j ≤ ns.length) : ns.set i.toNat x = spl ns i j [x] := by
  subst h1
  have e : (i + 1).toNat = i.toNat + 1 := by omega
  have hl : i.toNat < ns.length := by omega
  rw [spl, e, List.set_eq_take_append_cons_drop, if_pos hl]
  rfl
theorem spl_two {ns : List Int} {i k j : Int} {as bs : List Int} (h0 : 0 ≤ i) (h1 : i ≤ k) (h2 : k ≤ j) (h3 : j ≤ ns.length) (ha : as.length = (k - i).toNat) : spl (spl ns i k as) k j bs = spl ns i j (as ++ bs) := by
  have hl : (ns.take i.toNat ++ as).length = k.toNat := by
    simp only [List.length_append, List.length_take, ha]; omega
  simp only [spl]
  have e1 : (ns.take i.toNat ++ (as ++ ns.drop k.toNat)).take k.toNat = ns.take i.toNat ++ as := by
    rw [← List.append_assoc, List.take_append_of_le_length (by omega), List.take_of_length_le (by omega)]
  have e2 : (ns.take i.toNat ++ (as ++ ns.drop k.toNat)).drop j.toNat = ns.drop j.toNat := by
    rw [← List.append_assoc, List.drop_append, List.drop_of_length_le (by omega), hl, List.drop_drop]
    have : k.toNat + (j.toNat - k.toNat) = j.toNat := by omega
    rw [this]; rfl
  rw [e1, e2]
  simp only [List.append_assoc]
theorem dg_mid {n : Nat} {i k j z x : Int} (h1 : i ≤ k) (h2 : k ≤ j) (hx : 0 ≤ x) (hz : z = (k - i) * n) :
    dg n (k - i).toNat (x % 2 ^ z.toNat) ++ dg n (j - k).toNat (x / 2 ^ z.toNat) = dg n (j - i).toNat x := by
  have e : z.toNat = n * (k - i).toNat := by
    obtain ⟨a, ha⟩ : ∃ a : Nat, k - i = a := ⟨(k - i).toNat, by omega⟩
    rw [hz, ha, Int.toNat_natCast, Nat.mul_comm]
    exact Int.toNat_natCast (a * n)
  have e2 : (j - i).toNat = (k - i).toNat + (j - k).toNat := by omega
  rw [e, dg_mod n _ _ hx, e2, dg_add]
theorem low_lt {n : Nat} {i k z x : Int} (_h1 : i ≤ k) (hz : z = (k - i) * n) : x % 2 ^ z.toNat < 2 ^ (n * (k - i).toNat) := by
  have e : z.toNat = n * (k - i).toNat := by
    obtain ⟨a, ha⟩ : ∃ a : Nat, k - i = a := ⟨(k - i).toNat, by omega⟩
    rw [hz, ha, Int.toNat_natCast, Nat.mul_comm]
    exact Int.toNat_natCast (a * n)
  rw [e]
  exact Int.emod_lt_of_pos _ (Int.pow_pos (by decide))
theorem high_lt {n : Nat} {i k j z x : Int} (h1 : i ≤ k) (h2 : k ≤ j) (hz : z = (k - i) * n) (hx : x < 2 ^ (n * (j - i).toNat)) : x / 2 ^ z.toNat < 2 ^ (n * (j - k).toNat) := by
  have e : z.toNat = n * (k - i).toNat := by
    obtain ⟨a, ha⟩ : ∃ a : Nat, k - i = a := ⟨(k - i).toNat, by omega⟩
    rw [hz, ha, Int.toNat_natCast, Nat.mul_comm]
    exact Int.toNat_natCast (a * n)
  have e2 : (j - i).toNat = (j - k).toNat + (k - i).toNat := by omega
  rw [e]
  rw [e2, Nat.mul_add, Int.pow_add] at hx
  exact Int.ediv_lt_of_lt_mul (Int.pow_pos (by decide)) hx
theorem dg_one {n : Nat} {i j x : Int} (h1 : i + 1 = j) (h0 : 0 ≤ x) (hx : x < 2 ^ (n * (j - i).toNat)) : [x] = dg n (j - i).toNat x := by
  have e : (j - i).toNat = 1 := by omega
  rw [e] at hx ⊢
  rw [Nat.mul_one] at hx
  simp only [dg]
  rw [Int.emod_eq_of_lt h0 hx]
/-- how many digits -/
def nd (x : Int) (n : Nat) : Nat := (((Builtin.Int.intBits x : Int) + n - 1).fdiv n).toNat
theorem nd_spec {x : Int} {n : Nat} (hn : 0 < n) (hn2 : n ≤ 20) (h0 : 0 ≤ x) (hx : x < 2 ^ 20) :
    0 ≤ ((Builtin.Int.intBits x : Int) + n - 1).fdiv n ∧ ((Builtin.Int.intBits x : Int) + n - 1).fdiv n ≤ 20 ∧ x < 2 ^ (n * nd x n) ∧ (x ≠ 0 → 0 < nd x n) ∧ (x = 0 → nd x n = 0) ∧ n * nd x n < 60 := by
  have hb : Builtin.Int.intBits x ≤ 20 := intBits_le_iff.mpr (by omega)
  have hx2 : x.natAbs < 2 ^ Builtin.Int.intBits x := intBits_le_iff.mp (Nat.le_refl _)
  have hz : x ≠ 0 → 0 < Builtin.Int.intBits x := fun h => by
    rcases Nat.eq_zero_or_pos (Builtin.Int.intBits x) with h2 | h2
    · rw [h2] at hx2; omega
    · exact h2
  have hz2 : x = 0 → Builtin.Int.intBits x = 0 := fun h => by subst h; rfl
  have e : ((Builtin.Int.intBits x : Int) + n - 1).fdiv n = (((Builtin.Int.intBits x + n - 1) / n : Nat) : Int) := by
    rw [Int.fdiv_eq_ediv_of_nonneg _ (by omega)]
    have : ((Builtin.Int.intBits x : Int) + n - 1) = ((Builtin.Int.intBits x + n - 1 : Nat) : Int) := by omega
    rw [this]; rfl
  have e2 : nd x n = (Builtin.Int.intBits x + n - 1) / n := by simp only [nd, e, Int.toNat_natCast]
  have h1 : (Builtin.Int.intBits x + n - 1) / n ≤ 20 := by
    rcases Nat.eq_zero_or_pos (Builtin.Int.intBits x) with h2 | h2
    · rw [h2, Nat.div_eq_of_lt (by omega)]; omega
    · exact Nat.le_trans (Nat.div_le_of_le_mul (m := Builtin.Int.intBits x + n - 1) (k := n) (n := Builtin.Int.intBits x) (by
        have := Nat.mul_le_mul (show 1 ≤ n from hn) (show 1 ≤ Builtin.Int.intBits x from h2)
        obtain ⟨a, ha⟩ : ∃ a, n = a + 1 := ⟨n - 1, by omega⟩
        obtain ⟨b, hb⟩ : ∃ b, Builtin.Int.intBits x = b + 1 := ⟨Builtin.Int.intBits x - 1, by omega⟩
        rw [ha, hb, Nat.add_mul, Nat.mul_add]; omega)) hb
  have h3 := Nat.div_add_mod (Builtin.Int.intBits x + n - 1) n
  have h4 := Nat.mod_lt (Builtin.Int.intBits x + n - 1) hn
  rw [e, e2]
  refine ⟨by omega, by omega, ?_, fun h => ?_, fun h => ?_, by omega⟩
  · have h5 : Builtin.Int.intBits x ≤ n * ((Builtin.Int.intBits x + n - 1) / n) := by omega
    have h6 : x.natAbs < 2 ^ (n * ((Builtin.Int.intBits x + n - 1) / n)) := Nat.lt_of_lt_of_le hx2 (Nat.pow_le_pow_right (by decide) h5)
    have h7 : (x.natAbs : Int) < 2 ^ (n * ((Builtin.Int.intBits x + n - 1) / n)) := by exact_mod_cast h6
    omega
  · have h5 := hz h
    rcases Nat.eq_zero_or_pos ((Builtin.Int.intBits x + n - 1) / n) with h6 | h6
    · rw [h6, Nat.mul_zero] at h3; omega
    · exact h6
  · rw [hz2 h, Nat.div_eq_of_lt (by omega)]
end Mine
namespace Mine
theorem low_lt2 {n : Nat} {i k z x r : Int} (h1 : i ≤ k) (hz : z = (k - i) * n) (e : r = x % 2 ^ z.toNat) : r < 2 ^ (n * (k - i).toNat) := e ▸ low_lt h1 hz
theorem high_lt2 {n : Nat} {i k j z x y : Int} (h1 : i ≤ k) (h2 : k ≤ j) (hz : z = (k - i) * n) (hx : x < 2 ^ (n * (j - i).toNat)) (e : y = x / 2 ^ z.toNat) : y < 2 ^ (n * (j - k).toNat) := e ▸ high_lt h1 h2 hz hx
theorem spl_mid {n : Nat} {ns : List Int} {i j k z x r y : Int} (h0 : 0 ≤ i) (h1 : i ≤ k) (h2 : k ≤ j) (h3 : j ≤ ns.length) (hx : 0 ≤ x) (hz : z = (k - i) * n) (e1 : r = x % 2 ^ z.toNat) (e2 : y = x / 2 ^ z.toNat) :
    spl (spl ns i k (dg n (k - i).toNat r)) k j (dg n (j - k).toNat y) = spl ns i j (dg n (j - i).toNat x) := by
  rw [spl_two h0 h1 h2 h3 (dg_length _ _ _), e1, e2, dg_mid h1 h2 hx hz]
theorem spl_last {n : Nat} {ns : List Int} {i j x : Int} (h0 : 0 ≤ i) (h1 : i + 1 = j) (h2 : j ≤ ns.length) (hx : 0 ≤ x) (hx2 : x < 2 ^ (n * (j - i).toNat)) : ns.set i.toNat x = spl ns i j (dg n (j - i).toNat x) := by
  rw [spl_one h0 h1 h2, dg_one h1 hx hx2]
theorem spl_all {ns ds : List Int} (h : ds.length = ns.length) : spl ns 0 ns.length ds = ds := by simp [spl]
end Mine
end
section
set_option maxRecDepth 100000
set_option maxHeartbeats 8000000
namespace Mine
open PySem PySem.Spec PySem.Calls PyProof.Rows PySem.W
/-- what a call of f with vs does, told without its frames: the heap grows, and Out holds of the heap before, the heap behind and the answer -/
def CCall (w : World) (p : Program) (loose : List Str) (mean : ExcName → Option Value) (mg mb : Str → Option Value) (led : List (Addr × Obj)) (f : Addr) (sz : Nat) (vs : List Value) (Pre : Heap → Prop) (Out : Heap → Heap → Value → Prop) : Prop :=
  ∀ (dp un : Nat) (gd : Option (List Code)) (cn : Str) (cs : Scope) (a : Addr) (ccd : Value) (cl : List (Str × Addr)) (outer : List Env) (A₀ : Around) (base h₀ : Heap) (L : Addr) (m : Str → Option Value) (s : Shared) (Q E : Value → Shared → Prop),
    Below A₀ base outer h₀ → Fr h₀ L s.heap m → (Mine.hd.heap_39 w.params).In h₀ → News h₀ L s.heap led → Top p loose mean mg mb h₀ → CodeHd h₀ 41 37 → CodeHd h₀ 34 30 → cs.kind = .function →
    dp + sz < recursionLimit → un + 8 * sz < cLine → Pre s.heap →
    (∀ v h' tk', Out s.heap h' v → Q v { s with heap := h', toks := tk' }) →
    wpAny (model PySem.Challenge.rw_zz0004_01.row.prog w) (ktrTop dp un gd cn cs L a ccd cl outer) (call (.ref f) vs) Q E s
/-- a step that is left to the hand -/
def Stop (P : Prop) : Prop := P
theorem Stop.of {P : Prop} (h : Stop P) : P := h
/-- the answer is a new pair of ints -/
def PairOut (x y : Int) (H h : Heap) (v : Value) : Prop :=
  H.StaysIn h ∧ ∃ (D : Addr) (t1 t2 : Tok) (c : Nat), v = .ref D ∧ H.get? D = none ∧ h.get? D = some { cls := .type "tuple", data := .seq #[.int x t1, .int y t2] c }
def IntOut (x : Int) (H h : Heap) (v : Value) : Prop := H.StaysIn h ∧ ∃ t : Tok, v = .int x t
theorem ofGnNe {d : Addr} : ∀ {l : List (Addr × Obj)}, GnNe d l → ∀ p ∈ l, p.1 ≠ d
  | [], _, _, h => nomatch h
  | q :: r, h, p, hp => (List.mem_cons.mp hp).elim (fun e => by rw [e]; exact h.1) (fun hp => ofGnNe h.2 p hp)
section
variable {H h h₀ g : Heap} {L L' : Addr} {m m' : Str → Option Value} {news news' : List (Addr × Obj)} {a : Addr} {o : Obj}
theorem fresh_of (hh : Hid H news g) (N' : News g L' h news') (hm : (a, o) ∈ news') (hn : GnNe a news) : H.get? a = none := by
  cases q : H.get? a with
  | none => rfl
  | some ob =>
    have := hh a ob q (fun hb => by
      obtain ⟨p, hp, e⟩ := List.mem_map.mp hb
      exact ofGnNe hn p hp e)
    have e2 := (N' _ hm).2.2
    rw [this] at e2
    exact absurd e2 (by simp)
theorem news_new (F : Fr h₀ L H m) (N : News h₀ L H news) (st : H.StaysIn h) (ha : H.get? a = none) (ho : h.get? a = some o) : News h₀ L h ((a, o) :: news) := fun p hp => by
  rcases List.mem_cons.mp hp with rfl | hp
  · refine ⟨ho, fun q => ?_, ?_⟩
    · obtain ⟨ob, es, ep, e, r⟩ := F.ns
      have e2 : H.get? a = some ob := by rw [show a = L from q]; exact e
      rw [e2] at ha
      exact absurd ha (by simp)
    · cases q : h₀.get? a with
      | none => rfl
      | some ob =>
        have e2 := F.keep _ _ q
        rw [e2] at ha
        exact absurd ha (by simp)
  · exact news_after N st p hp
theorem news_ne (N : News h₀ L H news) (ha : H.get? a = none) : ∀ p ∈ news, p.1 ≠ a := fun p hp e => by
  have e2 := (N p hp).1
  rw [show p.1 = a from e, ha] at e2
  exact absurd e2 (by simp)
end
section
variable {w : World} {p : Program} {loose : List Str} {mean : ExcName → Option Value} {mg mb : Str → Option Value} {led news : List (Addr × Obj)} {f : Addr} {sz : Nat} {vs : List Value} {Pre : Heap → Prop} {Out : Heap → Heap → Value → Prop}
  {dp un : Nat} {gd : Option (List Code)} {cn : Str} {cs : Scope} {a : Addr} {ccd : Value} {cl : List (Str × Addr)} {outer : List Env} {A₀ : Around} {base h₀ : Heap} {L : Addr} {m : Str → Option Value} {s : Shared} {Q E : Value → Shared → Prop} {A : Around}
theorem ccall_use (C : CCall w p loose mean mg mb led f sz vs Pre Out) (B : Below A₀ base outer h₀) (F : Fr h₀ L s.heap m) (X : (Mine.hd.heap_39 w.params).In h₀) (N : News h₀ L s.heap news) (hsub : ∀ q ∈ led, q ∈ news)
    (T : Top p loose mean mg mb h₀) (C1 : CodeHd h₀ 41 37) (C2 : CodeHd h₀ 34 30) (hA : A = ktrTop dp un gd cn cs L a ccd cl outer) (hk : cs.kind = .function) (hd : dp + sz < recursionLimit) (hu : un + 8 * sz < cLine) (hpre : Pre s.heap)
    (ret : ∀ v h' tk', Out s.heap h' v → Q v { s with heap := h', toks := tk' }) : wpAny (model PySem.Challenge.rw_zz0004_01.row.prog w) A (call (.ref f) vs) Q E s := by
  subst hA
  exact C dp un gd cn cs a ccd cl outer A₀ base h₀ L m s Q E B F X (fun q hq => N q (hsub q hq)) T C1 C2 hk hd hu hpre ret
theorem ccall_int {x : Int} (C : CCall w p loose mean mg mb led f sz vs Pre (IntOut x)) (B : Below A₀ base outer h₀) (F : Fr h₀ L s.heap m) (X : (Mine.hd.heap_39 w.params).In h₀) (N : News h₀ L s.heap news) (hsub : ∀ q ∈ led, q ∈ news)
    (T : Top p loose mean mg mb h₀) (C1 : CodeHd h₀ 41 37) (C2 : CodeHd h₀ 34 30) (hA : A = ktrTop dp un gd cn cs L a ccd cl outer) (hk : cs.kind = .function) (hd : dp + sz < recursionLimit) (hu : un + 8 * sz < cLine) (hpre : Pre s.heap)
    (ret : ∀ t h' tk', Fr h₀ L h' m → News h₀ L h' news → Q (.int x t) { s with heap := h', toks := tk' }) : wpAny (model PySem.Challenge.rw_zz0004_01.row.prog w) A (call (.ref f) vs) Q E s :=
  ccall_use C B F X N hsub T C1 C2 hA hk hd hu hpre fun v h' tk' ho => by
    obtain ⟨st, t, rfl⟩ := ho
    exact ret t h' tk' (fr_after F st) (news_after N st)
theorem ccall_pair {x y : Int} (C : CCall w p loose mean mg mb led f sz vs Pre (PairOut x y)) (B : Below A₀ base outer h₀) (F : Fr h₀ L s.heap m) (X : (Mine.hd.heap_39 w.params).In h₀) (N : News h₀ L s.heap news) (hsub : ∀ q ∈ led, q ∈ news)
    (T : Top p loose mean mg mb h₀) (C1 : CodeHd h₀ 41 37) (C2 : CodeHd h₀ 34 30) (hA : A = ktrTop dp un gd cn cs L a ccd cl outer) (hk : cs.kind = .function) (hd : dp + sz < recursionLimit) (hu : un + 8 * sz < cLine) (hpre : Pre s.heap)
    (ret : ∀ D t1 t2 c h' tk', Fr h₀ L h' m → News h₀ L h' ((D, ({ cls := .type "tuple", data := .seq #[.int x t1, .int y t2] c } : Obj)) :: news) → GnNe D news → Q (.ref D) { s with heap := h', toks := tk' }) : wpAny (model PySem.Challenge.rw_zz0004_01.row.prog w) A (call (.ref f) vs) Q E s :=
  ccall_use C B F X N hsub T C1 C2 hA hk hd hu hpre fun v h' tk' ho => by
    obtain ⟨st, D, t1, t2, c, rfl, hn, hD⟩ := ho
    exact ret D t1 t2 c h' tk' (fr_after F st) (news_new F N st hn hD) (gnNe_of (news_ne N hn))
theorem led_head {h : Heap} {o : Obj} {rest : List (Addr × Obj)} {G : Prop} (P : Addr → List (Addr × Obj) → Prop) (_N : News h₀ L h ((f, o) :: rest)) (pf : P f ((f, o) :: rest)) (k : P f ((f, o) :: rest) → G) : G := k pf
theorem isList_hid {H g : Heap} {l : Addr} {items : Array Value} (x : H.IsList l items) (hh : Hid H led g) (hn : ∀ p ∈ led, p.1 ≠ l) : g.IsList l items := by
  obtain ⟨o, e, r⟩ := x
  exact ⟨o, hh _ _ e (fun hb => by
    obtain ⟨p, hp, e2⟩ := List.mem_map.mp hb
    exact hn p hp e2), r⟩
theorem ne_base {h : Heap} {l : Addr} {items : Array Value} (N : News h₀ L h led) (x : h₀.IsList l items) : ∀ p ∈ led, p.1 ≠ l := fun p hp e => by
  obtain ⟨o, e2, r⟩ := x
  have e3 := (N p hp).2.2
  rw [show p.1 = l from e, e2] at e3
  exact absurd e3 (by simp)
theorem isList_up {h : Heap} {l : Addr} {items : Array Value} (F : Fr h₀ L h m) (x : h₀.IsList l items) : h.IsList l items := stays_list F.keep x
end
section
variable {prog : Program} {w : World} {A : Around} {E : Value → Shared → Prop} {s : Shared} {a b : Int} {t u : Tok} {Q : Value → Shared → Prop}
theorem rshift_half (h : ∀ k : Int, 2 * k ≤ a → a < 2 * k + 2 → Q (.int k s.toks) { s with toks := s.toks + 1 }) : wpAny (model prog w) A (binaryOp .RShift (.int a t) (.int 1 u)) Q E s := by
  refine rshift_int (by decide) (h _ ?_ ?_)
  · have e : (2 : Int) ^ (1 : Int).toNat = 2 := rfl
    rw [e, Int.fdiv_eq_ediv_of_nonneg _ (by decide)]; omega
  · have e : (2 : Int) ^ (1 : Int).toNat = 2 := rfl
    rw [e, Int.fdiv_eq_ediv_of_nonneg _ (by decide)]; omega
theorem mul_gen (ha : 0 ≤ a) (ha2 : a < 64) (hb : 0 ≤ b) (hb2 : b < 64) (h : ∀ z : Int, z = a * b → 0 ≤ z → z < 4096 → Q (.int z s.toks) { s with toks := s.toks + 1 }) : wpAny (model prog w) A (binaryOp .Mult (.int a t) (.int b u)) Q E s := by
  refine PyProof.Rows.mul_int (h _ rfl (Int.mul_nonneg ha hb) ?_) (IntMulOk.of_le (m := 64) (n := 64) (intBits_le_iff.mpr (by omega)) (intBits_le_iff.mpr (by omega)) (by decide))
  have h1 : a * b ≤ 63 * b := Int.mul_le_mul_of_nonneg_right (by omega) hb
  omega
end
section
variable {prog : Program} {w : World} {A : Around} {E : Value → Shared → Prop} {s : Shared} {h₀ H h : Heap} {L D l : Addr} {m : Str → Option Value} {news : List (Addr × Obj)} {g : Obj → List (Addr × Obj)} {o o' : Obj} {vs : List Value} {ns : List Int} {c : Nat} {k x : Int} {t u : Tok}
theorem fr_but (F : Fr h₀ L H m) (N : News h₀ L H news) (U : UpdF D o news g) (st : StaysBut D H h) : Fr h₀ L h m := by
  obtain ⟨own, rest, rfl, _, _, _⟩ := U.split
  have z := N (D, o) (List.mem_append_right _ (.head _))
  obtain ⟨oL, es, ep, e, r⟩ := F.ns
  refine ⟨⟨oL, es, ep, st L oL (fun q => z.2.1 q.symm) e, r⟩, fun b ob e => st b ob (fun q => ?_) (F.keep b ob e), F.above⟩
  have e2 := z.2.2
  rw [show (D, o).1 = b from q.symm, e] at e2
  exact absurd e2 (by simp)
theorem news_but (N : News h₀ L H news) (U : UpdF D o news g) (st : StaysBut D H h) (hD : h.get? D = some o') : News h₀ L h (g o') := by
  obtain ⟨own, rest, rfl, hg, h1, h2⟩ := U.split
  rw [hg]
  intro p hp
  rcases List.mem_append.mp hp with hp | hp
  · have z := N p (List.mem_append_left _ hp)
    exact ⟨st _ _ (h1 p hp) z.1, z.2⟩
  · rcases List.mem_cons.mp hp with rfl | hp
    · exact ⟨hD, (N (D, o) (List.mem_append_right _ (.head _))).2⟩
    · have z := N p (List.mem_append_right _ (.tail _ hp))
      exact ⟨st _ _ (h2 p hp) z.1, z.2⟩
theorem intsAre_fill (v : Int) (t : Tok) : ∀ k : Nat, IntsAre (List.replicate k (.int v t)) (List.replicate k v)
  | 0 => .nil
  | k + 1 => .cons v t (intsAre_fill v t k)
theorem upd_of (U : UpdF D o news g) (o' : Obj) : Upd D o o' news (g o') := by
  induction U with
  | head h => exact Upd.head h
  | tail h _ ih => exact Upd.tail h ih
theorem set_ints {Q : Unit → Shared → Prop} (F : Fr h₀ L s.heap m) (N : News h₀ L s.heap news) (U : UpdF D (listOf vs.toArray c) news g) (hI : IntsAre vs ns) (h0 : 0 ≤ k) (h1 : k < ns.length) (h2 : ns.length < 1000)
    (h : ∀ h' vs', IntsAre vs' (ns.set k.toNat x) → Fr h₀ L h' m → News h₀ L h' (g (listOf vs'.toArray c)) → Q () { s with heap := h' }) : wpAny (model prog w) A (setItem (.ref D) (.int k t) (.int x u)) Q E s :=
  ksa_set F N (upd_of U _) hI h0 h1 (by omega) fun h' F' N' I' _ _ => h h' _ I' F' N'
theorem mul_fill {v : Int} {Q : Value → Shared → Prop} (F : Fr h₀ L s.heap m) (N : News h₀ L s.heap news) (hm : (l, listOf [Value.int v t].toArray c) ∈ news) (h0 : 0 ≤ k) (h1 : k ≤ 1000)
    (h : ∀ D h' vs, IntsAre vs (List.replicate k.toNat v) → Fr h₀ L h' m → News h₀ L h' ((D, listOf vs.toArray 0) :: news) → (∀ p ∈ news, p.1 < D) → Q (.ref D) { s with heap := h' }) : wpAny (model prog w) A (binaryOp .Mult (.ref l) (.int k u)) Q E s := by
  refine PyProof.Rows.mul_list F N (N _ hm).1 (by omega) (by omega) (by simp; omega) fun h' F' N' => h _ h' _ (intsAre_fill v t _) F' ?_ fun p hp => Heap.lt_size (N p hp).1
  have e : List.foldl (fun x1 x2 => x1 ++ x2) #[] (List.replicate k.toNat #[Value.int v t]) = (List.replicate k.toNat (Value.int v t)).toArray := by
    have : ∀ (j : Nat) (acc : Array Value), List.foldl (fun x1 x2 => x1 ++ x2) acc (List.replicate j #[Value.int v t]) = acc ++ (List.replicate j (Value.int v t)).toArray := by
      intro j
      induction j with
      | zero => intro acc; simp
      | succ j ih =>
        intro acc
        rw [List.replicate_succ, List.foldl_cons, ih, List.replicate_succ, Array.append_assoc]
        have e2 : #[Value.int v t] ++ (List.replicate j (Value.int v t)).toArray = (Value.int v t :: List.replicate j (Value.int v t)).toArray := by
          apply Array.toList_inj.mp; simp
        rw [e2]
    rw [this, Array.empty_append]
  rw [← e]
  exact N'
theorem led_head2 {f : Addr} {fo : Obj} {rest : List (Addr × Obj)} {G : Prop} (P : Addr → Addr → (Obj → List (Addr × Obj)) → Prop) (_hI : IntsAre vs ns) (_N : News h₀ L h ((f, fo) :: rest)) (_hD : (D, listOf vs.toArray c) ∈ (f, fo) :: rest) (_U : UpdF D (listOf vs.toArray c) ((f, fo) :: rest) g) (pf : P f D g) (k : P f D g → G) : G := k pf
end
section
variable {prog : Program} {w : World} {A : Around} {E : Value → Shared → Prop} {s : Shared} {a b z : Int} {t u : Tok} {Q : Value → Shared → Prop}
theorem rshift_gen (h0 : 0 ≤ z) (ha : 0 ≤ a) (h : ∀ y : Int, y = a / 2 ^ z.toNat → 0 ≤ y → y ≤ a → Q (.int y s.toks) { s with toks := s.toks + 1 }) : wpAny (model prog w) A (binaryOp .RShift (.int a t) (.int z u)) Q E s := by
  have hp : (0 : Int) < 2 ^ z.toNat := Int.pow_pos (by decide)
  refine rshift_int h0 (h _ (Int.fdiv_eq_ediv_of_nonneg _ (Int.le_of_lt hp)) ?_ ?_)
  · rw [Int.fdiv_eq_ediv_of_nonneg _ (Int.le_of_lt hp)]; exact Int.ediv_nonneg ha (Int.le_of_lt hp)
  · rw [Int.fdiv_eq_ediv_of_nonneg _ (Int.le_of_lt hp)]; exact Int.ediv_le_self _ ha
theorem xor_gen {y : Int} (ha : 0 ≤ a) (e : y = a / 2 ^ z.toNat) (h : ∀ r : Int, r = a % 2 ^ z.toNat → 0 ≤ r → r ≤ a → Q (.int r s.toks) { s with toks := s.toks + 1 }) : wpAny (model prog w) A (binaryOp .BitXor (.int a t) (.int (y * 2 ^ z.toNat) u)) Q E s := by
  have hp : (0 : Int) < 2 ^ z.toNat := Int.pow_pos (by decide)
  subst e
  refine xor_int ?_
  rw [xor_low ha]
  exact h _ rfl (Int.emod_nonneg _ (Int.ne_of_gt hp)) (by have h1 := Int.emod_add_mul_ediv a (2 ^ z.toNat); have h2 := Int.mul_nonneg (Int.le_of_lt hp) (Int.ediv_nonneg ha (Int.le_of_lt hp)); omega)
end
section
variable {prog : Program} {w : World} {A : Around} {E : Value → Shared → Prop} {s : Shared} {l : Addr} {vs : List Value} {ns : List Int} {Q : Value → Shared → Prop}
theorem len_ints (hl : s.heap.IsList l vs.toArray) (hI : IntsAre vs ns) (hb : ns.length ≤ 2 ^ 20) (h : Q (.int (ns.length : Int) (s.toks + 1)) { s with toks := s.toks + 1 + 1 }) : wpAny (model prog w) A (call (.builtin "len") [.ref l]) Q E s :=
  len_ints_fit hl hI (Nat.lt_of_le_of_lt hb (by decide)) h
end
section
variable {h₀ h : Heap} {L : Addr} {m : Str → Option Value} {ps : List (Str × Value)} {x : Str} {v : Value}
theorem kst_same (hps : ∀ p ∈ ps, m p.1 = some p.2) : kstB m ps = m := funext fun _ => kstB_eq hps fun _ => rfl
theorem fr_kst (F : Fr h₀ L h m) (hps : ∀ p ∈ ps, m p.1 = some p.2) : Fr h₀ L h (kstB m ps) := by rw [kst_same hps]; exact F
theorem fr_kst1 (F : Fr h₀ L h (fun y => if y = x then some v else m y)) (hps : ∀ p ∈ ps, m p.1 = some p.2) : Fr h₀ L h (fun y => if y = x then some v else kstB m ps y) := by rw [kst_same hps]; exact F
end
section
variable {prog : Program} {w : World} {A : Around} {E : Value → Shared → Prop} {s : Shared} {env : Env} {h₀ : Heap} {x : Str} {body : List Stmt} {Q : Flow → Shared → Prop}
theorem unrPost_mono {L I : Addr} {it : Obj} {s₁ s₂ : Shared} {R R' : (Str → Option Value) → List (Addr × Obj) → Prop} {f : Flow} (hr : ∀ m n, R m n → R' m n) (h : UnrPost h₀ L s₁ I it R Q f s₂) : UnrPost h₀ L s₁ I it R' Q f s₂ := by
  cases f with
  | ret v => exact h
  | brk => exact h
  | next => obtain ⟨h', tk, m', n', e, F, N, o, r⟩ := h; exact ⟨h', tk, m', n', e, F, N, o, hr _ _ r⟩
  | cont => obtain ⟨h', tk, m', n', e, F, N, o, r⟩ := h; exact ⟨h', tk, m', n', e, F, N, o, hr _ _ r⟩
theorem revRest_inv {I : Addr} {lp : Addr × Obj} (J : List Int → (Str → Option Value) → List (Addr × Obj) → Prop)
    (turn : ∀ d t rest m news, J (d :: rest) m news → ∀ (it : Obj) h tk, it.cls = .type "list_reverseiterator" → Fr h₀ env.locals h (fun y => if y = x then some (.int d t) else m y) → News h₀ env.locals h ((I, it) :: news) →
      wpAny (model prog w) A (execs body env) (UnrPost h₀ env.locals { s with heap := h, toks := tk } I it (fun m' n' => lp ∈ n' ∧ J rest m' n') Q) E { s with heap := h, toks := tk })
    (done : ∀ m news, J [] m news → ∀ h tk, Fr h₀ env.locals h m → News h₀ env.locals h news → Q .next { s with heap := h, toks := tk }) :
    ∀ {vs : List Value} {ns : List Int}, IntsAre vs ns → ∀ m news, J ns m news → RevRest prog w A E h₀ env x body Q s I lp vs m news
  | _, _, .nil, m, news, j => RevRest.zero (done m news j)
  | _, _, .cons d t hI, m, news, j => RevRest.succ fun it h tk hc F N => wpAny_mono (turn d t _ m news j it h tk hc F N) (fun _ _ p => unrPost_mono (fun m' n' r => ⟨r.1, revRest_inv J turn done hI m' n' r.2⟩) p) fun _ _ e => e
theorem rev_loop {I l D : Addr} {lo dO : Obj} {led : List (Addr × Obj)} {vs : List Value} {ns : List Int} {n : Nat} {m₀ : Str → Option Value} (J : Addr → Addr × Obj → List (Addr × Obj) → List Int → (Str → Option Value) → List (Addr × Obj) → Prop)
    (hI : IntsAre vs ns) (hh : A.handled = none) (F : Fr h₀ env.locals s.heap m₀) (N : News h₀ env.locals s.heap ((I, revObj D ((vs.length : Int) - 1)) :: (l, lo) :: (D, dO) :: led)) (hc : dO.cls = .type "list") (hd : dO.data = .seq vs.toArray n) (hne : GnNe I ((l, lo) :: (D, dO) :: led))
    (init : J l (D, dO) led ns.reverse m₀ ((l, lo) :: (D, dO) :: led))
    (turn : GnNe I ((l, lo) :: (D, dO) :: led) → ∀ d t rest m news, J l (D, dO) led (d :: rest) m news → ∀ (it : Obj) h tk, it.cls = .type "list_reverseiterator" → Fr h₀ env.locals h (fun y => if y = x then some (.int d t) else m y) → News h₀ env.locals h ((I, it) :: news) →
      wpAny (model prog w) A (execs body env) (UnrPost h₀ env.locals { s with heap := h, toks := tk } I it (fun m' n' => (D, dO) ∈ n' ∧ J l (D, dO) led rest m' n') Q) E { s with heap := h, toks := tk })
    (done : ∀ m news, J l (D, dO) led [] m news → ∀ h tk, Fr h₀ env.locals h m → News h₀ env.locals h news → Q .next { s with heap := h, toks := tk }) :
    wpAny (model prog w) A (pyIter (.ref I)) (fun it s₂ => LoopAtV prog w A h₀ env x body Q E it s₂) E s := by
  refine iter_revUnr hh F N ?_ (List.Mem.tail _ (List.Mem.head _)) hc hd (revRest_inv (J l (D, dO) led) (turn hne) done hI.reverse _ _ init)
  have : ∀ {q : List (Addr × Obj)} {o : Obj}, GnNe I q → OffI I o q := by
    intro q o
    induction q with
    | nil => intro _; exact True.intro
    | cons p r ih => intro h; exact ⟨Or.inl h.1, ih h.2⟩
  exact this hne
theorem unr_close {L I l D : Addr} {it lo lo0 dO : Obj} {led all : List (Addr × Obj)} {rest : (Str → Option Value) → List (Addr × Obj) → Prop} {s₁ : Shared} {h' : Heap} {tk : Nat} {m' : Str → Option Value} (F : Fr h₀ L h' m') (N : News h₀ L h' all) (hI : (I, it) ∈ all) (hl : (l, lo) ∈ all) (hD : (D, dO) ∈ all) (hs : ∀ p ∈ led, p ∈ all)
    (hne : GnNe I ((l, lo0) :: (D, dO) :: led)) (r : rest m' ((l, lo) :: (D, dO) :: led)) : UnrEnd h₀ L s₁ I it rest { s₁ with heap := h', toks := tk } :=
  UnrEnd.intro F N ((l, lo) :: (D, dO) :: led) (fun p hp => by
    rcases List.mem_cons.mp hp with rfl | hp
    · exact hI
    · rcases List.mem_cons.mp hp with rfl | hp
      · exact hl
      · rcases List.mem_cons.mp hp with rfl | hp
        · exact hD
        · exact hs p hp) (ofGnNe (show GnNe I ((l, lo) :: (D, dO) :: led) from hne)) r
end
section
variable {prog : Program} {w : World} {A : Around} {E : Value → Shared → Prop} {s : Shared} {h₀ : Heap} {L D : Addr} {m : Str → Option Value} {news : List (Addr × Obj)} {g : Obj → List (Addr × Obj)} {o : Obj} {vs : List Value} {ns : List Int} {c n : Nat} {x a : Int} {t u : Tok} {Q : Value → Shared → Prop}
theorem append_ints (F : Fr h₀ L s.heap m) (N : News h₀ L s.heap news) (U : UpdF D (listOf vs.toArray c) news g) (hI : IntsAre vs ns) (hb : ns.length ≤ 1000)
    (h : ∀ h' vs', IntsAre vs' (ns ++ [x]) → Fr h₀ L h' m → News h₀ L h' (g (listOf vs'.toArray (c + 1))) → Q .none { s with heap := h' }) : wpAny (model prog w) A (call (.builtin "list.append") [.ref D, .int x t]) Q E s := by
  have e : vs.toArray.push (Value.int x t) = (vs ++ [Value.int x t]).toArray := by simp
  refine append_K (news' := g (listOf (vs ++ [Value.int x t]).toArray (c + 1))) F N (by rw [e]; exact upd_of U _) (fun h' F' N' => h h' _ (IntsAre.append hI (.cons x t .nil)) F' N') ?_
  have := hI.length
  rw [sizeLine_eq]
  simp only [List.size_toArray]
  omega
theorem reverse_ints (F : Fr h₀ L s.heap m) (N : News h₀ L s.heap news) (U : UpdF D (listOf vs.toArray c) news g) (hI : IntsAre vs ns) (hb : ns.length ≤ 1000)
    (h : ∀ h' vs', IntsAre vs' ns.reverse → Fr h₀ L h' m → News h₀ L h' (g (listOf vs'.toArray c)) → Q .none { s with heap := h' }) : wpAny (model prog w) A (call (.builtin "list.reverse") [.ref D]) Q E s := by
  refine kl_reverse (l := vs.reverse) F N rfl (upd_of U _) ?_ (fun h' F' N' => h h' _ hI.reverse F' N')
  have := hI.length
  rw [sizeLine_eq]
  simp only []
  omega
theorem lshift_n (ha : a.natAbs < 2 ^ 64) (hn : n ≤ 1000) (h : Q (.int (a * 2 ^ n) s.toks) { s with toks := s.toks + 1 }) : wpAny (model prog w) A (binaryOp .LShift (.int a t) (.int (n : Int) u)) Q E s :=
  lshift_int_small (by omega) (by omega) ha (by rw [Int.toNat_natCast]; exact h)
end
end Mine
end
section
namespace Mine
/-- where the division stands: ns is still to come, the highest first; qs is told, the highest first; r is left -/
def DJ (n : Nat) (b x : Int) (ns qs : List Int) (r : Int) : Prop :=
  0 ≤ r ∧ r < b ∧ (∀ q ∈ qs, 0 ≤ q ∧ q < 2 ^ n) ∧ (∀ d ∈ ns, 0 ≤ d ∧ d < 2 ^ n) ∧ (dv n qs.reverse * b + r) * 2 ^ (n * ns.length) + dv n ns.reverse = x
theorem DJ.init {n N : Nat} {b x : Int} (hb : 0 < b) (h0 : 0 ≤ x) (h1 : x < 2 ^ (n * N)) : DJ n b x (dg n N x).reverse [] 0 := by
  refine ⟨Int.le_refl _, hb, fun _ h => (nomatch h), fun d hd => dg_mem n N x d (List.mem_reverse.mp hd), ?_⟩
  rw [List.reverse_reverse, dv_dg n N x h0 h1]
  simp [dv]
theorem DJ.step {n : Nat} {b x d r : Int} {rest qs : List Int} (hb : b < 2 ^ n) (h : DJ n b x (d :: rest) qs r) :
    0 ≤ r * 2 ^ n + d ∧ r * 2 ^ n + d < 2 ^ n * 2 ^ n ∧ DJ n b x rest (qs ++ [Int.fdiv (r * 2 ^ n + d) b]) (Int.fmod (r * 2 ^ n + d) b) := by
  obtain ⟨r0, r1, hq, hd, e⟩ := h
  have hp : (0 : Int) < 2 ^ n := Int.pow_pos (by decide)
  have d0 := hd d (by simp)
  have hb0 : 0 < b := by omega
  have m0 : 0 ≤ r * 2 ^ n := Int.mul_nonneg r0 (Int.le_of_lt hp)
  have v0 : 0 ≤ r * 2 ^ n + d := by omega
  have v1 : r * 2 ^ n + d < b * 2 ^ n := by
    have h1 : (r + 1) * 2 ^ n ≤ b * 2 ^ n := Int.mul_le_mul_of_nonneg_right (by omega) (Int.le_of_lt hp)
    rw [Int.add_mul, Int.one_mul] at h1
    omega
  have v2 : b * 2 ^ n ≤ 2 ^ n * 2 ^ n := Int.mul_le_mul_of_nonneg_right (Int.le_of_lt hb) (Int.le_of_lt hp)
  refine ⟨v0, by omega, ?_⟩
  rw [Int.fdiv_eq_ediv_of_nonneg _ (by omega), Int.fmod_eq_emod_of_nonneg _ (by omega)]
  have hv := Int.emod_add_mul_ediv (r * 2 ^ n + d) b
  have e0 : 0 ≤ (r * 2 ^ n + d) % b := Int.emod_nonneg _ (by omega)
  have e1 : (r * 2 ^ n + d) % b < b := Int.emod_lt_of_pos _ hb0
  have q0 : 0 ≤ (r * 2 ^ n + d) / b := Int.ediv_nonneg v0 (by omega)
  have q1 : (r * 2 ^ n + d) / b < 2 ^ n := Int.ediv_lt_of_lt_mul hb0 (by have e9 : b * 2 ^ n = 2 ^ n * b := Int.mul_comm _ _; omega)
  generalize (r * 2 ^ n + d) / b = q at *
  generalize (r * 2 ^ n + d) % b = r' at *
  refine ⟨e0, e1, fun y hy => ?_, fun y hy => hd y (by simp [hy]), ?_⟩
  · rcases List.mem_append.mp hy with hy | hy
    · exact hq y hy
    · rw [List.mem_singleton.mp hy]; exact ⟨q0, q1⟩
  · rw [List.reverse_cons, dv_append, List.length_reverse] at e
    rw [List.reverse_append, List.reverse_singleton, List.singleton_append]
    simp only [dv, Int.mul_zero, Int.add_zero] at e ⊢
    rw [List.length_cons, Nat.mul_add, Nat.mul_one, Int.pow_add] at e
    rw [← e]
    generalize dv n qs.reverse = D
    generalize dv n rest.reverse = R
    generalize (2 : Int) ^ (n * rest.length) = P
    have h2 : (q + 2 ^ n * D) * b + r' = 2 ^ n * (D * b + r) + d := by
      rw [Int.add_mul, Int.mul_add, Int.mul_assoc]
      have : q * b = b * q := Int.mul_comm _ _
      have : (2 : Int) ^ n * r = r * 2 ^ n := Int.mul_comm _ _
      omega
    rw [h2, Int.add_mul]
    have h3 : (2 : Int) ^ n * (D * b + r) * P = (D * b + r) * (P * 2 ^ n) := by
      rw [Int.mul_comm ((2 : Int) ^ n) (D * b + r), Int.mul_assoc, Int.mul_comm ((2 : Int) ^ n) P]
    have h4 : d * P = P * d := Int.mul_comm _ _
    omega
theorem DJ.fin {n : Nat} {b x r : Int} {qs : List Int} (h : DJ n b x [] qs r) : dv n qs.reverse = x / b ∧ r = x % b := by
  obtain ⟨r0, r1, _, _, e⟩ := h
  simp [dv] at e
  have hb : 0 < b := by omega
  have h1 : x / b = dv n qs.reverse ∧ x % b = r := by
    rw [← e, Int.add_comm, Int.add_mul_ediv_right _ _ (by omega), Int.add_mul_emod_self_right, Int.ediv_eq_zero_of_lt r0 r1, Int.emod_eq_of_lt r0 r1]
    exact ⟨by omega, rfl⟩
  exact ⟨h1.1.symm, h1.2.symm⟩
end Mine
end
section
open PySem PySem.Spec PySem.Calls PyProof.Rows PySem.W
set_option maxRecDepth 100000
set_option maxHeartbeats 8000000
namespace Mine
local macro_rules | `(tactic| walk_at "c_here") => `(tactic| (refine' Here.mk ?v1 ?v2 ?v3 ?v4 ?v5 ?v6; (case v4 => exact rfl); (case v5 => exact rfl); (case v6 => assumption); (case v1 => k_asm); (case v2 => k_asm); (case v3 => k_asm)))
local macro_rules | `(tactic| walk_at "c_callee") => `(tactic| (refine' callee_base ?u1 ?u2 ?u3 ?u4 ?u5 ?u6 ?u7 ?u8; (case u1 => k_asm); (case u2 => k_asm); (case u3 => k_asm); (case u4 => k_is); (case u5 => k_is); (case u6 => exact rfl); (case u7 => exact rfl); (case u8 => exact rfl)))
local macro_rules | `(tactic| walk_at "c_enter") => `(tactic| (refine' enterK ?p1 ?p2 ?p3 ?p4 ?p5 ?p6 ?p7 ?p8 ?_; (case p1 => walk_at "c_here"); (case p2 => k_asm); (case p3 => k_asm); (case p4 => walk_at "c_callee"); (case p5 => ktr_room); (case p6 => exact BindsTo.of_eq rfl); (case p7 => exact locs rfl); (case p8 => decide); k_whole))
local macro_rules | `(tactic| walk_at "c_enterC") => `(tactic| (refine' enterKC ?p1 ?p2 ?p3 ?p4 ?p5 ?p6 ?p7 ?p8 ?_; (case p1 => walk_at "c_here"); (case p2 => k_asm); (case p3 => k_asm); (case p4 => walk_at "c_callee"); (case p5 => ktr_room); (case p6 => exact rfl); (case p7 => exact rfl); (case p8 => decide); k_whole))
local macro_rules | `(tactic| walk_at "c_enterN") => `(tactic| (refine' enterN ?p1 ?p2 ?p3 ?p4 ?p5 ?p6 ?p7 ?p8 ?p9 ?pa ?pb ?pc ?_; (case p1 => walk_at "c_here"); (case p2 => k_asm); (case p3 => k_asm); (case p4 => k_mem); (case p5 => exact codeRec_news (by k_asm) (by k_mem) (by assumption) (by assumption)); (case p6 => ktr_room); (case p7 => exact BindsTo.of_eq rfl); (case p8 => exact locs rfl); (case p9 => decide); (case pa => exact rfl); (case pb => exact rfl); (case pc => exact rfl); k_whole))
local macro_rules | `(tactic| walk_at "c_sub") => `(tactic| first | exact fun _ h => h | exact List.forall_mem_nil _ | (refine' List.forall_mem_cons.mpr ⟨?c9a, ?c9b⟩; (case c9a => k_mem); (case c9b => walk_at "c_sub")))
local macro_rules | `(tactic| walk_at "c_ne") => `(tactic| first | exact True.intro | (simp only [GnNe, and_true]; first | omega | ((repeat' (refine And.intro ?_ ?_)) <;> omega)))
variable {w : World} {p : Program} {loose : List Str} {mean : ExcName → Option Value} {mg mb : Str → Option Value}
theorem c_div2n1n (a b n : Int) (ta tb tn : Tok) (ha : 0 ≤ a) (hb : 1 ≤ b) (hn : 0 ≤ n) (ha2 : a < 2 ^ 20) (hb2 : b < 1024) :
    CCall w p loose mean mg mb [] 21 2 [.int a ta, .int b tb, .int n tn] (fun _ => True) (PairOut (Int.fdiv a b) (Int.fmod a b)) := by
  have hz : (Builtin.Int.intBits a : Int) ≤ 4000 := by have := (intBits_le_iff (m := 20)).mpr (by omega : a.natAbs < 2 ^ 20); omega
  unfold CCall
  k_fill
  intro dp un gd cn cs a' ccd cl outer A₀ base h₀ L m s Q E B F X N T C1 C2 hk hd hu _ hret
  refine wpAny_call ?_
  k_dflt (walk_at "c_enter")
  intro g' L' h' G' F' N' X' T'
  obtain ⟨HH, B', st', l1, l2⟩ := G'
  unfold Runs
  (try dsimp only)
  (try k_lift B')
  (try k_fold)
  k_steps
  exact hret _ _ _ ⟨stays_of N HH (by assumption) (by assumption) (by walk_at "c_sub"), _, _, _, _, rfl, fresh_of HH (by assumption) (List.Mem.head _) (by walk_at "c_ne"), (News.get (by assumption) (List.Mem.head _))⟩
end Mine
end
section
open PySem PySem.Spec PySem.Calls PyProof.Rows PySem.W
set_option maxRecDepth 100000
set_option maxHeartbeats 8000000
set_option pp.maxSteps 600
set_option pp.deepTerms false
namespace Mine
local macro_rules | `(tactic| walk_at "c_here") => `(tactic| (refine' Here.mk ?v1 ?v2 ?v3 ?v4 ?v5 ?v6; (case v4 => exact rfl); (case v5 => exact rfl); (case v6 => assumption); (case v1 => k_asm); (case v2 => k_asm); (case v3 => k_asm)))
local macro_rules | `(tactic| walk_at "c_callee") => `(tactic| (refine' callee_base ?u1 ?u2 ?u3 ?u4 ?u5 ?u6 ?u7 ?u8; (case u1 => k_asm); (case u2 => k_asm); (case u3 => k_asm); (case u4 => k_is); (case u5 => k_is); (case u6 => exact rfl); (case u7 => exact rfl); (case u8 => exact rfl)))
local macro_rules | `(tactic| walk_at "c_enter") => `(tactic| (refine' enterK ?p1 ?p2 ?p3 ?p4 ?p5 ?p6 ?p7 ?p8 ?_; (case p1 => walk_at "c_here"); (case p2 => k_asm); (case p3 => k_asm); (case p4 => walk_at "c_callee"); (case p5 => ktr_room); (case p6 => exact BindsTo.of_eq rfl); (case p7 => exact locs rfl); (case p8 => decide); k_whole))
local macro_rules | `(tactic| walk_at "c_enterC") => `(tactic| (refine' enterKC ?p1 ?p2 ?p3 ?p4 ?p5 ?p6 ?p7 ?p8 ?_; (case p1 => walk_at "c_here"); (case p2 => k_asm); (case p3 => k_asm); (case p4 => walk_at "c_callee"); (case p5 => ktr_room); (case p6 => exact rfl); (case p7 => exact rfl); (case p8 => decide); k_whole))
local macro_rules | `(tactic| walk_at "c_enterN") => `(tactic| (refine' enterN ?p1 ?p2 ?p3 ?p4 ?p5 ?p6 ?p7 ?p8 ?p9 ?pa ?pb ?pc ?_; (case p1 => walk_at "c_here"); (case p2 => k_asm); (case p3 => k_asm); (case p4 => k_mem); (case p5 => exact codeRec_news (by k_asm) (by k_mem) (by assumption) (by assumption)); (case p6 => ktr_room); (case p7 => exact BindsTo.of_eq rfl); (case p8 => exact locs rfl); (case p9 => decide); (case pa => exact rfl); (case pb => exact rfl); (case pc => exact rfl); k_whole))
local macro_rules | `(tactic| walk_at "c_sub") => `(tactic| first | exact fun _ h => h | exact List.forall_mem_nil _ | (refine' List.forall_mem_cons.mpr ⟨?c9a, ?c9b⟩; (case c9a => k_mem); (case c9b => walk_at "c_sub")))
local macro_rules | `(tactic| walk_at "c_ne") => `(tactic| first | exact True.intro | (simp only [GnNe, and_true]; first | omega | ((repeat' (refine And.intro ?_ ?_)) <;> omega)))
local macro_rules | `(tactic| walk_at "c_int") => `(tactic| (refine' ccall_int ?kC ?k1 ?k2 ?k3 ?k4 ?k5 ?k6 ?k7 ?k8 ?kA ?kK ?kd ?ku ?kp ?_; (case kC => walk_at "c_con"); (case k1 => k_asm); (case k2 => k_asm); (case k3 => k_asm); (case k4 => k_asm); (case k5 => walk_at "c_sub"); (case k6 => k_asm); (case k7 => k_asm); (case k8 => k_asm); (case kA => exact rfl); (case kK => first | exact rfl | assumption); (case kd => ktr_room); (case ku => ktr_units); (case kp => walk_at "c_pre"); intro t9 h9 tk9 F9 N9; (try dsimp only); (try k_fold)))
local macro_rules | `(tactic| walk_at "c_pre") => `(tactic| first | exact True.intro | exact isList_up (by assumption) (by assumption) | fail "c_pre")
variable {w : World} {p : Program} {loose : List Str} {mean : ExcName → Option Value} {mg mb : Str → Option Value}
def D2I (w : World) (p : Program) (loose : List Str) (mean : ExcName → Option Value) (mg mb : Str → Option Value) (n : Nat) (ns : List Int) (vs : List Value) (l : Addr) (k : Nat) (f : Addr) (led : List (Addr × Obj)) : Prop :=
  ∀ (i j : Int) (ti tj : Tok), 0 ≤ i → i < j → j ≤ ns.length → j - i ≤ k → CCall w p loose mean mg mb led f (k + 1) [.int i ti, .int j tj] (fun H => H.IsList l vs.toArray) (IntOut (dv n (cutIJ ns i j)))
theorem D2I.zero {n : Nat} {ns : List Int} {vs : List Value} {l f : Addr} {led : List (Addr × Obj)} : D2I w p loose mean mg mb n ns vs l 0 f led := fun i j _ _ _ h1 _ h3 => absurd h3 (by omega)
section
variable {led news : List (Addr × Obj)} {f : Addr} {sz : Nat} {dp un : Nat} {gd : Option (List Code)} {cn : Str} {cs : Scope} {a : Addr} {ccd : Value} {cl : List (Str × Addr)} {outer : List Env} {A₀ : Around} {base h₀ : Heap} {L : Addr} {m : Str → Option Value} {s : Shared} {Q E : Value → Shared → Prop} {A : Around}
theorem D2I.call {n : Nat} {ns : List Int} {vs : List Value} {l : Addr} {k : Nat} {i j : Int} {ti tj : Tok} (C : D2I w p loose mean mg mb n ns vs l k f led) (hlen : n * ns.length < 60) (hds : ∀ d ∈ ns, 0 ≤ d ∧ d < 2 ^ n)
    (B : Below A₀ base outer h₀) (F : Fr h₀ L s.heap m) (X : (Mine.hd.heap_39 w.params).In h₀) (N : News h₀ L s.heap news) (hsub : ∀ q ∈ led, q ∈ news)
    (T : Top p loose mean mg mb h₀) (C1 : CodeHd h₀ 41 37) (C2 : CodeHd h₀ 34 30) (hA : A = ktrTop dp un gd cn cs L a ccd cl outer) (hk : cs.kind = .function) (hl : h₀.IsList l vs.toArray)
    (h0 : 0 ≤ i) (h1 : i < j) (h2 : j ≤ ns.length) (h3 : j - i ≤ k) (hd : dp + (k + 1) < recursionLimit) (hu : un + 8 * (k + 1) < cLine)
    (ret : ∀ x t h' tk', x = dv n (cutIJ ns i j) → 0 ≤ x → x < 2 ^ 60 → Fr h₀ L h' m → News h₀ L h' news → Q (.int x t) { s with heap := h', toks := tk' }) : wpAny (model PySem.Challenge.rw_zz0004_01.row.prog w) A (call (.ref f) [.int i ti, .int j tj]) Q E s :=
  ccall_int (C i j ti tj h0 h1 h2 h3) B F X N hsub T C1 C2 hA hk hd hu (isList_up F hl) fun t h' tk' F' N' => ret _ t h' tk' rfl (dv_cut_bound hlen hds).1 (dv_cut_bound hlen hds).2 F' N'
end
section
local macro_rules | `(tactic| walk_at "call ref") => `(tactic| (k_here; refine Stop.of ?_))
local macro_rules | `(tactic| walk_at "binaryOp RShift int int") => `(tactic| (k_here; (with_reducible refine rshift_half ?_); intro k9 hk9 hk8))
local macro_rules | `(tactic| walk_at "binaryOp Mult int int") => `(tactic| (k_here; (with_reducible refine mul_gen ?ma ?mb ?mc ?md ?_); (case ma => omega); (case mb => omega); (case mc => omega); (case md => omega); intro z9 hz9 hz8 hz7))
local macro_rules | `(tactic| walk_at "call ref") => `(tactic| (k_here; k_dflt (refine' D2I.call ?kC ?q1 ?q2 ?k1 ?k2 ?k3 ?k4 ?k5 ?k6 ?k7 ?k8 ?kA ?kK ?kl ?p0 ?p1 ?p2 ?p3 ?kd ?ku ?_; (case kC => assumption); (case q1 => assumption); (case q2 => assumption); (case k1 => k_asm); (case k2 => k_asm); (case k3 => k_asm); (case k4 => k_asm); (case k5 => walk_at "c_sub"); (case k6 => k_asm); (case k7 => k_asm); (case k8 => k_asm); (case kA => exact rfl); (case kK => first | exact rfl | assumption); (case kl => assumption); (case p0 => omega); (case p1 => omega); (case p2 => omega); (case p3 => omega); (case kd => ktr_room); (case ku => ktr_units); intro x9 t9 h9 tk9 hx9 hx8 hx7 F9 N9; (try dsimp only); (try k_fold))))
theorem c_digits2int (l c1 : Addr) (vs : List Value) (ns : List Int) (oc1 : Obj) (vs1 : Array Value) (q1 : Tok) (n : Nat) (tn : Tok) (hI : IntsAre vs ns) (hd1 : oc1.data = .fields vs1) (hd2 : vs1[1]? = some (.str (Str.ofString "_digits2int.<locals>.inner") q1))
    (hlen : n * ns.length < 60) (hlen2 : ns.length < 64) (hn : n < 64) (hpos : 0 < ns.length) (hds : ∀ d ∈ ns, 0 ≤ d ∧ d < 2 ^ n) :
    CCall w p loose mean mg mb [(37, tabObj #[rawInt 47, rawInt 4, .ref c1]), (c1, oc1)] 42 80 [.ref l, .int n tn] (fun H => H.IsList l vs.toArray) (IntOut (dv n ns)) := by
  have hC := IntsAre.carried hI
  unfold CCall
  k_fill
  intro dp un gd cn cs a' ccd cl outer A₀ base h₀ L m s Q E B F X N T C1 C2 hk hd hu hpre hret
  refine wpAny_call ?_
  k_dflt (walk_at "c_enterC")
  intro g' L' h' tk' cells G' F' N' Y' X' T'
  obtain ⟨HH, B', st', l1, l2⟩ := G'
  unfold Runs
  (try dsimp only)
  (try k_lift B')
  k_lt l1
  replace C1 := C1.keeps st'
  replace C2 := C2.keeps st'
  have hl : g'.IsList l vs.toArray := isList_hid hpre HH (by
    intro q hq e
    obtain ⟨o, e2, e3, c, e4⟩ := hpre
    have e5 := (N q hq).1
    rw [show q.1 = l from e, e2] at e5
    cases e5
    rcases List.mem_cons.mp hq with rfl | hq
    · cases e4
    · rcases List.mem_cons.mp hq with rfl | hq
      · rw [hd1] at e4; cases e4
      · nomatch hq)
  k_cells Y'
  simp only [List.cons_append, List.nil_append] at N'
  (try k_fold)
  k_steps
  show wpAny _ _ _ _ _ _
  refine led_head (fun f led => ∀ k, D2I w p loose mean mg mb n ns vs l k f led) (by assumption) ?pf ?_
  case pf =>
    have hne := ne_base (by assumption) hl
    intro k
    induction k with
    | zero => exact D2I.zero
    | succ k ih =>
      intro i j ti tj i0 i1 i2 i3
      unfold CCall
      clear hret HH hpre F N B X T B' X' T' C1 C2 hl
      intro dp un gd cn cs a' ccd cl outer A₀ base h₀ L m s Q E B F X N T C1 C2 hk hd hu hpre hret
      refine wpAny_call ?_
      k_dflt (walk_at "c_enterN")
      intro g' L' h' G' F' N' X' T'
      obtain ⟨HH, B', st', l1, l2⟩ := G'
      unfold Runs
      (try dsimp only)
      (try k_lift B')
      k_lt l1
      replace C1 := C1.keeps st'
      replace C2 := C2.keeps st'
      have hl : g'.IsList l vs.toArray := isList_hid hpre HH hne
      (try k_fold)
      k_steps
      · exact hret _ _ _ ⟨stays_of N HH (by assumption) (by assumption) (by walk_at "c_sub"), _, congrArg (fun x => Value.int x _) (dv_one i0 (by assumption) i2)⟩
      · exact hret _ _ _ ⟨stays_of N HH (by assumption) (by assumption) (by walk_at "c_sub"), ktn_int (by refine' dv_mid i0 ?a ?b i2 ?c ?d ?e; (case c => assumption); (case d => assumption); (case e => assumption); (case a => omega); (case b => omega))⟩
  intro key
  replace key := key 64
  k_steps
  exact hret _ _ _ ⟨stays_of N HH (by assumption) (by assumption) (by walk_at "c_sub"), ktn_int (by rename _ = dv n (cutIJ ns 0 _) => e9; rw [e9, cut_all])⟩
end
end Mine
end
section
open PySem PySem.Spec PySem.Calls PyProof.Rows PySem.W
set_option maxRecDepth 100000
set_option maxHeartbeats 8000000
set_option pp.maxSteps 600
set_option pp.deepTerms false
namespace Mine
local macro_rules | `(tactic| walk_at "c_here") => `(tactic| (refine' Here.mk ?v1 ?v2 ?v3 ?v4 ?v5 ?v6; (case v4 => exact rfl); (case v5 => exact rfl); (case v6 => assumption); (case v1 => k_asm); (case v2 => k_asm); (case v3 => k_asm)))
local macro_rules | `(tactic| walk_at "c_callee") => `(tactic| (refine' callee_base ?u1 ?u2 ?u3 ?u4 ?u5 ?u6 ?u7 ?u8; (case u1 => k_asm); (case u2 => k_asm); (case u3 => k_asm); (case u4 => k_is); (case u5 => k_is); (case u6 => exact rfl); (case u7 => exact rfl); (case u8 => exact rfl)))
local macro_rules | `(tactic| walk_at "c_enter") => `(tactic| (refine' enterK ?p1 ?p2 ?p3 ?p4 ?p5 ?p6 ?p7 ?p8 ?_; (case p1 => walk_at "c_here"); (case p2 => k_asm); (case p3 => k_asm); (case p4 => walk_at "c_callee"); (case p5 => ktr_room); (case p6 => exact BindsTo.of_eq rfl); (case p7 => exact locs rfl); (case p8 => decide); k_whole))
local macro_rules | `(tactic| walk_at "c_enterC") => `(tactic| (refine' enterKC ?p1 ?p2 ?p3 ?p4 ?p5 ?p6 ?p7 ?p8 ?_; (case p1 => walk_at "c_here"); (case p2 => k_asm); (case p3 => k_asm); (case p4 => walk_at "c_callee"); (case p5 => ktr_room); (case p6 => exact rfl); (case p7 => exact rfl); (case p8 => decide); k_whole))
local macro_rules | `(tactic| walk_at "c_enterN") => `(tactic| (refine' enterN ?p1 ?p2 ?p3 ?p4 ?p5 ?p6 ?p7 ?p8 ?p9 ?pa ?pb ?pc ?_; (case p1 => walk_at "c_here"); (case p2 => k_asm); (case p3 => k_asm); (case p4 => k_mem); (case p5 => exact codeRec_news (by k_asm) (by k_mem) (by assumption) (by assumption)); (case p6 => ktr_room); (case p7 => exact BindsTo.of_eq rfl); (case p8 => exact locs rfl); (case p9 => decide); (case pa => exact rfl); (case pb => exact rfl); (case pc => exact rfl); k_whole))
local macro_rules | `(tactic| walk_at "c_sub") => `(tactic| first | exact fun _ h => h | exact List.forall_mem_nil _ | (refine' List.forall_mem_cons.mpr ⟨?c9a, ?c9b⟩; (case c9a => k_mem); (case c9b => walk_at "c_sub")))
local macro_rules | `(tactic| walk_at "c_but") => `(tactic| first | exact List.forall_mem_nil _ | (refine' List.forall_mem_cons.mpr ⟨?c9a, ?c9b⟩; (case c9a => first | (intro c9; exact absurd rfl c9) | (intro c9; k_mem)); (case c9b => walk_at "c_but")))
local macro_rules | `(tactic| walk_at "c_ne") => `(tactic| first | exact True.intro | (simp only [GnNe, and_true]; first | omega | ((repeat' (refine And.intro ?_ ?_)) <;> omega)))
local macro_rules | `(tactic| walk_at "c_int") => `(tactic| (refine' ccall_int ?kC ?k1 ?k2 ?k3 ?k4 ?k5 ?k6 ?k7 ?k8 ?kA ?kK ?kd ?ku ?kp ?_; (case kC => walk_at "c_con"); (case k1 => k_asm); (case k2 => k_asm); (case k3 => k_asm); (case k4 => k_asm); (case k5 => walk_at "c_sub"); (case k6 => k_asm); (case k7 => k_asm); (case k8 => k_asm); (case kA => exact rfl); (case kK => first | exact rfl | assumption); (case kd => ktr_room); (case ku => ktr_units); (case kp => walk_at "c_pre"); intro t9 h9 tk9 F9 N9; (try dsimp only); (try k_fold)))
local macro_rules | `(tactic| walk_at "c_pre") => `(tactic| first | exact True.intro | exact isList_up (by assumption) (by assumption) | fail "c_pre")
variable {w : World} {p : Program} {loose : List Str} {mean : ExcName → Option Value} {mg mb : Str → Option Value}
def I2I (w : World) (p : Program) (loose : List Str) (mean : ExcName → Option Value) (mg mb : Str → Option Value) (n N : Nat) (k : Nat) (f D : Addr) (g : Obj → List (Addr × Obj)) : Prop :=
  ∀ (i j x : Int) (ti tj tx : Tok) (vs : List Value) (ns : List Int) (c : Nat), IntsAre vs ns → ns.length = N → 0 ≤ i → i < j → j ≤ N → j - i ≤ k → 0 ≤ x → x < 2 ^ 60 → x < 2 ^ (n * (j - i).toNat) →
    CCall w p loose mean mg mb (g (listOf vs.toArray c)) f (k + 1) [.int x tx, .int i ti, .int j tj] (fun _ => True)
      (fun H h v => v = .none ∧ StaysBut D H h ∧ ∃ vs', IntsAre vs' (spl ns i j (dg n (j - i).toNat x)) ∧ h.get? D = some (listOf vs'.toArray c))
theorem I2I.zero {n N : Nat} {f D : Addr} {g : Obj → List (Addr × Obj)} : I2I w p loose mean mg mb n N 0 f D g := fun i j _ _ _ _ _ _ _ _ _ _ h1 _ h3 => absurd h3 (by omega)
section
variable {news : List (Addr × Obj)} {f D : Addr} {sz : Nat} {dp un : Nat} {gd : Option (List Code)} {cn : Str} {cs : Scope} {a : Addr} {ccd : Value} {cl : List (Str × Addr)} {outer : List Env} {A₀ : Around} {base h₀ : Heap} {L : Addr} {m : Str → Option Value} {s : Shared} {Q E : Value → Shared → Prop} {A : Around}
theorem I2I.call {n N : Nat} {ns : List Int} {vs : List Value} {c k : Nat} {i j x : Int} {ti tj tx : Tok} {g g2 : Obj → List (Addr × Obj)} (C : I2I w p loose mean mg mb n N k f D g) (F : Fr h₀ L s.heap m) (N' : News h₀ L s.heap news) (U : UpdF D (listOf vs.toArray c) news g2) (hI : IntsAre vs ns) (hlen : ns.length = N)
    (hsub : ∀ q ∈ g (listOf vs.toArray c), q ∈ news) (B : Below A₀ base outer h₀) (X : (Mine.hd.heap_39 w.params).In h₀)
    (T : Top p loose mean mg mb h₀) (C1 : CodeHd h₀ 41 37) (C2 : CodeHd h₀ 34 30) (hA : A = ktrTop dp un gd cn cs L a ccd cl outer) (hk : cs.kind = .function)
    (h0 : 0 ≤ i) (h1 : i < j) (h2 : j ≤ N) (h3 : j - i ≤ k) (x0 : 0 ≤ x) (x1 : x < 2 ^ 60) (x2 : x < 2 ^ (n * (j - i).toNat)) (hd : dp + (k + 1) < recursionLimit) (hu : un + 8 * (k + 1) < cLine)
    (ret : ∀ h' tk' vs', IntsAre vs' (spl ns i j (dg n (j - i).toNat x)) → (spl ns i j (dg n (j - i).toNat x)).length = N → Fr h₀ L h' m → News h₀ L h' (g2 (listOf vs'.toArray c)) → Q .none { s with heap := h', toks := tk' }) : wpAny (model PySem.Challenge.rw_zz0004_01.row.prog w) A (call (.ref f) [.int x tx, .int i ti, .int j tj]) Q E s :=
  ccall_use (C i j x ti tj tx vs ns c hI hlen h0 h1 h2 h3 x0 x1 x2) B F X N' hsub T C1 C2 hA hk hd hu True.intro fun v h' tk' ho => by
    obtain ⟨rfl, st, vs', hI', hD⟩ := ho
    exact ret h' tk' vs' hI' ((spl_length h0 (by omega) (by omega) (dg_length _ _ _)).trans hlen) (fr_but F N' U st) (news_but N' U st hD)
/-- the answer is a new list of x's digits -/
def DigOut (n : Nat) (x : Int) (H h : Heap) (v : Value) : Prop :=
  H.StaysIn h ∧ ∃ (D : Addr) (vs : List Value) (c : Nat), v = .ref D ∧ H.get? D = none ∧ h.get? D = some (listOf vs.toArray c) ∧ IntsAre vs (dg n (nd x n) x)
end
section
local macro_rules | `(tactic| walk_at "call ref") => `(tactic| (k_here; refine Stop.of ?_))
local macro_rules | `(tactic| walk_at "binaryOp RShift int int") => `(tactic| (k_here; (with_reducible refine rshift_gen ?ra ?rb ?_); (case ra => omega); (case rb => omega); intro y9 hy9 hy8 hy7))
local macro_rules | `(tactic| walk_at "binaryOp RShift int int") => `(tactic| (k_here; (with_reducible refine rshift_half ?_); intro k9 hk9 hk8))
local macro_rules | `(tactic| walk_at "binaryOp BitXor int int") => `(tactic| (k_here; (with_reducible refine' xor_gen ?ra ?rb ?_); (case ra => assumption); (case rb => assumption); intro y9 hy9 hy8 hy7))
local macro_rules | `(tactic| walk_at "binaryOp Mult int int") => `(tactic| (k_here; (with_reducible refine mul_gen ?ma ?mb ?mc ?md ?_); (case ma => omega); (case mb => omega); (case mc => omega); (case md => omega); intro z9 hz9 hz8 hz7))
local macro_rules | `(tactic| walk_at "binaryOp Mult ref int") => `(tactic| (k_here; k_dflt (refine' mul_fill ?F ?N ?m ?a ?b ?_; (case F => k_asm); (case N => k_asm); (case m => k_mem); (case a => omega); (case b => omega)); intro D9 h9 vs9 I9 F9 N9 l9; (try k_lt l9); (try k_sweep)))
local macro_rules | `(tactic| walk_at "call builtin:len") => `(tactic| (k_here; k_dflt (refine' len_ints ?k1 ?k2 ?k3 ?_; (case k1 => is_list); (case k2 => assumption); (case k3 => (simp only [List.length_replicate]; omega)))))
local macro_rules | `(tactic| walk_at "setItem ref int") => `(tactic| (k_here; k_dflt (refine' set_ints ?F ?N ?U ?I ?a ?b ?c ?_; (case F => k_asm); (case N => k_asm); (case U => k_updF); (case I => assumption); (case a => omega); (case b => omega); (case c => omega)); intro h9 vs9 I9 F9 N9; (try dsimp only at N9)))
local macro_rules | `(tactic| walk_at "call ref") => `(tactic| (k_here; k_dflt (refine' I2I.call ?kC ?kF ?kN ?kU ?kI ?kl ?kh ?kB ?kX ?kT ?c1 ?c2 ?kA ?kK ?p0 ?p1 ?p2 ?p3 ?p4 ?p5 ?p6 ?kd ?ku ?_; (case kC => assumption); (case kF => k_asm); (case kN => k_asm); (case kU => k_updF); (case kI => assumption); (case kl => assumption); (case kh => (try dsimp only); walk_at "c_sub"); (case kB => k_asm); (case kX => k_asm); (case kT => k_asm); (case c1 => k_asm); (case c2 => k_asm); (case kA => exact rfl); (case kK => first | exact rfl | assumption); (case p0 => omega); (case p1 => omega); (case p2 => omega); (case p3 => omega); (case p4 => omega); (case p5 => omega); (case p6 => first | assumption | (refine' low_lt2 ?q1 ?q2 ?q3; (case q2 => assumption); (case q3 => assumption); (case q1 => omega)) | (refine' high_lt2 ?q1 ?q2 ?q3 ?q4 ?q5; (case q3 => assumption); (case q5 => assumption); (case q4 => assumption); (case q1 => omega); (case q2 => omega))); (case kd => ktr_room); (case ku => ktr_units); intro h9 tk9 vs9 I9 n9 F9 N9; (try dsimp only at N9); (try dsimp only); (try k_fold))))
theorem c_int2digits (c2 : Addr) (oc2 : Obj) (vs2 : Array Value) (q2 : Tok) (x : Int) (tx : Tok) (n : Nat) (tn : Tok) (hd1 : oc2.data = .fields vs2) (hd2 : vs2[1]? = some (.str (Str.ofString "_int2digits.<locals>.inner") q2))
    (hn : 0 < n) (hn2 : n ≤ 20) (hx : 0 ≤ x) (hx2 : x < 2 ^ 20) :
    CCall w p loose mean mg mb [(30, tabObj #[rawInt 32, rawInt 4, .ref c2]), (c2, oc2)] 35 80 [.int x tx, .int n tn] (fun _ => True) (DigOut n x) := by
  obtain ⟨nd1, nd2, nd3, nd4, nd5, nd6⟩ := nd_spec hn hn2 hx hx2
  have nd7 : nd x n ≤ 20 := by simp only [nd]; omega
  unfold CCall
  k_fill
  intro dp un gd cn cs a' ccd cl outer A₀ base h₀ L m s Q E B F X N T C1 C2 hk hd hu hpre hret
  refine wpAny_call ?_
  k_dflt (walk_at "c_enterC")
  intro g' L' h' tk' cells G' F' N' Y' X' T'
  obtain ⟨HH, B', st', l1, l2⟩ := G'
  unfold Runs
  (try dsimp only)
  (try k_lift B')
  k_lt l1
  replace C1 := C1.keeps st'
  replace C2 := C2.keeps st'
  k_cells Y'
  simp only [List.cons_append, List.nil_append] at N'
  (try k_fold)
  k_steps
  · show wpAny _ _ _ _ _ _
    refine' led_head2 (fun f D g => ∀ k, I2I w p loose mean mg mb n (nd x n) k f D g) ?hI ?hN ?hD ?hU ?pf ?_
    case hI => assumption
    case hN => assumption
    case hD => k_mem
    case hU => k_dflt k_updF
    case pf =>
      intro k
      induction k with
      | zero => exact I2I.zero
      | succ k ih =>
        intro i j x ti tj tx vs ns c I hlen i0 i1 i2 i3 x0 x1 x2
        unfold CCall
        clear hret HH hpre F N B X T B' X' T' C1 C2
        intro dp un gd cn cs a' ccd cl outer A₀ base h₀ L m s Q E B F X N T C1 C2 hk hd hu hpre hret
        dsimp only at N
        refine wpAny_call ?_
        k_dflt (walk_at "c_enterN")
        intro g' L' h' G' F' N' X' T'
        obtain ⟨HH, B', st', l1, l2⟩ := G'
        unfold Runs
        (try dsimp only)
        (try k_lift B')
        k_lt l1
        replace C1 := C1.keeps st'
        replace C2 := C2.keeps st'
        (try k_fold)
        k_steps
        · exact hret _ _ _ ⟨rfl, staysBut_of N HH (by assumption) (by assumption) (by walk_at "c_but"), _, (by rename IntsAre _ _ => I8; rw [← spl_last i0 (by assumption) (by omega) x0 x2]; exact I8), News.get (by assumption) (by k_mem)⟩
        · exact hret _ _ _ ⟨rfl, staysBut_of N HH (by assumption) (by assumption) (by walk_at "c_but"), _, (by rename IntsAre _ _ => I8; rw [spl_mid i0 (by omega) (by omega) (by omega) x0 (by assumption) (by assumption) (by assumption)] at I8; exact I8), News.get (by assumption) (by k_mem)⟩
    intro key
    replace key := key 64
    have hN : (List.replicate (((Builtin.Int.intBits x : Int) + n - 1).fdiv n).toNat (0 : Int)).length = nd x n := List.length_replicate
    generalize List.replicate (((Builtin.Int.intBits x : Int) + n - 1).fdiv n).toNat (0 : Int) = zs at *
    have nd8 := nd4 (by assumption)
    have nd9 : x < 2 ^ (n * ((zs.length : Int) - 0).toNat) := by rw [Int.sub_zero, Int.toNat_natCast, hN]; exact nd3
    k_steps
    exact hret _ _ _ ⟨stays_of N HH (by assumption) (by assumption) (by walk_at "c_sub"), _, _, _, rfl, fresh_of HH (by assumption) (by k_mem) (by walk_at "c_ne"), News.get (by assumption) (by k_mem), (by
      rename IntsAre _ (spl _ _ _ _) => I8
      rw [spl_all (by rw [dg_length, Int.sub_zero, Int.toNat_natCast]), Int.sub_zero, Int.toNat_natCast, hN] at I8
      exact I8)⟩
  · exact hret _ _ _ ⟨stays_of N HH (by assumption) (by assumption) (by walk_at "c_sub"), _, _, _, rfl, fresh_of HH (by assumption) (List.Mem.tail _ (List.Mem.head _)) (by walk_at "c_ne"), News.get (by assumption) (List.Mem.tail _ (List.Mem.head _)), (by
      rename IntsAre _ _ => I8
      have e1 := nd5 (by assumption)
      have e2 : (((Builtin.Int.intBits x : Int) + n - 1).fdiv n).toNat = 0 := e1
      rw [e2] at I8
      rw [e1]
      exact I8)⟩
end
end Mine
end
section
open PySem PySem.Spec PySem.Calls PyProof.Rows PySem.W
set_option maxRecDepth 100000
set_option maxHeartbeats 8000000
set_option pp.maxSteps 600
set_option pp.deepTerms false
namespace Mine
local macro_rules | `(tactic| walk_at "c_here") => `(tactic| (refine' Here.mk ?v1 ?v2 ?v3 ?v4 ?v5 ?v6; (case v4 => exact rfl); (case v5 => exact rfl); (case v6 => assumption); (case v1 => k_asm); (case v2 => k_asm); (case v3 => k_asm)))
local macro_rules | `(tactic| walk_at "c_callee") => `(tactic| (refine' callee_base ?u1 ?u2 ?u3 ?u4 ?u5 ?u6 ?u7 ?u8; (case u1 => k_asm); (case u2 => k_asm); (case u3 => k_asm); (case u4 => k_is); (case u5 => k_is); (case u6 => exact rfl); (case u7 => exact rfl); (case u8 => exact rfl)))
local macro_rules | `(tactic| walk_at "c_enter") => `(tactic| (refine' enterK ?p1 ?p2 ?p3 ?p4 ?p5 ?p6 ?p7 ?p8 ?_; (case p1 => walk_at "c_here"); (case p2 => k_asm); (case p3 => k_asm); (case p4 => walk_at "c_callee"); (case p5 => ktr_room); (case p6 => exact BindsTo.of_eq rfl); (case p7 => exact locs rfl); (case p8 => decide); k_whole))
local macro_rules | `(tactic| walk_at "c_enterC") => `(tactic| (refine' enterKC ?p1 ?p2 ?p3 ?p4 ?p5 ?p6 ?p7 ?p8 ?_; (case p1 => walk_at "c_here"); (case p2 => k_asm); (case p3 => k_asm); (case p4 => walk_at "c_callee"); (case p5 => ktr_room); (case p6 => exact rfl); (case p7 => exact rfl); (case p8 => decide); k_whole))
local macro_rules | `(tactic| walk_at "c_enterN") => `(tactic| (refine' enterN ?p1 ?p2 ?p3 ?p4 ?p5 ?p6 ?p7 ?p8 ?p9 ?pa ?pb ?pc ?_; (case p1 => walk_at "c_here"); (case p2 => k_asm); (case p3 => k_asm); (case p4 => k_mem); (case p5 => exact codeRec_news (by k_asm) (by k_mem) (by assumption) (by assumption)); (case p6 => ktr_room); (case p7 => exact BindsTo.of_eq rfl); (case p8 => exact locs rfl); (case p9 => decide); (case pa => exact rfl); (case pb => exact rfl); (case pc => exact rfl); k_whole))
local macro_rules | `(tactic| walk_at "c_sub") => `(tactic| first | exact fun _ h => h | exact List.forall_mem_nil _ | (refine' List.forall_mem_cons.mpr ⟨?c9a, ?c9b⟩; (case c9a => k_mem); (case c9b => walk_at "c_sub")))
local macro_rules | `(tactic| walk_at "c_ne") => `(tactic| first | exact True.intro | (simp only [GnNe, and_true]; first | omega | ((repeat' (refine And.intro ?_ ?_)) <;> omega)))
local macro_rules | `(tactic| walk_at "c_int") => `(tactic| (refine' ccall_int ?kC ?k1 ?k2 ?k3 ?k4 ?k5 ?k6 ?k7 ?k8 ?kA ?kK ?kd ?ku ?kp ?_; (case kC => walk_at "c_con"); (case k1 => k_asm); (case k2 => k_asm); (case k3 => k_asm); (case k4 => k_asm); (case k5 => walk_at "c_sub"); (case k6 => k_asm); (case k7 => k_asm); (case k8 => k_asm); (case kA => exact rfl); (case kK => first | exact rfl | assumption); (case kd => ktr_room); (case ku => ktr_units); (case kp => walk_at "c_pre"); intro t9 h9 tk9 F9 N9; (try dsimp only); (try k_fold)))
local macro_rules | `(tactic| walk_at "c_pre") => `(tactic| first | exact True.intro | exact isList_up (by assumption) (by assumption) | fail "c_pre")
variable {w : World} {p : Program} {loose : List Str} {mean : ExcName → Option Value} {mg mb : Str → Option Value}
section
local macro_rules | `(tactic| walk_at "call ref") => `(tactic| (k_here; refine Stop.of ?_))
local macro_rules | `(tactic| walk_at "binaryOp RShift int int") => `(tactic| (k_here; (with_reducible refine rshift_half ?_); intro k9 hk9 hk8))
local macro_rules | `(tactic| walk_at "binaryOp Mult int int") => `(tactic| (k_here; (with_reducible refine mul_gen ?ma ?mb ?mc ?md ?_); (case ma => omega); (case mb => omega); (case mc => omega); (case md => omega); intro z9 hz9 hz8 hz7))
local macro_rules | `(tactic| walk_at "call ref") => `(tactic| (k_here; k_dflt (refine' D2I.call ?kC ?q1 ?q2 ?k1 ?k2 ?k3 ?k4 ?k5 ?k6 ?k7 ?k8 ?kA ?kK ?kl ?p0 ?p1 ?p2 ?p3 ?kd ?ku ?_; (case kC => assumption); (case q1 => assumption); (case q2 => assumption); (case k1 => k_asm); (case k2 => k_asm); (case k3 => k_asm); (case k4 => k_asm); (case k5 => walk_at "c_sub"); (case k6 => k_asm); (case k7 => k_asm); (case k8 => k_asm); (case kA => exact rfl); (case kK => first | exact rfl | assumption); (case kl => assumption); (case p0 => omega); (case p1 => omega); (case p2 => omega); (case p3 => omega); (case kd => ktr_room); (case ku => ktr_units); intro x9 t9 h9 tk9 hx9 hx8 hx7 F9 N9; (try dsimp only); (try k_fold))))
/-- the first call: the answer, and the table filled -/
def IntOutM (x : Int) (H h : Heap) (v : Value) : Prop :=
  ∃ (c1 : Addr) (oc1 : Obj) (vs1 : Array Value) (q1 t : Tok), v = .int x t ∧ StaysBut 37 H h ∧ h.get? 37 = some (tabObj #[rawInt 47, rawInt 4, .ref c1]) ∧ H.get? c1 = none ∧ h.get? c1 = some oc1 ∧ oc1.data = .fields vs1 ∧ vs1[1]? = some (.str (Str.ofString "_digits2int.<locals>.inner") q1)
theorem intOutM_of {H h g h₀ : Heap} {L L' : Addr} {m' : Str → Option Value} {led' : List (Addr × Obj)} {c1 : Addr} {oc1 : Obj} {vs1 : Array Value} {q1 t : Tok} {x y : Int} (N : News h₀ L H [(37, tabObj #[])]) (HH : Hid H [(37, tabObj #[])] g) (F : Fr g L' h m') (N' : News g L' h led')
    (hT : (37, tabObj #[rawInt 47, rawInt 4, .ref c1]) ∈ led') (hc : (c1, oc1) ∈ led') (hne : @LT.lt Nat _ 37 c1) (hd : oc1.data = .fields vs1) (he : vs1[1]? = some (.str (Str.ofString "_digits2int.<locals>.inner") q1)) (hv : y = x) : IntOutM x H h (.int y t) :=
  ⟨c1, oc1, vs1, q1, t, by rw [hv], staysBut_of N HH F N' (fun p hp h => absurd (by rw [List.mem_singleton.mp hp]) h), N'.get hT, fresh_of HH N' hc ⟨Nat.ne_of_lt hne, True.intro⟩, N'.get hc, hd, he⟩
theorem c_digits2int_first (l : Addr) (vs : List Value) (ns : List Int) (n : Nat) (tn : Tok) (hI : IntsAre vs ns)
    (hlen : n * ns.length < 60) (hlen2 : ns.length < 64) (hn : n < 64) (hpos : 0 < ns.length) (hds : ∀ d ∈ ns, 0 ≤ d ∧ d < 2 ^ n) :
    CCall w p loose mean mg mb [(37, tabObj #[])] 42 80 [.ref l, .int n tn] (fun H => H.IsList l vs.toArray) (IntOutM (dv n ns)) := by
  have hC := IntsAre.carried hI
  unfold CCall
  k_fill
  intro dp un gd cn cs a' ccd cl outer A₀ base h₀ L m s Q E B F X N T C1 C2 hk hd hu hpre hret
  refine wpAny_call ?_
  k_dflt (walk_at "c_enterC")
  intro g' L' h' tk' cells G' F' N' Y' X' T'
  obtain ⟨HH, B', st', l1, l2⟩ := G'
  unfold Runs
  (try dsimp only)
  (try k_lift B')
  k_lt l1
  replace C1 := C1.keeps st'
  replace C2 := C2.keeps st'
  have hl : g'.IsList l vs.toArray := isList_hid hpre HH (by
    intro q hq e
    obtain ⟨o, e2, e3, c, e4⟩ := hpre
    have e5 := (N q hq).1
    rw [show q.1 = l from e, e2] at e5
    cases e5
    rcases List.mem_cons.mp hq with rfl | hq
    · cases e4
    · nomatch hq)
  k_cells Y'
  simp only [List.cons_append, List.nil_append] at N'
  (try k_fold)
  k_steps
  show wpAny _ _ _ _ _ _
  refine led_head (fun f led => ∀ k, D2I w p loose mean mg mb n ns vs l k f led) (by assumption) ?pf ?_
  case pf =>
    have hne := ne_base (by assumption) hl
    intro k
    induction k with
    | zero => exact D2I.zero
    | succ k ih =>
      intro i j ti tj i0 i1 i2 i3
      unfold CCall
      clear hret HH hpre F N B X T B' X' T' C1 C2 hl
      intro dp un gd cn cs a' ccd cl outer A₀ base h₀ L m s Q E B F X N T C1 C2 hk hd hu hpre hret
      refine wpAny_call ?_
      k_dflt (walk_at "c_enterN")
      intro g' L' h' G' F' N' X' T'
      obtain ⟨HH, B', st', l1, l2⟩ := G'
      unfold Runs
      (try dsimp only)
      (try k_lift B')
      k_lt l1
      replace C1 := C1.keeps st'
      replace C2 := C2.keeps st'
      have hl : g'.IsList l vs.toArray := isList_hid hpre HH hne
      (try k_fold)
      k_steps
      · exact hret _ _ _ ⟨stays_of N HH (by assumption) (by assumption) (by walk_at "c_sub"), _, congrArg (fun x => Value.int x _) (dv_one i0 (by assumption) i2)⟩
      · exact hret _ _ _ ⟨stays_of N HH (by assumption) (by assumption) (by walk_at "c_sub"), ktn_int (by refine' dv_mid i0 ?a ?b i2 ?c ?d ?e; (case c => assumption); (case d => assumption); (case e => assumption); (case a => omega); (case b => omega))⟩
  intro key
  replace key := key 64
  k_steps
  rename _ = dv n (cutIJ ns 0 _) => e9
  rw [cut_all] at e9
  refine hret _ _ _ ?_
  refine' intOutM_of ?N ?H ?F ?N' ?hT ?hc ?hne ?hd ?he e9
  (case N => assumption); (case H => assumption); (case F => assumption); (case N' => assumption); (case hT => k_mem); (case hc => k_mem); (case hne => omega); (case hd => assumption); (case he => assumption)
end
end Mine
end
section
open PySem PySem.Spec PySem.Calls PyProof.Rows PySem.W
set_option maxRecDepth 100000
set_option maxHeartbeats 8000000
set_option pp.maxSteps 600
set_option pp.deepTerms false
namespace Mine
local macro_rules | `(tactic| walk_at "c_here") => `(tactic| (refine' Here.mk ?v1 ?v2 ?v3 ?v4 ?v5 ?v6; (case v4 => exact rfl); (case v5 => exact rfl); (case v6 => assumption); (case v1 => k_asm); (case v2 => k_asm); (case v3 => k_asm)))
local macro_rules | `(tactic| walk_at "c_callee") => `(tactic| (refine' callee_base ?u1 ?u2 ?u3 ?u4 ?u5 ?u6 ?u7 ?u8; (case u1 => k_asm); (case u2 => k_asm); (case u3 => k_asm); (case u4 => k_is); (case u5 => k_is); (case u6 => exact rfl); (case u7 => exact rfl); (case u8 => exact rfl)))
local macro_rules | `(tactic| walk_at "c_enter") => `(tactic| (refine' enterK ?p1 ?p2 ?p3 ?p4 ?p5 ?p6 ?p7 ?p8 ?_; (case p1 => walk_at "c_here"); (case p2 => k_asm); (case p3 => k_asm); (case p4 => walk_at "c_callee"); (case p5 => ktr_room); (case p6 => exact BindsTo.of_eq rfl); (case p7 => exact locs rfl); (case p8 => decide); k_whole))
local macro_rules | `(tactic| walk_at "c_enterC") => `(tactic| (refine' enterKC ?p1 ?p2 ?p3 ?p4 ?p5 ?p6 ?p7 ?p8 ?_; (case p1 => walk_at "c_here"); (case p2 => k_asm); (case p3 => k_asm); (case p4 => walk_at "c_callee"); (case p5 => ktr_room); (case p6 => exact rfl); (case p7 => exact rfl); (case p8 => decide); k_whole))
local macro_rules | `(tactic| walk_at "c_enterN") => `(tactic| (refine' enterN ?p1 ?p2 ?p3 ?p4 ?p5 ?p6 ?p7 ?p8 ?p9 ?pa ?pb ?pc ?_; (case p1 => walk_at "c_here"); (case p2 => k_asm); (case p3 => k_asm); (case p4 => k_mem); (case p5 => exact codeRec_news (by k_asm) (by k_mem) (by assumption) (by assumption)); (case p6 => ktr_room); (case p7 => exact BindsTo.of_eq rfl); (case p8 => exact locs rfl); (case p9 => decide); (case pa => exact rfl); (case pb => exact rfl); (case pc => exact rfl); k_whole))
local macro_rules | `(tactic| walk_at "c_sub") => `(tactic| first | exact fun _ h => h | exact List.forall_mem_nil _ | (refine' List.forall_mem_cons.mpr ⟨?c9a, ?c9b⟩; (case c9a => k_mem); (case c9b => walk_at "c_sub")))
local macro_rules | `(tactic| walk_at "c_but") => `(tactic| first | exact List.forall_mem_nil _ | (refine' List.forall_mem_cons.mpr ⟨?c9a, ?c9b⟩; (case c9a => first | (intro c9; exact absurd rfl c9) | (intro c9; k_mem)); (case c9b => walk_at "c_but")))
local macro_rules | `(tactic| walk_at "c_ne") => `(tactic| first | exact True.intro | (simp only [GnNe, and_true]; first | omega | ((repeat' (refine And.intro ?_ ?_)) <;> omega)))
local macro_rules | `(tactic| walk_at "c_int") => `(tactic| (refine' ccall_int ?kC ?k1 ?k2 ?k3 ?k4 ?k5 ?k6 ?k7 ?k8 ?kA ?kK ?kd ?ku ?kp ?_; (case kC => walk_at "c_con"); (case k1 => k_asm); (case k2 => k_asm); (case k3 => k_asm); (case k4 => k_asm); (case k5 => walk_at "c_sub"); (case k6 => k_asm); (case k7 => k_asm); (case k8 => k_asm); (case kA => exact rfl); (case kK => first | exact rfl | assumption); (case kd => ktr_room); (case ku => ktr_units); (case kp => walk_at "c_pre"); intro t9 h9 tk9 F9 N9; (try dsimp only); (try k_fold)))
local macro_rules | `(tactic| walk_at "c_pre") => `(tactic| first | exact True.intro | exact isList_up (by assumption) (by assumption) | fail "c_pre")
variable {w : World} {p : Program} {loose : List Str} {mean : ExcName → Option Value} {mg mb : Str → Option Value}
section
local macro_rules | `(tactic| walk_at "call ref") => `(tactic| (k_here; refine Stop.of ?_))
local macro_rules | `(tactic| walk_at "binaryOp RShift int int") => `(tactic| (k_here; (with_reducible refine rshift_gen ?ra ?rb ?_); (case ra => omega); (case rb => omega); intro y9 hy9 hy8 hy7))
local macro_rules | `(tactic| walk_at "binaryOp RShift int int") => `(tactic| (k_here; (with_reducible refine rshift_half ?_); intro k9 hk9 hk8))
local macro_rules | `(tactic| walk_at "binaryOp BitXor int int") => `(tactic| (k_here; (with_reducible refine' xor_gen ?ra ?rb ?_); (case ra => assumption); (case rb => assumption); intro y9 hy9 hy8 hy7))
local macro_rules | `(tactic| walk_at "binaryOp Mult int int") => `(tactic| (k_here; (with_reducible refine mul_gen ?ma ?mb ?mc ?md ?_); (case ma => omega); (case mb => omega); (case mc => omega); (case md => omega); intro z9 hz9 hz8 hz7))
local macro_rules | `(tactic| walk_at "binaryOp Mult ref int") => `(tactic| (k_here; k_dflt (refine' mul_fill ?F ?N ?m ?a ?b ?_; (case F => k_asm); (case N => k_asm); (case m => k_mem); (case a => omega); (case b => omega)); intro D9 h9 vs9 I9 F9 N9 l9; (try k_lt l9); (try k_sweep)))
local macro_rules | `(tactic| walk_at "call builtin:len") => `(tactic| (k_here; k_dflt (refine' len_ints ?k1 ?k2 ?k3 ?_; (case k1 => is_list); (case k2 => assumption); (case k3 => (simp only [List.length_replicate]; omega)))))
local macro_rules | `(tactic| walk_at "setItem ref int") => `(tactic| (k_here; k_dflt (refine' set_ints ?F ?N ?U ?I ?a ?b ?c ?_; (case F => k_asm); (case N => k_asm); (case U => k_updF); (case I => assumption); (case a => omega); (case b => omega); (case c => omega)); intro h9 vs9 I9 F9 N9; (try dsimp only at N9)))
local macro_rules | `(tactic| walk_at "call ref") => `(tactic| (k_here; k_dflt (refine' I2I.call ?kC ?kF ?kN ?kU ?kI ?kl ?kh ?kB ?kX ?kT ?c1 ?c2 ?kA ?kK ?p0 ?p1 ?p2 ?p3 ?p4 ?p5 ?p6 ?kd ?ku ?_; (case kC => assumption); (case kF => k_asm); (case kN => k_asm); (case kU => k_updF); (case kI => assumption); (case kl => assumption); (case kh => (try dsimp only); walk_at "c_sub"); (case kB => k_asm); (case kX => k_asm); (case kT => k_asm); (case c1 => k_asm); (case c2 => k_asm); (case kA => exact rfl); (case kK => first | exact rfl | assumption); (case p0 => omega); (case p1 => omega); (case p2 => omega); (case p3 => omega); (case p4 => omega); (case p5 => omega); (case p6 => first | assumption | (refine' low_lt2 ?q1 ?q2 ?q3; (case q2 => assumption); (case q3 => assumption); (case q1 => omega)) | (refine' high_lt2 ?q1 ?q2 ?q3 ?q4 ?q5; (case q3 => assumption); (case q5 => assumption); (case q4 => assumption); (case q1 => omega); (case q2 => omega))); (case kd => ktr_room); (case ku => ktr_units); intro h9 tk9 vs9 I9 n9 F9 N9; (try dsimp only at N9); (try dsimp only); (try k_fold))))
/-- the first call: the answer, and the table filled -/
def DigOutM (n : Nat) (x : Int) (H h : Heap) (v : Value) : Prop :=
  ∃ (c2 : Addr) (oc2 : Obj) (vs2 : Array Value) (q2 : Tok) (D : Addr) (vs : List Value) (c : Nat), v = .ref D ∧ StaysBut 30 H h ∧ h.get? 30 = some (tabObj #[rawInt 32, rawInt 4, .ref c2]) ∧ H.get? c2 = none ∧ h.get? c2 = some oc2 ∧ oc2.data = .fields vs2 ∧ vs2[1]? = some (.str (Str.ofString "_int2digits.<locals>.inner") q2) ∧
    H.get? D = none ∧ h.get? D = some (listOf vs.toArray c) ∧ IntsAre vs (dg n (nd x n) x)
theorem digOutM_of {H h g h₀ : Heap} {L L' : Addr} {m' : Str → Option Value} {led' : List (Addr × Obj)} {c2 D : Addr} {oc2 : Obj} {vs2 : Array Value} {q2 : Tok} {vs : List Value} {n c : Nat} {x : Int} (N : News h₀ L H [(30, tabObj #[])]) (HH : Hid H [(30, tabObj #[])] g) (F : Fr g L' h m') (N' : News g L' h led')
    (hT : (30, tabObj #[rawInt 32, rawInt 4, .ref c2]) ∈ led') (hc : (c2, oc2) ∈ led') (hne : @LT.lt Nat _ 30 c2) (hd : oc2.data = .fields vs2) (he : vs2[1]? = some (.str (Str.ofString "_int2digits.<locals>.inner") q2)) (hD : (D, listOf vs.toArray c) ∈ led') (hne2 : @LT.lt Nat _ 30 D) (hI : IntsAre vs (dg n (nd x n) x)) : DigOutM n x H h (.ref D) :=
  ⟨c2, oc2, vs2, q2, D, vs, c, rfl, staysBut_of N HH F N' (fun p hp h => absurd (by rw [List.mem_singleton.mp hp]) h), N'.get hT, fresh_of HH N' hc ⟨Nat.ne_of_lt hne, True.intro⟩, N'.get hc, hd, he, fresh_of HH N' hD ⟨Nat.ne_of_lt hne2, True.intro⟩, N'.get hD, hI⟩
theorem c_int2digits_first (x : Int) (tx : Tok) (n : Nat) (tn : Tok)
    (hn : 0 < n) (hn2 : n ≤ 20) (hx : 0 ≤ x) (hx2 : x < 2 ^ 20) :
    CCall w p loose mean mg mb [(30, tabObj #[])] 35 80 [.int x tx, .int n tn] (fun _ => True) (DigOutM n x) := by
  obtain ⟨nd1, nd2, nd3, nd4, nd5, nd6⟩ := nd_spec hn hn2 hx hx2
  have nd7 : nd x n ≤ 20 := by simp only [nd]; omega
  unfold CCall
  k_fill
  intro dp un gd cn cs a' ccd cl outer A₀ base h₀ L m s Q E B F X N T C1 C2 hk hd hu hpre hret
  refine wpAny_call ?_
  k_dflt (walk_at "c_enterC")
  intro g' L' h' tk' cells G' F' N' Y' X' T'
  obtain ⟨HH, B', st', l1, l2⟩ := G'
  unfold Runs
  (try dsimp only)
  (try k_lift B')
  k_lt l1
  replace C1 := C1.keeps st'
  replace C2 := C2.keeps st'
  k_cells Y'
  simp only [List.cons_append, List.nil_append] at N'
  (try k_fold)
  k_steps
  · show wpAny _ _ _ _ _ _
    refine' led_head2 (fun f D g => ∀ k, I2I w p loose mean mg mb n (nd x n) k f D g) ?hI ?hN ?hD ?hU ?pf ?_
    case hI => assumption
    case hN => assumption
    case hD => k_mem
    case hU => k_dflt k_updF
    case pf =>
      intro k
      induction k with
      | zero => exact I2I.zero
      | succ k ih =>
        intro i j x ti tj tx vs ns c I hlen i0 i1 i2 i3 x0 x1 x2
        unfold CCall
        clear hret HH hpre F N B X T B' X' T' C1 C2
        intro dp un gd cn cs a' ccd cl outer A₀ base h₀ L m s Q E B F X N T C1 C2 hk hd hu hpre hret
        dsimp only at N
        refine wpAny_call ?_
        k_dflt (walk_at "c_enterN")
        intro g' L' h' G' F' N' X' T'
        obtain ⟨HH, B', st', l1, l2⟩ := G'
        unfold Runs
        (try dsimp only)
        (try k_lift B')
        k_lt l1
        replace C1 := C1.keeps st'
        replace C2 := C2.keeps st'
        (try k_fold)
        k_steps
        · exact hret _ _ _ ⟨rfl, staysBut_of N HH (by assumption) (by assumption) (by walk_at "c_but"), _, (by rename IntsAre _ _ => I8; rw [← spl_last i0 (by assumption) (by omega) x0 x2]; exact I8), News.get (by assumption) (by k_mem)⟩
        · exact hret _ _ _ ⟨rfl, staysBut_of N HH (by assumption) (by assumption) (by walk_at "c_but"), _, (by rename IntsAre _ _ => I8; rw [spl_mid i0 (by omega) (by omega) (by omega) x0 (by assumption) (by assumption) (by assumption)] at I8; exact I8), News.get (by assumption) (by k_mem)⟩
    intro key
    replace key := key 64
    have hN : (List.replicate (((Builtin.Int.intBits x : Int) + n - 1).fdiv n).toNat (0 : Int)).length = nd x n := List.length_replicate
    generalize List.replicate (((Builtin.Int.intBits x : Int) + n - 1).fdiv n).toNat (0 : Int) = zs at *
    have nd8 := nd4 (by assumption)
    have nd9 : x < 2 ^ (n * ((zs.length : Int) - 0).toNat) := by rw [Int.sub_zero, Int.toNat_natCast, hN]; exact nd3
    k_steps
    refine hret _ _ _ ?_
    refine' digOutM_of ?N ?H ?F ?N' ?hT ?hc ?hne ?hd ?he ?hD ?hne2 ?hI
    (case N => assumption); (case H => assumption); (case F => assumption); (case N' => assumption); (case hT => k_mem); (case hc => k_mem); (case hne => omega); (case hd => assumption); (case he => assumption); (case hD => k_mem); (case hne2 => omega)
    (case hI =>
      rename IntsAre _ (spl _ _ _ _) => I8
      rw [spl_all (by rw [dg_length, Int.sub_zero, Int.toNat_natCast]), Int.sub_zero, Int.toNat_natCast, hN] at I8
      exact I8)
  · refine hret _ _ _ ?_
    refine' digOutM_of ?zN ?zH ?zF ?zM ?zT ?zc ?zne ?zd ?ze ?zD ?zf ?zI
    (case zN => assumption); (case zH => assumption); (case zF => assumption); (case zM => assumption); (case zT => k_mem); (case zc => k_mem); (case zne => omega); (case zd => assumption); (case ze => assumption); (case zD => k_mem); (case zf => omega)
    (case zI =>
      rename IntsAre _ _ => I8
      have e1 := nd5 (by assumption)
      have e2 : (((Builtin.Int.intBits x : Int) + n - 1).fdiv n).toNat = 0 := e1
      rw [e2] at I8
      rw [e1]
      exact I8)
end
end Mine
end
section
open PySem PySem.Spec PySem.Calls PyProof.Rows PySem.W
set_option maxRecDepth 100000
set_option maxHeartbeats 8000000
set_option pp.maxSteps 600
set_option pp.deepTerms false
namespace Mine
local macro_rules | `(tactic| walk_at "c_here") => `(tactic| (refine' Here.mk ?v1 ?v2 ?v3 ?v4 ?v5 ?v6; (case v4 => exact rfl); (case v5 => exact rfl); (case v6 => assumption); (case v1 => k_asm); (case v2 => k_asm); (case v3 => k_asm)))
local macro_rules | `(tactic| walk_at "c_callee") => `(tactic| (refine' callee_base ?u1 ?u2 ?u3 ?u4 ?u5 ?u6 ?u7 ?u8; (case u1 => k_asm); (case u2 => k_asm); (case u3 => k_asm); (case u4 => k_is); (case u5 => k_is); (case u6 => exact rfl); (case u7 => exact rfl); (case u8 => exact rfl)))
local macro_rules | `(tactic| walk_at "c_enter") => `(tactic| (refine' enterK ?p1 ?p2 ?p3 ?p4 ?p5 ?p6 ?p7 ?p8 ?_; (case p1 => walk_at "c_here"); (case p2 => k_asm); (case p3 => k_asm); (case p4 => walk_at "c_callee"); (case p5 => ktr_room); (case p6 => exact BindsTo.of_eq rfl); (case p7 => exact locs rfl); (case p8 => decide); k_whole))
local macro_rules | `(tactic| walk_at "c_enterC") => `(tactic| (refine' enterKC ?p1 ?p2 ?p3 ?p4 ?p5 ?p6 ?p7 ?p8 ?_; (case p1 => walk_at "c_here"); (case p2 => k_asm); (case p3 => k_asm); (case p4 => walk_at "c_callee"); (case p5 => ktr_room); (case p6 => exact rfl); (case p7 => exact rfl); (case p8 => decide); k_whole))
local macro_rules | `(tactic| walk_at "c_enterN") => `(tactic| (refine' enterN ?p1 ?p2 ?p3 ?p4 ?p5 ?p6 ?p7 ?p8 ?p9 ?pa ?pb ?pc ?_; (case p1 => walk_at "c_here"); (case p2 => k_asm); (case p3 => k_asm); (case p4 => k_mem); (case p5 => exact codeRec_news (by k_asm) (by k_mem) (by assumption) (by assumption)); (case p6 => ktr_room); (case p7 => exact BindsTo.of_eq rfl); (case p8 => exact locs rfl); (case p9 => decide); (case pa => exact rfl); (case pb => exact rfl); (case pc => exact rfl); k_whole))
local macro_rules | `(tactic| walk_at "c_sub") => `(tactic| first | exact fun _ h => h | exact List.forall_mem_nil _ | (refine' List.forall_mem_cons.mpr ⟨?c9a, ?c9b⟩; (case c9a => k_mem); (case c9b => walk_at "c_sub")))
local macro_rules | `(tactic| walk_at "c_but") => `(tactic| first | exact List.forall_mem_nil _ | (refine' List.forall_mem_cons.mpr ⟨?c9a, ?c9b⟩; (case c9a => first | (intro c9; exact absurd rfl c9) | (intro c9; k_mem)); (case c9b => walk_at "c_but")))
local macro_rules | `(tactic| walk_at "c_ne") => `(tactic| first | exact True.intro | (simp only [GnNe, and_true]; first | omega | ((repeat' (refine And.intro ?_ ?_)) <;> omega)))
local macro_rules | `(tactic| walk_at "c_int") => `(tactic| (refine' ccall_int ?kC ?k1 ?k2 ?k3 ?k4 ?k5 ?k6 ?k7 ?k8 ?kA ?kK ?kd ?ku ?kp ?_; (case kC => walk_at "c_con"); (case k1 => k_asm); (case k2 => k_asm); (case k3 => k_asm); (case k4 => k_asm); (case k5 => walk_at "c_sub"); (case k6 => k_asm); (case k7 => k_asm); (case k8 => k_asm); (case kA => exact rfl); (case kK => first | exact rfl | assumption); (case kd => ktr_room); (case ku => ktr_units); (case kp => walk_at "c_pre"); intro t9 h9 tk9 F9 N9; (try dsimp only); (try k_fold)))
local macro_rules | `(tactic| walk_at "c_pre") => `(tactic| first | exact True.intro | exact isList_up (by assumption) (by assumption) | fail "c_pre")
variable {w : World} {p : Program} {loose : List Str} {mean : ExcName → Option Value} {mg mb : Str → Option Value}
section
variable {led news : List (Addr × Obj)} {f : Addr} {sz : Nat} {vs : List Value} {Pre : Heap → Prop}
  {dp un : Nat} {gd : Option (List Code)} {cn : Str} {cs : Scope} {a : Addr} {ccd : Value} {cl : List (Str × Addr)} {outer : List Env} {A₀ : Around} {base h₀ : Heap} {L : Addr} {m : Str → Option Value} {s : Shared} {Q E : Value → Shared → Prop} {A : Around}
theorem ccall_dig {x : Int} {n : Nat} (C : CCall w p loose mean mg mb led f sz vs Pre (DigOut n x)) (B : Below A₀ base outer h₀) (F : Fr h₀ L s.heap m) (X : (Mine.hd.heap_39 w.params).In h₀) (N : News h₀ L s.heap news) (hsub : ∀ q ∈ led, q ∈ news)
    (T : Top p loose mean mg mb h₀) (C1 : CodeHd h₀ 41 37) (C2 : CodeHd h₀ 34 30) (hA : A = ktrTop dp un gd cn cs L a ccd cl outer) (hk : cs.kind = .function) (hd : dp + sz < recursionLimit) (hu : un + 8 * sz < cLine) (hpre : Pre s.heap)
    (ret : ∀ D vs c h' tk', IntsAre vs (dg n (nd x n) x) → Fr h₀ L h' m → News h₀ L h' ((D, listOf vs.toArray c) :: news) → GnNe D news → Q (.ref D) { s with heap := h', toks := tk' }) : wpAny (model PySem.Challenge.rw_zz0004_01.row.prog w) A (call (.ref f) vs) Q E s :=
  ccall_use C B F X N hsub T C1 C2 hA hk hd hu hpre fun v h' tk' ho => by
    obtain ⟨st, D, vs', c, rfl, hn, hD, hI⟩ := ho
    exact ret D vs' c h' tk' hI (fr_after F st) (news_new F N st hn hD) (gnNe_of (news_ne N hn))
end
/-- both tables filled -/
abbrev tabs4 (c1 : Addr) (oc1 : Obj) (c2 : Addr) (oc2 : Obj) : List (Addr × Obj) := [(37, tabObj #[rawInt 47, rawInt 4, .ref c1]), (c1, oc1), (30, tabObj #[rawInt 32, rawInt 4, .ref c2]), (c2, oc2)]
section
local macro_rules | `(tactic| walk_at "UnrEnd") => `(tactic| (refine Stop.of ?_))
local macro_rules | `(tactic| walk_at "binaryOp LShift int int") => `(tactic| (k_here; (with_reducible refine lshift_n ?la ?lb ?_); (case la => omega); (case lb => omega)))
local macro_rules | `(tactic| walk_at "call builtin:list.append") => `(tactic| (k_here; k_dflt (refine' append_ints ?F ?N ?U ?I ?b ?_; (case F => k_asm); (case N => k_asm); (case U => k_updF); (case I => assumption); (case b => omega)); intro h9 vs9 I9 F9 N9; (try dsimp only at N9)))
local macro_rules | `(tactic| walk_at "call builtin:list.reverse") => `(tactic| (k_here; k_dflt (refine' reverse_ints ?F ?N ?U ?I ?b ?_; (case F => k_asm); (case N => k_asm); (case U => k_updF); (case I => assumption); (case b => omega)); intro h9 vs9 I9 F9 N9; (try dsimp only at N9)))
local macro_rules | `(tactic| walk_at "call ref") => `(tactic| (k_here; k_dflt (refine' ccall_int (c_digits2int _ _ _ _ _ _ _ _ _ ?h1 ?h2 ?h3 ?h4 ?h5 ?h6 ?h7 ?h8) ?k1 ?k2 ?k3 ?k4 ?k5 ?k6 ?k7 ?k8 ?kA ?kK ?kd ?ku ?kp ?_; (case h3 => assumption); (case h2 => assumption); (case h1 => assumption); (case h4 => (simp only [List.length_reverse]; assumption)); (case h5 => (simp only [List.length_reverse]; omega)); (case h6 => omega); (case h7 => (simp only [List.length_reverse]; omega)); (case h8 => assumption); (case k1 => k_asm); (case k2 => k_asm); (case k3 => k_asm); (case k4 => k_asm); (case k5 => walk_at "c_sub"); (case k6 => k_asm); (case k7 => k_asm); (case k8 => k_asm); (case kA => exact rfl); (case kK => first | exact rfl | assumption); (case kd => ktr_room); (case ku => ktr_units); (case kp => is_list); intro t9 h9 tk9 F9 N9; (try dsimp only); (try k_fold))))
local macro_rules | `(tactic| walk_at "call ref") => `(tactic| (k_here; k_dflt (refine' ccall_pair (c_div2n1n _ _ _ _ _ _ ?h1 ?h2 ?h3 ?h4 ?h5) ?k1 ?k2 ?k3 ?k4 ?k5 ?k6 ?k7 ?k8 ?kA ?kK ?kd ?ku ?kp ?_; (case h1 => omega); (case h2 => omega); (case h3 => omega); (case h4 => omega); (case h5 => omega); (case k1 => k_asm); (case k2 => k_asm); (case k3 => k_asm); (case k4 => k_asm); (case k5 => walk_at "c_sub"); (case k6 => k_asm); (case k7 => k_asm); (case k8 => k_asm); (case kA => exact rfl); (case kK => first | exact rfl | assumption); (case kd => ktr_room); (case ku => ktr_units); (case kp => exact True.intro); intro D9 t8 t9 c9 h9 tk9 F9 N9 l9; (simp only [GnNe, and_true] at l9); (try dsimp only); (try k_fold))))
local macro_rules | `(tactic| walk_at "call ref") => `(tactic| (k_here; k_dflt (refine' ccall_dig (c_int2digits _ _ _ _ _ _ _ _ ?h1 ?h2 ?h3 ?h4 ?h5 ?h6) ?k1 ?k2 ?k3 ?k4 ?k5 ?k6 ?k7 ?k8 ?kA ?kK ?kd ?ku ?kp ?_; (case h2 => assumption); (case h1 => assumption); (case h3 => omega); (case h4 => omega); (case h5 => omega); (case h6 => omega); (case k1 => k_asm); (case k2 => k_asm); (case k3 => k_asm); (case k4 => k_asm); (case k5 => walk_at "c_sub"); (case k6 => k_asm); (case k7 => k_asm); (case k8 => k_asm); (case kA => exact rfl); (case kK => first | exact rfl | assumption); (case kd => ktr_room); (case ku => ktr_units); (case kp => exact True.intro); intro D9 vs9 c9 h9 tk9 I9 F9 N9 l9; (simp only [GnNe, and_true] at l9); (try dsimp only); (try k_fold))))
theorem c_divmod_pos (c1 c2 : Addr) (oc1 oc2 : Obj) (vs1 vs2 : Array Value) (q1 q2 : Tok) (hd1 : oc1.data = .fields vs1) (he1 : vs1[1]? = some (.str (Str.ofString "_digits2int.<locals>.inner") q1)) (hd2 : oc2.data = .fields vs2) (he2 : vs2[1]? = some (.str (Str.ofString "_int2digits.<locals>.inner") q2))
    (x b : Int) (tx tb : Tok) (hx : 1 ≤ x) (hx2 : x < 2 ^ 20) (hb : 1 ≤ b) (hb2 : b < 1000) :
    CCall w p loose mean mg mb (tabs4 c1 oc1 c2 oc2) 49 90 [.int x tx, .int b tb] (fun _ => True) (PairOut (x / b) (x % b)) := by
  have hn0 : 0 < Builtin.Int.intBits b := by
    rcases Nat.eq_zero_or_pos (Builtin.Int.intBits b) with h | h
    · have := intBits_le_iff.mp (Nat.le_of_eq h); omega
    · exact h
  have hn1 : Builtin.Int.intBits b ≤ 10 := intBits_le_iff.mpr (by omega)
  have hbn : b < 2 ^ Builtin.Int.intBits b := by
    have h := intBits_le_iff.mp (Nat.le_refl (Builtin.Int.intBits b))
    have h2 : ((b.natAbs : Nat) : Int) < ((2 ^ Builtin.Int.intBits b : Nat) : Int) := Int.ofNat_lt.mpr h
    rw [Int.natCast_pow] at h2
    have h3 : (b.natAbs : Int) = b := by omega
    rw [h3] at h2
    exact h2
  have hp10 : (2 : Int) ^ Builtin.Int.intBits b ≤ 1024 := by exact_mod_cast Nat.pow_le_pow_right (show 0 < 2 by decide) hn1
  unfold CCall
  k_fill
  intro dp un gd cn cs a' ccd cl outer A₀ base h₀ L m s Q E B F X N T C1 C2 hk hd hu hpre hret
  refine wpAny_call ?_
  k_dflt (walk_at "c_enter")
  intro g' L' h' G' F' N' X' T'
  obtain ⟨HH, B', st', l1, l2⟩ := G'
  unfold Runs
  (try dsimp only)
  (try k_lift B')
  k_lt l1
  replace C1 := C1.keeps st'
  replace C2 := C2.keeps st'
  (try k_fold)
  obtain ⟨nd1, nd2, nd3, nd4, nd5, nd6⟩ := nd_spec hn0 (by omega) (by omega) hx2
  have nd7 : nd x (Builtin.Int.intBits b) ≤ 20 := by simp only [nd]; omega
  have nd8 := nd4 (by omega)
  k_steps
  refine' rev_loop (fun l Dp led ns m news => ∃ (qs : List Int) (vsq : List Value) (cq : Nat) (r : Int) (tr tn tb : Tok), IntsAre vsq qs ∧ DJ (Builtin.Int.intBits b) b x ns qs r ∧ qs.length + ns.length = nd x (Builtin.Int.intBits b) ∧
      m (Str.ofString "b") = some (.int b tb) ∧ m (Str.ofString "n") = some (.int (Builtin.Int.intBits b) tn) ∧ m (Str.ofString "r") = some (.int r tr) ∧ m (Str.ofString "q_digits") = some (.ref l) ∧ news = (l, listOf vsq.toArray cq) :: Dp :: led) ?hI ?hh ?F ?N ?hc ?hd ?hne ?init ?turn ?done
  case hI => assumption
  case hh => exact rfl
  case F => k_asm
  case N => k_asm
  case hc => exact rfl
  case hd => exact rfl
  case hne => simp only [tabs4, GnNe, and_true]; omega
  case init => exact ⟨[], [], _, 0, _, _, _, .nil, DJ.init (by omega) (by omega) nd3, by simp [dg_length], rfl, rfl, rfl, rfl, rfl⟩
  case turn =>
    rintro hne d t rest m news ⟨qs, vsq, cq, r, tr, tn, tb, Iq, dj, hlen, mb_, mn, mr, mq, rfl⟩ it h tk hc F N
    obtain ⟨v0, v1, dj'⟩ := dj.step hbn
    have r0 := dj.1
    have r1 := dj.2.1
    have v2 : r * 2 ^ Builtin.Int.intBits b + d < 2 ^ 20 := by
      have h1 : (2 : Int) ^ Builtin.Int.intBits b * 2 ^ Builtin.Int.intBits b ≤ 1024 * 1024 := Int.mul_le_mul hp10 hp10 (Int.le_of_lt (Int.pow_pos (by decide))) (by decide)
      omega
    rw [List.length_cons] at hlen
    replace F := fr_kst1 (ps := [(Str.ofString "b", .int b tb), (Str.ofString "n", .int (Builtin.Int.intBits b) tn), (Str.ofString "r", .int r tr), (Str.ofString "q_digits", .ref _)]) F (by
      intro q hq
      simp only [List.mem_cons, List.not_mem_nil, or_false] at hq
      rcases hq with rfl | rfl | rfl | rfl <;> assumption)
    k_steps
    show UnrEnd _ _ _ _ _ _ _
    exact unr_close (by assumption) (by assumption) (by k_mem) (by k_mem) (by k_mem) (by walk_at "c_sub") hne ⟨by k_mem, _, _, _, _, _, _, _, by assumption, dj', by simp; omega, rfl, rfl, rfl, rfl, rfl⟩
  case done =>
    rintro m news ⟨qs, vsq, cq, r, tr, tn, tb, Iq, dj, hlen, mb_, mn, mr, mq, rfl⟩ h tk F N
    replace F := fr_kst (ps := [(Str.ofString "b", .int b tb), (Str.ofString "n", .int (Builtin.Int.intBits b) tn), (Str.ofString "r", .int r tr), (Str.ofString "q_digits", .ref _)]) F (by
      intro q hq
      simp only [List.mem_cons, List.not_mem_nil, or_false] at hq
      rcases hq with rfl | rfl | rfl | rfl <;> assumption)
    obtain ⟨e1, e2⟩ := dj.fin
    rw [← e1, ← e2] at hret
    have hql : qs.length = nd x (Builtin.Int.intBits b) := by simpa using hlen
    have hqn : Builtin.Int.intBits b * qs.length < 60 := by rw [hql]; exact nd6
    have hqd : ∀ d ∈ qs.reverse, 0 ≤ d ∧ d < 2 ^ Builtin.Int.intBits b := fun d hd => dj.2.2.1 d (List.mem_reverse.mp hd)
    k_steps
    exact hret _ _ _ ⟨stays_of (by assumption) HH (by assumption) (by assumption) (by walk_at "c_sub"), _, _, _, _, rfl, fresh_of HH (by assumption) (List.Mem.head _) (by walk_at "c_ne"), News.get (by assumption) (List.Mem.head _)⟩
end
end Mine
end
section
open PySem PySem.Spec PySem.Calls PyProof.Rows PySem.W
set_option maxRecDepth 100000
set_option maxHeartbeats 8000000
set_option pp.maxSteps 600
set_option pp.deepTerms false
namespace Mine
local macro_rules | `(tactic| walk_at "c_here") => `(tactic| (refine' Here.mk ?v1 ?v2 ?v3 ?v4 ?v5 ?v6; (case v4 => exact rfl); (case v5 => exact rfl); (case v6 => assumption); (case v1 => k_asm); (case v2 => k_asm); (case v3 => k_asm)))
local macro_rules | `(tactic| walk_at "c_callee") => `(tactic| (refine' callee_base ?u1 ?u2 ?u3 ?u4 ?u5 ?u6 ?u7 ?u8; (case u1 => k_asm); (case u2 => k_asm); (case u3 => k_asm); (case u4 => k_is); (case u5 => k_is); (case u6 => exact rfl); (case u7 => exact rfl); (case u8 => exact rfl)))
local macro_rules | `(tactic| walk_at "c_enter") => `(tactic| (refine' enterK ?p1 ?p2 ?p3 ?p4 ?p5 ?p6 ?p7 ?p8 ?_; (case p1 => walk_at "c_here"); (case p2 => k_asm); (case p3 => k_asm); (case p4 => walk_at "c_callee"); (case p5 => ktr_room); (case p6 => exact BindsTo.of_eq rfl); (case p7 => exact locs rfl); (case p8 => decide); k_whole))
local macro_rules | `(tactic| walk_at "c_enterC") => `(tactic| (refine' enterKC ?p1 ?p2 ?p3 ?p4 ?p5 ?p6 ?p7 ?p8 ?_; (case p1 => walk_at "c_here"); (case p2 => k_asm); (case p3 => k_asm); (case p4 => walk_at "c_callee"); (case p5 => ktr_room); (case p6 => exact rfl); (case p7 => exact rfl); (case p8 => decide); k_whole))
local macro_rules | `(tactic| walk_at "c_enterN") => `(tactic| (refine' enterN ?p1 ?p2 ?p3 ?p4 ?p5 ?p6 ?p7 ?p8 ?p9 ?pa ?pb ?pc ?_; (case p1 => walk_at "c_here"); (case p2 => k_asm); (case p3 => k_asm); (case p4 => k_mem); (case p5 => exact codeRec_news (by k_asm) (by k_mem) (by assumption) (by assumption)); (case p6 => ktr_room); (case p7 => exact BindsTo.of_eq rfl); (case p8 => exact locs rfl); (case p9 => decide); (case pa => exact rfl); (case pb => exact rfl); (case pc => exact rfl); k_whole))
local macro_rules | `(tactic| walk_at "c_sub") => `(tactic| first | exact fun _ h => h | exact List.forall_mem_nil _ | (refine' List.forall_mem_cons.mpr ⟨?c9a, ?c9b⟩; (case c9a => k_mem); (case c9b => walk_at "c_sub")))
local macro_rules | `(tactic| walk_at "c_but") => `(tactic| first | exact List.forall_mem_nil _ | (refine' List.forall_mem_cons.mpr ⟨?c9a, ?c9b⟩; (case c9a => first | (intro c9; exact absurd rfl c9) | (intro c9; k_mem)); (case c9b => walk_at "c_but")))
local macro_rules | `(tactic| walk_at "c_ne") => `(tactic| first | exact True.intro | (simp only [GnNe, and_true]; first | omega | ((repeat' (refine And.intro ?_ ?_)) <;> omega)))
local macro_rules | `(tactic| walk_at "c_int") => `(tactic| (refine' ccall_int ?kC ?k1 ?k2 ?k3 ?k4 ?k5 ?k6 ?k7 ?k8 ?kA ?kK ?kd ?ku ?kp ?_; (case kC => walk_at "c_con"); (case k1 => k_asm); (case k2 => k_asm); (case k3 => k_asm); (case k4 => k_asm); (case k5 => walk_at "c_sub"); (case k6 => k_asm); (case k7 => k_asm); (case k8 => k_asm); (case kA => exact rfl); (case kK => first | exact rfl | assumption); (case kd => ktr_room); (case ku => ktr_units); (case kp => walk_at "c_pre"); intro t9 h9 tk9 F9 N9; (try dsimp only); (try k_fold)))
local macro_rules | `(tactic| walk_at "c_pre") => `(tactic| first | exact True.intro | exact isList_up (by assumption) (by assumption) | fail "c_pre")
variable {w : World} {p : Program} {loose : List Str} {mean : ExcName → Option Value} {mg mb : Str → Option Value}
section
local macro_rules | `(tactic| walk_at "call ref") => `(tactic| (k_here; k_dflt (refine' ccall_pair (c_divmod_pos _ _ _ _ _ _ _ _ ?h1 ?h2 ?h3 ?h4 _ _ _ _ ?h5 ?h6 ?h7 ?h8) ?k1 ?k2 ?k3 ?k4 ?k5 ?k6 ?k7 ?k8 ?kA ?kK ?kd ?ku ?kp ?_; (case h2 => assumption); (case h1 => assumption); (case h4 => assumption); (case h3 => assumption); (case h5 => omega); (case h6 => omega); (case h7 => omega); (case h8 => omega); (case k1 => k_asm); (case k2 => k_asm); (case k3 => k_asm); (case k4 => k_asm); (case k5 => walk_at "c_sub"); (case k6 => k_asm); (case k7 => k_asm); (case k8 => k_asm); (case kA => exact rfl); (case kK => first | exact rfl | assumption); (case kd => ktr_room); (case ku => ktr_units); (case kp => exact True.intro); intro D9 t8 t9 c9 h9 tk9 F9 N9 l9; (simp only [GnNe, and_true] at l9); (try dsimp only); (try k_fold))))
theorem c_int_divmod (c1 c2 : Addr) (oc1 oc2 : Obj) (vs1 vs2 : Array Value) (q1 q2 : Tok) (hd1 : oc1.data = .fields vs1) (he1 : vs1[1]? = some (.str (Str.ofString "_digits2int.<locals>.inner") q1)) (hd2 : oc2.data = .fields vs2) (he2 : vs2[1]? = some (.str (Str.ofString "_int2digits.<locals>.inner") q2))
    (x b : Int) (tx tb : Tok) (hx : 1 ≤ x) (hx2 : x < 2 ^ 20) (hb : 1 ≤ b) (hb2 : b < 1000) :
    CCall w p loose mean mg mb (tabs4 c1 oc1 c2 oc2) 56 100 [.int x tx, .int b tb] (fun _ => True) (PairOut (x / b) (x % b)) := by
  unfold CCall
  k_fill
  intro dp un gd cn cs a' ccd cl outer A₀ base h₀ L m s Q E B F X N T C1 C2 hk hd hu hpre hret
  refine wpAny_call ?_
  k_dflt (walk_at "c_enter")
  intro g' L' h' G' F' N' X' T'
  obtain ⟨HH, B', st', l1, l2⟩ := G'
  unfold Runs
  (try dsimp only)
  (try k_lift B')
  k_lt l1
  replace C1 := C1.keeps st'
  replace C2 := C2.keeps st'
  (try k_fold)
  k_steps
  all_goals first | (exfalso; omega) | skip
  exact hret _ _ _ ⟨stays_of N HH (by assumption) (by assumption) (by walk_at "c_sub"), _, _, _, _, rfl, fresh_of HH (by assumption) (List.Mem.head _) (by simp only [GnNe, and_true]; omega), News.get (by assumption) (List.Mem.head _)⟩
end
end Mine
end
section
open PySem PySem.Spec PySem.Calls PyProof.Rows PySem.W
set_option maxRecDepth 100000
set_option maxHeartbeats 8000000
set_option pp.maxSteps 600
set_option pp.deepTerms false
namespace Mine
local macro_rules | `(tactic| walk_at "c_here") => `(tactic| (refine' Here.mk ?v1 ?v2 ?v3 ?v4 ?v5 ?v6; (case v4 => exact rfl); (case v5 => exact rfl); (case v6 => assumption); (case v1 => k_asm); (case v2 => k_asm); (case v3 => k_asm)))
local macro_rules | `(tactic| walk_at "c_callee") => `(tactic| (refine' callee_base ?u1 ?u2 ?u3 ?u4 ?u5 ?u6 ?u7 ?u8; (case u1 => k_asm); (case u2 => k_asm); (case u3 => k_asm); (case u4 => k_is); (case u5 => k_is); (case u6 => exact rfl); (case u7 => exact rfl); (case u8 => exact rfl)))
local macro_rules | `(tactic| walk_at "c_enter") => `(tactic| (refine' enterK ?p1 ?p2 ?p3 ?p4 ?p5 ?p6 ?p7 ?p8 ?_; (case p1 => walk_at "c_here"); (case p2 => k_asm); (case p3 => k_asm); (case p4 => walk_at "c_callee"); (case p5 => ktr_room); (case p6 => exact BindsTo.of_eq rfl); (case p7 => exact locs rfl); (case p8 => decide); k_whole))
local macro_rules | `(tactic| walk_at "c_enterC") => `(tactic| (refine' enterKC ?p1 ?p2 ?p3 ?p4 ?p5 ?p6 ?p7 ?p8 ?_; (case p1 => walk_at "c_here"); (case p2 => k_asm); (case p3 => k_asm); (case p4 => walk_at "c_callee"); (case p5 => ktr_room); (case p6 => exact rfl); (case p7 => exact rfl); (case p8 => decide); k_whole))
local macro_rules | `(tactic| walk_at "c_enterN") => `(tactic| (refine' enterN ?p1 ?p2 ?p3 ?p4 ?p5 ?p6 ?p7 ?p8 ?p9 ?pa ?pb ?pc ?_; (case p1 => walk_at "c_here"); (case p2 => k_asm); (case p3 => k_asm); (case p4 => k_mem); (case p5 => exact codeRec_news (by k_asm) (by k_mem) (by assumption) (by assumption)); (case p6 => ktr_room); (case p7 => exact BindsTo.of_eq rfl); (case p8 => exact locs rfl); (case p9 => decide); (case pa => exact rfl); (case pb => exact rfl); (case pc => exact rfl); k_whole))
local macro_rules | `(tactic| walk_at "c_sub") => `(tactic| first | exact fun _ h => h | exact List.forall_mem_nil _ | (refine' List.forall_mem_cons.mpr ⟨?c9a, ?c9b⟩; (case c9a => k_mem); (case c9b => walk_at "c_sub")))
local macro_rules | `(tactic| walk_at "c_but") => `(tactic| first | exact List.forall_mem_nil _ | (refine' List.forall_mem_cons.mpr ⟨?c9a, ?c9b⟩; (case c9a => first | (intro c9; exact absurd rfl c9) | (intro c9; k_mem)); (case c9b => walk_at "c_but")))
local macro_rules | `(tactic| walk_at "c_ne") => `(tactic| first | exact True.intro | (simp only [GnNe, and_true]; first | omega | ((repeat' (refine And.intro ?_ ?_)) <;> omega)))
local macro_rules | `(tactic| walk_at "c_int") => `(tactic| (refine' ccall_int ?kC ?k1 ?k2 ?k3 ?k4 ?k5 ?k6 ?k7 ?k8 ?kA ?kK ?kd ?ku ?kp ?_; (case kC => walk_at "c_con"); (case k1 => k_asm); (case k2 => k_asm); (case k3 => k_asm); (case k4 => k_asm); (case k5 => walk_at "c_sub"); (case k6 => k_asm); (case k7 => k_asm); (case k8 => k_asm); (case kA => exact rfl); (case kK => first | exact rfl | assumption); (case kd => ktr_room); (case ku => ktr_units); (case kp => walk_at "c_pre"); intro t9 h9 tk9 F9 N9; (try dsimp only); (try k_fold)))
local macro_rules | `(tactic| walk_at "c_pre") => `(tactic| first | exact True.intro | exact isList_up (by assumption) (by assumption) | fail "c_pre")
variable {w : World} {p : Program} {loose : List Str} {mean : ExcName → Option Value} {mg mb : Str → Option Value}
def tup5 (a b c e : Int) (t1 t2 t3 t4 : Tok) (d : Addr) (n : Nat) : Obj := { cls := .type "tuple", data := .seq #[.int a t1, .int b t2, .int c t3, .int e t4, .ref d] n }
def DictNil (w : World) (d : Addr) (od : Obj) : Prop := (d == sysModules) = false ∧ Obj.IsDictOf (PySem.strKind PySem.Challenge.rw_zz0004_01.row.prog w) od [] ∧ Obj.IsDictOf (intKind PySem.Challenge.rw_zz0004_01.row.prog w) od []
def DictOut (w : World) (H h : Heap) (v : Value) : Prop := H.StaysIn h ∧ ∃ (D : Addr) (o : Obj), v = .ref D ∧ H.get? D = none ∧ h.get? D = some o ∧ DictNil w D o
section
theorem c_add_callers (d1 d2 : Addr) (o1 o2 : Obj) (k1 : DictNil w d1 o1) (k2 : DictNil w d2 o2) :
    CCall w p loose mean mg mb [(d1, o1), (d2, o2)] 70 10 [.ref d1, .ref d2] (fun _ => True) (DictOut w) := by
  obtain ⟨k11, k12, k13⟩ := k1
  obtain ⟨k21, k22, k23⟩ := k2
  have fs : PyProof.V.FlatPairs PyData.str [] [] := by constructor
  have fi : PyProof.V.FlatPairs PyData.int [] [] := by constructor
  unfold CCall
  k_fill
  intro dp un gd cn cs a' ccd cl outer A₀ base h₀ L m s Q E B F X N T C1 C2 hk hd hu hpre hret
  refine wpAny_call ?_
  k_dflt (walk_at "c_enter")
  intro g' L' h' G' F' N' X' T'
  obtain ⟨HH, B', st', l1, l2⟩ := G'
  unfold Runs
  (try dsimp only)
  (try k_lift B')
  k_lt l1
  replace C1 := C1.keeps st'
  replace C2 := C2.keeps st'
  (try k_fold)
  k_steps
  exact hret _ _ _ ⟨stays_of N HH (by assumption) (by assumption) (by walk_at "c_sub"), _, _, rfl, fresh_of HH (by assumption) (List.Mem.head _) (by simp only [GnNe, and_true]; omega), News.get (by assumption) (List.Mem.head _), by assumption, by assumption, by assumption⟩
end
/-- the answer is a new row of five, with a new empty dict -/
def Row5Out (w : World) (x y : Int) (H h : Heap) (v : Value) : Prop :=
  H.StaysIn h ∧ ∃ (D d : Addr) (od : Obj) (tt ct : Int) (t1 t2 t3 t4 : Tok) (n : Nat), v = .ref D ∧ H.get? D = none ∧ H.get? d = none ∧ h.get? D = some (tup5 x y tt ct t1 t2 t3 t4 d n) ∧ h.get? d = some od ∧ DictNil w d od
section
variable {led news : List (Addr × Obj)} {f : Addr} {sz : Nat} {vs : List Value} {Pre : Heap → Prop}
  {dp un : Nat} {gd : Option (List Code)} {cn : Str} {cs : Scope} {a : Addr} {ccd : Value} {cl : List (Str × Addr)} {outer : List Env} {A₀ : Around} {base h₀ : Heap} {L : Addr} {m : Str → Option Value} {s : Shared} {Q E : Value → Shared → Prop} {A : Around}
theorem ccall_dict (C : CCall w p loose mean mg mb led f sz vs Pre (DictOut w)) (B : Below A₀ base outer h₀) (F : Fr h₀ L s.heap m) (X : (Mine.hd.heap_39 w.params).In h₀) (N : News h₀ L s.heap news) (hsub : ∀ q ∈ led, q ∈ news)
    (T : Top p loose mean mg mb h₀) (C1 : CodeHd h₀ 41 37) (C2 : CodeHd h₀ 34 30) (hA : A = ktrTop dp un gd cn cs L a ccd cl outer) (hk : cs.kind = .function) (hd : dp + sz < recursionLimit) (hu : un + 8 * sz < cLine) (hpre : Pre s.heap)
    (ret : ∀ D o h' tk', DictNil w D o → Fr h₀ L h' m → News h₀ L h' ((D, o) :: news) → GnNe D news → Q (.ref D) { s with heap := h', toks := tk' }) : wpAny (model PySem.Challenge.rw_zz0004_01.row.prog w) A (call (.ref f) vs) Q E s :=
  ccall_use C B F X N hsub T C1 C2 hA hk hd hu hpre fun v h' tk' ho => by
    obtain ⟨st, D, o, rfl, hn, hD, hI⟩ := ho
    exact ret D o h' tk' hI (fr_after F st) (news_new F N st hn hD) (gnNe_of (news_ne N hn))
theorem ccall_row5 {x y : Int} (C : CCall w p loose mean mg mb led f sz vs Pre (Row5Out w x y)) (B : Below A₀ base outer h₀) (F : Fr h₀ L s.heap m) (X : (Mine.hd.heap_39 w.params).In h₀) (N : News h₀ L s.heap news) (hsub : ∀ q ∈ led, q ∈ news)
    (T : Top p loose mean mg mb h₀) (C1 : CodeHd h₀ 41 37) (C2 : CodeHd h₀ 34 30) (hA : A = ktrTop dp un gd cn cs L a ccd cl outer) (hk : cs.kind = .function) (hd : dp + sz < recursionLimit) (hu : un + 8 * sz < cLine) (hpre : Pre s.heap)
    (ret : ∀ D d od tt ct t1 t2 t3 t4 n h' tk', DictNil w d od → Fr h₀ L h' m → News h₀ L h' ((D, tup5 x y tt ct t1 t2 t3 t4 d n) :: (d, od) :: news) → GnNe D news → GnNe d news → Q (.ref D) { s with heap := h', toks := tk' }) : wpAny (model PySem.Challenge.rw_zz0004_01.row.prog w) A (call (.ref f) vs) Q E s :=
  ccall_use C B F X N hsub T C1 C2 hA hk hd hu hpre fun v h' tk' ho => by
    obtain ⟨st, D, d, od, tt, ct, t1, t2, t3, t4, n, rfl, hn, hn2, hD, hd2, hI⟩ := ho
    refine ret D d od tt ct t1 t2 t3 t4 n h' tk' hI (fr_after F st) (fun q hq => ?_) (gnNe_of (news_ne N hn)) (gnNe_of (news_ne N hn2))
    rcases List.mem_cons.mp hq with rfl | hq
    · exact news_new F N st hn hD _ (List.Mem.head _)
    · exact news_new F N st hn2 hd2 _ hq
end
section
local macro_rules | `(tactic| walk_at "call ref") => `(tactic| (k_here; k_dflt (refine' ccall_dict (c_add_callers _ _ _ _ ?h1 ?h2) ?k1 ?k2 ?k3 ?k4 ?k5 ?k6 ?k7 ?k8 ?kA ?kK ?kd ?ku ?kp ?_; (case h1 => assumption); (case h2 => assumption); (case k1 => k_asm); (case k2 => k_asm); (case k3 => k_asm); (case k4 => k_asm); (case k5 => walk_at "c_sub"); (case k6 => k_asm); (case k7 => k_asm); (case k8 => k_asm); (case kA => exact rfl); (case kK => first | exact rfl | assumption); (case kd => ktr_room); (case ku => ktr_units); (case kp => exact True.intro); intro D9 o9 h9 tk9 I9 F9 N9 l9; (simp only [GnNe, and_true] at l9); (try dsimp only); (try k_fold))))
theorem c_add_func_stats (W U d e : Addr) (od oe : Obj) (S C T' Z a b c' e' : Int) (t1 t2 t3 t4 u1 u2 u3 u4 : Tok) (n n' : Nat) (k1 : DictNil w d od) (k2 : DictNil w e oe) :
    CCall w p loose mean mg mb [(W, tup5 S C T' Z t1 t2 t3 t4 d n), (U, tup5 a b c' e' u1 u2 u3 u4 e n'), (d, od), (e, oe)] 63 20 [.ref W, .ref U] (fun _ => True) (Row5Out w (a + S) (b + C)) := by
  unfold CCall
  k_fill
  intro dp un gd cn cs a' ccd cl outer A₀ base h₀ L m s Q E B F X N T C1 C2 hk hd hu hpre hret
  refine wpAny_call ?_
  k_dflt (walk_at "c_enter")
  intro g' L' h' G' F' N' X' T'
  obtain ⟨HH, B', st', l1, l2⟩ := G'
  unfold Runs
  (try dsimp only)
  (try k_lift B')
  k_lt l1
  replace C1 := C1.keeps st'
  replace C2 := C2.keeps st'
  simp only [tup5] at N N' HH
  (try k_fold)
  k_steps
  exact hret _ _ _ ⟨stays_of N HH (by assumption) (by assumption) (by walk_at "c_sub"), _, _, _, _, _, _, _, _, _, _, rfl, fresh_of HH (by assumption) (List.Mem.head _) (by simp only [GnNe, and_true]; omega), fresh_of HH (by assumption) (List.Mem.tail _ (List.Mem.head _)) (by simp only [GnNe, and_true]; omega), News.get (by assumption) (List.Mem.head _), News.get (by assumption) (List.Mem.tail _ (List.Mem.head _)), by assumption⟩
end
end Mine
end
section
namespace Mine
open PySem PySem.Spec PySem.Calls PyProof.Rows PySem.W
section
variable {prog : Program} {w : World} {M : Model} {A : Around} {E : Value → Shared → Prop} {s : Shared}
/-- what a slice's three places hold -/
theorem slice_reads {sl : Addr} {a b c : Value} {Q : Value × Value × Value → Shared → Prop} (cut : s.heap.IsSliceOf sl a b c) (h : Q (a, b, c) s) : wpAny M A (Builtin.Slice.sliceFields (.ref sl)) Q E s := by
  obtain ⟨o, lies, -, d⟩ := cut
  have part : ∀ {k : Nat} {x : Value} {Q' : Value → Shared → Prop}, #[a, b, c][k]? = some x → Q' x s → wpAny M A (field (.ref sl) k) Q' E s := fun e q => wpAny_field lies d e q
  unfold Builtin.Slice.sliceFields
  exact wpAny_bind (part rfl (wpAny_bind (part rfl (wpAny_bind (part rfl (wpAny_pure h))))))
/-- `[:2]` of five: two places from the first -/
theorem upto_two {sl : Addr} {u : Tok} {Q : Int × Int × Nat → Shared → Prop} (cut : s.heap.IsSliceOf sl .none (.int 2 u) .none) (h : Q (0, 1, 2) s) : wpAny (model prog w) A (Builtin.Slice.sliceApplied (.ref sl) (pure (5 : Int))) Q E s := by
  unfold Builtin.Slice.sliceApplied
  refine wpAny_bind (slice_reads cut (wpAny_bind (slicePart_none ?_)))
  simp only [Option.getD_none, Int.reduceBEq, Bool.false_eq_true, if_false]
  exact wpAny_bind (slicePart_none (wpAny_bind (slicePart_int (wpAny_bind (wpAny_pure (wpAny_pure h))))))
/-- the first two of a tuple of five: a new tuple -/
theorem getItem_two {t sl : Addr} {v0 v1 v2 v3 v4 : Value} {u : Tok} {Q : Value → Shared → Prop} (five : IsTup s.heap t #[v0, v1, v2, v3, v4]) (cut : s.heap.IsSliceOf sl .none (.int 2 u) .none)
    (h : Q (.ref s.heap.objs.size) { s with heap := s.heap.push { cls := .type "tuple", data := .seq #[v0, v1] } }) : wpAny (model prog w) A (getItem (.ref t) (.ref sl)) Q E s := by
  have isSlice : s.TypeIs (.ref sl) "slice" := cut.elim fun o q => ⟨o, q.1, q.2.1⟩
  refine wpAny_getItem_slot five.typeIs (by decide) slot_tuple_getitem (wpAny_call_entry slot_tuple_getitem five.typeIs entry_tuple_getitem ?_ (args_tuple_getitem _ _))
  show wpAny _ _ (Builtin.Tuple.tupleItemsOf (.ref t) >>= _) _ _ s
  refine wpAny_bind (tupleItemsOf_ five (wpAny_bind (wpAny_typeOf isSlice ?_)))
  simp only [beq_self_eq_true, if_true]
  refine wpAny_bind (upto_two cut ?_)
  have whole : ((0 : Int) == 0 && (1 : Int) == 1 && 2 == #[v0, v1, v2, v3, v4].size) = false := rfl
  dsimp only
  rw [whole]
  show wpAny _ _ (Builtin.Tuple.tupleExact #[v0, v1] >>= ret) _ _ _
  unfold Builtin.Tuple.tupleExact
  exact wpAny_bind (wpAny_newObj_type (wpAny_pure ⟨_, rfl, h⟩) (by show (2 : Nat) ≤ sizeLine; rw [sizeLine_eq]; omega))
/-- the same, at a subscript of the walk: the slice lies in a heap that keeps what the frame and the ledger speak of -/
theorem slice_tuple_two {value slice : Expr} {t sl : Addr} {v0 v1 v2 v3 v4 : Value} {u : Tok} {ops : List Value} {H h₀ : Heap} {L : Addr} {m : Str → Option Value} {led : List (Addr × Obj)} {Q : Value → Shared → Prop}
    (F : Fr h₀ L H m) (N : News h₀ L H led) (up : H.StaysIn s.heap) (cut : s.heap.IsSliceOf sl .none (.int 2 u) .none) (five : IsTup H t #[v0, v1, v2, v3, v4])
    (road : subscripted slice false (.ref t) (.ref sl) = operate ops (getItem (.ref t) (.ref sl))) (calm : ∀ r, letTemporaryGo value (.ref t) r = pure ())
    (ret : ∀ D h', Fr h₀ L h' m → News h₀ L h' ((D, { cls := .type "tuple", data := .seq #[v0, v1] }) :: led) → (∀ p ∈ led, p.1 < D) → Q (.ref D) { s with heap := h' }) :
    wpAny (model prog w) A (subscriptTail value slice (.ref t) (.ref sl)) Q E s := by
  have F1 := F.keeps up
  have N1 := N.grown up
  have T1 : IsTup s.heap t #[v0, v1, v2, v3, v4] := five.keeps up
  exact subscriptTail_ops T1.typeIs slot_tuple_getitem.lookup (getItem_two T1 cut (ret _ _ (F1.push _) (News.push F1 N1 _) fun p hp => Heap.lt_size (N1 p hp).1)) road calm
end
end Mine
end
section
namespace Mine
/-- what the loop of _law_sum tells from one on, with the sum and the count so far -/
def lloop (x : Int) : Nat → Int → Int → Int → Int × Int
  | 0, _, S, C => (S, C)
  | f + 1, i, S, C => if i * i ≤ x then (if x % i = 0 then (if x / i ≠ i then lloop x f (i + 1) (x / i + (i + S)) (1 + (1 + C)) else lloop x f (i + 1) (i + S) (1 + C)) else lloop x f (i + 1) S C) else (S, C)
@[irreducible] def sg (x : Int) : Int × Int := lloop x 40 1 0 0
def LS (x : Int) (n : Nat) (i S C : Int) : Prop := 1 ≤ i ∧ i + n = 41 ∧ lloop x n i S C = sg x
theorem LS.init (x : Int) : LS x 40 1 0 0 := ⟨by decide, by decide, by unfold sg; rfl⟩
theorem LS.pos {x : Int} {n : Nat} {i S C z : Int} (h : LS x n i S C) (hx : x < 1000) (hz : z = i * i) (hc : z ≤ x) : ∃ f, n = f + 1 := by
  obtain ⟨h1, h2, _⟩ := h
  cases n with
  | succ f => exact ⟨f, rfl⟩
  | zero =>
    exfalso
    have : i = 41 := by omega
    subst this
    omega
theorem LS.exit {x : Int} {n : Nat} {i S C z : Int} (h : LS x n i S C) (hz : z = i * i) (hc : ¬ z ≤ x) : (sg x).1 = S ∧ (sg x).2 = C := by
  obtain ⟨_, _, h3⟩ := h
  subst hz
  rw [← h3]
  cases n with
  | zero => exact ⟨rfl, rfl⟩
  | succ f => simp only [lloop, if_neg hc]; exact ⟨trivial, trivial⟩
theorem LS.no {x : Int} {n : Nat} {i S C z : Int} (h : LS x (n + 1) i S C) (hz : z = i * i) (hc : z ≤ x) (h0 : x % i ≠ 0) : LS x n (i + 1) S C := by
  obtain ⟨h1, h2, h3⟩ := h
  subst hz
  simp only [lloop, if_pos hc, if_neg h0] at h3
  exact ⟨by omega, by omega, h3⟩
theorem LS.one {x : Int} {n : Nat} {i S C z : Int} (h : LS x (n + 1) i S C) (hz : z = i * i) (hc : z ≤ x) (h0 : x % i = 0) (h4 : ¬ x / i ≠ i) : LS x n (i + 1) (i + S) (1 + C) := by
  obtain ⟨h1, h2, h3⟩ := h
  subst hz
  simp only [lloop, if_pos hc, if_pos h0, if_neg h4] at h3
  exact ⟨by omega, by omega, h3⟩
theorem LS.two {x : Int} {n : Nat} {i S C z : Int} (h : LS x (n + 1) i S C) (hz : z = i * i) (hc : z ≤ x) (h0 : x % i = 0) (h4 : x / i ≠ i) : LS x n (i + 1) (x / i + (i + S)) (1 + (1 + C)) := by
  obtain ⟨h1, h2, h3⟩ := h
  subst hz
  simp only [lloop, if_pos hc, if_pos h0, if_pos h4] at h3
  exact ⟨by omega, by omega, h3⟩
theorem sg_test : sg 120 = (360, 16) ∧ sg 1 = (1, 1) ∧ sg 304 = (620, 10) := by decide +kernel
end Mine
end
section
open PySem PySem.Spec PySem.Calls PyProof.Rows PySem.W
set_option maxRecDepth 100000
set_option maxHeartbeats 8000000
set_option pp.maxSteps 600
set_option pp.deepTerms false
namespace Mine
local macro_rules | `(tactic| walk_at "c_here") => `(tactic| (refine' Here.mk ?v1 ?v2 ?v3 ?v4 ?v5 ?v6; (case v4 => exact rfl); (case v5 => exact rfl); (case v6 => assumption); (case v1 => k_asm); (case v2 => k_asm); (case v3 => k_asm)))
local macro_rules | `(tactic| walk_at "c_callee") => `(tactic| (refine' callee_base ?u1 ?u2 ?u3 ?u4 ?u5 ?u6 ?u7 ?u8; (case u1 => k_asm); (case u2 => k_asm); (case u3 => k_asm); (case u4 => k_is); (case u5 => k_is); (case u6 => exact rfl); (case u7 => exact rfl); (case u8 => exact rfl)))
local macro_rules | `(tactic| walk_at "c_enter") => `(tactic| (refine' enterK ?p1 ?p2 ?p3 ?p4 ?p5 ?p6 ?p7 ?p8 ?_; (case p1 => walk_at "c_here"); (case p2 => k_asm); (case p3 => k_asm); (case p4 => walk_at "c_callee"); (case p5 => ktr_room); (case p6 => exact BindsTo.of_eq rfl); (case p7 => exact locs rfl); (case p8 => decide); k_whole))
local macro_rules | `(tactic| walk_at "c_enterC") => `(tactic| (refine' enterKC ?p1 ?p2 ?p3 ?p4 ?p5 ?p6 ?p7 ?p8 ?_; (case p1 => walk_at "c_here"); (case p2 => k_asm); (case p3 => k_asm); (case p4 => walk_at "c_callee"); (case p5 => ktr_room); (case p6 => exact rfl); (case p7 => exact rfl); (case p8 => decide); k_whole))
local macro_rules | `(tactic| walk_at "c_enterN") => `(tactic| (refine' enterN ?p1 ?p2 ?p3 ?p4 ?p5 ?p6 ?p7 ?p8 ?p9 ?pa ?pb ?pc ?_; (case p1 => walk_at "c_here"); (case p2 => k_asm); (case p3 => k_asm); (case p4 => k_mem); (case p5 => exact codeRec_news (by k_asm) (by k_mem) (by assumption) (by assumption)); (case p6 => ktr_room); (case p7 => exact BindsTo.of_eq rfl); (case p8 => exact locs rfl); (case p9 => decide); (case pa => exact rfl); (case pb => exact rfl); (case pc => exact rfl); k_whole))
local macro_rules | `(tactic| walk_at "c_sub") => `(tactic| first | exact fun _ h => h | exact List.forall_mem_nil _ | (refine' List.forall_mem_cons.mpr ⟨?c9a, ?c9b⟩; (case c9a => k_mem); (case c9b => walk_at "c_sub")))
local macro_rules | `(tactic| walk_at "c_but") => `(tactic| first | exact List.forall_mem_nil _ | (refine' List.forall_mem_cons.mpr ⟨?c9a, ?c9b⟩; (case c9a => first | (intro c9; exact absurd rfl c9) | (intro c9; k_mem)); (case c9b => walk_at "c_but")))
local macro_rules | `(tactic| walk_at "c_ne") => `(tactic| first | exact True.intro | (simp only [GnNe, and_true]; first | omega | ((repeat' (refine And.intro ?_ ?_)) <;> omega)))
local macro_rules | `(tactic| walk_at "c_int") => `(tactic| (refine' ccall_int ?kC ?k1 ?k2 ?k3 ?k4 ?k5 ?k6 ?k7 ?k8 ?kA ?kK ?kd ?ku ?kp ?_; (case kC => walk_at "c_con"); (case k1 => k_asm); (case k2 => k_asm); (case k3 => k_asm); (case k4 => k_asm); (case k5 => walk_at "c_sub"); (case k6 => k_asm); (case k7 => k_asm); (case k8 => k_asm); (case kA => exact rfl); (case kK => first | exact rfl | assumption); (case kd => ktr_room); (case ku => ktr_units); (case kp => walk_at "c_pre"); intro t9 h9 tk9 F9 N9; (try dsimp only); (try k_fold)))
local macro_rules | `(tactic| walk_at "c_pre") => `(tactic| first | exact True.intro | exact isList_up (by assumption) (by assumption) | fail "c_pre")
variable {w : World} {p : Program} {loose : List Str} {mean : ExcName → Option Value} {mg mb : Str → Option Value}
/-- what holds between two turns of _law_sum's loop -/
def SJ (w : World) (c1 : Addr) (oc1 : Obj) (c2 : Addr) (oc2 : Obj) (x : Int) (tx : Tok) (n : Nat) (m : Str → Option Value) (news : List (Addr × Obj)) : Prop :=
  ∃ (i S C tt ct : Int) (W d : Addr) (od : Obj) (ti t1 t2 t3 t4 : Tok) (c : Nat), LS x n i S C ∧ m (Str.ofString "number") = some (.int x tx) ∧ m (Str.ofString "one") = some (.int i ti) ∧ m (Str.ofString "whole") = some (.ref W) ∧
    DictNil w d od ∧ news = (W, tup5 S C tt ct t1 t2 t3 t4 d c) :: (d, od) :: tabs4 c1 oc1 c2 oc2
theorem sum_close {h₀ : Heap} {L W d c1 c2 : Addr} {od oc1 oc2 : Obj} {all : List (Addr × Obj)} {x i S C tt ct : Int} {tx ti t1 t2 t3 t4 : Tok} {c : Nat} {Q : Flow → Shared → Prop} {n n' : Nat} {s₁ : Shared} {h' : Heap} {tk : Nat} {m' : Str → Option Value} (F : Fr h₀ L h' m') (N : News h₀ L h' all)
    (m1 : m' (Str.ofString "number") = some (.int x tx)) (m2 : m' (Str.ofString "one") = some (.int i ti)) (m3 : m' (Str.ofString "whole") = some (.ref W)) (hW : (W, tup5 S C tt ct t1 t2 t3 t4 d c) ∈ all) (hd : (d, od) ∈ all) (hdn : DictNil w d od) (hs : ∀ p ∈ tabs4 c1 oc1 c2 oc2, p ∈ all)
    (ls : LS x n' i S C) (hn : n' < n) : WhileStep2 h₀ L s₁ (SJ w c1 oc1 c2 oc2 x tx) Q n .next { s₁ with heap := h', toks := tk } :=
  ⟨h', tk, m', (W, _) :: (d, od) :: tabs4 c1 oc1 c2 oc2, n', rfl, F, fun p hp => by
    rcases List.mem_cons.mp hp with rfl | hp
    · exact N _ hW
    · rcases List.mem_cons.mp hp with rfl | hp
      · exact N _ hd
      · exact N p (hs p hp), hn, i, S, C, tt, ct, W, d, od, ti, t1, t2, t3, t4, c, ls, m1, m2, m3, hdn, rfl⟩
section
local macro_rules | `(tactic| walk_at "subscriptTail") => `(tactic| (k_here; k_dflt (refine' slice_tuple_two ?F ?N ?up ?cut ?t ?hs ?hg ?_; (case F => k_asm); (case N => k_asm); (case up => exact fun _ _ e => Heap.get?_push_of_some _ e); (case cut => exact Heap.IsSliceOf.new ..); (case t => exact News.isTup (by k_asm) (by k_mem)); (case hs => with_unfolding_all rfl); (case hg => (intro _; with_unfolding_all rfl))); intro D9 h9 F9 N9 l9; (try k_lt l9); (try dsimp only)))
local macro_rules | `(tactic| walk_at "call ref") => `(tactic| (k_here; k_dflt (refine' ccall_row5 (c_add_func_stats _ _ _ _ _ _ _ _ _ _ _ _ _ _ _ _ _ _ _ _ _ _ _ _ ?h1 ?h2) ?k1 ?k2 ?k3 ?k4 ?k5 ?k6 ?k7 ?k8 ?kA ?kK ?kd ?ku ?kp ?_; (case k1 => k_asm); (case k2 => k_asm); (case k3 => k_asm); (case k4 => k_asm); (case k5 => walk_at "c_sub"); (case h1 => first | assumption | exact ⟨by assumption, by assumption, by assumption⟩); (case h2 => first | assumption | exact ⟨by assumption, by assumption, by assumption⟩); (case k6 => k_asm); (case k7 => k_asm); (case k8 => k_asm); (case kA => exact rfl); (case kK => first | exact rfl | assumption); (case kd => ktr_room); (case ku => ktr_units); (case kp => exact True.intro); intro D9 d9 o9 tt9 ct9 s9 s8 s7 s6 n9 h9 tk9 I9 F9 N9 l9 l8; (simp only [GnNe, and_true] at l9 l8); (simp only [tup5] at N9); (try dsimp only); (try k_fold))))
local macro_rules | `(tactic| walk_at "exec While Compare cons nil") => `(tactic| (refine Stop.of ?_))
local macro_rules | `(tactic| walk_at "binaryOp Mult int int") => `(tactic| (k_here; (with_reducible refine mul_gen ?ma ?mb ?mc ?md ?_); (case ma => omega); (case mb => omega); (case mc => omega); (case md => omega); intro z9 hz9 hz8 hz7))
local macro_rules | `(tactic| walk_at "call ref") => `(tactic| (k_here; k_dflt (refine' ccall_pair (c_int_divmod _ _ _ _ _ _ _ _ ?h1 ?h2 ?h3 ?h4 _ _ _ _ ?h5 ?h6 ?h7 ?h8) ?k1 ?k2 ?k3 ?k4 ?k5 ?k6 ?k7 ?k8 ?kA ?kK ?kd ?ku ?kp ?_; (case h2 => assumption); (case h1 => assumption); (case h4 => assumption); (case h3 => assumption); (case h5 => omega); (case h6 => omega); (case h7 => omega); (case h8 => omega); (case k1 => k_asm); (case k2 => k_asm); (case k3 => k_asm); (case k4 => k_asm); (case k5 => walk_at "c_sub"); (case k6 => k_asm); (case k7 => k_asm); (case k8 => k_asm); (case kA => exact rfl); (case kK => first | exact rfl | assumption); (case kd => ktr_room); (case ku => ktr_units); (case kp => exact True.intro); intro D9 t8 t9 c9 h9 tk9 F9 N9 l9; (simp only [GnNe, and_true] at l9); (try dsimp only); (try k_fold))))
theorem c_law_sum (c1 c2 : Addr) (oc1 oc2 : Obj) (vs1 vs2 : Array Value) (q1 q2 : Tok) (hd1 : oc1.data = .fields vs1) (he1 : vs1[1]? = some (.str (Str.ofString "_digits2int.<locals>.inner") q1)) (hd2 : oc2.data = .fields vs2) (he2 : vs2[1]? = some (.str (Str.ofString "_int2digits.<locals>.inner") q2))
    (x : Int) (tx : Tok) (hx : 1 ≤ x) (hx2 : x < 1000) :
    CCall w p loose mean mg mb (tabs4 c1 oc1 c2 oc2) 77 120 [.int x tx] (fun _ => True) (PairOut (sg x).1 (sg x).2) := by
  unfold CCall
  k_fill
  intro dp un gd cn cs a' ccd cl outer A₀ base h₀ L m s Q E B F X N T C1 C2 hk hd hu hpre hret
  refine wpAny_call ?_
  k_dflt (walk_at "c_enter")
  intro g' L' h' G' F' N' X' T'
  obtain ⟨HH, B', st', l1, l2⟩ := G'
  unfold Runs
  (try dsimp only)
  (try k_lift B')
  k_lt l1
  replace C1 := C1.keeps st'
  replace C2 := C2.keeps st'
  (try k_fold)
  k_steps
  show wpAny _ _ _ _ _ _
  refine' While_inv2 (SJ w c1 oc1 c2 oc2 x tx) ?F ?N ?J ?turn ?hE
  case F => k_asm
  case N => k_asm
  case J => exact ⟨_, _, _, _, _, _, _, _, _, _, _, _, _, _, LS.init x, rfl, rfl, rfl, ⟨by assumption, by assumption, by assumption⟩, rfl⟩
  case hE => passes_own
  case turn =>
    rintro n m news h tk F N ⟨i, S, C, tt, ct, W, d, od, ti, t1, t2, t3, t4, c, ls, m1, m2, m3, hdn, rfl⟩
    simp only [tup5] at N
    have i1 := ls.1
    have i2 := ls.2.1
    replace F := fr_kst (ps := [(Str.ofString "number", .int x tx), (Str.ofString "one", .int i ti), (Str.ofString "whole", .ref W)]) F (by
      intro q hq
      simp only [List.mem_cons, List.not_mem_nil, or_false] at hq
      rcases hq with rfl | rfl | rfl <;> assumption)
    k_steps
    · obtain ⟨f, rfl⟩ := ls.pos hx2 (by assumption) (by assumption)
      refine' sum_close ?F ?N ?m1 ?m2 ?m3 ?hW ?hd ?hdn ?hs ?ls ?hn
      (case F => assumption); (case N => assumption); (case m1 => exact rfl); (case m2 => exact rfl); (case m3 => exact rfl); (case hW => k_mem); (case hd => k_mem); (case hdn => assumption); (case hs => walk_at "c_sub")
      (case ls => exact ls.two (by assumption) (by assumption) (by assumption) (by assumption)); (case hn => exact Nat.lt_succ_self _)
    · obtain ⟨f, rfl⟩ := ls.pos hx2 (by assumption) (by assumption)
      refine' sum_close ?F ?N ?m1 ?m2 ?m3 ?hW ?hd ?hdn ?hs ?ls ?hn
      (case F => assumption); (case N => assumption); (case m1 => exact rfl); (case m2 => exact rfl); (case m3 => exact rfl); (case hW => k_mem); (case hd => k_mem); (case hdn => assumption); (case hs => walk_at "c_sub")
      (case ls => exact ls.one (by assumption) (by assumption) (by assumption) (by omega)); (case hn => exact Nat.lt_succ_self _)
    · obtain ⟨f, rfl⟩ := ls.pos hx2 (by assumption) (by assumption)
      refine' sum_close ?F ?N ?m1 ?m2 ?m3 ?hW ?hd ?hdn ?hs ?ls ?hn
      (case F => assumption); (case N => assumption); (case m1 => exact rfl); (case m2 => exact rfl); (case m3 => exact rfl); (case hW => k_mem); (case hd => k_mem); (case hdn => assumption); (case hs => walk_at "c_sub")
      (case ls => exact ls.no (by assumption) (by assumption) (by assumption)); (case hn => exact Nat.lt_succ_self _)
    · obtain ⟨e1, e2⟩ := ls.exit (by assumption) (by assumption)
      rw [e1, e2] at hret
      exact hret _ _ _ ⟨stays_of (by assumption) HH (by assumption) (by assumption) (by walk_at "c_sub"), _, _, _, _, rfl, fresh_of HH (by assumption) (List.Mem.head _) (by simp only [GnNe, and_true]; omega), News.get (by assumption) (List.Mem.head _)⟩
end
end Mine
end
section
namespace Mine
theorem sg_2 : sg 2 = (3, 2) := by decide +kernel
theorem sg_3 : sg 3 = (4, 2) := by decide +kernel
theorem sg_4 : sg 4 = (7, 3) := by decide +kernel
theorem sg_6 : sg 6 = (12, 4) := by decide +kernel
theorem sg_7 : sg 7 = (8, 2) := by decide +kernel
theorem sg_8 : sg 8 = (15, 4) := by decide +kernel
theorem sg_10 : sg 10 = (18, 4) := by decide +kernel
theorem sg_12 : sg 12 = (28, 6) := by decide +kernel
theorem sg_14 : sg 14 = (24, 4) := by decide +kernel
theorem sg_15 : sg 15 = (24, 4) := by decide +kernel
theorem sg_16 : sg 16 = (31, 5) := by decide +kernel
theorem sg_18 : sg 18 = (39, 6) := by decide +kernel
theorem sg_20 : sg 20 = (42, 6) := by decide +kernel
theorem sg_22 : sg 22 = (36, 4) := by decide +kernel
theorem sg_24 : sg 24 = (60, 8) := by decide +kernel
theorem sg_26 : sg 26 = (42, 4) := by decide +kernel
theorem sg_28 : sg 28 = (56, 6) := by decide +kernel
theorem sg_30 : sg 30 = (72, 8) := by decide +kernel
theorem sg_120 : sg 120 = (360, 16) := by decide +kernel
/-- what is asked of the odd number's sums -/
def OddFacts (y : Int) : Prop := 1 ≤ y ∧ y ≤ 19 ∧ 0 ≤ (sg y).1 ∧ (sg y).1 < 64 ∧ 0 ≤ (sg y).2 ∧ (sg y).2 < 64 ∧ (sg (4 * y)).1 = 7 * (sg y).1 ∧ (sg (4 * y)).2 = 3 * (sg y).2 ∧ (sg (8 * y)).1 = 15 * (sg y).1 ∧ (sg (8 * y)).2 = 4 * (sg y).2 ∧ (sg (16 * y)).1 = 31 * (sg y).1 ∧ (sg (16 * y)).2 = 5 * (sg y).2
theorem odd_facts {e : Int} (h0 : 0 ≤ e) (h1 : e < 10) : OddFacts (1 + 2 * e) := by
  have h : e = 0 ∨ e = 1 ∨ e = 2 ∨ e = 3 ∨ e = 4 ∨ e = 5 ∨ e = 6 ∨ e = 7 ∨ e = 8 ∨ e = 9 := by omega
  rcases h with rfl | rfl | rfl | rfl | rfl | rfl | rfl | rfl | rfl | rfl <;> (unfold OddFacts; decide +kernel)
end Mine
end
section
namespace Mine
open PySem PyProof.Rows
/-- what of 2, 3, .. , i numbers in all, goes into o -/
def cands (o : Int) (i : Nat) : List Int := ((List.range i).map fun (j : Nat) => (2 : Int) + (j : Int)).filter fun x => decide (Int.fmod o x = 0)
theorem cands_yes {o v : Int} {i : Nat} {t : Tok} {ys : List Value} (h : IntsAre ys (cands o i)) (hv : v = 2 + (i : Int)) (h0 : Int.fmod o v = 0) : IntsAre (ys ++ [.int v t]) (cands o (i + 1)) := by
  have e : cands o (i + 1) = cands o i ++ [v] := by
    simp only [cands, List.range_succ, List.map_append, List.filter_append, List.map_cons, List.map_nil, List.filter_cons, List.filter_nil, ← hv, h0, decide_true, if_true]
  rw [e]
  exact IntsAre.append h (.cons v t .nil)
theorem cands_no {o v : Int} {i : Nat} {ys : List Value} (h : IntsAre ys (cands o i)) (hv : v = 2 + (i : Int)) (h0 : ¬ Int.fmod o v = 0) : IntsAre ys (cands o (i + 1)) := by
  have e : cands o (i + 1) = cands o i := by
    simp only [cands, List.range_succ, List.map_append, List.filter_append, List.map_cons, List.map_nil, List.filter_cons, List.filter_nil, ← hv, h0, decide_false, Bool.false_eq_true, if_false, List.append_nil]
  rw [e]
  exact h
theorem cands_3 : cands 3 1 = [] := by decide +kernel
theorem cands_7 : cands 7 5 = [] := by decide +kernel
theorem cands_15 : cands 15 13 = [3, 5] := by decide +kernel
/-- an even number, told by its place: the sum is twice it just for these -/
theorem even_2 {i : Nat} (h : i < 3) : ((sg (2 + (i : Int) * 2)).1 = 2 * (2 + (i : Int) * 2)) ↔ (2 + (i : Int) * 2 = 6) := by
  have : i = 0 ∨ i = 1 ∨ i = 2 := by omega
  rcases this with rfl | rfl | rfl <;> decide +kernel
theorem even_all {i : Nat} (h : i < 15) : ((sg (2 + (i : Int) * 2)).1 = 2 * (2 + (i : Int) * 2)) ↔ (2 + (i : Int) * 2 = 6 ∨ 2 + (i : Int) * 2 = 28) := by
  have : i = 0 ∨ i = 1 ∨ i = 2 ∨ i = 3 ∨ i = 4 ∨ i = 5 ∨ i = 6 ∨ i = 7 ∨ i = 8 ∨ i = 9 ∨ i = 10 ∨ i = 11 ∨ i = 12 ∨ i = 13 ∨ i = 14 := by omega
  rcases this with rfl | rfl | rfl | rfl | rfl | rfl | rfl | rfl | rfl | rfl | rfl | rfl | rfl | rfl | rfl <;> decide +kernel
end Mine
namespace Mine
open PySem PyProof.Rows
/-- the perfect numbers made so far -/
def dues : Nat → List Int
  | 0 => []
  | 1 => [6]
  | _ => [6, 28]
theorem dues_yes {i : Nat} {v : Int} {t : Tok} {ys : List Value} (h : IntsAre ys (dues i)) (hv : dues i ++ [v] = dues (i + 1)) : IntsAre (ys ++ [.int v t]) (dues (i + 1)) := by
  rw [← hv]
  exact IntsAre.append h (.cons v t .nil)
end Mine
end
section
open PySem PySem.Spec PySem.Calls PyProof.Rows PySem.W
set_option maxRecDepth 100000
set_option maxHeartbeats 8000000
set_option pp.maxSteps 600
set_option pp.deepTerms false
namespace Mine
variable {w : World} {p : Program} {loose : List Str} {mean : ExcName → Option Value} {mg mb : Str → Option Value}
section
variable {led news : List (Addr × Obj)} {f : Addr} {sz : Nat} {vs : List Value} {Pre : Heap → Prop} {g : Obj → List (Addr × Obj)}
  {dp un : Nat} {gd : Option (List Code)} {cn : Str} {cs : Scope} {a : Addr} {ccd : Value} {cl : List (Str × Addr)} {outer : List Env} {A₀ : Around} {base h₀ : Heap} {L : Addr} {m : Str → Option Value} {s : Shared} {Q E : Value → Shared → Prop} {A : Around}
theorem ccall_d2i_first {x y : Int} (C : CCall w p loose mean mg mb [(37, tabObj #[])] f sz vs Pre (IntOutM x)) (hv : x = y) (B : Below A₀ base outer h₀) (F : Fr h₀ L s.heap m) (X : (Mine.hd.heap_39 w.params).In h₀) (N : News h₀ L s.heap news) (U : UpdF 37 (tabObj #[]) news g)
    (T : Top p loose mean mg mb h₀) (C1 : CodeHd h₀ 41 37) (C2 : CodeHd h₀ 34 30) (hA : A = ktrTop dp un gd cn cs L a ccd cl outer) (hk : cs.kind = .function) (hd : dp + sz < recursionLimit) (hu : un + 8 * sz < cLine) (hpre : Pre s.heap)
    (ret : ∀ c1 oc1 vs1 q1 t h' tk', oc1.data = .fields vs1 → vs1[1]? = some (.str (Str.ofString "_digits2int.<locals>.inner") q1) → Fr h₀ L h' m → News h₀ L h' ((c1, oc1) :: g (tabObj #[rawInt 47, rawInt 4, .ref c1])) → GnNe c1 news → Q (.int y t) { s with heap := h', toks := tk' }) : wpAny (model PySem.Challenge.rw_zz0004_01.row.prog w) A (call (.ref f) vs) Q E s :=
  ccall_use C B F X N (fun q hq => by
    obtain ⟨pre, post, rfl, _, _, _⟩ := U.split
    rw [List.mem_singleton.mp hq]
    exact List.mem_append_right _ (.head _)) T C1 C2 hA hk hd hu hpre fun v h' tk' ho => by
    obtain ⟨c1, oc1, vs1, q1, t, rfl, st, hT, hn, hc, h1, h2⟩ := ho
    subst hv
    have F' := fr_but F N U st
    have N' := news_but N U st hT
    refine ret c1 oc1 vs1 q1 t h' tk' h1 h2 F' (fun q hq => ?_) (gnNe_of (news_ne N hn))
    rcases List.mem_cons.mp hq with rfl | hq
    · refine ⟨hc, fun e => ?_, ?_⟩
      · obtain ⟨ob, es, ep, e2, r⟩ := F.ns
        have e3 : s.heap.get? c1 = some ob := by rw [show c1 = L from e]; exact e2
        rw [e3] at hn
        exact absurd hn (by simp)
      · cases e : h₀.get? c1 with
        | none => rfl
        | some ob =>
          have e3 := F.keep _ _ e
          rw [e3] at hn
          exact absurd hn (by simp)
    · exact N' q hq
theorem ccall_i2d_first {x : Int} {n : Nat} {ns : List Int} (C : CCall w p loose mean mg mb [(30, tabObj #[])] f sz vs Pre (DigOutM n x)) (hv : dg n (nd x n) x = ns) (B : Below A₀ base outer h₀) (F : Fr h₀ L s.heap m) (X : (Mine.hd.heap_39 w.params).In h₀) (N : News h₀ L s.heap news) (U : UpdF 30 (tabObj #[]) news g)
    (T : Top p loose mean mg mb h₀) (C1 : CodeHd h₀ 41 37) (C2 : CodeHd h₀ 34 30) (hA : A = ktrTop dp un gd cn cs L a ccd cl outer) (hk : cs.kind = .function) (hd : dp + sz < recursionLimit) (hu : un + 8 * sz < cLine) (hpre : Pre s.heap)
    (ret : ∀ c2 oc2 vs2 q2 D vsd c h' tk', oc2.data = .fields vs2 → vs2[1]? = some (.str (Str.ofString "_int2digits.<locals>.inner") q2) → IntsAre vsd ns → Fr h₀ L h' m → News h₀ L h' ((D, listOf vsd.toArray c) :: (c2, oc2) :: g (tabObj #[rawInt 32, rawInt 4, .ref c2])) → GnNe c2 news → GnNe D news → Q (.ref D) { s with heap := h', toks := tk' }) : wpAny (model PySem.Challenge.rw_zz0004_01.row.prog w) A (call (.ref f) vs) Q E s :=
  ccall_use C B F X N (fun q hq => by
    obtain ⟨pre, post, rfl, _, _, _⟩ := U.split
    rw [List.mem_singleton.mp hq]
    exact List.mem_append_right _ (.head _)) T C1 C2 hA hk hd hu hpre fun v h' tk' ho => by
    obtain ⟨c2, oc2, vs2, q2, D, vsd, c, rfl, st, hT, hn, hc, h1, h2, hn2, hD, hI⟩ := ho
    subst hv
    have F' := fr_but F N U st
    have N' := news_but N U st hT
    have new : ∀ {b : Addr} {o : Obj}, s.heap.get? b = none → h'.get? b = some o → h'.get? b = some o ∧ b ≠ L ∧ h₀.get? b = none := by
      intro b o hb ho
      refine ⟨ho, fun e => ?_, ?_⟩
      · obtain ⟨ob, es, ep, e2, r⟩ := F.ns
        have e3 : s.heap.get? b = some ob := by rw [show b = L from e]; exact e2
        rw [e3] at hb
        exact absurd hb (by simp)
      · cases e : h₀.get? b with
        | none => rfl
        | some ob =>
          have e3 := F.keep _ _ e
          rw [e3] at hb
          exact absurd hb (by simp)
    refine ret c2 oc2 vs2 q2 D vsd c h' tk' h1 h2 hI F' (fun q hq => ?_) (gnNe_of (news_ne N hn)) (gnNe_of (news_ne N hn2))
    rcases List.mem_cons.mp hq with rfl | hq
    · exact new hn2 hD
    · rcases List.mem_cons.mp hq with rfl | hq
      · exact new hn hc
      · exact N' q hq
theorem ccall_intv {x y : Int} (C : CCall w p loose mean mg mb led f sz vs Pre (IntOut x)) (hv : x = y) (B : Below A₀ base outer h₀) (F : Fr h₀ L s.heap m) (X : (Mine.hd.heap_39 w.params).In h₀) (N : News h₀ L s.heap news) (hsub : ∀ q ∈ led, q ∈ news)
    (T : Top p loose mean mg mb h₀) (C1 : CodeHd h₀ 41 37) (C2 : CodeHd h₀ 34 30) (hA : A = ktrTop dp un gd cn cs L a ccd cl outer) (hk : cs.kind = .function) (hd : dp + sz < recursionLimit) (hu : un + 8 * sz < cLine) (hpre : Pre s.heap)
    (ret : ∀ t h' tk', Fr h₀ L h' m → News h₀ L h' news → Q (.int y t) { s with heap := h', toks := tk' }) : wpAny (model PySem.Challenge.rw_zz0004_01.row.prog w) A (call (.ref f) vs) Q E s := by
  subst hv
  exact ccall_int C B F X N hsub T C1 C2 hA hk hd hu hpre ret
theorem ccall_sum {x a' b' : Int} (C : CCall w p loose mean mg mb led f sz vs Pre (PairOut (sg x).1 (sg x).2)) (hv : sg x = (a', b')) (B : Below A₀ base outer h₀) (F : Fr h₀ L s.heap m) (X : (Mine.hd.heap_39 w.params).In h₀) (N : News h₀ L s.heap news) (hsub : ∀ q ∈ led, q ∈ news)
    (T : Top p loose mean mg mb h₀) (C1 : CodeHd h₀ 41 37) (C2 : CodeHd h₀ 34 30) (hA : A = ktrTop dp un gd cn cs L a ccd cl outer) (hk : cs.kind = .function) (hd : dp + sz < recursionLimit) (hu : un + 8 * sz < cLine) (hpre : Pre s.heap)
    (ret : ∀ D t1 t2 c h' tk', Fr h₀ L h' m → News h₀ L h' ((D, ({ cls := .type "tuple", data := .seq #[.int a' t1, .int b' t2] c } : Obj)) :: news) → GnNe D news → Q (.ref D) { s with heap := h', toks := tk' }) : wpAny (model PySem.Challenge.rw_zz0004_01.row.prog w) A (call (.ref f) vs) Q E s := by
  rw [hv] at C
  exact ccall_pair C B F X N hsub T C1 C2 hA hk hd hu hpre ret
theorem gen_odd {M : Model} {A : Around} {env : Env} {x : Str} {v : Int} {t : Tok} {Q : Unit → Shared → Prop} {e : Int} (hv : v = 1 + 2 * e) (h0 : 0 ≤ e) (h1 : e < 10) (h : ∀ y, OddFacts y → wpAny M A (storeName env x (.int y t)) Q E s) : wpAny M A (storeName env x (.int v t)) Q E s := h v (hv ▸ odd_facts h0 h1)
end
end Mine
end
section
set_option maxRecDepth 100000
set_option maxHeartbeats 2000000
namespace Mine
open PySem PySem.Spec PySem.Calls PyProof.Rows PySem.W PyProof.Rows.LCg PyProof.Rows.LCt
/-- a turn's end: what stood ahead of it stands, and P -/
def CEnd (h₀ : Heap) (L : Addr) (m : Str → Option Value) (s₁ : Shared) (led : List (Addr × Obj)) (P : Prop) (s₂ : Shared) : Prop := P ∧ ∃ h' tk, s₂ = { s₁ with heap := h', toks := tk } ∧ Fr h₀ L h' m ∧ News h₀ L h' led
theorem cEnd_of {h₀ : Heap} {L : Addr} {m : Str → Option Value} {s₁ : Shared} {led all : List (Addr × Obj)} {P : Prop} {h' : Heap} {tk : Nat} (p : P) (F : Fr h₀ L h' m) (N : News h₀ L h' all) (hs : ∀ q ∈ led, q ∈ all) : CEnd h₀ L m s₁ led P { s₁ with heap := h', toks := tk } := ⟨p, h', tk, rfl, F, fun q hq => N q (hs q hq)⟩
section
variable {prog : Program} {w : World} {A : Around} {E : Value → Shared → Prop} {s : Shared} {h₀ : Heap} {L : Addr} {m : Str → Option Value} {env : Env} {ct elt iter : Expr} {x : Str} {scope : Scope} {cl : List (Str × Addr)} {news : List (Addr × Obj)}
def CTurn (prog : Program) (w : World) (A : Around) (h₀ : Heap) (L : Addr) (m : Str → Option Value) (env : Env) (ct elt : Expr) (x : Str) (scope : Scope) (cl : List (Str × Addr)) (news : List (Addr × Obj)) (a c : Int) (s : Shared) (J : Nat → List Value → Prop) (i : Nat) (ys : List Value) : Prop :=
  ∀ t I oI C oC D m₂ h tk (E' : Value → Shared → Prop), NsObj oC m₂ → m₂ x = some (.int (a + (i : Int) * c) t) → Fr h₀ L h m → News h₀ L h ((I, oI) :: (C, oC) :: (D, lst ys) :: news) → ((@Ne Nat I C) ∧ (@Ne Nat I D) ∧ (@Ne Nat C D)) →
      wpAny (model prog w) A (isTrue ct (compEnvC scope cl C env) (eval ct (compEnvC scope cl C env))) (fun ok s' => if ok = true then
        wpAny (model prog w) A (eval elt (compEnvC scope cl C env)) (fun y s₂ => CEnd h₀ L m { s with heap := h, toks := tk } ((I, oI) :: (C, oC) :: (D, lst ys) :: news) (J (i + 1) (ys ++ [y])) s₂) E' s'
        else CEnd h₀ L m { s with heap := h, toks := tk } ((I, oI) :: (C, oC) :: (D, lst ys) :: news) (J (i + 1) ys) s') E' { s with heap := h, toks := tk }
theorem restT_of {a c : Int} {n : Nat} {Fin : List Value → List (Addr × Obj) → Prop} (J : Nat → List Value → Prop) (turn : ∀ i ys, i < n → J i ys → CTurn prog w A h₀ L m env ct elt x scope cl news a c s J i ys) (fin : ∀ ys, J n ys → Fin ys news) :
    ∀ k i ys, i + k = n → J i ys → CompRestT prog w A h₀ L m env ct elt x scope cl s (fun _ => True) (fun i v => ∃ t, v = .int (a + (i : Int) * c) t) Fin k i ys news
  | 0, i, ys, e, j => CompRestT.zero (by
      have : i = n := by omega
      subst this
      exact fin ys j)
  | k + 1, i, ys, e, j => CompRestT.succ fun v I oI C oC D m₂ h tk E' hv hC hx F N off ne => by
      obtain ⟨t, rfl⟩ := hv
      refine wpAny_mono (turn i ys (by omega) j t I oI C oC D m₂ h tk E' hC hx F N ne) (fun ok s' h' => ?_) fun _ _ z => z
      cases ok with
      | true =>
        simp only [if_true] at h' ⊢
        refine wpAny_mono h' (fun y s₂ z => ?_) fun _ _ z => z
        obtain ⟨j', h2, tk2, rfl, F2, N2⟩ := z
        exact ⟨h2, tk2, news, rfl, F2, N2, off, trivial, restT_of J turn fin k (i + 1) _ (by omega) j'⟩
      | false =>
        simp only [Bool.false_eq_true, if_false] at h' ⊢
        obtain ⟨j', h2, tk2, rfl, F2, N2⟩ := h'
        exact ⟨h2, tk2, news, rfl, F2, N2, off, trivial, restT_of J turn fin k (i + 1) _ (by omega) j'⟩
/-- the source is a range; what holds between the turns -/
def CompSrcR (prog : Program) (w : World) (A : Around) (h₀ : Heap) (L : Addr) (m : Str → Option Value) (env : Env) (ct elt : Expr) (x : Str) (scope : Scope) (cl : List (Str × Addr)) (Q : Value → Shared → Prop) (xv : Value) (s₁ : Shared) : Prop :=
  ∃ (r : Addr) (a b c : Int) (t u v : Tok) (n : Nat) (news : List (Addr × Obj)) (J : Nat → List Value → Prop), xv = .ref r ∧ A.handled = none ∧ Fr h₀ L s₁.heap m ∧ News h₀ L s₁.heap news ∧ IsRange s₁.heap r a b c t u v ∧ Builtin.Range.small a b c = true ∧ Builtin.Range.rangeSize a b c = ((n : Nat) : Int) ∧ n ≤ sizeLine ∧ J 0 [] ∧
    (∀ g i ys, i < n → J i ys → CTurn prog w A h₀ L m env ct elt x scope cl news a c { s₁ with heap := g } J i ys) ∧
    ∀ ys, J n ys → ∀ D h tk, Fr h₀ L h m → News h₀ L h ((D, lst ys) :: news) → Off1 D news → Q (.ref D) { s₁ with heap := h, toks := tk }
theorem CompSrcR.intro {Q : Value → Shared → Prop} {r : Addr} {a b c : Int} {t u v : Tok} {n : Nat} {s₁ : Shared} (J : Nat → List Value → Prop) (hh : A.handled = none) (F : Fr h₀ L s₁.heap m) (N : News h₀ L s₁.heap news) (hr : IsRange s₁.heap r a b c t u v) (hsm : Builtin.Range.small a b c = true) (hn : Builtin.Range.rangeSize a b c = ((n : Nat) : Int)) (hsz : n ≤ sizeLine) (h0 : J 0 [])
    (turn : ∀ g i ys, i < n → J i ys → CTurn prog w A h₀ L m env ct elt x scope cl news a c { s₁ with heap := g } J i ys)
    (fin : ∀ ys, J n ys → ∀ D h tk, Fr h₀ L h m → News h₀ L h ((D, lst ys) :: news) → Off1 D news → Q (.ref D) { s₁ with heap := h, toks := tk }) : CompSrcR prog w A h₀ L m env ct elt x scope cl Q (.ref r) s₁ :=
  ⟨r, a, b, c, t, u, v, n, news, J, rfl, hh, F, N, hr, hsm, hn, hsz, h0, turn, fin⟩
/-- what lies beside the comprehension's own frame C stands when that frame is given up -/
theorem beside {C : Addr} {h h' : Heap} {led : List (Addr × Obj)} (F : Fr h₀ L h m) (N : News h₀ L h led) (apart : C ≠ L) (fresh : h₀.get? C = none) (off : ∀ q ∈ led, q.1 ≠ C) (gone : Heap.SameBut C h h') : Fr h₀ L h' m ∧ News h₀ L h' led :=
  ⟨F.change gone apart fresh, fun q hq => (N q hq).imp (gone.extBut _ _ (off q hq)) id⟩
/-- a list comprehension with one test over a range of any step -/
theorem comp_range {px pos : Pos} {Q : Value → Shared → Prop} (_F : Fr h₀ L s.heap m) (clos : closureFor scope env = pure cl) (noCell : ∀ y ∈ scope.names, y.2 ≠ .cell) (sort : scope.kind = .function)
    (locs : ∀ y ∈ scope.names, y.2 = .local → scope.names.lookup y.1 = some .local) (mine : scope.names.lookup x = some .local)
    (src : wpAny (model prog w) A (eval iter env) (CompSrcR prog w A h₀ L m env ct elt x scope cl Q) E s) (calm : ∀ v, foldedSetIterable iter env v = pure v := by intro _; rfl) :
    wpAny (model prog w) A (eval (.ListComp elt [⟨.Name x px, iter, [ct], 0⟩] scope pos) env) Q E s := by
  rw [eval_ListComp]
  apply wpAny_comprehension_free (use := none) rfl calm clos sort locs
  refine wpAny_mono src ?_ fun _ _ z => z
  rintro xv s₁ ⟨r, a, b, c, t, u, v, n, led, J, rfl, quiet, F, N, isRange, small, many, few, start, turn, done⟩
  refine wpAny_pyIter_range isRange small ?_
  rw [many]
  generalize laid : s₁.heap.push { cls := .type "range_iterator", data := .fields #[rawInt a, rawInt n, rawInt c] } = H₁
  have up : s₁.heap.StaysIn H₁ := laid ▸ fun _ _ e => Heap.get?_push_of_some _ e
  have high : s₁.heap.objs.size < H₁.objs.size := by rw [← laid, Heap.size_push]; exact Nat.lt_succ_self _
  have iter0 : IsRangeIter H₁ s₁.heap.objs.size (a + ((0 : Nat) : Int) * c) ((n : Int) - ((0 : Nat) : Int)) c := by
    rw [Int.natCast_zero, Int.zero_mul, Int.add_zero, Int.sub_zero, ← laid]
    exact Heap.get?_push_size _ rfl
  refine block_T (S := fun _ => True) (Fin := fun ys led' => ∀ D h tk, Fr h₀ L h m → News h₀ L h ((D, lst ys) :: led') → Off1 D led' → Q (.ref D) { s₁ with heap := h, toks := tk }) (Walks.range quiet s₁.heap.objs.size a c n) few ?has ?same noCell sort mine
    iter0 ?inside (F.keeps up) (N.grown up) (Nat.ne_of_lt F.ns.lt) (next_is_new F) (fun q hq => Nat.ne_of_lt (Heap.lt_size (N q hq).1)) trivial ?turns ?last
  case has => exact fun _ _ e => ⟨_, e⟩
  case same => exact fun i h h' o _ e eo eo' _ _ _ => eo'.trans (eo.symm.trans e)
  case inside => exact fun q hq => List.mem_singleton.mp hq ▸ high
  case turns => exact restT_of J (turn _) done n 0 [] (Nat.zero_add n) start
  case last =>
    intro D C h tk m' ys led' F' N' offD ns freshC _ apart _ ne offC end_
    refine ⟨m', ns, fun h' gone => ?_⟩
    have B := beside (led := (D, lst ys) :: led') F' N' apart freshC (fun q hq => (List.mem_cons.mp hq).elim (fun e => e ▸ ne.symm) (offC q)) gone
    exact end_ D h' tk B.1 B.2 offD
end
section
variable {prog : Program} {w : World} {A : Around} {E : Value → Shared → Prop} {s : Shared} {a b v : Int} {t u : Tok} {Q : Value → Shared → Prop}
theorem pow_val (hv : (2 : Int) ^ b.toNat = v) (h0 : 0 ≤ b) (h1 : b ≤ 8) (h : Q (.int v s.toks) { s with toks := s.toks + 1 }) : wpAny (model prog w) A (binaryOp .Pow (.int 2 t) (.int b u)) Q E s :=
  pow_int_small h0 (by omega) (by decide) (by rw [hv]; exact h)
theorem sub_val (hv : a - b = v) (h : Q (.int v s.toks) { s with toks := s.toks + 1 }) : wpAny (model prog w) A (binaryOp .Sub (.int a t) (.int b u)) Q E s := by
  subst hv
  exact PyProof.Rows.sub_int h
end
end Mine
end
section
open PySem PySem.Spec PySem.Calls PyProof.Rows PySem.W
set_option maxRecDepth 100000
set_option maxHeartbeats 8000000
namespace Mine
local macro_rules | `(tactic| walk_at "c_here") => `(tactic| (refine' Here.mk ?v1 ?v2 ?v3 ?v4 ?v5 ?v6; (case v4 => exact rfl); (case v5 => exact rfl); (case v6 => assumption); (case v1 => k_asm); (case v2 => k_asm); (case v3 => k_asm)))
local macro_rules | `(tactic| walk_at "c_callee") => `(tactic| (refine' callee_base ?u1 ?u2 ?u3 ?u4 ?u5 ?u6 ?u7 ?u8; (case u1 => k_asm); (case u2 => k_asm); (case u3 => k_asm); (case u4 => k_is); (case u5 => k_is); (case u6 => exact rfl); (case u7 => exact rfl); (case u8 => exact rfl)))
local macro_rules | `(tactic| walk_at "c_enter") => `(tactic| (refine' enterK ?p1 ?p2 ?p3 ?p4 ?p5 ?p6 ?p7 ?p8 ?_; (case p1 => walk_at "c_here"); (case p2 => k_asm); (case p3 => k_asm); (case p4 => walk_at "c_callee"); (case p5 => ktr_room); (case p6 => exact BindsTo.of_eq rfl); (case p7 => exact locs rfl); (case p8 => decide); k_whole))
local macro_rules | `(tactic| walk_at "c_enterC") => `(tactic| (refine' enterKC ?p1 ?p2 ?p3 ?p4 ?p5 ?p6 ?p7 ?p8 ?_; (case p1 => walk_at "c_here"); (case p2 => k_asm); (case p3 => k_asm); (case p4 => walk_at "c_callee"); (case p5 => ktr_room); (case p6 => exact rfl); (case p7 => exact rfl); (case p8 => decide); k_whole))
local macro_rules | `(tactic| walk_at "c_enterN") => `(tactic| (refine' enterN ?p1 ?p2 ?p3 ?p4 ?p5 ?p6 ?p7 ?p8 ?p9 ?pa ?pb ?pc ?_; (case p1 => walk_at "c_here"); (case p2 => k_asm); (case p3 => k_asm); (case p4 => k_mem); (case p5 => exact codeRec_news (by k_asm) (by k_mem) (by assumption) (by assumption)); (case p6 => ktr_room); (case p7 => exact BindsTo.of_eq rfl); (case p8 => exact locs rfl); (case p9 => decide); (case pa => exact rfl); (case pb => exact rfl); (case pc => exact rfl); k_whole))
local macro_rules | `(tactic| walk_at "c_sub") => `(tactic| first | exact fun _ h => h | exact List.forall_mem_nil _ | (refine' List.forall_mem_cons.mpr ⟨?c9a, ?c9b⟩; (case c9a => k_mem); (case c9b => walk_at "c_sub")))
local macro_rules | `(tactic| walk_at "c_but") => `(tactic| first | exact List.forall_mem_nil _ | (refine' List.forall_mem_cons.mpr ⟨?c9a, ?c9b⟩; (case c9a => first | (intro c9; exact absurd rfl c9) | (intro c9; k_mem)); (case c9b => walk_at "c_but")))
local macro_rules | `(tactic| walk_at "c_ne") => `(tactic| first | exact True.intro | (simp only [GnNe, and_true]; first | omega | ((repeat' (refine And.intro ?_ ?_)) <;> omega)))
local macro_rules | `(tactic| walk_at "c_int") => `(tactic| (refine' ccall_int ?kC ?k1 ?k2 ?k3 ?k4 ?k5 ?k6 ?k7 ?k8 ?kA ?kK ?kd ?ku ?kp ?_; (case kC => walk_at "c_con"); (case k1 => k_asm); (case k2 => k_asm); (case k3 => k_asm); (case k4 => k_asm); (case k5 => walk_at "c_sub"); (case k6 => k_asm); (case k7 => k_asm); (case k8 => k_asm); (case kA => exact rfl); (case kK => first | exact rfl | assumption); (case kd => ktr_room); (case ku => ktr_units); (case kp => walk_at "c_pre"); intro t9 h9 tk9 F9 N9; (try dsimp only); (try k_fold)))
local macro_rules | `(tactic| walk_at "c_pre") => `(tactic| first | exact True.intro | exact isList_up (by assumption) (by assumption) | fail "c_pre")
theorem news_tail {h₀ : Heap} {L : Addr} {h : Heap} {a : Addr × Obj} {r : List (Addr × Obj)} (N : News h₀ L h (a :: r)) : News h₀ L h r := fun q hq => N q (List.mem_cons_of_mem _ hq)
theorem news_two {h₀ : Heap} {L : Addr} {h : Heap} {a b : Addr × Obj} {r : List (Addr × Obj)} (N : News h₀ L h (a :: b :: r)) : News h₀ L h (a :: r) := fun q hq => N q ((List.mem_cons.mp hq).elim (fun e => e ▸ List.mem_cons_self) fun e => List.mem_cons_of_mem _ (List.mem_cons_of_mem _ e))
local macro_rules | `(tactic| walk_at "c_clr") => `(tactic| ((repeat (with_reducible rename @LT.lt Nat _ _ _ ∧ _ => z9; clear z9)); (repeat (with_reducible rename @Ne Nat _ _ ∧ _ => z9; clear z9))))
theorem news_three {h₀ : Heap} {L : Addr} {h : Heap} {a b c : Addr × Obj} {r : List (Addr × Obj)} (N : News h₀ L h (a :: b :: c :: r)) : News h₀ L h (a :: b :: r) := fun q hq => N q ((List.mem_cons.mp hq).elim (fun e => e ▸ List.mem_cons_self) fun e => (List.mem_cons.mp e).elim (fun e => e ▸ List.mem_cons_of_mem _ List.mem_cons_self) fun e => List.mem_cons_of_mem _ (List.mem_cons_of_mem _ (List.mem_cons_of_mem _ e)))
local macro_rules | `(tactic| k_ne) => `(tactic| (refine neN ?_; (try dsimp only); first | assumption | exact Ne.symm (by assumption)))
open PyProof.Rows.LCg in
def LawEnd (h₀ : Heap) (L : Addr) (s₀ : Shared) (f : Flow) (s' : Shared) : Prop := f = .ret (.bool true) ∧ ∃ h' tk m' ps1 ps2, s' = { s₀ with heap := h', toks := tk } ∧ Fr h₀ L h' m' ∧ News h₀ L h' [(37, tabObj ps1), (30, tabObj ps2)]
open PyProof.Rows.LCg in
theorem lawEnd_of {h₀ h' : Heap} {L : Addr} {s₀ : Shared} {m : Str → Option Value} {tk : Nat} {b : Bool} {ps1 ps2 : _} {all : List (Addr × Obj)} (F : Fr h₀ L h' m) (N : News h₀ L h' all) (hs : ∀ q ∈ [(37, tabObj ps1), (30, tabObj ps2)], q ∈ all) (hb : b = true) : LawEnd h₀ L s₀ (.ret (.bool b)) { s₀ with heap := h', toks := tk } := by
  subst hb
  exact ⟨rfl, h', tk, m, ps1, ps2, rfl, F, fun q hq => N q (hs q hq)⟩
theorem even_2_no {i : Nat} {p : Prop} (h : i < 3) (a : (((sg (2 + (i : Int) * 2)).1 == 2 * (2 + (i : Int) * 2)) != [6].any fun x => x == 2 + (i : Int) * 2) = true) : p := by
  have : i = 0 ∨ i = 1 ∨ i = 2 := by omega
  rcases this with rfl | rfl | rfl <;> exact absurd a (by decide +kernel)
theorem even_all_no {i : Nat} {p : Prop} (h : i < 15) (a : (((sg (2 + (i : Int) * 2)).1 == 2 * (2 + (i : Int) * 2)) != [6, 28].any fun x => x == 2 + (i : Int) * 2) = true) : p := by
  have : i = 0 ∨ i = 1 ∨ i = 2 ∨ i = 3 ∨ i = 4 ∨ i = 5 ∨ i = 6 ∨ i = 7 ∨ i = 8 ∨ i = 9 ∨ i = 10 ∨ i = 11 ∨ i = 12 ∨ i = 13 ∨ i = 14 := by omega
  rcases this with rfl | rfl | rfl | rfl | rfl | rfl | rfl | rfl | rfl | rfl | rfl | rfl | rfl | rfl | rfl <;> exact absurd a (by decide +kernel)
theorem gen_ten {M : Model} {A : Around} {env : Env} {x : Str} {z : Int} {t : Tok} {Q : Unit → Shared → Prop} {E : Value → Shared → Prop} {s : Shared} (h : ∀ y, OddFacts y → wpAny M A (storeName env x (.int y t)) Q E s) : wpAny M A (storeName env x (.int (1 + 2 * z.fmod 10) t)) Q E s := h _ (odd_facts (Int.fmod_nonneg_of_pos _ (by decide)) (Int.fmod_lt_of_pos _ (by decide)))
section
local macro_rules | `(tactic| walk_at "call ref") => `(tactic| (refine Stop.of ?_))
local macro_rules | `(tactic| walk_at "c_sg") => `(tactic| first | exact (show _ = ((4, 2) : Int × Int) by decide +kernel) | exact (show _ = ((8, 2) : Int × Int) by decide +kernel) | exact (show _ = ((24, 4) : Int × Int) by decide +kernel) | exact (show _ = ((12, 4) : Int × Int) by decide +kernel) | exact (show _ = ((56, 6) : Int × Int) by decide +kernel) | exact (show _ = ((360, 16) : Int × Int) by decide +kernel) | exact (show _ = ((7, 3) : Int × Int) by decide +kernel) | exact (show _ = ((15, 4) : Int × Int) by decide +kernel) | exact (show _ = ((31, 5) : Int × Int) by decide +kernel) | exact rfl)
local macro_rules | `(tactic| walk_at "c_dv") => `(tactic| first | exact (show _ = (3 : Int) by decide) | exact (show _ = (7 : Int) by decide) | exact (show _ = (15 : Int) by decide) | exact (show _ = (6 : Int) by decide) | exact (show _ = (28 : Int) by decide) | exact (show _ = (120 : Int) by decide))
local macro_rules | `(tactic| walk_at "c_dg") => `(tactic| first | exact (show _ = ([0, 1, 1] : List Int) by decide +kernel) | exact (show _ = ([0, 0, 1, 1, 1] : List Int) by decide +kernel) | exact (show _ = ([0, 0, 0, 1, 1, 1, 1] : List Int) by decide +kernel))
local macro_rules | `(tactic| walk_at "c_ints") => `(tactic| first | exact .cons _ _ (.cons _ _ (.cons _ _ (.nil))) | exact .cons _ _ (.cons _ _ (.cons _ _ (.cons _ _ (.cons _ _ (.nil))))) | exact .cons _ _ (.cons _ _ (.cons _ _ (.cons _ _ (.cons _ _ (.cons _ _ (.cons _ _ (.nil))))))))
local macro_rules | `(tactic| walk_at "storeName") => `(tactic| (k_here; (with_reducible show wpAny _ _ (storeName _ (Str.ofString "odd") (Value.int _ _)) _ _ _); k_dflt (refine' gen_ten ?_); intro y9 hy9))
local macro_rules | `(tactic| walk_at "call ref") => `(tactic| (k_here; k_dflt (refine' ccall_sum (c_law_sum _ _ _ _ _ _ _ _ ?h1 ?h2 ?h3 ?h4 _ _ ?h5 ?h6) ?hv ?k1 ?k2 ?k3 ?k4 ?k5 ?k6 ?k7 ?k8 ?kA ?kK ?kd ?ku ?kp ?_; (case h2 => assumption); (case h1 => assumption); (case h4 => assumption); (case h3 => assumption); (case h5 => omega); (case h6 => omega); (case hv => walk_at "c_sg"); (case k1 => k_asm); (case k2 => k_asm); (case k3 => k_asm); (case k4 => k_asm); (case k5 => walk_at "c_sub"); (case k6 => k_asm); (case k7 => k_asm); (case k8 => k_asm); (case kA => exact rfl); (case kK => first | exact rfl | assumption); (case kd => ktr_room); (case ku => ktr_units); (case kp => exact True.intro); intro D9 t8 t9 c9 h9 tk9 F9 N9 l9; (simp only [GnNe, and_true] at l9); (try dsimp only); (try k_fold)) ))
local macro_rules | `(tactic| walk_at "call ref") => `(tactic| (k_here; k_dflt (refine' ccall_i2d_first (c_int2digits_first _ _ 1 _ ?h3 ?h4 ?h5 ?h6) ?hv ?k1 ?k2 ?k3 ?k4 ?k5 ?k6 ?k7 ?k8 ?kA ?kK ?kd ?ku ?kp ?_; (case h3 => omega); (case h4 => omega); (case h5 => omega); (case h6 => omega); (case hv => walk_at "c_dg"); (case k1 => k_asm); (case k2 => k_asm); (case k3 => k_asm); (case k4 => k_asm); (case k5 => k_updF); (case k6 => k_asm); (case k7 => k_asm); (case k8 => k_asm); (case kA => exact rfl); (case kK => first | exact rfl | assumption); (case kd => ktr_room); (case ku => ktr_units); (case kp => exact True.intro); intro c9 o9 v9 q9 D9 vs9 n9 h9 tk9 hd9 he9 I9 F9 N9 l9 l8; (simp only [GnNe, and_true] at l9 l8); (try dsimp only at N9); (try dsimp only); (try k_fold)) ))
local macro_rules | `(tactic| walk_at "call ref") => `(tactic| (k_here; k_dflt (refine' ccall_intv (c_digits2int _ _ _ _ _ _ _ 1 _ ?h1 ?h2 ?h3 ?h4 ?h5 ?h6 ?h7 ?h8) ?hv ?k1 ?k2 ?k3 ?k4 ?k5 ?k6 ?k7 ?k8 ?kA ?kK ?kd ?ku ?kp ?_; (case kp => is_list); (case h1 => walk_at "c_ints"); (case h3 => assumption); (case h2 => assumption); (case h4 => decide); (case h5 => decide); (case h6 => decide); (case h7 => decide); (case h8 => decide); (case hv => walk_at "c_dv"); (case k1 => k_asm); (case k2 => k_asm); (case k3 => k_asm); (case k4 => k_asm); (case k5 => walk_at "c_sub"); (case k6 => k_asm); (case k7 => k_asm); (case k8 => k_asm); (case kA => exact rfl); (case kK => first | exact rfl | assumption); (case kd => ktr_room); (case ku => ktr_units); intro t9 h9 tk9 F9 N9; (try dsimp only); (try k_fold)) ))
local macro_rules | `(tactic| walk_at "call ref") => `(tactic| (k_here; k_dflt (refine' ccall_d2i_first (c_digits2int_first _ _ _ 1 _ ?h1 ?h4 ?h5 ?h6 ?h7 ?h8) ?hv ?k1 ?k2 ?k3 ?k4 ?k5 ?k6 ?k7 ?k8 ?kA ?kK ?kd ?ku ?kp ?_; (case kp => is_list); (case h1 => assumption); (case h4 => decide); (case h5 => decide); (case h6 => decide); (case h7 => decide); (case h8 => decide); (case hv => walk_at "c_dv"); (case k1 => k_asm); (case k2 => k_asm); (case k3 => k_asm); (case k4 => k_asm); (case k5 => k_updF); (case k6 => k_asm); (case k7 => k_asm); (case k8 => k_asm); (case kA => exact rfl); (case kK => first | exact rfl | assumption); (case kd => ktr_room); (case ku => ktr_units); intro c9 o9 v9 q9 t9 h9 tk9 hd9 he9 F9 N9 l9; (simp only [GnNe, and_true] at l9); (try dsimp only at N9); (try dsimp only); (try k_fold)) ))
local macro_rules | `(tactic| walk_at "c_pv") => `(tactic| first | exact (show _ = (2 : Int) by decide +kernel) | exact (show _ = (4 : Int) by decide +kernel) | exact (show _ = (8 : Int) by decide +kernel) | exact (show _ = (16 : Int) by decide +kernel) | exact (show _ = (32 : Int) by decide +kernel))
local macro_rules | `(tactic| walk_at "c_sv") => `(tactic| first | exact (show _ = (1 : Int) by decide +kernel) | exact (show _ = (2 : Int) by decide +kernel) | exact (show _ = (3 : Int) by decide +kernel) | exact (show _ = (7 : Int) by decide +kernel) | exact (show _ = (15 : Int) by decide +kernel) | exact (show _ = (31 : Int) by decide +kernel))
local macro_rules | `(tactic| walk_at "binaryOp Pow int int") => `(tactic| (k_here; k_dflt (refine' pow_val ?hv ?ha ?hb ?_; (case hv => walk_at "c_pv"); (case ha => decide); (case hb => decide))))
local macro_rules | `(tactic| walk_at "binaryOp Sub int int") => `(tactic| (k_here; k_dflt (refine' sub_val ?hv ?_; (case hv => walk_at "c_sv"))))
local macro_rules | `(tactic| walk_at "eval ListComp") => `(tactic| (refine Stop.of ?_))
local macro_rules | `(tactic| walk_at "c_comp") => `(tactic| (refine comp_range (by k_asm) (by with_unfolding_all rfl) (by decide) (by rfl) (by decide) (by rfl) ?_))
set_option maxHeartbeats 40000000
theorem the_law : PySem.Challenge.rw_zz0004_01.Holds := Mine.hd (by
  (k_with "storeName" => k_sizes)
  w_strict k_go0
  rename_i w s₀ s₁ mg mb G Y fa o pm cd doc ho hcd hg X V T B TE TW ns hs hlay0 hL hr hl2 x1 x2 l vs x5 hLst ra w1 r0 hI hr2 hc1 hc2 hD h₁ tk₁ oa ob left right X0 X' T' K' F' cH1 N' l0
  refine wpAny_mono (Q := LawEnd (ghostOf s₁.heap [(41, 37), (34, 30)]) s₁.heap.objs.size { s₁ with heap := h₁, toks := tk₁ }) (E := fun _ _ => False) ?clean ?post (fun _ _ h => h.elim)
  case post =>
    rintro f s' ⟨rfl, h', tk, m', ps1, ps2, rfl, F9, N9⟩
    clear F' N'
    k_steps
  case clean =>
    clear G Y ho hcd hg hT8 V T B TE TW hT9 hs hlay0 hr hl2 hLst ra w1 r0 hr2 hc1 hc2 hD X0 X x1 x2 x5 o
    generalize ghostOf s₁.heap [(41, 37), (34, 30)] = g at *
    generalize s₁.heap.objs.size = L at *
    generalize ExcName.means s₀.heap = mean at *
    generalize looseW hd.view_39 [] ++ List.map _ _ ++ List.map _ _ ++ List.map _ _ = loose at *
    (try k_fold)
    k_steps
    · show wpAny _ _ _ _ _ _
      rename News _ _ _ _ => N
      obtain ⟨l0a, l0b⟩ := l0
      iterate 6 (replace N := news_tail N)
      iterate 5 (replace N := news_two N)
      iterate 5 (replace N := news_three N)
      replace N : News _ _ _ [_, _, _, _, _, _] := N
      with_reducible rename @Ne Nat _ _ ∧ _ => e8
      clear e8
      with_reducible rename @Ne Nat _ _ ∧ _ => e2
      revert e2
      with_reducible rename @Ne Nat _ _ ∧ _ => e1
      intro e2
      obtain ⟨-, -, -, -, -, f1, -, -, -, -, -, f2, f3, f4, f5⟩ := e2
      obtain ⟨-, -, -, -, -, f6, f7, f8, f9⟩ := e1
      walk_at "c_clr"
      k_dflt (walk_at "c_comp")
      k_steps
      refine' CompSrcR.intro (n := 1) (fun i ys => IntsAre ys (cands 3 i)) ?hh3 ?F3 ?N3 ?hr3 ?sm3 ?hn3 ?sz3 ?h03 ?turn3 ?fin3
      (case hh3 => exact rfl); (case F3 => k_asm); (case N3 => k_asm); (case hr3 => assumption); (case sm3 => decide); (case hn3 => exact rfl); (case sz3 => decide); (case h03 => exact IntsAre.nil)
      case turn3 =>
        intro gg i ys hi hJ
        unfold CTurn
        intro t I oI C oC D m₂ h tk E' hC hx F N ne
        k_steps
        · exact cEnd_of (cands_yes hJ (by omega) (by assumption)) (by assumption) (by assumption) (by walk_at "c_sub")
        · exact cEnd_of (cands_no (v := 2 + (i : Int) * 1) hJ (by omega) (by assumption)) (by assumption) (by assumption) (by walk_at "c_sub")
      case fin3 =>
        intro ys hJ D h tk F N o1
        rw [cands_3] at hJ
        cases hJ
        simp only [LCg.Off1, and_true] at o1
        k_steps
        show wpAny _ _ _ _ _ _
        k_dflt (walk_at "c_comp")
        k_steps
        refine' CompSrcR.intro (n := 1) (fun i ys => IntsAre ys (dues i)) ?hh3b ?F3b ?N3b ?hr3b ?sm3b ?hn3b ?sz3b ?h03b ?turn3b ?fin3b
        (case hh3b => exact rfl); (case F3b => k_asm); (case N3b => k_asm); (case hr3b => assumption); (case sm3b => decide); (case hn3b => exact rfl); (case sz3b => decide); (case h03b => exact IntsAre.nil)
        case turn3b =>
          intro gg i ys hi hJ
          unfold CTurn
          intro t I oI C oC D m₂ h tk E' hC hx F N ne
          have hi3 : i = 0 := by omega
          subst hi3
          · replace hx : m₂ _ = some (Value.int 2 t) := hx
            k_steps
            refine' cEnd_of ?p30 ?q30 ?r30 ?s30; (case p30 => exact dues_yes hJ (by decide +kernel)); (case q30 => assumption); (case r30 => assumption); (case s30 => walk_at "c_sub")
        case fin3b =>
          intro ys hJ D h tk F N o1
          simp only [dues] at hJ
          cases hJ; rename_i hJ; cases hJ
          iterate 5 (replace N := news_two N)
          replace N : News _ _ _ [_, _, _, _, _, _, _] := N
          simp only [LCg.Off1, and_true] at o1
          obtain ⟨-, -, -, -, -, g1, g2, g3, g4, g5, g6⟩ := o1
          walk_at "c_clr"
          k_steps
          show wpAny _ _ _ _ _ _
          k_dflt (walk_at "c_comp")
          k_steps
          refine' CompSrcR.intro (n := 3) (fun i ys => ys = []) ?hh3c ?F3c ?N3c ?hr3c ?sm3c ?hn3c ?sz3c ?h03c ?turn3c ?fin3c
          (case hh3c => exact rfl); (case F3c => k_asm); (case N3c => k_asm); (case hr3c => assumption); (case sm3c => decide); (case hn3c => exact rfl); (case sz3c => decide); (case h03c => exact rfl)
          case turn3c =>
            intro gg i ys hi hJ
            unfold CTurn
            intro t I oI C oC D m₂ h tk E' hC hx F N ne
            k_steps
            · exact even_2_no hi (by assumption)
            · refine' cEnd_of ?p3c ?q3c ?r3c ?s3c; (case p3c => exact hJ); (case q3c => assumption); (case r3c => assumption); (case s3c => walk_at "c_sub")
          case fin3c =>
            intro ys hJ D h tk F N o1
            subst hJ
            simp only [LCg.Off1, and_true] at o1
            obtain ⟨ho1, ho2, ho3, ho4, ho5, ho6, ho7, ho8, ho9, ho10, ho11, ho12⟩ := (by assumption : OddFacts _)
            k_steps
            · exact absurd ho7 (by assumption)
            · first | exact absurd ho8 (by assumption) | omega
            · refine' lawEnd_of ?Fe3 ?Ne3 ?se3 ?be3; (case Fe3 => assumption); (case Ne3 => assumption); (case se3 => walk_at "c_sub"); (case be3 => decide)
    · show wpAny _ _ _ _ _ _
      rename News _ _ _ _ => N
      obtain ⟨l0a, l0b⟩ := l0
      iterate 6 (replace N := news_tail N)
      iterate 5 (replace N := news_two N)
      iterate 5 (replace N := news_three N)
      replace N : News _ _ _ [_, _, _, _, _, _] := N
      with_reducible rename @Ne Nat _ _ ∧ _ => e8
      clear e8
      with_reducible rename @Ne Nat _ _ ∧ _ => e2
      revert e2
      with_reducible rename @Ne Nat _ _ ∧ _ => e1
      intro e2
      obtain ⟨-, -, -, -, -, f1, -, -, -, -, -, f2, f3, f4, f5⟩ := e2
      obtain ⟨-, -, -, -, -, f6, f7, f8, f9⟩ := e1
      walk_at "c_clr"
      k_dflt (walk_at "c_comp")
      k_steps
      refine' CompSrcR.intro (n := 5) (fun i ys => IntsAre ys (cands 7 i)) ?hh7 ?F7 ?N7 ?hr7 ?sm7 ?hn7 ?sz7 ?h07 ?turn7 ?fin7
      (case hh7 => exact rfl); (case F7 => k_asm); (case N7 => k_asm); (case hr7 => assumption); (case sm7 => decide); (case hn7 => exact rfl); (case sz7 => decide); (case h07 => exact IntsAre.nil)
      case turn7 =>
        intro gg i ys hi hJ
        unfold CTurn
        intro t I oI C oC D m₂ h tk E' hC hx F N ne
        k_steps
        · exact cEnd_of (cands_yes hJ (by omega) (by assumption)) (by assumption) (by assumption) (by walk_at "c_sub")
        · exact cEnd_of (cands_no (v := 2 + (i : Int) * 1) hJ (by omega) (by assumption)) (by assumption) (by assumption) (by walk_at "c_sub")
      case fin7 =>
        intro ys hJ D h tk F N o1
        rw [cands_7] at hJ
        cases hJ
        simp only [LCg.Off1, and_true] at o1
        k_steps
        show wpAny _ _ _ _ _ _
        k_dflt (walk_at "c_comp")
        k_steps
        refine' CompSrcR.intro (n := 2) (fun i ys => IntsAre ys (dues i)) ?hh7b ?F7b ?N7b ?hr7b ?sm7b ?hn7b ?sz7b ?h07b ?turn7b ?fin7b
        (case hh7b => exact rfl); (case F7b => k_asm); (case N7b => k_asm); (case hr7b => assumption); (case sm7b => decide); (case hn7b => exact rfl); (case sz7b => decide); (case h07b => exact IntsAre.nil)
        case turn7b =>
          intro gg i ys hi hJ
          unfold CTurn
          intro t I oI C oC D m₂ h tk E' hC hx F N ne
          have hi3 : i = 0 ∨ i = 1 := by omega
          rcases hi3 with rfl | rfl
          · replace hx : m₂ _ = some (Value.int 2 t) := hx
            k_steps
            refine' cEnd_of ?p70 ?q70 ?r70 ?s70; (case p70 => exact dues_yes hJ (by decide +kernel)); (case q70 => assumption); (case r70 => assumption); (case s70 => walk_at "c_sub")
          · replace hx : m₂ _ = some (Value.int 3 t) := hx
            k_steps
            refine' cEnd_of ?p71 ?q71 ?r71 ?s71; (case p71 => exact dues_yes hJ (by decide +kernel)); (case q71 => assumption); (case r71 => assumption); (case s71 => walk_at "c_sub")
        case fin7b =>
          intro ys hJ D h tk F N o1
          simp only [dues] at hJ
          cases hJ; rename_i hJ; cases hJ; rename_i hJ; cases hJ
          iterate 5 (replace N := news_two N)
          replace N : News _ _ _ [_, _, _, _, _, _, _] := N
          simp only [LCg.Off1, and_true] at o1
          obtain ⟨-, -, -, -, -, g1, g2, g3, g4, g5, g6⟩ := o1
          walk_at "c_clr"
          k_steps
          show wpAny _ _ _ _ _ _
          k_dflt (walk_at "c_comp")
          k_steps
          refine' CompSrcR.intro (n := 14) (fun i ys => ys = []) ?hh7c ?F7c ?N7c ?hr7c ?sm7c ?hn7c ?sz7c ?h07c ?turn7c ?fin7c
          (case hh7c => exact rfl); (case F7c => k_asm); (case N7c => k_asm); (case hr7c => assumption); (case sm7c => decide); (case hn7c => exact rfl); (case sz7c => decide); (case h07c => exact rfl)
          case turn7c =>
            intro gg i ys hi hJ
            unfold CTurn
            intro t I oI C oC D m₂ h tk E' hC hx F N ne
            k_steps
            · exact even_all_no (Nat.lt_of_lt_of_le hi (by decide)) (by assumption)
            · refine' cEnd_of ?p7c ?q7c ?r7c ?s7c; (case p7c => exact hJ); (case q7c => assumption); (case r7c => assumption); (case s7c => walk_at "c_sub")
          case fin7c =>
            intro ys hJ D h tk F N o1
            subst hJ
            simp only [LCg.Off1, and_true] at o1
            obtain ⟨ho1, ho2, ho3, ho4, ho5, ho6, ho7, ho8, ho9, ho10, ho11, ho12⟩ := (by assumption : OddFacts _)
            k_steps
            · exact absurd ho9 (by assumption)
            · first | exact absurd ho10 (by assumption) | omega
            · refine' lawEnd_of ?Fe7 ?Ne7 ?se7 ?be7; (case Fe7 => assumption); (case Ne7 => assumption); (case se7 => walk_at "c_sub"); (case be7 => decide)
    · show wpAny _ _ _ _ _ _
      rename News _ _ _ _ => N
      obtain ⟨l0a, l0b⟩ := l0
      iterate 6 (replace N := news_tail N)
      iterate 5 (replace N := news_two N)
      iterate 5 (replace N := news_three N)
      replace N : News _ _ _ [_, _, _, _, _, _] := N
      with_reducible rename @Ne Nat _ _ ∧ _ => e8
      clear e8
      with_reducible rename @Ne Nat _ _ ∧ _ => e2
      revert e2
      with_reducible rename @Ne Nat _ _ ∧ _ => e1
      intro e2
      obtain ⟨-, -, -, -, -, f1, -, -, -, -, -, f2, f3, f4, f5⟩ := e2
      obtain ⟨-, -, -, -, -, f6, f7, f8, f9⟩ := e1
      walk_at "c_clr"
      k_dflt (walk_at "c_comp")
      k_steps
      refine' CompSrcR.intro (n := 13) (fun i ys => IntsAre ys (cands 15 i)) ?hh15 ?F15 ?N15 ?hr15 ?sm15 ?hn15 ?sz15 ?h015 ?turn15 ?fin15
      (case hh15 => exact rfl); (case F15 => k_asm); (case N15 => k_asm); (case hr15 => assumption); (case sm15 => decide); (case hn15 => exact rfl); (case sz15 => decide); (case h015 => exact IntsAre.nil)
      case turn15 =>
        intro gg i ys hi hJ
        unfold CTurn
        intro t I oI C oC D m₂ h tk E' hC hx F N ne
        k_steps
        · exact cEnd_of (cands_yes hJ (by omega) (by assumption)) (by assumption) (by assumption) (by walk_at "c_sub")
        · exact cEnd_of (cands_no (v := 2 + (i : Int) * 1) hJ (by omega) (by assumption)) (by assumption) (by assumption) (by walk_at "c_sub")
      case fin15 =>
        intro ys hJ D h tk F N o1
        rw [cands_15] at hJ
        cases hJ; rename_i hJ; cases hJ; rename_i hJ; cases hJ
        simp only [LCg.Off1, and_true] at o1
        k_steps
        show wpAny _ _ _ _ _ _
        k_dflt (walk_at "c_comp")
        k_steps
        refine' CompSrcR.intro (n := 3) (fun i ys => IntsAre ys (dues i)) ?hh15b ?F15b ?N15b ?hr15b ?sm15b ?hn15b ?sz15b ?h015b ?turn15b ?fin15b
        (case hh15b => exact rfl); (case F15b => k_asm); (case N15b => k_asm); (case hr15b => assumption); (case sm15b => decide); (case hn15b => exact rfl); (case sz15b => decide); (case h015b => exact IntsAre.nil)
        case turn15b =>
          intro gg i ys hi hJ
          unfold CTurn
          intro t I oI C oC D m₂ h tk E' hC hx F N ne
          have hi3 : i = 0 ∨ i = 1 ∨ i = 2 := by omega
          rcases hi3 with rfl | rfl | rfl
          · replace hx : m₂ _ = some (Value.int 2 t) := hx
            k_steps
            refine' cEnd_of ?p150 ?q150 ?r150 ?s150; (case p150 => exact dues_yes hJ (by decide +kernel)); (case q150 => assumption); (case r150 => assumption); (case s150 => walk_at "c_sub")
          · replace hx : m₂ _ = some (Value.int 3 t) := hx
            k_steps
            refine' cEnd_of ?p151 ?q151 ?r151 ?s151; (case p151 => exact dues_yes hJ (by decide +kernel)); (case q151 => assumption); (case r151 => assumption); (case s151 => walk_at "c_sub")
          · replace hx : m₂ _ = some (Value.int 4 t) := hx
            k_steps
            refine' cEnd_of ?p152 ?q152 ?r152 ?s152; (case p152 => exact (show IntsAre ys (dues 3) from hJ)); (case q152 => assumption); (case r152 => assumption); (case s152 => walk_at "c_sub")
        case fin15b =>
          intro ys hJ D h tk F N o1
          simp only [dues] at hJ
          cases hJ; rename_i hJ; cases hJ; rename_i hJ; cases hJ
          iterate 5 (replace N := news_two N)
          replace N : News _ _ _ [_, _, _, _, _, _, _] := N
          simp only [LCg.Off1, and_true] at o1
          obtain ⟨-, -, -, -, -, g1, g2, g3, g4, g5, g6⟩ := o1
          walk_at "c_clr"
          k_steps
          show wpAny _ _ _ _ _ _
          k_dflt (walk_at "c_comp")
          k_steps
          refine' CompSrcR.intro (n := 15) (fun i ys => ys = []) ?hh15c ?F15c ?N15c ?hr15c ?sm15c ?hn15c ?sz15c ?h015c ?turn15c ?fin15c
          (case hh15c => exact rfl); (case F15c => k_asm); (case N15c => k_asm); (case hr15c => assumption); (case sm15c => decide); (case hn15c => exact rfl); (case sz15c => decide); (case h015c => exact rfl)
          case turn15c =>
            intro gg i ys hi hJ
            unfold CTurn
            intro t I oI C oC D m₂ h tk E' hC hx F N ne
            k_steps
            · exact even_all_no (Nat.lt_of_lt_of_le hi (by decide)) (by assumption)
            · refine' cEnd_of ?p15c ?q15c ?r15c ?s15c; (case p15c => exact hJ); (case q15c => assumption); (case r15c => assumption); (case s15c => walk_at "c_sub")
          case fin15c =>
            intro ys hJ D h tk F N o1
            subst hJ
            simp only [LCg.Off1, and_true] at o1
            obtain ⟨ho1, ho2, ho3, ho4, ho5, ho6, ho7, ho8, ho9, ho10, ho11, ho12⟩ := (by assumption : OddFacts _)
            k_steps
            · exact absurd ho11 (by assumption)
            · first | exact absurd ho12 (by assumption) | omega
            · refine' lawEnd_of ?Fe15 ?Ne15 ?se15 ?be15; (case Fe15 => assumption); (case Ne15 => assumption); (case se15 => walk_at "c_sub"); (case be15 => decide))
end
end Mine
end
theorem PySem.Challenge.cw_zz0004_01_holds : PySem.Challenge.rw_zz0004_01.Holds := by
  exact Mine.the_law
