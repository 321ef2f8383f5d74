import PyProof.Rows.All
import Wide.All
import OpenK.AllK
import Wide.FinOn
import PySem.Challenge.RW_rs0057_01
set_option Elab.async false
section HD
open PySem PySem.W PyProof.Rows
namespace Mine
set_option maxRecDepth 100000
set_option maxHeartbeats 8000000
open_top hd for PySem.Challenge.rw_rs0057_01
end Mine
end HD
section M0
/-! plain part: definitions -/
namespace Mine
theorem fresh_M0 : True := by w_top off; exact True.intro
/-- a pair that closes -/
def isPair (a b : Nat) : Bool := (a == 40 && b == 41) || (a == 91 && b == 93) || (a == 123 && b == 125)

/-- one sign onto the pile: (left, its last first; before, its last first; sizes) -/
def stepP (S : List Nat × List Int × List Int) (c : Nat) : List Nat × List Int × List Int :=
  match S with
  | (a :: st, b :: bs, sz) => if isPair a c then (st, bs, sz ++ [(sz.length : Int) - b + 1]) else (c :: a :: st, (sz.length : Int) :: b :: bs, sz)
  | (st, bs, sz) => (c :: st, (sz.length : Int) :: bs, sz)
def pileRun (t : List Nat) : List Nat × List Int × List Int := t.foldl stepP ([], [], [])
end Mine
end M0
section P0
open PySem PySem.W PyProof.Rows PySem.Calls
namespace Mine
set_option maxRecDepth 100000
set_option maxHeartbeats 8000000


theorem fresh_P0 : True := by w_top off; exact True.intro
theorem call_fn {w : World} {A : Around} {s : Shared} {K : Frag} {R : Result → Shared → Prop} {name qual : Str} {params : Arguments} {body : List Stmt} {scope : Scope} {dV kV doc pm cdv ct oc : Value} {an od : Option Addr} {osl : Array (Option Value)} {f : Addr} {args : Args} {binds : List (Str × Value)}
    (X : K.In s.heap) (hlim : s.heap.NoLimit)
    (ho : K.lookup f = some ⟨oc, od, .func (fnOf name qual params body scope dV kV doc pm an cdv ct), osl⟩) (hcd : codeIn K cdv qual = true) (hroom : A.depth < recursionLimit)
    (hbind : BindsTo s (fnOf name qual params body scope dV kV doc pm an cdv ct) args binds) (hloc : ∀ y ∈ binds, scope.names.lookup y.1 = some .local)
    (h : ∀ L' h₁, L' = s.heap.objs.size → Fr s.heap L' h₁ (fun y => binds.reverse.lookup y) →
      wpAny (model Challenge.rw_rs0057_01.row.prog w) (A.deeper (envOf qual scope L' f cdv)) (execs body (envOf qual scope L' f cdv))
        (fun fl s' => R (.ok (.ret (match fl with | .ret v => v | _ => .none))) s')
        (fun e s' => wpAny (model Challenge.rw_rs0057_01.row.prog w) (A.deeper (envOf qual scope L' f cdv)) (leaving (envOf qual scope L' f cdv) e) (fun _ s'' => R (.error e) s'') (fun e' s'' => R (.error e') s'') s')
        { s with heap := h₁, toks := s.toks + binds.length })
    (hco : scope.isCoroutine = false) (hgen : scope.isGenerator = false) (hk : scope.kind = .function)
    (hcell : ∀ x ∈ scope.names, x.2 ≠ .cell) : codeAny (model Challenge.rw_rs0057_01.row.prog w) A (.call (.ref f) args) R s := by
  refine codeAny_call_def (fd := fnOf name qual params body scope dV kV doc pm an cdv ct) (body := body) (binds := binds) hroom (X _ _ ho) rfl hlim (codeRec_of X hcd) rfl hbind hcell hloc (fun h₁ hns hk₁ => ?_) hco hgen hk
  exact h _ h₁ rfl ⟨hns, hk₁, Nat.le_refl _⟩

end Mine
end P0
section T0
open PySem PySem.W PyProof.Rows PySem.Calls PySem.Builtin PySem.Builtin.Str
namespace Mine
set_option maxRecDepth 100000

theorem fresh_T0 : True := by w_top off; exact True.intro
theorem len_toList (x : PySem.Str) : x.cps.toList.length = x.length := by simp [PySem.Str.length]

theorem slice_from {x : PySem.Str} {i : Int} (h0 : 0 ≤ i) (h2 : i ≤ x.length) : (Txt.slice x (some i) none).cps.toList = x.cps.toList.drop i.toNat := by
  rw [slice_from_eq h0 h2 rfl]
  show ((x.cps.toList.drop i.toNat).take ((x.length : Int) - i).toNat) = _
  rw [List.take_of_length_le]
  rw [List.length_drop, len_toList]; omega
theorem slice_to {x : PySem.Str} {j : Int} (h0 : 0 ≤ j) (h2 : j ≤ x.length) : (Txt.slice x none (some j)).cps.toList = x.cps.toList.take j.toNat := by
  rw [beq_iff_eq.mp (slice_closes_toL h0 h2)]
  simp
theorem slice_mid {x : PySem.Str} {i j : Int} (h0 : 0 ≤ i) (h1 : i ≤ j) (h2 : j ≤ x.length) : (Txt.slice x (some i) (some j)).cps.toList = (x.cps.toList.drop i.toNat).take (j - i).toNat := by
  rw [beq_iff_eq.mp (slice_closesL h0 h1 h2)]
theorem slice_last (x : PySem.Str) : (Txt.slice x (some (-1)) none).cps.toList = x.cps.toList.drop (x.length - 1) := by
  by_cases h : x.length = 0
  · have e : strSliceIndices (some (-1)) none 1 x.length = [] := by rw [h]; rfl
    unfold Txt.slice
    rw [e]
    have h' : x.cps.toList = [] := List.eq_nil_of_length_eq_zero (by rw [len_toList]; exact h)
    simp [h]
  · have e : Txt.slice x (some (-1)) none = Txt.slice x (some ((x.length : Int) - 1)) none := by
      have q : strSliceIndices (some (-1)) none 1 x.length = strSliceIndices (some ((x.length : Int) - 1)) none 1 x.length := by
        have h1 : ¬ ((x.length : Int) - 1 < 0) := by omega
        have h3 : (-1 : Int) < 0 := by decide
        have h4 : (-1 : Int) + (x.length : Int) = (x.length : Int) - 1 := by omega
        simp only [strSliceIndices, h1, h3, h4, if_true, if_false]
      unfold Txt.slice
      rw [q]
    rw [e, slice_from (by omega) (by omega)]
    congr 1
    omega
theorem slice_init (x : PySem.Str) : (Txt.slice x none (some (-1))).cps.toList = x.cps.toList.dropLast := by
  by_cases h : x.length = 0
  · have e : strSliceIndices none (some (-1)) 1 x.length = [] := by rw [h]; rfl
    have h' : x.cps.toList = [] := List.eq_nil_of_length_eq_zero (by rw [len_toList]; exact h)
    unfold Txt.slice
    rw [e]
    simp [h, h']
  · have e : Txt.slice x none (some (-1)) = Txt.slice x none (some ((x.length : Int) - 1)) := by
      have q : strSliceIndices none (some (-1)) 1 x.length = strSliceIndices none (some ((x.length : Int) - 1)) 1 x.length := by
        have h1 : ¬ ((x.length : Int) - 1 < 0) := by omega
        have h3 : (-1 : Int) < 0 := by decide
        have h4 : (-1 : Int) + (x.length : Int) = (x.length : Int) - 1 := by omega
        simp only [strSliceIndices, h1, h3, h4, if_true, if_false]
      unfold Txt.slice
      rw [q]
    rw [e, slice_to (by omega) (by omega), List.dropLast_eq_take, len_toList]
    congr 1
    omega
theorem str_ext {x y : PySem.Str} (h : x.cps.toList = y.cps.toList) : x = y := PySem.Str.ext' (Array.toList_inj.mp h)
theorem toList_append (x y : PySem.Str) : (x ++ y).cps.toList = x.cps.toList ++ y.cps.toList := by
  rw [PySem.Str.cps_append, Array.toList_append]
/-- the test of the pile: the last one and the sign are a pair -/
theorem any_pair (left : PySem.Str) (n : Nat) : ([PySem.Str.ofString "()", PySem.Str.ofString "[]", PySem.Str.ofString "{}"].any fun x => x == Txt.slice left (some (-1)) none ++ ⟨#[n]⟩)
    = (match left.cps.toList.reverse with | a :: _ => isPair a n | [] => false) := by
  have e1 : PySem.Str.ofString "()" = ⟨#[40, 41]⟩ := by decide +kernel
  have e2 : PySem.Str.ofString "[]" = ⟨#[91, 93]⟩ := by decide +kernel
  have e3 : PySem.Str.ofString "{}" = ⟨#[123, 125]⟩ := by decide +kernel
  rw [e1, e2, e3]
  have key : ∀ (a b : Nat), ((⟨#[a, b]⟩ : PySem.Str) == Txt.slice left (some (-1)) none ++ ⟨#[n]⟩) = (match left.cps.toList.reverse with | c :: _ => (c == a && n == b) | [] => false) := by
    intro a b
    have hs := slice_last left
    have hl := len_toList left
    rcases hr : left.cps.toList.reverse with _ | ⟨c, r⟩
    · have h0 : left.cps.toList = [] := by simpa using hr
      rw [h0] at hs
      have : Txt.slice left (some (-1)) none ++ ⟨#[n]⟩ = (⟨#[n]⟩ : PySem.Str) := str_ext (by rw [toList_append, hs]; simp)
      rw [this]
      simp
    · have h0 : left.cps.toList = r.reverse ++ [c] := by
        have := congrArg List.reverse hr
        simpa using this
      rw [h0] at hs hl
      have hl' : left.length - 1 = r.reverse.length := by rw [← hl]; simp
      rw [hl', List.drop_left] at hs
      have : Txt.slice left (some (-1)) none ++ ⟨#[n]⟩ = (⟨#[c, n]⟩ : PySem.Str) := str_ext (by rw [toList_append, hs]; simp)
      rw [this]
      dsimp only
      rw [Bool.eq_iff_iff]
      simp
      constructor
      · rintro ⟨rfl, rfl⟩; exact ⟨rfl, rfl⟩
      · rintro ⟨rfl, rfl⟩; exact ⟨rfl, rfl⟩
  simp only [List.any_cons, List.any_nil, key, Bool.or_false]
  rcases left.cps.toList.reverse with _ | ⟨c, r⟩
  · rfl
  · simp only [isPair, Bool.or_assoc]
end Mine
end T0
section T1
open PySem PySem.W PyProof.Rows PySem.Calls
namespace Mine
set_option maxRecDepth 100000

theorem fresh_T1 : True := by w_top off; exact True.intro
def PileInv (pre : List Int) (left : PySem.Str) (before sizes : List Int) : Prop :=
  pileRun (pre.map Int.toNat) = (left.cps.toList.reverse, before.reverse, sizes)
theorem pile_start : PileInv [] (PySem.Str.ofString "") [] [] := rfl
theorem pileRun_snoc (t : List Nat) (c : Nat) : pileRun (t ++ [c]) = stepP (pileRun t) c := by
  unfold pileRun; rw [List.foldl_append]; rfl
theorem pile_push {pre : List Int} {left : PySem.Str} {bs sz : List Int} {n : Nat} (h : PileInv pre left bs sz) (hl : bs.length = left.length)
    (hc : (match left.cps.toList.reverse with | a :: _ => isPair a n | [] => false) = false) : PileInv (pre ++ [(n : Int)]) (left ++ ⟨#[n]⟩) (bs ++ [(sz.length : Int)]) sz := by
  unfold PileInv at h ⊢
  rw [List.map_append]
  show pileRun (pre.map Int.toNat ++ [n]) = _
  rw [pileRun_snoc, h, toList_append]
  have hl2 : bs.reverse.length = left.cps.toList.reverse.length := by rw [List.length_reverse, List.length_reverse, len_toList]; exact hl
  rcases hr : left.cps.toList.reverse with _ | ⟨a, r⟩
  · rw [hr] at hl2
    have hb : bs.reverse = [] := List.eq_nil_of_length_eq_zero hl2
    rw [hb]
    simp [stepP, hr, hb]
  · rw [hr] at hl2 hc
    rcases hb : bs.reverse with _ | ⟨b, bs'⟩
    · rw [hb] at hl2; cases hl2
    · have hc' : isPair a n = false := hc
      simp [stepP, hc', hr, hb]
theorem pile_match {pre : List Int} {left : PySem.Str} {bs sz : List Int} {n : Nat} (h : PileInv pre left bs sz) (hl : bs.length = left.length)
    (hc : (match left.cps.toList.reverse with | a :: _ => isPair a n | [] => false) = true) :
    PileInv (pre ++ [(n : Int)]) (Txt.slice left none (some (-1))) bs.dropLast (sz ++ [(sz.length : Int) - bs.getLastD 0 + 1]) ∧ 0 < left.length := by
  unfold PileInv at h ⊢
  rw [List.map_append]
  have hl2 : bs.reverse.length = left.cps.toList.reverse.length := by rw [List.length_reverse, List.length_reverse, len_toList]; exact hl
  rcases hr : left.cps.toList.reverse with _ | ⟨a, r⟩
  · rw [hr] at hc; cases hc
  · rw [hr] at hl2 hc
    rcases hb : bs.reverse with _ | ⟨b, bs'⟩
    · rw [hb] at hl2; cases hl2
    · have hc' : isPair a n = true := hc
      have e1 : left.cps.toList = r.reverse ++ [a] := by simpa using congrArg List.reverse hr
      have e2 : bs = bs'.reverse ++ [b] := by simpa using congrArg List.reverse hb
      refine ⟨?_, by rw [← len_toList, e1]; simp⟩
      show pileRun (pre.map Int.toNat ++ [n]) = _
      rw [pileRun_snoc, h, hr, hb, slice_init, e1, e2]
      simp [stepP, hc']
end Mine
end T1
section P1
open PySem PySem.W PyProof.Rows PySem.Calls
namespace Mine
set_option maxRecDepth 100000
set_option maxHeartbeats 8000000

theorem fresh_P1 : True := by w_top off; exact True.intro
structure PSt where
  left : Str
  tl : Tok
  vb : List Value
  bs : List Int
  nb : Nat
  vz : List Value
  sz : List Int
  nz : Nat

theorem pile_end {h₀ h' : Heap} {L lz lb : Addr} {m' m₀ : Str → Option Value} {own : List (Addr × Obj)} {junk : Addr × Obj} {left' : Str} {tl' : Tok} {vb' vz' : List Value} {bs' sz' : List Int} {nb' nz' : Nat} {s₁ : Shared} {tk : Nat} {pre : List Int} {P : List Int → PSt → Prop}
    (F : Fr h₀ L h' m') (N : News h₀ L h' (junk :: (lz, W.listOf vz'.toArray nz') :: (lb, W.listOf vb'.toArray nb') :: own)) (hb : IntsAre vb' bs') (hz : IntsAre vz' sz')
    (hk : m' (Str.ofString "left") = some (.str left' tl')) (hr : ∀ z, z ≠ Str.ofString "sign" → z ≠ Str.ofString "left" → m' z = m₀ z) (hP : P pre ⟨left', tl', vb', bs', nb', vz', sz', nz'⟩) :
    InvEndN h₀ L (KstS (fun c : PSt => [(lz, W.listOf c.vz.toArray c.nz), (lb, W.listOf c.vb.toArray c.nb)]) (fun c => [(Str.ofString "left", Value.str c.left c.tl)])
      (fun c => IntsAre c.vb c.bs ∧ IntsAre c.vz c.sz) (Str.ofString "sign") [] m₀ P pre) own [lz, lb] s₁ { s₁ with heap := h', toks := tk } :=
  kst_end ⟨left', tl', vb', bs', nb', vz', sz', nz'⟩ F N (List.forall_mem_cons.mpr ⟨.tail _ (.head _), List.forall_mem_cons.mpr ⟨.tail _ (.tail _ (.head _)), fun _ q => nomatch q⟩⟩)
    (fun p hp => .tail _ (.tail _ (.tail _ hp))) rfl ⟨hb, hz⟩ (List.forall_mem_cons.mpr ⟨hk, fun _ q => nomatch q⟩) (fun z h1 h2 _ => hr z h1 (h2 _ (.head _))) hP

theorem pile_spec {w : World} {d : Nat} {fr : Option (List Env)} {gd : Option (List Code)} {un : Nat} {s : Shared} {mg mb : Str → Option Value} {loose : List Str} {mean : ExcName → Option Value} {t : Str} {tt : Tok} {R : Result → Shared → Prop}
  (X : (hd.heap_39 w.params).In s.heap) (T : Top topProg loose mean mg mb s.heap) (hroom : d < recursionLimit) (hlen : t.length ≤ 13)
  (hR : ∀ (D lz : Addr) (left : Str) (tl : Tok) (vz : List Value) (bs sz : List Int) (nz : Nat) (h' : Heap) (tk : Nat), (∀ b o, s.heap.get? b = some o → h'.get? b = some o) →
    h'.get? D = some { cls := .type "tuple", data := .seq #[.str left tl, .ref lz] } → h'.get? lz = some (W.listOf vz.toArray nz) → s.heap.get? D = none → s.heap.get? lz = none → lz < D → s.heap.objs.size ≤ h'.objs.size →
    IntsAre vz sz → PileInv (KStt.codes t) left bs sz → left.length ≤ 13 → sz.length ≤ 13 → R (.ok (.ret (.ref D))) ⟨h', s.gens, s.drawn, tk, s.os⟩) :
   codeAny (model Challenge.rw_rs0057_01.row.prog w) ⟨none, d, fr, gd, un⟩ (.call (.ref 52) ⟨[.str t tt], []⟩) R s := by
  revert X; k_fill; intro X
  refine' call_fn (K := hd.heap_39 w.params) (binds := [(Str.ofString "text", .str t tt)]) ?X ?lim ?k6 ?k7 ?k8 ?k9 ?kB ?_ ?c2 ?c3 ?c4 ?c5
  case k6 => k_is
  case k7 => k_is
  case k9 => exact BindsTo.of_eq rfl
  case c5 => decide
  case kB => exact locs rfl
  case c2 => exact rfl
  case c3 => exact rfl
  case c4 => exact rfl
  case X => exact X
  case lim => exact T.nolimit
  case k8 => exact hroom
  intro L h₁ hL F
  have N : News s.heap L h₁ [] := News.nil
  (k_with "pyIter str" => fail "no")
  k_steps
  rename_i h4 lb h3 e1 h2 lz h1 e2 h0 F N
  with_unfolding_all
   refine' KStt.kst_text (σ := PSt) (fun c => [(lz, W.listOf c.vz.toArray c.nz), (lb, W.listOf c.vb.toArray c.nb)]) (fun c => [(Str.ofString "left", Value.str c.left c.tl)])
    (fun c => IntsAre c.vb c.bs ∧ IntsAre c.vz c.sz) [] (fun pre c => PileInv pre c.left c.bs c.sz ∧ c.left.length ≤ pre.length ∧ c.bs.length = c.left.length ∧ c.sz.length ≤ pre.length) ⟨Str.ofString "", _, [], [], 0, [], [], 0⟩
    rfl F N ⟨.nil, .nil⟩ ?kk ⟨pile_start, Nat.le_refl _, rfl, Nat.le_refl _⟩ ?_ ?_
  case kk =>
    intro p hp; cases List.mem_singleton.mp hp; rfl
  · rintro ⟨left, tl, vb, bs, nb, vz, sz, nz⟩ pre post n tn u h tk own hEq hOff ⟨hb, hz⟩ ⟨hP, hl1, hl2, hl3⟩ F N
    dsimp only at hb hz hP hl1 hl2 hl3 N hOff F
    simp only [List.map_cons, List.map_nil] at hOff
    simp only [List.cons_append, List.nil_append] at N
    have hlt : pre.length < 13 := by
      have := congrArg List.length hEq
      rw [KStt.codes_length] at this
      simp only [List.length_append, List.length_cons] at this
      omega
    have hleft : left.length ≤ 13 := by omega
    have hvb : vb.length = bs.length := hb.length
    k_steps
    · rename_i hc
      rw [any_pair] at hc
      obtain ⟨hM, hpos⟩ := pile_match hP hl2 hc
      have hp1 : 0 < vb.length := by omega
      have hp2 : vb.length ≤ 13 := by omega
      k_steps
      rename Fr _ _ _ _ => F
      rename News _ _ _ _ => N
      rename IntsAre _ _ => hI
      simp only [List.push_toArray] at N
      refine pile_end F N hI (IntsAre.append hz (.cons _ _ .nil)) rfl ?_ ⟨hM, ?_, ?_, ?_⟩
      · intro z h1 h3
        rw [if_neg h3, if_neg h1]
        simp only [kstB, if_neg h3]
        rfl
      · rw [← len_toList, slice_init, List.length_append, List.length_dropLast, len_toList]; omega
      · rw [← len_toList, slice_init, List.length_dropLast, List.length_dropLast, len_toList]; omega
      · simp only [List.length_append, List.length_cons, List.length_nil]; omega
    · rename Fr _ _ _ _ => F
      rename News _ _ _ _ => N
      rename (List.any _ _ = _) => hc
      rw [any_pair] at hc
      simp only [List.push_toArray] at N
      refine pile_end F N (IntsAre.append hb (.cons _ _ .nil)) hz rfl ?_ ⟨pile_push hP hl2 hc, ?_, ?_, ?_⟩
      · intro z h1 h3
        rw [if_neg h3, if_neg h1]
        simp only [kstB, if_neg h3]
        rfl
      · rw [← len_toList, toList_append, List.length_append, List.length_append, len_toList]; simp only [List.length_cons, List.length_nil]; omega
      · rw [← len_toList, toList_append, List.length_append, List.length_append, len_toList]; simp only [List.length_cons, List.length_nil]; omega
      · simp only [List.length_append, List.length_cons, List.length_nil]; omega
  · rintro ⟨left, tl, vb, bs, nb, vz, sz, nz⟩ u h tk ⟨hb, hz⟩ ⟨hP, hl1, hl2, hl3⟩ F N
    dsimp only at hb hz hP hl1 hl2 hl3 N F
    k_steps
    rename_i D h' F N l1
    rw [KStt.codes_length] at hl1 hl3
    refine hR D lz left tl vz bs sz nz _ _ F.keep (N (D, _) (List.mem_cons_self ..)).1 (N (lz, W.listOf vz.toArray nz) (by simp)).1 (N (D, _) (List.mem_cons_self ..)).2.2 (N (lz, W.listOf vz.toArray nz) (by simp)).2.2 l1.1 ?_ hz hP (by omega) (by omega)
    have := F.above
    have := F.ns.lt
    exact Nat.le_trans F.above (Nat.le_of_lt F.ns.lt)
end Mine
end P1
section F0
open PySem PySem.W PyProof.Rows PySem.Calls Builtin Builtin.ObjectAttr
namespace Mine
set_option maxRecDepth 100000

theorem fresh_F0 : True := by w_top off; exact True.intro
/-! attributes of function objects -/
theorem fn_mro : mroOf (.type "function") = pure [.type "function", .type "object"] := by kernel_rfl
theorem fn_slot_set : Slot "function" "__setattr__" "object.__setattr__" :=
  .of (owner := "object") (n := "__setattr__") (by rw [typeLookup_type, builtinLookup_eq_fast]; kernel_rfl) (by decide +kernel) (by decide +kernel) (by decide +kernel)
    (by first | exact .inl (by decide +kernel) | exact .inr (by decide +kernel)) (by rw [isSubtype_type]; kernel_rfl)
theorem fn_slot_get : Slot "function" "__getattribute__" "object.__getattribute__" :=
  .of (owner := "object") (n := "__getattribute__") (by rw [typeLookup_type, builtinLookup_eq_fast]; kernel_rfl) (by decide +kernel) (by decide +kernel) (by decide +kernel)
    (by first | exact .inl (by decide +kernel) | exact .inr (by decide +kernel)) (by rw [isSubtype_type]; kernel_rfl)
theorem fn_no_string : typeLookup (.type "function") "string" = pure none := by rw [typeLookup_type, builtinLookup_eq_fast]; kernel_rfl
theorem fn_no_span : typeLookup (.type "function") "span" = pure none := by rw [typeLookup_type, builtinLookup_eq_fast]; kernel_rfl
theorem fn_no_getattr : typeLookup (.type "function") "__getattr__" = pure none := by rw [typeLookup_type, builtinLookup_eq_fast]; kernel_rfl
theorem fn_passes (self : Value) : refuseLoop self "__setattr__" [.type "function", .type "object"] = pure () := by kernel_rfl
theorem fn_sub : isSubtype (.type "function") (.type "object") = pure true := by rw [isSubtype_type]; kernel_rfl
theorem fn_hasDict : typeHasDict (.type "function") = true := by decide +kernel
theorem fn_cycle : finalisedInACycleAlone "function" = false := by decide +kernel
end Mine
end F0
section F1
open PySem PySem.W PyProof.Rows PySem.Calls Builtin Builtin.ObjectAttr
namespace Mine
set_option maxRecDepth 100000
theorem fresh_F1 : True := by w_top off; exact True.intro
section
variable {prog : Program} {w : World} {A : Around} {E : Value → Shared → Prop} {s : Shared} {h₀ : Heap} {L f dx : Addr} {m : Str → Option Value} {news news' : List (Addr × Obj)} {g : Obj → List (Addr × Obj)} {fo : Obj} {fd : FuncData} {name : Str} {v : Value} {es es' : List DictEntry} {n n' : Nat}

theorem fn_type {M : Model} {h : Heap} (ho : h.get? f = some fo) (hc : fo.cls = .type "function") : Looks M h (typeOf (.ref f)) (.type "function") := by
  have := (Looks.ld (M := M) (part := some headPart) ho).andThen (f := fun o => pure o.cls) .now
  rw [hc] at this
  exact this

/-- the call of object.__setattr__ down to the own dict -/
theorem fn_osa {R : Result → Shared → Prop} {tk : Tok} (ho : s.heap.get? f = some fo) (hc : fo.cls = .type "function") (ht : typeLookup (.type "function") name = pure none)
    (h : wpAny (model prog w) A.in1 (storeInOwnDict (.ref f) (.type "function") (.str name tk) name v false)
      (fun fin s' => match fin with | .done f => R (.ok f) s' | .again c' => c'.quiet = true ∧ codeAny (model prog w) A c' R s') (fun e s' => R (.error e) s') s) :
    codeAny (model prog w) A (.call (.builtin "object.__setattr__") ⟨[.ref f, .str name tk, v], []⟩) R s := by
  have SF := PySem.F.store_object
  have T := fn_type (M := model prog w) ho hc
  have sub : Looks (model prog w) s.heap (isInstance (.ref f) (.type "object")) true := T.andThen (Looks.of_pure fn_sub)
  refine codeAny_call_builtin SF.slot.plain SF.entry (@check_slot (model prog w) _ _ s "object.__setattr__" "object" "__setattr__" (.ref f) [.str name tk, v] [] _ SF.kind SF.split sub (SF.args (.ref f) (.str name tk) v) ?_)
  rw [osa_eq, refuse_eq]
  refine wpAny_bind (wpAny_bind (T.here (wpAny_bind ((Looks.of_pure fn_mro).here ?_))))
  rw [fn_passes]
  refine wpAny_pure (wpAny_bind (T.here (wpAny_bind ((Looks.of_pure ht).here (wpAny_bind (wpAny_pure ?_))))))
  exact h

theorem fn_setattr {Q : Unit → Shared → Prop} (ho : s.heap.get? f = some fo) (hc : fo.cls = .type "function")
    (h : codeAny (model prog w) A (.call (.builtin "object.__setattr__") ⟨[.ref f, .str name s.toks, v], []⟩) (fun r s' => match r with | .ok (.ret _) => Q () s' | .ok _ => False | .error e => E e s') { s with toks := s.toks + 1 }) :
    wpAny (model prog w) A (setAttr (.ref f) name v) Q E s := by
  have T := fn_type (M := model prog w) ho hc
  refine wpAny_bind (wpAny_mkText (wpAny_bind (wpAny_bind (wpAny_bind (T _ _ _ _ (fun _ _ e => e) ((Looks.of_pure (h := s.heap) fn_slot_set.lookup) _ _ _ _ (fun _ _ e => e) (wpAny_holding ?_)))))))
  rw [fn_slot_set.bind]
  refine wpAny_bind (wpAny_pure (wpAny_bind (wpAny_call (codeAny_mono h fun r s' z => ?_))))
  rcases r with e | (v | _ | _ | _) <;> first | exact z | exact wpAny_pure (wpAny_pure z)

theorem fn_streams {M : Model} {A : Around} {Q : Unit → Shared → Prop} (h : Q () s) : wpAny M A (ownStreamTells (.ref f) (.type "function")) Q E s := by
  rw [show ownStreamTells (.ref f) (.type "function") = pure () by kernel_rfl]
  exact wpAny_pure h

theorem fn_set_more {Q : Unit → Shared → Prop} (F : Fr h₀ L s.heap m) (N : News h₀ L s.heap news) (ho : (f, fo) ∈ news) (hc : fo.cls = .type "function") (hd : fo.dict = some dx) (ht : typeLookup (.type "function") name = pure none)
    (hl : (getL name es).isSome = true) (e : (putL name (PyData.keyHash w.params name) (.str name (s.toks + 1)) v es, putN name es n) = (es', n')) (U : Upd dx (dictOf es n) (dictOf es' n') news news') (hz : es'.length ≤ 1000)
    (h : ∀ h', Fr h₀ L h' m → News h₀ L h' news' → Q () { s with heap := h', toks := s.toks + 2 }) :
    wpAny (model prog w) A (setAttr (.ref f) name v) Q E s := by
  obtain ⟨pre, post, rfl, rfl, a, b⟩ := U.split
  obtain ⟨e1, e2⟩ := Prod.mk.inj e
  have hf := (N _ ho).1
  refine fn_setattr hf hc (fn_osa (s := { s with toks := s.toks + 1 }) hf hc ht ?_)
  unfold storeInOwnDict
  refine wpAny_bind (fn_streams ?_)
  rw [if_neg (by decide)]
  have D := (N (dx, dictOf es n) (by simp)).1
  obtain ⟨U1, U2⟩ := news_upd (f := Obj.putName name (PyData.keyHash w.params name) (.str name (s.toks + 1)) v) (o' := dictOf es' n') F N a b (by rw [putName_dict, e1, e2]) rfl
  have D' := (U2 (dx, dictOf es' n') (by simp)).1
  obtain ⟨oc, odi, oda, osl⟩ := fo
  dsimp only at hc hd
  subst hc hd
  refine wpAny_bind ?_
  show wpAny _ _ (instanceDict f true) _ _ _
  unfold instanceDict
  refine wpAny_bind (wpAny_loadPart hf ?_)
  dsimp only
  refine wpAny_pure (a := some dx) ?_
  show wpAny _ _ (storeInDict dx (.str name s.toks) name v) _ _ _
  unfold storeInDict newKeyGuard
  refine wpAny_bind (wpAny_pure (wpAny_bind ?_))
  unfold nsSet
  refine wpAny_bind (wpAny_bind (wpAny_askSetting (wpAny_pure (wpAny_bind (wpAny_mkText (wpAny_bind (wpAny_loadPart D ?_)))))))
  dsimp only
  have c : (!es.toArray.any (·.key.isStr name) && es.toArray.any (·.refKey)) = false := by
    rw [List.any_toArray, List.any_toArray]
    unfold getL at hl
    split at hl
    · rename_i en he
      rw [List.any_eq_true.mpr ⟨en, List.mem_of_find?_eq_some he, List.find?_some he⟩]; rfl
    · split at hl
      · cases hl
      · rename_i z; rw [Bool.not_eq_true] at z; rw [z, Bool.and_false]
  rw [aRefKeyMayBeTheName_at, c]
  refine wpAny_updatePart D ?_
  refine wpAny_bind (wpAny_lookBehind D' (pastItsLine_dict (by rw [List.size_toArray, sizeLine_eq]; omega)) ?_)
  exact wpAny_pure (h _ U1 U2)

theorem fn_set_new {Q : Unit → Shared → Prop} (F : Fr h₀ L s.heap m) (N : News h₀ L s.heap news) (U : UpdF f fo news g) (hc : fo.cls = .type "function") (hd : fo.dict = none) (hdat : fo.data = .func fd) (ht : typeLookup (.type "function") name = pure none)
    (h : ∀ dx h', Fr h₀ L h' m → News h₀ L h' ((dx, dictOf [⟨PyData.keyHash w.params name, .str name (s.toks + 1), v⟩] 1) :: g { fo with dict := some dx }) → (∀ p ∈ news, p.1 < dx) → Q () { s with heap := h', toks := s.toks + 2 }) :
    wpAny (model prog w) A (setAttr (.ref f) name v) Q E s := by
  obtain ⟨pre, post, rfl, hg, a, b⟩ := U.split
  have hf := (N (f, fo) (by simp)).1
  refine fn_setattr hf hc (fn_osa (s := { s with toks := s.toks + 1 }) hf hc ht ?_)
  unfold storeInOwnDict
  refine wpAny_bind (fn_streams ?_)
  rw [if_neg (by decide)]
  obtain ⟨oc, odi, oda, osl⟩ := fo
  dsimp only at hc hd hdat
  subst hc hd hdat
  have F1 := F.push (dictOf [] 0)
  have N1 := N.push F (dictOf [] 0)
  have hlt : ∀ p ∈ pre ++ (f, (⟨.type "function", none, .func fd, osl⟩ : Obj)) :: post, p.1 < s.heap.objs.size := fun p hp => Heap.lt_size (N p hp).1
  have hfs : f ≠ s.heap.objs.size := Nat.ne_of_lt (hlt (f, (⟨.type "function", none, .func fd, osl⟩ : Obj)) (List.mem_append_right _ (.head _)))
  have N1' : News h₀ L (s.heap.push (dictOf [] 0)) (((s.heap.objs.size, dictOf [] 0) :: pre) ++ (f, (⟨.type "function", none, .func fd, osl⟩ : Obj)) :: post) := N1
  obtain ⟨F2, N2⟩ := news_upd (f := fun o => { o with dict := some s.heap.objs.size }) (o' := ⟨.type "function", some s.heap.objs.size, .func fd, osl⟩) F1 N1' (fun p hp => by
    rcases List.mem_cons.mp hp with rfl | hp
    · exact hfs.symm
    · exact a p hp) b rfl rfl
  have N2' : News h₀ L ((s.heap.push (dictOf [] 0)).update f fun o => { o with dict := some s.heap.objs.size }) ([] ++ (s.heap.objs.size, dictOf [] 0) :: (pre ++ (f, (⟨.type "function", some s.heap.objs.size, .func fd, osl⟩ : Obj)) :: post)) := N2
  obtain ⟨F3, N3⟩ := news_upd (f := Obj.putName name (PyData.keyHash w.params name) (.str name (s.toks + 1)) v) (o' := dictOf [⟨PyData.keyHash w.params name, .str name (s.toks + 1), v⟩] 1) F2 N2' (fun p hp => nomatch hp) (fun p hp => by
    rcases List.mem_append.mp hp with hp | hp
    · exact Nat.ne_of_lt (hlt p (List.mem_append_left _ hp))
    · rcases List.mem_cons.mp hp with rfl | hp
      · exact hfs
      · exact Nat.ne_of_lt (hlt p (List.mem_append_right _ (.tail _ hp)))) (by rw [putName_dict]; rfl) rfl
  have D := (N2' (s.heap.objs.size, dictOf [] 0) (by simp)).1
  have D' := (N3 (s.heap.objs.size, dictOf [⟨PyData.keyHash w.params name, .str name (s.toks + 1), v⟩] 1) (.head _)).1
  have hf1 : (s.heap.push (dictOf [] 0)).get? f = some ⟨.type "function", none, .func fd, osl⟩ := Heap.get?_push_of_some _ hf
  refine wpAny_bind ?_
  show wpAny _ _ (instanceDict f true) _ _ _
  unfold instanceDict
  refine wpAny_bind (wpAny_loadPart hf ?_)
  dsimp only
  rw [fn_hasDict]
  simp only [Bool.not_true, Bool.or_self, Bool.false_eq_true, if_false]
  refine wpAny_bind (wpAny_alloc ?_)
  refine wpAny_bind (wpAny_update hf1 ?_)
  unfold dictMade
  simp only [fn_cycle, Bool.false_eq_true, if_false]
  refine wpAny_bind (wpAny_pure (wpAny_pure (a := some s.heap.objs.size) ?_))
  show wpAny _ _ (storeInDict s.heap.objs.size (.str name s.toks) name v) _ _ _
  unfold storeInDict newKeyGuard
  refine wpAny_bind (wpAny_pure (wpAny_bind ?_))
  unfold nsSet
  refine wpAny_bind (wpAny_bind (wpAny_askSetting (wpAny_pure (wpAny_bind (wpAny_mkText (wpAny_bind (wpAny_loadPart D ?_)))))))
  dsimp only
  have c : (!([] : List DictEntry).toArray.any (·.key.isStr name) && ([] : List DictEntry).toArray.any (·.refKey)) = false := by simp
  rw [aRefKeyMayBeTheName_at, c]
  refine wpAny_updatePart D ?_
  refine wpAny_bind (wpAny_lookBehind D' (pastItsLine_dict (by rw [List.size_toArray, sizeLine_eq]; simp)) ?_)
  refine wpAny_pure (h s.heap.objs.size _ F3 ?_ hlt)
  rw [hg]
  exact N3
end
end Mine
end F1
section F2
open PySem PySem.W PyProof.Rows PySem.Calls Builtin Builtin.ObjectAttr
namespace Mine
set_option maxRecDepth 100000
theorem fresh_F2 : True := by w_top off; exact True.intro
section
variable {prog : Program} {w : World} {A : Around} {E : Value → Shared → Prop} {s : Shared} {h₀ : Heap} {L f dx : Addr} {m : Str → Option Value} {news news' : List (Addr × Obj)} {g : Obj → List (Addr × Obj)} {fo : Obj} {fd : FuncData} {name : Str} {v : Value} {es es' : List DictEntry} {n n' : Nat}

theorem fn_find {M : Model} {h : Heap} (ho : h.get? f = some fo) (hc : fo.cls = .type "function") (hd : fo.dict = some dx) (hdat : fo.data = .func fd) (hD : h.get? dx = some (dictOf es n)) (ht : typeLookup (.type "function") name = pure none)
    (hl : getL name es = some (some v)) : Looks M h (find (.ref f) (.type "function") name) (.value v) := by
  obtain ⟨oc, odi, oda, osl⟩ := fo
  dsimp only at hc hd hdat
  subst hc hd hdat
  have hn : nsLook name (dictOf es n) = pure (some v) := nsLook_of (by rw [lookIn_dict]; exact hl)
  refine (Looks.of_pure ht).andThen ?_
  intro A Q E s k q
  refine wpAny_bind (wpAny_pure ?_)
  refine wpAny_bind (wpAny_pure ?_)
  show wpAny M A (ownThenClass (.ref f) name none none) Q E s
  unfold ownThenClass inOwnDict ObjectAttr.ownDict
  refine wpAny_bind (wpAny_bind (wpAny_bind (wpAny_loadPart (k _ _ ho) ?_)))
  dsimp only
  unfold instanceDict
  refine wpAny_bind (wpAny_loadPart (k _ _ ho) ?_)
  dsimp only
  refine wpAny_pure ?_
  show wpAny M A (nsGet dx name) _ _ _
  unfold nsGet
  refine wpAny_bind (wpAny_loadPart (k _ _ hD) ?_)
  rw [hn]
  refine wpAny_pure ?_
  exact wpAny_bind (wpAny_rule (wpAny_pure q))

theorem fn_get {expr : Bool} {Q : Value → Shared → Prop} (N : News h₀ L s.heap news) (ho : (f, fo) ∈ news) (hc : fo.cls = .type "function") (hd : fo.dict = some dx) (hdat : fo.data = .func fd) (hD : (dx, dictOf es n) ∈ news) (ht : typeLookup (.type "function") name = pure none)
    (hl : getL name es = some (some v)) (hh : handedIn v = true) (h : Q v { s with toks := s.toks + 1 }) : wpAny (model prog w) A (getAttr (.ref f) name expr) Q E s := by
  have hf := (N _ ho).1
  have T := fn_type (M := model prog w) hf hc
  have S := fn_slot_get
  have FD := fn_find (M := model prog w) hf hc hd hdat (N _ hD).1 ht hl
  unfold getAttr getAttrBy
  refine wpAny_bind (wpAny_mkText (wpAny_holding (wpAny_bind (T.here (s := { s with toks := s.toks + 1 }) (wpAny_bind ((Looks.of_pure (h := s.heap) S.lookup).here (s := { s with toks := s.toks + 1 }) ?_))))))
  show wpAny _ _ (getAttrByItsOwn _ _ _ _ _ _) _ _ _
  unfold getAttrByItsOwn
  refine wpAny_bind (wpAny_pure ?_)
  refine wpAny_bind (wpAny_attempt (wpAny_holding ?_))
  have hcg : callGetattribute (.ref f) (.str name s.toks) (.builtin "object.__getattribute__") expr = boundAndCalled (.builtin "object.__getattribute__") (.ref f) (.str name s.toks) := by
    unfold callGetattribute
    rw [if_neg (by simp [onTheHeap])]
  rw [hcg]
  unfold boundAndCalled
  rw [S.bind]
  refine wpAny_bind (wpAny_pure ?_)
  refine wpAny_call (codeAny_call_builtin S.plain PySem.F.entry_object_getattribute (S.check _ _ _ _ _ _ _ _ ⟨fo, hf, hc⟩ (PySem.F.args_object_getattribute_2 _ _) ?_))
  unfold Builtin.«object.__getattribute__»
  refine wpAny_bind (wpAny_pure ?_)
  refine wpAny_bind (wpAny_pure ?_)
  refine wpAny_bind (T.here (s := { s with toks := s.toks + 1 }) (wpAny_bind (FD.here (s := { s with toks := s.toks + 1 }) ?_)))
  refine wpAny_pure ?_
  show wpAny _ _ (handedOut v) _ _ _
  rw [handedOut_of hh]
  exact wpAny_pure h

theorem fn_method {pl : Sem Bool} {Q : Value × List Value → Shared → Prop} (N : News h₀ L s.heap news) (ho : (f, fo) ∈ news) (hc : fo.cls = .type "function") (hd : fo.dict = some dx) (hdat : fo.data = .func fd) (hD : (dx, dictOf es n) ∈ news) (ht : typeLookup (.type "function") name = pure none)
    (hl : getL name es = some (some v)) (hh : handedIn v = true) (h : Q (v, []) { s with toks := s.toks + 1 }) : wpAny (model prog w) A (getMethod (.ref f) name pl) Q E s := by
  have hf := (N _ ho).1
  have T := fn_type (M := model prog w) hf hc
  have u : wpAny (model prog w) A (do return (← getAttr (.ref f) name, ([] : List Value))) Q E s := wpAny_bind (fn_get N ho hc hd hdat hD ht hl hh (wpAny_pure h))
  have hcan := PySem.F.canon_object_ga
  unfold getMethod specialOf
  refine wpAny_bind (wpAny_bind (T.here ((Looks.of_pure (h := s.heap) fn_slot_get.lookup).here ?_)))
  dsimp only
  rw [hcan, if_neg (by decide)]
  refine wpAny_bind (wpAny_bind (T.here ((Looks.of_pure (h := s.heap) fn_no_getattr).here ?_)))
  refine wpAny_bind (wpAny_bind (T.here ((Looks.of_pure (h := s.heap) ht).here ?_)))
  exact u
end
end Mine
end F2
section P2
open PySem PySem.W PyProof.Rows PySem.Calls
namespace Mine
set_option maxRecDepth 100000
set_option maxHeartbeats 8000000

theorem fresh_P2 : True := by w_top off; exact True.intro
/-- the state of _law_cut's table of codes: empty, or both lambdas' codes in it -/
structure Codes where
  c1 : Addr
  o1 : Obj
  v1 : Array Value
  t1 : Tok
  c2 : Addr
  o2 : Obj
  v2 : Array Value
  t2 : Tok
abbrev tabFull (c1 c2 : Addr) : Obj := tabObj #[rawInt (60 : Nat), rawInt (10 : Nat), .ref c1, rawInt (62 : Nat), rawInt (15 : Nat), .ref c2]
def tabL : Option Codes → List (Addr × Obj)
  | none => [(33, tabObj #[])]
  | some c => [(33, tabFull c.c1 c.c2), (c.c2, c.o2), (c.c1, c.o1)]
def TabOk : Option Codes → Prop
  | none => True
  | some c => c.o1.data = .fields c.v1 ∧ c.v1[1]? = some (.str (Str.ofString "_law_cut" ++ ".<locals>." ++ "<lambda>") c.t1) ∧ c.o2.data = .fields c.v2 ∧ c.v2[1]? = some (.str (Str.ofString "_law_cut" ++ ".<locals>." ++ "<lambda>") c.t2) ∧
      33 < c.c1 ∧ c.c1 < c.c2

section
variable {prog : Program} {w : World} {A₀ A : Around} {s : Shared} {base h₀ : Heap} {outer : List Env} {L : Addr} {m : Str → Option Value} {env : Env} {news : List (Addr × Obj)} {K : Frag}
  {R : Result → Shared → Prop} {name qual : Str} {params : Arguments} {body : List Stmt} {scope : Scope} {dV kV doc pm cdv ct oc : Value} {an od : Option Addr} {osl : Array (Option Value)} {f : Addr} {args : Args} {binds : List (Str × Value)}
  {p : Program} {loose : List Str} {mean : ExcName → Option Value} {mg mb : Str → Option Value}

/-- a call of a def of K that captures: news lies open to it, all else stays -/
theorem enterC (B : Below A₀ base outer h₀) (F : Fr h₀ L s.heap m) (X₀ : K.In h₀) (N : News h₀ L s.heap news) (T : Top p loose mean mg mb h₀) (hA : A.frames = some (env :: outer)) (hf : env.frame = some L) (hke : env.scope.kind = .function)
    (ho : K.lookup f = some ⟨oc, od, .func (fnOf name qual params body scope dV kV doc pm an cdv ct), osl⟩) (hcd : codeIn K cdv qual = true) (hroom : A.depth < recursionLimit)
    (hbind : BindsTo s (fnOf name qual params body scope dV kV doc pm an cdv ct) args binds)
    (hkind : (binds.all fun y => scope.names.lookup y.1 == some .local || scope.names.lookup y.1 == some .cell) = true)
    (hnd : ((cellsFrom 0 scope.names []).map (·.1)).Nodup)
    (h : ∀ g L' h₁ tk cells, (∀ b o, s.heap.get? b = some o → b ∉ news.map (·.1) → g.get? b = some o) → Fr h₀ L g m → Fr g L' h₁ (bindL (envOfC qual scope L' f cdv).kindOf binds fun _ => none) → News g L' h₁ (cells ++ news) →
      CellsAre (bindC (envOfC qual scope L' f cdv).kindOf binds fun _ => none) (cellsFrom (L' + 1) scope.names []) cells → Below A base (env :: outer) g → h₀.StaysIn g → (∀ p ∈ news, p.1 < L') →
      wpAny (model prog w) (A.deeper (envOfC qual scope L' f cdv)) (execs body (envOfC qual scope L' f cdv))
        (fun fl s' => LeaveK h₀ L m g R (match fl with | .ret v => v | _ => .none) s')
        (fun e s' => wpAny (model prog w) (A.deeper (envOfC qual scope L' f cdv)) (leaving (envOfC qual scope L' f cdv) e) (fun _ s'' => R (.error e) s'') (fun e' s'' => R (.error e') s'') s')
        { s with heap := h₁, toks := tk })
    (hco : scope.isCoroutine = false) (hgen : scope.isGenerator = false) (hk : scope.kind = .function) : codeAny (model prog w) A (.call (.ref f) args) R s := by
  have X := X₀.keeps F.keep
  obtain ⟨FG, BG, st, lv⟩ := groundX (R := R) B F N hA hf hke
  refine codeAny_call_function (fd := fnOf name qual params body scope dV kV doc pm an cdv ct) hroom (X _ _ ho) rfl hco hgen rfl (codeRec_of X hcd) (hbind _ _ _ _ ?_)
  refine wpAny_newFunctionEnv_cells hk (kindsX hkind _) fun env' he s' x => ?_
  subst he
  refine ⟨(T.nolimit.keeps F.keep).keeps x.toInCall.keep, codeAny_func ?_⟩
  obtain ⟨h₁, tk, rfl, _⟩ := x.done
  have hk₁ := x.toInCall.keep
  obtain ⟨cells, NC, Y⟩ := Cl.news (h₀ := s.heap) (Nat.le_refl _) fun n c hm => ⟨x.cell n c (lookup_of_mem_nodup (cellsFrom_names scope.names 0 (s.heap.objs.size + 1) [] [] rfl ▸ hnd) hm), x.above n c hm⟩
  refine wpAny_mono (h _ s.heap.objs.size h₁ tk cells (fun b o e hb => hideAll_get _ e hb) FG ⟨x.toInCall.ns, fun b o e => hk₁ b o (of_hideAll _ e), Nat.le_of_eq (hideAll_size _ _)⟩ (fun p hp => ?_) Y BG st (fun p hp => Heap.lt_size (N p hp).1)) (fun fl s' hl => lv _ _ hl) fun _ _ y => y
  rcases List.mem_append.mp hp with hp | hp
  · refine ⟨(NC p hp).1, (NC p hp).2.1, ?_⟩
    cases q : (hideAll s.heap (news.map (·.1))).get? p.1 with
    | none => rfl
    | some o => have := of_hideAll _ q; rw [(NC p hp).2.2] at this; cases this
  · exact ⟨hk₁ _ _ (N p hp).1, Nat.ne_of_lt (Heap.lt_size (N p hp).1), hideAll_none _ (List.mem_map_of_mem hp)⟩
end
end Mine
end P2
section P3
open PySem PySem.W PyProof.Rows PySem.Calls
namespace Mine
set_option maxRecDepth 100000
set_option maxHeartbeats 8000000

local macro_rules | `(tactic| k_room) => `(tactic| ((simp only [depth_under_make, depth_under_kw, depth_in1, depth_deeper, recursionLimit]); omega))

local macro_rules | `(tactic| walk_at "setAttr ref") => `(tactic| (k_here; k_dflt (refine' fn_set_more ?F ?N ?o ?c ?d ?t ?l ?e ?U ?z ?_; (case F => k_asm); (case N => k_asm); (case o => k_mem); (case c => exact rfl); (case d => exact rfl); (case t => first | exact fn_no_string | exact fn_no_span); (case U => k_upd); (case l => k_get); (case e => k_put); (case z => exact Nat.le_of_ble_eq_true rfl); k_whole); intro h' F' N'; (try k_sweep)))
local macro_rules | `(tactic| walk_at "setAttr ref") => `(tactic| (k_here; k_dflt (refine' fn_set_new ?F ?N ?U ?c ?d ?dat ?t ?_; (case F => k_asm); (case N => k_asm); (case U => k_updF); (case c => exact rfl); (case d => exact rfl); (case dat => exact rfl); (case t => first | exact fn_no_string | exact fn_no_span); k_whole); intro dx' h' F' N' l1; (try dsimp only at N'); (try k_lt l1); (try k_sweep)))
local macro_rules | `(tactic| walk_at "getAttr ref") => `(tactic| (k_here; k_dflt (refine' fn_get ?N ?o ?c ?d ?dat ?D ?t ?l ?hh ?_; (case N => k_asm); (case o => k_mem); (case c => exact rfl); (case d => exact rfl); (case dat => exact rfl); (case D => k_mem); (case t => first | exact fn_no_string | exact fn_no_span); (case l => k_get); (case hh => exact rfl); k_whole)))
local macro_rules | `(tactic| walk_at "getMethod ref") => `(tactic| (k_here; k_dflt (refine' fn_method ?N ?o ?c ?d ?dat ?D ?t ?l ?hh ?_; (case N => k_asm); (case o => k_mem); (case c => exact rfl); (case d => exact rfl); (case dat => exact rfl); (case D => k_mem); (case t => first | exact fn_no_string | exact fn_no_span); (case l => k_get); (case hh => exact rfl); k_whole)))

theorem fresh_P3 : True := by w_top off; exact True.intro
theorem cut_fin {h₀ g s₀ : Heap} {L L' : Addr} {m m' : Str → Option Value} {news' old : List (Addr × Obj)} {R : Result → Shared → Prop} {v : Value} {s' : Shared} {ps : Array Value} {c1 c2 : Addr} {o1 o2 : Obj} {v1 v2 : Array Value} {t1 t2 : Tok}
    (Fe : Fr g L' s'.heap m') (Ne : News g L' s'.heap news') (hg : ∀ b o, s₀.get? b = some o → b ∉ old.map (·.1) → g.get? b = some o)
    (h1 : (33, tabObj ps) ∈ news') (hps : ps = #[rawInt (60 : Nat), rawInt (10 : Nat), .ref c1, rawInt (62 : Nat), rawInt (15 : Nat), .ref c2]) (h2 : (c2, o2) ∈ news') (h3 : (c1, o1) ∈ news')
    (d1 : o1.data = .fields v1) (d2 : v1[1]? = some (.str (Str.ofString "_law_cut" ++ ".<locals>." ++ "<lambda>") t1)) (d3 : o2.data = .fields v2) (d4 : v2[1]? = some (.str (Str.ofString "_law_cut" ++ ".<locals>." ++ "<lambda>") t2))
    (hlt : 33 < c1 ∧ c1 < c2) (hold : (33 : Nat) ∈ old.map (·.1))
    (hR : ∀ (ts' : Option Codes), TabOk ts' → Fr h₀ L s'.heap m → News h₀ L s'.heap (tabL ts') → (∀ b o, s₀.get? b = some o → b ∉ old.map (·.1) → s'.heap.get? b = some o) →
      (∀ p ∈ tabL ts', p.1 ∈ old.map (·.1) ∨ s₀.get? p.1 = none) → R (.ok (.ret v)) s') : LeaveK h₀ L m g R v s' := by
  subst hps
  have key : ∀ p ∈ news', p.1 ∈ old.map (·.1) ∨ s₀.get? p.1 = none := fun p hp => by
    by_cases hm : p.1 ∈ old.map (·.1)
    · exact .inl hm
    · refine .inr ?_
      cases q : s₀.get? p.1 with
      | none => rfl
      | some o => have := (Ne p hp).2.2; rw [hg _ _ q hm] at this; cases this
  refine ⟨L', m', tabL (some ⟨c1, o1, v1, t1, c2, o2, v2, t2⟩), Fe, fun p hp => ?_, fun F N => ?_⟩
  · simp only [tabL, List.mem_cons, List.not_mem_nil, or_false] at hp
    rcases hp with rfl | rfl | rfl
    · exact Ne _ h1
    · exact Ne _ h2
    · exact Ne _ h3
  · refine hR (some ⟨c1, o1, v1, t1, c2, o2, v2, t2⟩) ⟨d1, d2, d3, d4, hlt.1, hlt.2⟩ F N (fun b o e hb => Fe.keep b o (hg b o e hb)) fun p hp => ?_
    simp only [tabL, List.mem_cons, List.not_mem_nil, or_false] at hp
    rcases hp with rfl | rfl | rfl
    · exact .inl hold
    · exact key (c2, o2) h2
    · exact key (c1, o1) h3

theorem cut_none {w : World} {d : Nat} {gd : Option (List Code)} {un : Nat} {A₀ : Around} {s : Shared} {base h₀ : Heap} {outer : List Env} {L : Addr} {m : Str → Option Value} {env : Env} {loose : List Str} {mean : ExcName → Option Value} {mg mb : Str → Option Value}
  {t : Str} {i j : Int} {tt ti tj : Tok} {R : Result → Shared → Prop}
  (B : Below A₀ base outer h₀) (F : Fr h₀ L s.heap m) (X₀ : (hd.heap_39 w.params).In h₀) (N : News h₀ L s.heap [(33, tabObj #[])]) (T : Top topProg loose mean mg mb h₀) (C : CodeHd h₀ 37 33)
  (hf : env.frame = some L) (hke : env.scope.kind = .function) (hroom : d < 900) (hlen : t.length ≤ 30)
  (hR : ∀ (ts' : Option Codes) (h' : Heap) (tk : Nat) (tok : Tok), TabOk ts' → Fr h₀ L h' m → News h₀ L h' (tabL ts') → (∀ b o, s.heap.get? b = some o → b ∉ (tabL none).map (·.1) → h'.get? b = some o) →
    (∀ p ∈ tabL ts', p.1 ∈ (tabL none).map (·.1) ∨ s.heap.get? p.1 = none) → R (.ok (.ret (.str (Txt.slice t none (some i) ++ Txt.slice t (some j) none) tok))) ⟨h', s.gens, s.drawn, tk, s.os⟩) :
   codeAny (model Challenge.rw_rs0057_01.row.prog w) ⟨none, d, some (env :: outer), gd, un⟩ (.call (.ref 38) ⟨[.str t tt, .int i ti, .int j tj], []⟩) R s := by
  revert X₀; k_fill; intro X₀
  refine' enterC (K := hd.heap_39 w.params) (binds := [(Str.ofString "text", .str t tt), (Str.ofString "first", .int i ti), (Str.ofString "behind", .int j tj)]) B F X₀ N T rfl hf hke ?k6 ?k7 ?k8 ?k9 ?kB ?kD ?_ ?c2 ?c3 ?c4
  case k6 => k_is
  case k7 => k_is
  case k9 => exact BindsTo.of_eq rfl
  case kB => exact rfl
  case kD => decide +kernel
  case c2 => exact rfl
  case c3 => exact rfl
  case c4 => exact rfl
  case k8 => show d < 1000; omega
  intro g L' h₁ tk cells hg FG F' N' Y BG st hlt
  have X' := X₀.keeps st
  have T' := T.keeps st
  have C' := C.keeps st
  k_lt hlt
  k_cells Y
  simp only [List.cons_append, List.nil_append] at N'
  clear F N X₀ T C B FG
  k_steps
  rename Fr _ _ _ _ => Fe
  rename News _ _ _ _ => Ne
  refine' cut_fin Fe Ne hg ?h1 ?hps ?h2 ?h3 ?d1 ?d2 ?d3 ?d4 ?lt ?ho (fun ts' q1 q2 q3 q4 q5 => hR ts' _ _ _ q1 q2 q3 q4 q5)
  case h1 => k_mem
  case hps => with_unfolding_all rfl
  case h2 => k_mem
  case h3 => k_mem
  case d1 => assumption
  case d3 => assumption
  case d2 => assumption
  case d4 => assumption
  case lt => exact ⟨ltN (by omega), ltN (by omega)⟩
  case ho => exact List.Mem.head _

theorem cut_some {w : World} {d : Nat} {gd : Option (List Code)} {un : Nat} {A₀ : Around} {s : Shared} {base h₀ : Heap} {outer : List Env} {L : Addr} {m : Str → Option Value} {env : Env} {loose : List Str} {mean : ExcName → Option Value} {mg mb : Str → Option Value}
  {t : Str} {i j : Int} {tt ti tj : Tok} {R : Result → Shared → Prop} {c : Codes}
  (B : Below A₀ base outer h₀) (F : Fr h₀ L s.heap m) (X₀ : (hd.heap_39 w.params).In h₀) (N : News h₀ L s.heap [(33, tabFull c.c1 c.c2), (c.c2, c.o2), (c.c1, c.o1)]) (T : Top topProg loose mean mg mb h₀) (C : CodeHd h₀ 37 33) (hts : TabOk (some c))
  (hf : env.frame = some L) (hke : env.scope.kind = .function) (hroom : d < 900) (hlen : t.length ≤ 30)
  (hR : ∀ (ts' : Option Codes) (h' : Heap) (tk : Nat) (tok : Tok), TabOk ts' → Fr h₀ L h' m → News h₀ L h' (tabL ts') → (∀ b o, s.heap.get? b = some o → b ∉ (tabL (some c)).map (·.1) → h'.get? b = some o) →
    (∀ p ∈ tabL ts', p.1 ∈ (tabL (some c)).map (·.1) ∨ s.heap.get? p.1 = none) → R (.ok (.ret (.str (Txt.slice t none (some i) ++ Txt.slice t (some j) none) tok))) ⟨h', s.gens, s.drawn, tk, s.os⟩) :
   codeAny (model Challenge.rw_rs0057_01.row.prog w) ⟨none, d, some (env :: outer), gd, un⟩ (.call (.ref 38) ⟨[.str t tt, .int i ti, .int j tj], []⟩) R s := by
  revert X₀; k_fill; intro X₀
  refine' enterC (K := hd.heap_39 w.params) (binds := [(Str.ofString "text", .str t tt), (Str.ofString "first", .int i ti), (Str.ofString "behind", .int j tj)]) B F X₀ N T rfl hf hke ?k6 ?k7 ?k8 ?k9 ?kB ?kD ?_ ?c2 ?c3 ?c4
  case k6 => k_is
  case k7 => k_is
  case k9 => exact BindsTo.of_eq rfl
  case kB => exact rfl
  case kD => decide +kernel
  case c2 => exact rfl
  case c3 => exact rfl
  case c4 => exact rfl
  case k8 => show d < 1000; omega
  obtain ⟨q1, q2, q3, q4, q5, q6⟩ := hts
  obtain ⟨c1, o1, v1, t1, c2, o2, v2, t2⟩ := c
  dsimp only at q1 q2 q3 q4 q5 q6 N
  intro g L' h₁ tk cells hg FG F' N' Y BG st hlt
  have X' := X₀.keeps st
  have T' := T.keeps st
  have C' := C.keeps st
  k_lt hlt
  k_cells Y
  simp only [List.cons_append, List.nil_append] at N'
  clear F N X₀ T C B FG
  k_steps
  rename Fr _ _ _ _ => Fe
  rename News _ _ _ _ => Ne
  refine' cut_fin Fe Ne hg ?h1 ?hps ?h2 ?h3 ?d1 ?d2 ?d3 ?d4 ?lt ?ho (fun ts' q1 q2 q3 q4 q5 => hR ts' _ _ _ q1 q2 q3 q4 q5)
  case h1 => k_mem
  case hps => with_unfolding_all rfl
  case h2 => k_mem
  case h3 => k_mem
  case d1 => assumption
  case d3 => assumption
  case d2 => assumption
  case d4 => assumption
  case lt => exact ⟨ltN (by omega), ltN (by omega)⟩
  case ho => exact List.Mem.head _
end Mine
end P3
section P4
open PySem PySem.W PyProof.Rows PySem.Calls
namespace Mine
set_option maxRecDepth 100000

theorem fresh_P4 : True := by w_top off; exact True.intro
theorem cut_spec {w : World} {d : Nat} {gd : Option (List Code)} {un : Nat} {A₀ : Around} {s : Shared} {base h₀ : Heap} {outer : List Env} {L : Addr} {m : Str → Option Value} {env : Env} {loose : List Str} {mean : ExcName → Option Value} {mg mb : Str → Option Value}
  {t : Str} {i j : Int} {tt ti tj : Tok} {R : Result → Shared → Prop} {ts : Option Codes} {rest : List (Addr × Obj)}
  (B : Below A₀ base outer h₀) (F : Fr h₀ L s.heap m) (X₀ : (hd.heap_39 w.params).In h₀) (N : News h₀ L s.heap (tabL ts ++ rest)) (T : Top topProg loose mean mg mb h₀) (C : CodeHd h₀ 37 33) (hts : TabOk ts) (hoff : ∀ p ∈ rest, p.1 ∉ (tabL ts).map (·.1))
  (hf : env.frame = some L) (hke : env.scope.kind = .function) (hroom : d < 900) (hlen : t.length ≤ 30)
  (hR : ∀ (ts' : Option Codes) (h' : Heap) (tk : Nat) (tok : Tok), TabOk ts' → Fr h₀ L h' m → News h₀ L h' (tabL ts' ++ rest) → (∀ p ∈ rest, p.1 ∉ (tabL ts').map (·.1)) →
    R (.ok (.ret (.str (Txt.slice t none (some i) ++ Txt.slice t (some j) none) tok))) ⟨h', s.gens, s.drawn, tk, s.os⟩) :
   codeAny (model Challenge.rw_rs0057_01.row.prog w) ⟨none, d, some (env :: outer), gd, un⟩ (.call (.ref 38) ⟨[.str t tt, .int i ti, .int j tj], []⟩) R s := by
  have N0 : News h₀ L s.heap (tabL ts) := fun p hp => N p (List.mem_append_left _ hp)
  have fin : ∀ (ts' : Option Codes) (h' : Heap) (tk : Nat) (tok : Tok), TabOk ts' → Fr h₀ L h' m → News h₀ L h' (tabL ts') → (∀ b o, s.heap.get? b = some o → b ∉ (tabL ts).map (·.1) → h'.get? b = some o) →
      (∀ p ∈ tabL ts', p.1 ∈ (tabL ts).map (·.1) ∨ s.heap.get? p.1 = none) → R (.ok (.ret (.str (Txt.slice t none (some i) ++ Txt.slice t (some j) none) tok))) ⟨h', s.gens, s.drawn, tk, s.os⟩ := by
    intro ts' h' tk tok q1 F' N' hk hn
    refine hR ts' h' tk tok q1 F' (fun p hp => ?_) fun p hp hm => ?_
    · rcases List.mem_append.mp hp with hp | hp
      · exact N' p hp
      · have Np := N p (List.mem_append_right _ hp)
        exact ⟨hk _ _ Np.1 (hoff p hp), Np.2⟩
    · obtain ⟨q, hq, e⟩ := List.mem_map.mp hm
      rcases hn q hq with h1 | h1
      · rw [e] at h1; exact hoff p hp h1
      · rw [e, (N p (List.mem_append_right _ hp)).1] at h1; cases h1
  cases ts with
  | none => exact cut_none B F X₀ N0 T C hf hke hroom hlen fin
  | some c => exact cut_some B F X₀ N0 T C hts hf hke hroom hlen fin
end Mine
end P4
section T2
open PySem PySem.W PyProof.Rows PySem.Calls Builtin Builtin.Str
namespace Mine
set_option maxRecDepth 100000

theorem fresh_T2 : True := by w_top off; exact True.intro
def delL (c : Nat) (l : List Nat) : List Nat := l.filter fun k => !(k == c)
theorem delL_free (c : Nat) (l : List Nat) (h : c ∉ l) : delL c l = l := by
  unfold delL
  rw [List.filter_eq_self]
  intro a ha
  simp only [Bool.not_eq_true', beq_eq_false_iff_ne]
  exact fun e => h (e ▸ ha)
theorem delL_join (c : Nat) : ∀ parts : List PySem.Str, (∀ p ∈ parts, c ∉ p.cps.toList) → delL c (PySem.Str.join ⟨#[c]⟩ parts).cps.toList = (PySem.Str.join ⟨#[]⟩ parts).cps.toList
  | [], _ => rfl
  | [p], h => delL_free c _ (h p (List.mem_singleton.mpr rfl))
  | p :: q :: r, h => by
    have ih := delL_join c (q :: r) fun a ha => h a (List.mem_cons_of_mem _ ha)
    show delL c (p ++ ⟨#[c]⟩ ++ PySem.Str.join ⟨#[c]⟩ (q :: r)).cps.toList = (p ++ ⟨#[]⟩ ++ PySem.Str.join ⟨#[]⟩ (q :: r)).cps.toList
    simp only [PySem.Str.cps_append, Array.toList_append]
    have e1 : ∀ a b : List Nat, delL c (a ++ b) = delL c a ++ delL c b := fun a b => by unfold delL; rw [List.filter_append]
    rw [e1, e1, ih, delL_free c _ (h p (List.mem_cons_self ..))]
    simp [delL]
theorem replace_del (x : PySem.Str) (c : Nat) : (Txt.replace x ⟨#[c]⟩ ⟨#[]⟩).cps.toList = delL c x.cps.toList := by
  rw [StrLaws.replace_one, ← delL_join c _ (StrLaws.split_free x c), StrLaws.join_split]

def strDel (x : PySem.Str) (c : Nat) : PySem.Str := ⟨(delL c x.cps.toList).toArray⟩
theorem replace_is (x : PySem.Str) (c : Nat) : Txt.replace x ⟨#[c]⟩ ⟨#[]⟩ = strDel x c := str_ext (by rw [replace_del]; rfl)
theorem strDel_len (x : PySem.Str) (c : Nat) : (strDel x c).length ≤ x.length := by
  show (delL c x.cps.toList).toArray.size ≤ _
  rw [List.size_toArray, ← len_toList]
  exact List.length_filter_le _ _

section
variable {prog : Program} {w : World} {A : Around} {E : Value → Shared → Prop} {s : Shared} {x y z : PySem.Str} {t u v : Tok} {Q : Value → Shared → Prop}
theorem del_call {c : Nat} (hy : y = ⟨#[c]⟩) (hz : z = ⟨#[]⟩) (hu : u ≠ 0) (hv : v ≠ 0) (huv : u ≠ v) (hb : x.length ≤ 1000)
    (hq : ∀ t' k, s.toks ≤ k → (strDel x c).length ≤ x.length → Q (.str (strDel x c) t') { s with toks := k }) : wpAny (model prog w) A (call (.builtin "str.replace") [.str x t, .str y u, .str z v]) Q E s := by
  have hyz : (y == z) = false := by subst hy hz; rfl
  have hz0 : z.length = 0 := by subst hz; rfl
  have hb' : x.length + (x.length + 1) * z.length ≤ 16777216 := by rw [hz0]; omega
  have hl : tooLong (x.length + (occurrences x y 0 x.length (x.length + 1)).length * z.length) = false := by
    unfold tooLong sizeLine
    rw [hz0]
    exact decide_eq_false (by have e : (2 : Nat) ^ 24 = 16777216 := by decide
                              omega)
  have hq' : ∀ t' k, s.toks ≤ k → Q (.str (Txt.replace x y z) t') { s with toks := k } := fun t' k hk => by
    subst hy hz
    rw [replace_is]
    exact hq t' k hk (strDel_len x c)
  refine call_gives F.slot_str_replace (typeIs_str _ _ _) F.entry_str_replace (F.args_str_replace_3 _ _ _)
    (gives_str_replace x y z t u v fun _ => ⟨by simp [hu, hv], by simp [huv], hyz, hl⟩) ?_
  unfold Txt.replace at hq'
  cases hc : ((occurrences x y 0 x.length (x.length + 1)).isEmpty || (y.length == 0 && z.length == 0))
  · rw [hc] at hq'
    simp only [Bool.false_eq_true, if_false] at hq' ⊢
    exact ⟨fits_replaced y hb', hq' _ _ (Nat.le_succ _)⟩
  · rw [hc] at hq'
    simp only [if_true] at hq' ⊢
    exact hq' t s.toks (Nat.le_refl _)
end
end Mine
end T2
section T3
open PySem PySem.W PyProof.Rows PySem.Calls
namespace Mine
set_option maxRecDepth 100000

theorem fresh_T3 : True := by w_top off; exact True.intro
def six (c : Nat) : Prop := c = 40 ∨ c = 41 ∨ c = 91 ∨ c = 93 ∨ c = 123 ∨ c = 125
theorem item_last {x : PySem.Str} {l : List Nat} {c : Nat} (h : x.cps.toList = l ++ [c]) : Txt.item x (-1) = ⟨#[c]⟩ := by
  have e : x = (⟨#[]⟩ : PySem.Str) ++ ⟨(l ++ [c]).toArray⟩ := str_ext (by rw [toList_append, h]; simp)
  rw [e]
  exact item_last_right _ l c

/-- what is left of a text lies in it -/
theorem pile_sub (t : List Nat) : ∀ x ∈ (pileRun t).1, x ∈ t := by
  have gen : ∀ (t : List Nat) (S : List Nat × List Int × List Int), ∀ x ∈ (t.foldl stepP S).1, x ∈ S.1 ∨ x ∈ t := by
    intro t
    induction t with
    | nil => intro S x hx; exact .inl hx
    | cons c r ih =>
      intro S x hx
      rcases ih (stepP S c) x hx with h | h
      · have : x ∈ S.1 ∨ x = c := by
          obtain ⟨st, bs, sz⟩ := S
          rcases st with _ | ⟨a, st⟩
          · rcases List.mem_cons.mp h with h | h
            · exact .inr h
            · exact .inl h
          · rcases bs with _ | ⟨b, bs⟩
            · rcases List.mem_cons.mp h with h | h
              · exact .inr h
              · exact .inl h
            · simp only [stepP] at h
              split at h
              · exact .inl (.tail _ h)
              · rcases List.mem_cons.mp h with h | h
                · exact .inr h
                · exact .inl h
        rcases this with h | h
        · exact .inl h
        · exact .inr (h ▸ .head _)
      · exact .inr (.tail _ h)
  intro x hx
  rcases gen t ([], [], []) x hx with h | h
  · cases h
  · exact h
theorem codes_nat (t : PySem.Str) : (KStt.codes t).map Int.toNat = t.cps.toList := by
  unfold KStt.codes
  rw [List.map_map]
  exact (List.map_congr_left (g := _root_.id) fun c _ => Int.toNat_natCast c).trans (List.map_id _)
theorem left_six {t left : PySem.Str} {bs sz : List Int} (h : PileInv (KStt.codes t) left bs sz) (hs : ∀ x ∈ t.cps.toList, six x) : ∀ x ∈ left.cps.toList, six x := by
  unfold PileInv at h
  rw [codes_nat] at h
  intro x hx
  have := pile_sub t.cps.toList x (by rw [h]; exact List.mem_reverse.mpr hx)
  exact hs x this
theorem still_last {left : PySem.Str} (hs : ∀ x ∈ left.cps.toList, six x) (hp : 1 ≤ (strDel (strDel (strDel left 41) 93) 125).length) :
    Txt.item (strDel (strDel (strDel left 41) 93) 125) (-1) = PySem.Str.ofString "(" ∨ Txt.item (strDel (strDel (strDel left 41) 93) 125) (-1) = PySem.Str.ofString "[" ∨ Txt.item (strDel (strDel (strDel left 41) 93) 125) (-1) = PySem.Str.ofString "{" := by
  have e1 : PySem.Str.ofString "(" = ⟨#[40]⟩ := by decide +kernel
  have e2 : PySem.Str.ofString "[" = ⟨#[91]⟩ := by decide +kernel
  have e3 : PySem.Str.ofString "{" = ⟨#[123]⟩ := by decide +kernel
  rw [e1, e2, e3]
  generalize hy : strDel (strDel (strDel left 41) 93) 125 = y at hp ⊢
  have hmem : ∀ c ∈ y.cps.toList, c = 40 ∨ c = 91 ∨ c = 123 := by
    intro c hc
    rw [← hy] at hc
    simp only [strDel, delL, List.mem_filter, Bool.not_eq_true', beq_eq_false_iff_ne] at hc
    obtain ⟨⟨⟨h1, h2⟩, h3⟩, h4⟩ := hc
    rcases hs c h1 with h | h | h | h | h | h <;> simp_all
  rcases List.eq_nil_or_concat y.cps.toList with h | ⟨l, c, h⟩
  · rw [← len_toList, h] at hp; cases hp
  · rw [item_last (l := l) (c := c) (by simpa using h)]
    rcases hmem c (by rw [h]; simp) with rfl | rfl | rfl
    · exact .inl rfl
    · exact .inr (.inl rfl)
    · exact .inr (.inr rfl)
theorem item_six (k : Int) (h0 : 0 ≤ k) (h1 : k < 6) : ∀ x ∈ (Txt.item (PySem.Str.ofString "()[]{}") k).cps.toList, six x := by
  have e : PySem.Str.ofString "()[]{}" = ⟨#[40, 41, 91, 93, 123, 125]⟩ := by decide +kernel
  have hk : k = 0 ∨ k = 1 ∨ k = 2 ∨ k = 3 ∨ k = 4 ∨ k = 5 := by omega
  rw [e]
  rcases hk with rfl | rfl | rfl | rfl | rfl | rfl
  all_goals
    intro x hx
    first
      | (rw [item_meets (n := 40) (by decide) rfl] at hx; simp at hx; subst hx; decide +revert)
      | (rw [item_meets (n := 41) (by decide) rfl] at hx; simp at hx; subst hx; unfold six; decide)
      | (rw [item_meets (n := 91) (by decide) rfl] at hx; simp at hx; subst hx; unfold six; decide)
      | (rw [item_meets (n := 93) (by decide) rfl] at hx; simp at hx; subst hx; unfold six; decide)
      | (rw [item_meets (n := 123) (by decide) rfl] at hx; simp at hx; subst hx; unfold six; decide)
      | (rw [item_meets (n := 125) (by decide) rfl] at hx; simp at hx; subst hx; unfold six; decide)
      | (rw [item_meets (n := 40) (by decide) rfl] at hx; simp at hx; subst hx; unfold six; decide)
theorem six_of (y : PySem.Str) (h : y = ⟨#[41]⟩ ∨ y = ⟨#[93]⟩ ∨ y = ⟨#[125]⟩) : ∀ x ∈ y.cps.toList, six x := by
  rcases h with rfl | rfl | rfl <;> (intro x hx; simp at hx; subst hx; unfold six; decide)
theorem text_more {text y : PySem.Str} {pre : List Int} {n : Int} (h1 : text.length = 7 + pre.length) (h2 : ∀ x ∈ text.cps.toList, six x) (h3 : y.length = 1) (h4 : ∀ x ∈ y.cps.toList, six x) :
    (text ++ y).length = 7 + (pre ++ [n]).length ∧ ∀ x ∈ (text ++ y).cps.toList, six x := by
  refine ⟨?_, ?_⟩
  · rw [← len_toList, toList_append, List.length_append, len_toList, len_toList, h1, h3, List.length_append, List.length_singleton]; omega
  · intro x hx
    rw [toList_append] at hx
    rcases List.mem_append.mp hx with h | h
    · exact h2 x h
    · exact h4 x h
end Mine
namespace Mine
theorem start_six : ∀ x ∈ (PySem.Str.ofString "([]{})[").cps.toList, six x := by
  rw [show PySem.Str.ofString "([]{})[" = ⟨#[40, 91, 93, 123, 125, 41, 91]⟩ from by decide +kernel]
  unfold six
  decide
end Mine
end T3
section T4
open PySem PySem.W PyProof.Rows PySem.Calls PyProof.V
namespace Mine
set_option maxRecDepth 100000
theorem fresh_T4 : True := by w_top off; exact True.intro
section
variable {prog : Program} {w : World} {A : Around} {E : Value → Shared → Prop} {s : Shared} {y : PySem.Str} {t t1 t2 t3 t4 t5 t6 : Tok} {d : Addr} {Q : Value → Shared → Prop} {value slice : PySem.Expr}
theorem brackets_item (hy : y = PySem.Str.ofString "(" ∨ y = PySem.Str.ofString "[" ∨ y = PySem.Str.ofString "{")
    (T : StrTab prog w s.heap d (strData [(.str (PySem.Str.ofString "(") t1, .str (PySem.Str.ofString ")") t2), (.str (PySem.Str.ofString "[") t3, .str (PySem.Str.ofString "]") t4), (.str (PySem.Str.ofString "{") t5, .str (PySem.Str.ofString "}") t6)]))
    (h : ∀ (c : PySem.Str) (u : Tok), c.length = 1 → (∀ x ∈ c.cps.toList, six x) → Q (.str c u) { s with toks := s.toks + 1 })
    (hs : subscripted slice false (.ref d) (.str y t) = operate [.ref d, .str y t] (getItem (.ref d) (.str y t)) := by with_unfolding_all rfl) :
    wpAny (model prog w) A (subscriptTail value slice (.ref d) (.str y t)) Q E s := by
  refine tab_tail T ?_ hs
  clear hs
  have e1 : PySem.Str.ofString ")" = ⟨#[41]⟩ := by decide +kernel
  have e2 : PySem.Str.ofString "]" = ⟨#[93]⟩ := by decide +kernel
  have e3 : PySem.Str.ofString "}" = ⟨#[125]⟩ := by decide +kernel
  have key : ∀ c, PySem.Spec.lookup (PyData.str y) (strData [(.str (PySem.Str.ofString "(") t1, .str (PySem.Str.ofString ")") t2), (.str (PySem.Str.ofString "[") t3, .str (PySem.Str.ofString "]") t4), (.str (PySem.Str.ofString "{") t5, .str (PySem.Str.ofString "}") t6)]) = some (.str c) → c.length = 1 → (∀ x ∈ c.cps.toList, six x) →
      wpAny (model prog w) A (getItem (.ref d) (.str y t)) Q E s := fun c hl h1 h2 =>
    getItem_tab PyProof.V.same_str (strKind_is _ _ _ _) T hl fun v hv => by
      obtain ⟨u, rfl⟩ := PyProof.V.Flat.str_inv hv
      exact h c u h1 h2
  rcases hy with rfl | rfl | rfl
  · exact key (PySem.Str.ofString ")") (by kernel_rfl) (by decide +kernel) (by rw [e1]; exact six_of _ (.inl rfl))
  · exact key (PySem.Str.ofString "]") (by kernel_rfl) (by decide +kernel) (by rw [e2]; exact six_of _ (.inr (.inl rfl)))
  · exact key (PySem.Str.ofString "}") (by kernel_rfl) (by decide +kernel) (by rw [e3]; exact six_of _ (.inr (.inr rfl)))
end
end Mine
end T4
section P5
open PySem PySem.W PyProof.Rows PySem.Calls
namespace Mine
set_option maxRecDepth 100000
set_option maxHeartbeats 8000000

theorem fresh_P5 : True := by w_top off; exact True.intro
theorem Fr_ext {h₀ h h' : Heap} {L : Addr} {m : Str → Option Value} (F : Fr h₀ L h m) (k : ∀ b o, h.get? b = some o → h'.get? b = some o) : Fr h₀ L h' m :=
  ⟨F.ns.keeps k, fun b o e => k b o (F.keep b o e), F.above⟩

theorem pile_call {w : World} {d : Nat} {fr : Option (List Env)} {gd : Option (List Code)} {un : Nat} {E : Value → Shared → Prop} {s : Shared} {h₀ : Heap} {L : Addr} {m : Str → Option Value} {news : List (Addr × Obj)} {mg mb : Str → Option Value} {loose : List Str} {mean : ExcName → Option Value} {t : Str} {tt : Tok} {Q : Value → Shared → Prop}
  (F : Fr h₀ L s.heap m) (X : (hd.heap_39 w.params).In h₀) (T : Top topProg loose mean mg mb h₀) (N : News h₀ L s.heap news) (hroom : d < recursionLimit) (hlen : t.length ≤ 13)
  (hQ : ∀ (D lz : Addr) (left : Str) (tl : Tok) (vz : List Value) (bs sz : List Int) (nz : Nat) (h' : Heap) (tk : Nat), Fr h₀ L h' m →
    News h₀ L h' ((D, { cls := .type "tuple", data := .seq #[.str left tl, .ref lz] }) :: (lz, W.listOf vz.toArray nz) :: news) → (∀ p ∈ news, p.1 ≠ D ∧ p.1 ≠ lz) → lz < D →
    IntsAre vz sz → PileInv (KStt.codes t) left bs sz → left.length ≤ 13 → sz.length ≤ 13 → Q (.ref D) ⟨h', s.gens, s.drawn, tk, s.os⟩) :
   wpAny (model Challenge.rw_rs0057_01.row.prog w) ⟨none, d, fr, gd, un⟩ (call (.ref 52) [.str t tt]) Q E s := by
  refine wpAny_call (pile_spec (X.keeps F.keep) (T.keeps F.keep) hroom hlen fun D lz left tl vz bs sz nz h' tk hk hD hz fD fz hlt hsz hI hP h1 h2 => ?_)
  have nL : ∀ a, s.heap.get? a = none → a ≠ L ∧ h₀.get? a = none := fun a e => by
    refine ⟨fun q => ?_, ?_⟩
    · obtain ⟨o, _, _, ho, _⟩ := F.ns
      rw [q, ho] at e; cases e
    · cases q : h₀.get? a with
      | none => rfl
      | some o => rw [F.keep _ _ q] at e; cases e
  refine hQ D lz left tl vz bs sz nz h' tk (Fr_ext F hk) (fun p hp => ?_) (fun p hp => ⟨fun q => ?_, fun q => ?_⟩) hlt hI hP h1 h2
  · rcases List.mem_cons.mp hp with rfl | hp
    · exact ⟨hD, nL D fD⟩
    · rcases List.mem_cons.mp hp with rfl | hp
      · exact ⟨hz, nL lz fz⟩
      · exact ⟨hk _ _ (N p hp).1, (N p hp).2⟩
  · have := (N p hp).1; rw [q, fD] at this; cases this
  · have := (N p hp).1; rw [q, fz] at this; cases this

structure TSt where
  text : Str
  tt : Tok
local macro_rules | `(tactic| walk_at "call ref") => `(tactic| (k_here; k_dflt (refine' pile_call ?F ?X ?T ?N ?r ?l ?_; (case F => k_asm); (case X => k_asm); (case T => k_asm); (case N => k_asm); (case r => (simp only [recursionLimit]; omega)); (case l => omega); k_whole); intro D' lz' left' tl' vz' bs' sz' nz' h' tk' F' N' hne' hlt' hI' hP' hb1' hb2'))

local macro_rules | `(tactic| k_steps) => `(tactic| repeat' (first | ((fail_if_success (with_reducible show wpAny _ _ (pyIter _) _ _ _)); (fail_if_success (with_reducible show wpAny _ _ (subscriptTail _ _ (Value.ref _) (Value.str _ _)) _ _ _)); (first | (k_unfold; (try dsimp only)) | (k_end; wrow_close) | walk1 | (dsimp only; walk1) | (leave1; walk_say "STEP leave1"; try dsimp only))) | fail "no step"))
local macro_rules | `(tactic| walk_at "call builtin:str.replace") => `(tactic| (k_here; k_dflt (first | (refine' del_call (c := 41) ?y ?z ?u ?v ?uv ?b ?_; (case y => decide +kernel); (case z => decide +kernel); (case u => first | omega | (refine neN ?_; (try dsimp only); omega) | (simp; done) | (simp; omega)); (case v => first | omega | (refine neN ?_; (try dsimp only); omega) | (simp; done) | (simp; omega)); (case uv => first | omega | (refine neN ?_; (try dsimp only); omega) | (simp; done) | (simp; omega)); (case b => omega); k_whole) | (refine' del_call (c := 93) ?y ?z ?u ?v ?uv ?b ?_; (case y => decide +kernel); (case z => decide +kernel); (case u => first | omega | (refine neN ?_; (try dsimp only); omega) | (simp; done) | (simp; omega)); (case v => first | omega | (refine neN ?_; (try dsimp only); omega) | (simp; done) | (simp; omega)); (case uv => first | omega | (refine neN ?_; (try dsimp only); omega) | (simp; done) | (simp; omega)); (case b => omega); k_whole) | (refine' del_call (c := 125) ?y ?z ?u ?v ?uv ?b ?_; (case y => decide +kernel); (case z => decide +kernel); (case u => first | omega | (refine neN ?_; (try dsimp only); omega) | (simp; done) | (simp; omega)); (case v => first | omega | (refine neN ?_; (try dsimp only); omega) | (simp; done) | (simp; omega)); (case uv => first | omega | (refine neN ?_; (try dsimp only); omega) | (simp; done) | (simp; omega)); (case b => omega); k_whole)); intro t' k' hk' hd'; (try dsimp only at hk')))
theorem text_end {h₀ h' : Heap} {L : Addr} {m' m₀ : Str → Option Value} {own news' : List (Addr × Obj)} {text' : Str} {tt' : Tok} {s₁ : Shared} {tk : Nat} {pre : List Int} {P : List Int → TSt → Prop}
    (F : Fr h₀ L h' m') (N : News h₀ L h' news') (ho : ∀ p ∈ own, p ∈ news') (hk : m' (Str.ofString "text") = some (.str text' tt')) (hr : ∀ z, z ≠ Str.ofString "number" → z ≠ Str.ofString "text" → z ≠ Str.ofString "still" → m' z = m₀ z) (hP : P pre ⟨text', tt'⟩) :
    InvEndN h₀ L (KstS (fun _ : TSt => []) (fun c => [(Str.ofString "text", Value.str c.text c.tt)]) (fun _ => True) (Str.ofString "number") [Str.ofString "still"] m₀ P pre) own [] s₁ { s₁ with heap := h', toks := tk } :=
  kst_end ⟨text', tt'⟩ F N (fun _ q => nomatch q) ho rfl trivial (List.forall_mem_cons.mpr ⟨hk, fun _ q => nomatch q⟩) (fun z h1 h2 h3 => hr z h1 (h2 _ (.head _)) (by simpa using h3)) hP

theorem text_spec {w : World} {d : Nat} {fr : Option (List Env)} {gd : Option (List Code)} {un : Nat} {s : Shared} {mg mb : Str → Option Value} {loose : List Str} {mean : ExcName → Option Value} {ld : Addr} {vs : List Value} {ns : List Int} {R : Result → Shared → Prop}
  (X : (hd.heap_39 w.params).In s.heap) (T : Top topProg loose mean mg mb s.heap) (hroom : d < 900) (hl : s.heap.IsList ld vs.toArray) (hI : IntsAre vs ns) (hlen : ns.length ≤ 6)
  (hR : ∀ (text : Str) (tt : Tok) (h' : Heap) (tk : Nat), (∀ b o, s.heap.get? b = some o → h'.get? b = some o) → text.length = 7 + ns.length → (∀ x ∈ text.cps.toList, six x) → R (.ok (.ret (.str text tt))) ⟨h', s.gens, s.drawn, tk, s.os⟩) :
   codeAny (model Challenge.rw_rs0057_01.row.prog w) ⟨none, d, fr, gd, un⟩ (.call (.ref 45) ⟨[.ref ld], []⟩) R s := by
  revert X; k_fill; intro X
  refine' call_fn (K := hd.heap_39 w.params) (binds := [(Str.ofString "drawn", .ref ld)]) ?X ?lim ?k6 ?k7 ?k8 ?k9 ?kB ?_ ?c2 ?c3 ?c4 ?c5
  case k6 => k_is
  case k7 => k_is
  case k9 => exact BindsTo.of_eq rfl
  case c5 => decide
  case kB => exact locs rfl
  case c2 => exact rfl
  case c3 => exact rfl
  case c4 => exact rfl
  case X => exact X
  case lim => exact T.nolimit
  case k8 => show d < 1000; omega
  intro L h₁ hL F
  have N : News s.heap L h₁ [] := News.nil
  k_steps
  rename Fr _ _ _ _ => F
  rename News _ _ _ _ => N
  rename IntsAre _ _ => hI
  with_unfolding_all
   refine' kst_list (σ := TSt) (fun _ => []) (fun c => [(Str.ofString "text", Value.str c.text c.tt)]) (fun _ => True) [Str.ofString "still"]
    (fun pre c => c.text.length = 7 + pre.length ∧ ∀ x ∈ c.text.cps.toList, six x) ⟨Str.ofString "([]{})[", _⟩ rfl hl hI F N trivial ?kk ?kp ?_ ?_
  case kk => intro p hp; cases List.mem_singleton.mp hp; rfl
  case kp => exact ⟨(by decide +kernel : (Str.ofString "([]{})[").length = 7), start_six⟩
  · rintro ⟨text, tt⟩ pre post n tn u h tk own hEq _ hOff _ ⟨hP, hS⟩ F N
    dsimp only at hP hS F N hOff
    have hlt : pre.length < 6 := by
      have := congrArg List.length hEq
      simp only [List.length_append, List.length_cons] at this
      omega
    k_steps
    · have h6 := left_six (by assumption) hS
      have hk6 := still_last h6 (by assumption)
      dsimp only at *
      refine brackets_item hk6 (by k_tabat) fun c' u' hc1 hc2 => ?_
      k_steps
      rename Fr _ _ _ _ => F
      rename News _ _ _ _ => N
      refine text_end F N (fun p hp => .tail _ (.tail _ (.tail _ (List.mem_append_right _ hp)))) rfl ?_ (text_more hP hS hc1 hc2)
      intro z h1 h2 h3
      rw [if_neg h2, if_neg h3, if_neg h1]
      simp only [kstB, if_neg h2, List.contains_cons, List.contains_nil, Bool.or_false, beq_iff_eq, if_neg h3]
    · rename Fr _ _ _ _ => F
      rename News _ _ _ _ => N
      refine text_end F N (fun p hp => .tail _ (.tail _ (List.mem_append_right _ hp))) rfl ?_ (text_more hP hS rfl ?_)
      · intro z h1 h2 h3
        rw [if_neg h2, if_neg h3, if_neg h1]
        simp only [kstB, if_neg h2, List.contains_cons, List.contains_nil, Bool.or_false, beq_iff_eq, if_neg h3]
      · exact item_six _ (Int.fmod_nonneg_of_pos _ (by decide)) (Int.fmod_lt_of_pos _ (by decide))
    · rename Fr _ _ _ _ => F
      rename News _ _ _ _ => N
      refine text_end F N (fun p hp => .tail _ (.tail _ (List.mem_append_right _ hp))) rfl ?_ (text_more hP hS rfl ?_)
      · intro z h1 h2 h3
        rw [if_neg h2, if_neg h3, if_neg h1]
        simp only [kstB, if_neg h2, List.contains_cons, List.contains_nil, Bool.or_false, beq_iff_eq, if_neg h3]
      · exact item_six _ (Int.fmod_nonneg_of_pos _ (by decide)) (Int.fmod_lt_of_pos _ (by decide))
  · rintro ⟨text, tt⟩ u h tk _ ⟨hP, hS⟩ F N
    dsimp only at hP hS F N
    k_steps
    exact hR _ _ _ _ F.keep hP hS
end Mine
end P5
section G0
open PySem PySem.W PyProof.Rows PySem.Calls
namespace Mine
set_option maxRecDepth 100000
theorem fresh_G0 : True := by w_top off; exact True.intro
section
variable {prog : Program} {w : World} {A : Around} {E : Value → Shared → Prop} {s : Shared} {env : Env} {h₀ : Heap} {x : Str} {body : List Stmt} {Q : Flow → Shared → Prop}

/-- a turn's end: the ledger may hold other objects than before -/
def GEnd {σ : Type} (h₀ : Heap) (L : Addr) (Led : σ → List (Addr × Obj)) (Ps : σ → List (Str × Value)) (x : Str) (stored : List Str) (m₀ : Str → Option Value) (Inv : σ → Prop) (own : List (Addr × Obj)) (wr : List Addr) (s₁ s₂ : Shared) : Prop :=
  ∃ h' tk m' c', s₂ = { s₁ with heap := h', toks := tk } ∧ Fr h₀ L h' m' ∧ News h₀ L h' (Led c') ∧ News h₀ L h' own ∧ (∀ p ∈ Led c', p.1 ∉ wr) ∧ (∀ p ∈ Ps c', m' p.1 = some p.2) ∧
    (∀ z, z ≠ x → (∀ p ∈ Ps c', z ≠ p.1) → stored.contains z = false → m' z = m₀ z) ∧ Inv c'
def GPost {σ : Type} (h₀ : Heap) (L : Addr) (Led : σ → List (Addr × Obj)) (Ps : σ → List (Str × Value)) (x : Str) (stored : List Str) (m₀ : Str → Option Value) (Inv : σ → Prop) (own : List (Addr × Obj)) (wr : List Addr) (s₁ : Shared) (Q : Flow → Shared → Prop) (f : Flow) (s₂ : Shared) : Prop :=
  match f with
  | .ret v => Q (.ret v) s₂
  | .brk => Q .next s₂
  | _ => GEnd h₀ L Led Ps x stored m₀ Inv own wr s₁ s₂

theorem gloop {σ : Type} {I : Addr} {fp wr : List Addr} {n : Nat} {P : Nat → Value → Prop} {St : Nat → Heap → Prop} {m₀ : Str → Option Value} (Led : σ → List (Addr × Obj)) (Ps : σ → List (Str × Value)) (stored : List Str) (Inv : Nat → σ → Prop) (c₀ : σ)
    (W : Walks prog w A I fp wr n P St) (hLf : env.locals ∉ fp) (hwr : ∀ b ∈ wr, h₀.get? b = none) (hnw : ∀ p ∈ Led c₀, p.1 ∉ wr) (hst : St 0 s.heap) (F : Fr h₀ env.locals s.heap m₀) (N : News h₀ env.locals s.heap (Led c₀))
    (hk : ∀ p ∈ Ps c₀, m₀ p.1 = some p.2) (hi : Inv 0 c₀)
    (turn : ∀ i v (c : σ) (u : Str → Option Value) h tk own, i < n → P i v → Inv i c → (∀ p ∈ Led c, p.1 ∉ wr) → (∀ p ∈ own, p.1 ∈ fp) → (∀ b ∈ fp, h₀.get? b = none → ∀ o, h.get? b = some o → (b, o) ∈ own) → St (i + 1) h →
      Fr h₀ env.locals h (fun y => if y = x then some v else kstB (fun z => if stored.contains z then u z else m₀ z) (Ps c) y) → News h₀ env.locals h (Led c) → News h₀ env.locals h own →
      wpAny (model prog w) A (execs body env) (GPost h₀ env.locals Led Ps x stored m₀ (Inv (i + 1)) own wr { s with heap := h, toks := tk } Q) E { s with heap := h, toks := tk })
    (done : ∀ (c : σ) (u : Str → Option Value) h tk, Inv n c → (∀ p ∈ Led c, p.1 ∉ wr) → Fr h₀ env.locals h (fun y => if y = x then u y else kstB (fun z => if stored.contains z then u z else m₀ z) (Ps c) y) → News h₀ env.locals h (Led c) → Q .next { s with heap := h, toks := tk }) :
    LoopAtV prog w A h₀ env x body Q E (.ref I) s := by
  let J' : Nat → (Str → Option Value) → List (Addr × Obj) → Prop := fun i m₁ nx => ∃ c : σ, nx = Led c ∧ (∀ p ∈ Ps c, m₁ p.1 = some p.2) ∧ (∀ z, z ≠ x → (∀ p ∈ Ps c, z ≠ p.1) → stored.contains z = false → m₁ z = m₀ z) ∧ Inv i c
  refine ⟨I, fp, wr, n, P, St, m₀, Led c₀, J', rfl, W, hLf, hwr, hnw, hst, F, N, ⟨c₀, rfl, hk, fun _ _ _ _ => rfl, hi⟩, ?_, ?_⟩
  · rintro i v m₁ news₁ s₁ own ⟨hh', tk', rfl⟩ hin hP ⟨c, rfl, h1, h2, hI⟩ hoff hown hget hall hst' F₁ N₁
    refine wpAny_mono (turn i v c m₁ hh' tk' own hin hP hI hoff hown hall hst' (kst_fr h1 h2 F₁) (fun p hp => N₁ p (List.mem_append_right _ hp)) (fun p hp => N₁ p (List.mem_append_left _ hp))) (fun f s₂ p => ?_) fun _ _ e => e
    have fin : GEnd h₀ env.locals Led Ps x stored m₀ (Inv (i + 1)) own wr { s with heap := hh', toks := tk' } s₂ → LoopStepU h₀ env.locals wr own (J' (i + 1)) { s with heap := hh', toks := tk' } .next s₂ := by
      rintro ⟨h', tk, m', c', e, F', N', NO, hw, hk', hr, hI'⟩
      exact ⟨rfl, h', tk, m', Led c', e, F', fun p hp => (List.mem_append.mp hp).elim (NO p) (N' p), hw, c', rfl, hk', hr, hI'⟩
    cases f with
    | ret v => exact .ret p
    | brk => exact .brk p
    | next => exact .next (fin p)
    | cont => exact .cont (fin p)
  · rintro h' tk m' news' F' N' hw ⟨c, rfl, h1, h2, hI⟩
    exact done c m' h' tk hI hw (kst_frOut h1 h2 F') N'
end
end Mine
end G0
section A0
open PySem PySem.W PyProof.Rows PySem.Calls
namespace Mine
set_option maxRecDepth 100000
theorem fresh_A0 : True := by w_top off; exact True.intro
/-- the statements and the names of a def of K -/
def funStmts (K : Frag) (a : Addr) : List Stmt := match K.lookup a with
  | some ⟨_, _, .func fd, _⟩ => (match fd.body with | .stmts b => b | _ => [])
  | _ => []
def funScope (K : Frag) (a : Addr) : Scope := match K.lookup a with
  | some ⟨_, _, .func fd, _⟩ => fd.scope
  | _ => { kind := .function, names := [], isGenerator := false, isCoroutine := false }
def forBody : Stmt → List Stmt
  | .For _ _ b _ _ => b
  | _ => []
def nth : List Stmt → Nat → Stmt
  | [], _ => .Pass ⟨0, 0, 0, 0⟩
  | a :: _, 0 => a
  | _ :: r, k + 1 => nth r k
noncomputable abbrev endsEnv (w : World) (L : Addr) : Env := envOfC (Str.ofString "_law_ends") (funScope (hd.heap_39 w.params) 57) L 57 (.ref 56)
noncomputable abbrev outerBody (w : World) : List Stmt := forBody (nth (funStmts (hd.heap_39 w.params) 57) 2)
noncomputable abbrev innerBody (w : World) : List Stmt := forBody (nth (outerBody w) 1)
noncomputable abbrev placesBody (w : World) : List Stmt := forBody (nth (innerBody w) 2)
end Mine
end A0
section C0
open PySem PySem.W PyProof.Rows PySem.Calls PyProof.V
namespace Mine
set_option maxRecDepth 100000
set_option maxHeartbeats 8000000

theorem fresh_C0 : True := by w_top off; exact True.intro
theorem iseof_spec {w : World} {d : Nat} {fr : Option (List Env)} {gd : Option (List Code)} {un : Nat} {s : Shared} {mg mb : Str → Option Value} {loose : List Str} {mean : ExcName → Option Value} {x : Int} {tx : Tok} {R : Result → Shared → Prop}
  (X : (hd.heap_39 w.params).In s.heap) (T : Top topProg loose mean mg mb s.heap) (hroom : d < recursionLimit)
  (hR : ∀ (h' : Heap) (tk : Nat), (∀ b o, s.heap.get? b = some o → h'.get? b = some o) → R (.ok (.ret (.bool (x == 0)))) ⟨h', s.gens, s.drawn, tk, s.os⟩) :
   codeAny (model Challenge.rw_rs0057_01.row.prog w) ⟨none, d, fr, gd, un⟩ (.call (.ref 31) ⟨[.int x tx], []⟩) R s := by
  revert X; k_fill; intro X
  refine' call_fn (K := hd.heap_39 w.params) (binds := [(Str.ofString "x", .int x tx)]) ?X ?lim ?k6 ?k7 ?k8 ?k9 ?kB ?_ ?c2 ?c3 ?c4 ?c5
  case k6 => k_is
  case k7 => k_is
  case k9 => exact BindsTo.of_eq rfl
  case c5 => decide
  case kB => exact locs rfl
  case c2 => exact rfl
  case c3 => exact rfl
  case c4 => exact rfl
  case X => exact X
  case lim => exact T.nolimit
  case k8 => exact hroom
  intro L h₁ hL F
  have N : News s.heap L h₁ [] := News.nil
  k_steps
  exact hR _ _ F.keep
end Mine
end C0
section C1
open PySem PySem.W PyProof.Rows PySem.Calls PyProof.V
namespace Mine
set_option maxRecDepth 100000
set_option maxHeartbeats 8000000

theorem fresh_C1 : True := by w_top off; exact True.intro
def num (c : Nat) : Int := if c = 40 then 7 else if c = 41 then 8 else if c = 91 then 9 else if c = 93 then 10 else if c = 123 then 25 else 26

theorem exact_item {w : World} {A : Around} {E : Value → Shared → Prop} {s : Shared} {c : Nat} {t : Tok} {Q : Value → Shared → Prop} {value slice : Expr}
    (X : (hd.heap_39 w.params).In s.heap) (h6 : six c) (h : ∀ u, Q (.int (num c) u) { s with toks := s.toks + 1 })
    (hs : ∀ y : Str, subscripted slice false (.ref 22) (.str y t) = operate [.ref 22, .str y t] (getItem (.ref 22) (.str y t))) :
    wpAny (model Challenge.rw_rs0057_01.row.prog w) A (subscriptTail value slice (.ref 22) (.str ⟨#[c]⟩ t)) Q E s := by
  revert X; k_fill; intro X
  have key : ∀ (y : Str) (v : Value), y = ⟨#[c]⟩ → nsIn (hd.heap_39 w.params) 22 y = some (some v) → (∃ u, v = .int (num c) u) →
      wpAny (model Challenge.rw_rs0057_01.row.prog w) A (subscriptTail value slice (.ref 22) (.str ⟨#[c]⟩ t)) Q E s := by
    rintro y v rfl e ⟨u, rfl⟩
    have hl : ∃ es n, (hd.heap_39 w.params).lookup 22 = some ⟨.type "dict", none, .dict es n, #[]⟩ ∧ KeysLit w.params es.toList := ⟨_, _, by k_is, by k_keys⟩
    obtain ⟨es, n, hl, hk⟩ := hl
    have hm := mapOf_K (prog := Challenge.rw_rs0057_01.row.prog) X hl hk
    exact tail_any hm.typeIs slot_dict_getitem.lookup (wpAny_getItem_of (strKind_is _ w _ t) hm (find_K hl e) (h u)) (hs _)
  rcases h6 with rfl | rfl | rfl | rfl | rfl | rfl
  · exact key (Str.ofString "(") _ (by decide +kernel) (by k_is) ⟨_, rfl⟩
  · exact key (Str.ofString ")") _ (by decide +kernel) (by k_is) ⟨_, rfl⟩
  · exact key (Str.ofString "[") _ (by decide +kernel) (by k_is) ⟨_, rfl⟩
  · exact key (Str.ofString "]") _ (by decide +kernel) (by k_is) ⟨_, rfl⟩
  · exact key (Str.ofString "{") _ (by decide +kernel) (by k_is) ⟨_, rfl⟩
  · exact key (Str.ofString "}") _ (by decide +kernel) (by k_is) ⟨_, rfl⟩
end Mine
end C1
section C2
open PySem PySem.W PyProof.Rows PySem.Calls PyProof.V
namespace Mine
set_option maxRecDepth 100000
set_option maxHeartbeats 8000000

theorem fresh_C2 : True := by w_top off; exact True.intro
abbrev numScope : Scope := { kind := .function, names := [(Str.ofString ".0", .local), (Str.ofString "sign", .local), (Str.ofString "EXACT_TOKEN_TYPES", .globalImplicit)], isGenerator := false, isCoroutine := false }
abbrev NumF (v y : Value) : Prop := ∃ c t u, v = Value.str ⟨#[c]⟩ t ∧ y = Value.int (num c) u
theorem ints_of_paired {vs ys : List Value} (h : Paired NumF vs ys) : ∀ {l : List Nat}, vs.length = l.length → (∀ (j : Nat) (v : Value), vs[j]? = some v → ∃ c u, l[j]? = some c ∧ v = Value.str ⟨#[c]⟩ u) → IntsAre ys (l.map num) := by
  induction h with
  | nil =>
    intro l hl _
    cases l with
    | nil => exact .nil
    | cons _ _ => cases hl
  | @cons v y vs ys hf r ih =>
    intro l hl hp
    cases l with
    | nil => cases hl
    | cons c l =>
      obtain ⟨c', u', e1, e2⟩ := hp 0 v rfl
      obtain ⟨c2, t2, u2, e3, e4⟩ := hf
      have : c' = c := by simpa using e1.symm
      subst this
      rw [e2] at e3
      injection e3 with e5 _
      have e6 : c' = c2 := by
        have := congrArg (fun s : Str => s.cps.toList) e5
        simpa using this
      subst e6
      rw [e4]
      refine .cons _ _ (ih (by simpa using hl) (fun j v hv => ?_))
      simpa using hp (j + 1) v (by simpa using hv)

theorem numbers_comp {w : World} {d : Nat} {fr : Option (List Env)} {gd : Option (List Code)} {un : Nat} {s : Shared} {h₀ : Heap} {L : Addr} {m : Str → Option Value} {loose : List Str} {mean : ExcName → Option Value} {mg mb : Str → Option Value}
  {one : Str} {to : Tok} {Q : Value → Shared → Prop} {E : Value → Shared → Prop} {p1 p2 p3 p4 px pos : Pos}
  (F : Fr h₀ L s.heap m) (X : (hd.heap_39 w.params).In h₀) (T : Top topProg loose mean mg mb h₀) (m1 : m (Str.ofString "one") = some (.str one to)) (hlen : one.length ≤ 13) (h6 : ∀ x ∈ one.cps.toList, six x)
  (hQ : ∀ (D : Addr) (vs : List Value) (n : Nat) (h' : Heap) (tk : Nat), (∀ b o, s.heap.get? b = some o → h'.get? b = some o) → h'.get? D = some (W.listOf vs.toArray n) → s.heap.get? D = none → IntsAre vs (one.cps.toList.map num) →
    Q (.ref D) { s with heap := h', toks := tk }) :
  wpAny (model Challenge.rw_rs0057_01.row.prog w) (Around.deeper ⟨none, d, fr, gd, un⟩ (endsEnv w L))
    (eval (.ListComp (.Subscript (.Name (Str.ofString "EXACT_TOKEN_TYPES") p1) (.Name (Str.ofString "sign") p2) p3) [⟨.Name (Str.ofString "sign") px, .Name (Str.ofString "one") p4, [], 0⟩] numScope pos) (endsEnv w L)) Q E s := by
  revert X; k_fill; intro X
  refine wpAny_ListComp_free (cl := []) (fun _ => true) NumF (by with_unfolding_all rfl) (by decide) rfl (by decide) (by decide) ?_
  have hk1 : (funScope (hd.heap_39 w.params) 57).kind = .function := by with_unfolding_all rfl
  refine nameX_L F m1 ?_ hk1 (by with_unfolding_all rfl)
  refine wpAny_pyIter_str fun o St hW hst => ?_
  refine ⟨_, _, _, _, _, _, rfl, hW _ rfl, ?_, hst, ?_, ⟨?_, ?_⟩, ?_⟩
  · rw [sizeLine_eq]; have : one.cps.size = one.length := rfl; omega
  · intro b hb
    rw [List.mem_singleton.mp hb]
    rw [Heap.size_push]
    exact Nat.lt_succ_self _
  · intro C i v s₃ m₃ E' _ _ _ _ _ _
    exact wpAny_pure ⟨rfl, s₃.heap, s₃.toks, rfl, fun _ _ e => e⟩
  · intro C i v s₃ m₃ E' hC hP _ hN hv hk htk
    obtain ⟨c, u, hc, rfl⟩ := hP
    have up : ∀ b o, h₀.get? b = some o → s₃.heap.get? b = some o := fun b o e => by
      have e1 := F.keep b o e
      refine hk b o ?_ (Heap.get?_push_of_some _ e1)
      simp only [List.mem_singleton]
      exact Nat.ne_of_lt (Heap.lt_size e1)
    refine Subscript_ (Name_function_global (by with_unfolding_all rfl) (by with_unfolding_all rfl) (loadGlobal_global (mg := mg) (v := .ref 22) ?_ ?_ ?_))
    · exact T.g.keeps up
    · exact mg_of X T.g (by k_is)
    · refine wpAny_Name (wpAny_loadName_local (by with_unfolding_all rfl) (by with_unfolding_all rfl) hN hv ?_) (by decide)
      refine exact_item (X.keeps up) (h6 c (by rw [Array.mem_toList_iff]; exact Array.mem_of_getElem? hc)) (fun u' => ?_) (fun y => by with_unfolding_all rfl)
      exact ⟨⟨c, u, u', rfl, rfl⟩, s₃.heap, _, rfl, fun _ _ e => e⟩
  · intro D h' tk ys vs hD hl hpl hlen' hP hF hk
    have hF' : Paired NumF vs ys.toList := by
      have : vs.filter (fun _ => true) = vs := List.filter_eq_self.mpr fun _ _ => rfl
      rw [this] at hF
      exact hF
    have hI := ints_of_paired hF' (l := one.cps.toList) (by rw [hlen']; simp) (fun j v hv => by
      obtain ⟨c, u, hc, e⟩ := hP j v hv
      exact ⟨c, u, by rw [Array.getElem?_toList]; exact hc, e⟩)
    obtain ⟨n, hn⟩ := hpl
    have nD : s.heap.get? D = none := by
      cases q : s.heap.get? D with
      | none => rfl
      | some o' => rw [Heap.get?_push_of_some _ q] at hD; cases hD
    refine hQ D ys.toList n h' tk (fun b o' e => hk b o' ?_ (Heap.get?_push_of_some _ e)) ?_ nD hI
    · simp only [List.mem_singleton]
      exact Nat.ne_of_lt (Heap.lt_size e)
    · simpa using hn
end Mine
end C2
section C3
open PySem PySem.W PyProof.Rows PySem.Calls PyProof.V
namespace Mine
set_option maxRecDepth 100000
set_option maxHeartbeats 8000000

theorem fresh_C3 : True := by w_top off; exact True.intro
abbrev plScope : Scope := { kind := .function, names := [(Str.ofString ".0", .local), (Str.ofString "place", .local), (Str.ofString "ISEOF", .globalImplicit), (Str.ofString "numbers", .free)], isGenerator := false, isCoroutine := false }
abbrev plTest (q1 q2 q3 q4 q5 q6 q7 q8 q9 q10 q11 q12 q13 q14 q15 q16 q17 q18 q19 q20 q21 : Pos) (k1 k2 k3 k4 : Nat) : Expr :=
  .BoolOp .And [.Compare (.BinOp (.Subscript (.Name (Str.ofString "numbers") q1) (.Name (Str.ofString "place") q2) q3) .Mod (.Constant (.int 2) k1 q4) q5) [.Eq] [.Constant (.int 1) k2 q6] q7,
    .Call (.Name (Str.ofString "ISEOF") q8) [.BinOp (.BinOp (.Subscript (.Name (Str.ofString "numbers") q9) (.BinOp (.Name (Str.ofString "place") q10) .Add (.Constant (.int 1) k3 q11) q12) q13) .Sub (.Subscript (.Name (Str.ofString "numbers") q14) (.Name (Str.ofString "place") q15) q16) q17) .Sub (.Constant (.int 1) k4 q18) q19] [] q20] q21
noncomputable abbrev plEnv (w : World) (L C : Addr) : Env := compEnvC plScope [(Str.ofString "numbers", L + 1)] C (endsEnv w L)

section
variable {w : World} {A : Around} {s : Shared} {L C ln : Addr} {m : Str → Option Value} {Q : Value → Shared → Prop} {E : Value → Shared → Prop} {p : Pos} {k : Int} {t : Tok}
theorem ev_numbers (hc : s.heap.IsCell (L + 1) (some (.ref ln))) (h : Q (.ref ln) s) : wpAny (model Challenge.rw_rs0057_01.row.prog w) A (eval (.Name (Str.ofString "numbers") p) (plEnv w L C)) Q E s :=
  wpAny_Name (wpAny_loadName_cell (by with_unfolding_all rfl) (by with_unfolding_all rfl) (by with_unfolding_all rfl) hc h) (by decide)
theorem ev_place (hn : s.heap.Ns C m) (hv : m (Str.ofString "place") = some (.int k t)) (h : Q (.int k t) s) : wpAny (model Challenge.rw_rs0057_01.row.prog w) A (eval (.Name (Str.ofString "place") p) (plEnv w L C)) Q E s :=
  wpAny_Name (wpAny_loadName_local (by with_unfolding_all rfl) (by with_unfolding_all rfl) hn hv h) (by decide)
variable {vs : List Value} {ns : List Int} {value slice : Expr}
theorem list_at {k : Int} {u : Tok} (hl : s.heap.IsList ln vs.toArray) (hI : IntsAre vs ns) (h0 : 0 ≤ k) (h1 : k < ns.length) (hn : ns.length ≤ 13) (h : ∀ u', Q (.int (ns.getD k.toNat 0) u') s)
    (hs : subscripted slice false (.ref ln) (.int k u) = operate [.ref ln, .int k u] (getItem (.ref ln) (.int k u))) :
    wpAny (model Challenge.rw_rs0057_01.row.prog w) A (subscriptTail value slice (.ref ln) (.int k u)) Q E s := by
  have hk : k.toNat < ns.length := by omega
  obtain ⟨u', hu⟩ := hI.get k.toNat (ns.getD k.toNat 0) (by simp [List.getD, List.getElem?_eq_getElem hk])
  exact tail_any hl.typeIs slot_list_getitem.lookup (wpAny_getItem_list hl h0 (by omega) (by simpa using hu) (h u')) hs
theorem ev_item {p1 p2 p3 : Pos} (hc : s.heap.IsCell (L + 1) (some (.ref ln))) (hN : s.heap.Ns C m) (hv : m (Str.ofString "place") = some (.int k t)) (hl : s.heap.IsList ln vs.toArray) (hI : IntsAre vs ns) (h0 : 0 ≤ k) (h1 : k < ns.length) (hn : ns.length ≤ 13)
    (h : ∀ u', Q (.int (ns.getD k.toNat 0) u') s) : wpAny (model Challenge.rw_rs0057_01.row.prog w) A (eval (.Subscript (.Name (Str.ofString "numbers") p1) (.Name (Str.ofString "place") p2) p3) (plEnv w L C)) Q E s :=
  Subscript_ (ev_numbers hc (ev_place hN hv (list_at hl hI h0 h1 hn h (by with_unfolding_all rfl))))
theorem ev_item1 {p1 p2 p3 p4 p5 : Pos} {k1 : Nat} (hc : s.heap.IsCell (L + 1) (some (.ref ln))) (hN : s.heap.Ns C m) (hv : m (Str.ofString "place") = some (.int k t)) (hl : s.heap.IsList ln vs.toArray) (hI : IntsAre vs ns) (h0 : 0 ≤ k) (h1 : k + 1 < ns.length) (hn : ns.length ≤ 13)
    (h : ∀ u' tk, Q (.int (ns.getD (k.toNat + 1) 0) u') { s with toks := tk }) : wpAny (model Challenge.rw_rs0057_01.row.prog w) A (eval (.Subscript (.Name (Str.ofString "numbers") p1) (.BinOp (.Name (Str.ofString "place") p2) .Add (.Constant (.int 1) k1 p3) p4) p5) (plEnv w L C)) Q E s := by
  refine Subscript_ (ev_numbers hc (wpAny_BinOp (ev_place hN hv (wpAny_Constant_int (PyProof.Rows.add_int ?_)))))
  refine list_at (s := { s with toks := s.toks + 1 + 1 }) hl hI (by omega) (by omega) hn (fun u' => ?_) (by with_unfolding_all rfl)
  have e : (k + 1).toNat = k.toNat + 1 := by omega
  rw [e]
  exact h u' _
end

theorem test_spec {w : World} {d : Nat} {fr : Option (List Env)} {gd : Option (List Code)} {un : Nat} {s : Shared} {h₀ : Heap} {L C ln : Addr} {m : Str → Option Value} {loose : List Str} {mean : ExcName → Option Value} {mg mb : Str → Option Value}
  {vs : List Value} {ns : List Int} {k : Int} {t : Tok} {Q : Bool → Shared → Prop} {E : Value → Shared → Prop} {q1 q2 q3 q4 q5 q6 q7 q8 q9 q10 q11 q12 q13 q14 q15 q16 q17 q18 q19 q20 q21 : Pos} {k1 k2 k3 k4 : Nat}
  (F : Fr h₀ C s.heap m) (N : News h₀ C s.heap []) (X : (hd.heap_39 w.params).In h₀) (T : Top topProg loose mean mg mb h₀) (hc : s.heap.IsCell (L + 1) (some (.ref ln))) (hl : s.heap.IsList ln vs.toArray) (hI : IntsAre vs ns)
  (hv : m (Str.ofString "place") = some (.int k t)) (h0 : 0 ≤ k) (h1 : k + 1 < ns.length) (hn : ns.length ≤ 13) (hroom : d < 800)
  (hQ : ∀ (b : Bool) (h' : Heap) (tk : Nat), (∀ b o, s.heap.get? b = some o → h'.get? b = some o) → (b = true ↔ (ns.getD k.toNat 0).fmod 2 = 1 ∧ ns.getD (k.toNat + 1) 0 - ns.getD k.toNat 0 - 1 = 0) → Q b { s with heap := h', toks := tk }) :
  wpAny (model Challenge.rw_rs0057_01.row.prog w) (Around.deeper ⟨none, d, fr, gd, un⟩ (endsEnv w L)) (isTrue (plTest q1 q2 q3 q4 q5 q6 q7 q8 q9 q10 q11 q12 q13 q14 q15 q16 q17 q18 q19 q20 q21 k1 k2 k3 k4) (plEnv w L C) (eval (plTest q1 q2 q3 q4 q5 q6 q7 q8 q9 q10 q11 q12 q13 q14 q15 q16 q17 q18 q19 q20 q21 k1 k2 k3 k4) (plEnv w L C))) Q E s := by
  revert X; k_fill; intro X
  refine isTrue_and (wpAny_isTrue_Compare1 (wpAny_BinOp (ev_item hc F.ns hv hl hI h0 (by omega) hn fun u1 => wpAny_Constant_int (mod_int' (by decide) (wpAny_Constant_int (PyProof.Rows.eq_int (wpAny_truthy_bool ?_)))))))
  dsimp only
  by_cases hp : (ns.getD k.toNat 0).fmod 2 = 1
  · rw [if_pos (by rw [beq_iff_eq]; exact hp)]
    refine isTrue_and (isTrue_plain (Call_ (Name_function_global (by with_unfolding_all rfl) (by with_unfolding_all rfl) (loadGlobal_global (mg := mg) (v := .ref 31) ?_ ?_ ?_))) (by with_unfolding_all rfl))
    · exact T.g.keeps F.keep
    · exact mg_of X T.g (by k_is)
    · refine callWith_K X (by k_is) (args_cons ?_) (by with_unfolding_all rfl) (by with_unfolding_all rfl)
      refine wpAny_BinOp (wpAny_BinOp (ev_item1 (s := { s with toks := _ }) hc F.ns hv hl hI h0 h1 hn fun u2 tk2 => ?_))
      refine ev_item (s := { s with toks := _ }) hc F.ns hv hl hI h0 (by omega) hn fun u3 => PyProof.Rows.sub_int (wpAny_Constant_int (PyProof.Rows.sub_int ?_))
      refine args_nil ⟨X.keeps F.keep, ?_⟩
      refine wpAny_call (iseof_spec (X.keeps F.keep) (T.keeps F.keep) (by show d + 1 < 1000; omega) fun h' tk' hk => ?_)
      refine wpAny_truthy_bool ?_
      by_cases hq : ns.getD (k.toNat + 1) 0 - ns.getD k.toNat 0 - 1 = 0
      · rw [if_pos (by rw [beq_iff_eq]; exact hq)]
        exact isTrue_and_nil (hQ true h' tk' hk ⟨fun _ => ⟨hp, hq⟩, fun _ => rfl⟩)
      · rw [if_neg (by rw [beq_iff_eq]; exact hq)]
        exact hQ false h' tk' hk ⟨fun e => (Bool.noConfusion e), fun e => absurd e.2 hq⟩
  · rw [if_neg (by rw [beq_iff_eq]; exact hp)]
    exact hQ false s.heap _ (fun _ _ e => e) ⟨fun e => (Bool.noConfusion e), fun e => absurd e.1 hp⟩
end Mine
end C3
section M1
open PySem PySem.W PyProof.Rows PySem.Calls PyProof.V
namespace Mine
set_option maxRecDepth 100000
theorem fresh_M1 : True := by w_top off; exact True.intro
def placeB (l : List Nat) (i : Nat) : Bool := match l[i]?, l[i + 1]? with
  | some a, some b => isPair a b
  | _, _ => false
def placesL (l : List Nat) : List Nat := (List.range (l.length - 1)).filter (placeB l)
theorem pair_num {a b : Nat} (ha : six a) (hb : six b) : ((num a).fmod 2 = 1 ∧ num b - num a - 1 = 0) ↔ isPair a b = true := by
  rcases ha with rfl | rfl | rfl | rfl | rfl | rfl <;> rcases hb with rfl | rfl | rfl | rfl | rfl | rfl <;> decide
theorem place_num {l : List Nat} (h6 : ∀ x ∈ l, six x) {k : Nat} (hk : k + 1 < l.length) :
    (((l.map num).getD k 0).fmod 2 = 1 ∧ (l.map num).getD (k + 1) 0 - (l.map num).getD k 0 - 1 = 0) ↔ placeB l k = true := by
  have e1 : (l.map num).getD k 0 = num l[k] := by simp [List.getD, List.getElem?_map, List.getElem?_eq_getElem (show k < l.length by omega)]
  have e2 : (l.map num).getD (k + 1) 0 = num l[k + 1] := by simp [List.getD, List.getElem?_map, List.getElem?_eq_getElem hk]
  rw [e1, e2, pair_num (h6 _ (List.getElem_mem _)) (h6 _ (List.getElem_mem _))]
  unfold placeB
  rw [List.getElem?_eq_getElem (show k < l.length by omega), List.getElem?_eq_getElem hk]
def pOk (l : List Nat) : Value → Bool
  | .int k _ => placeB l k.toNat
  | _ => false
theorem ints_filter (l : List Nat) : ∀ (vs : List Value) (n0 : Nat), (∀ j v, vs[j]? = some v → ∃ t, v = Value.int ((n0 + j : Nat) : Int) t) →
    IntsAre (vs.filter (pOk l)) (((List.range' n0 vs.length).filter (placeB l)).map fun k : Nat => (k : Int))
  | [], _, _ => .nil
  | v :: vs, n0, h => by
    obtain ⟨t, rfl⟩ := h 0 v rfl
    have ih := ints_filter l vs (n0 + 1) fun j v hv => by
      obtain ⟨t, e⟩ := h (j + 1) v (by simpa using hv)
      exact ⟨t, by rw [e]; congr 2; omega⟩
    have e : pOk l (Value.int ((n0 + 0 : Nat) : Int) t) = placeB l n0 := by simp [pOk]
    rw [List.filter_cons, e, List.length_cons, List.range'_succ, List.filter_cons]
    cases hb : placeB l n0 with
    | true => simp only [if_true]; exact .cons _ _ ih
    | false => simp only [Bool.false_eq_true, if_false]; exact ih
theorem paired_eq {vs ys : List Value} (h : Paired (fun v y => v = y) vs ys) : vs = ys := by
  induction h with
  | nil => rfl
  | cons e _ ih => rw [e, ih]
end Mine
end M1
section C4
open PySem PySem.W PyProof.Rows PySem.Calls PyProof.V
namespace Mine
set_option maxRecDepth 100000
set_option maxHeartbeats 8000000
local macro_rules | `(tactic| k_steps) => `(tactic| repeat' (first | ((fail_if_success (with_reducible show wpAny _ _ (pyIter _) _ _ _)); (first | (k_unfold; (try dsimp only)) | (k_end; wrow_close) | walk1 | (dsimp only; walk1) | (leave1; walk_say "STEP leave1"; try dsimp only))) | fail "no step"))
local macro_rules | `(tactic| walk_at "eval Name") => `(tactic| (k_here; k_dflt (refine' nameX_L ?F ?v ?_ ?a ?b; (case F => k_asm); (case v => assumption); (case a => with_unfolding_all rfl); (case b => with_unfolding_all rfl); k_whole)))

theorem fresh_C4 : True := by w_top off; exact True.intro
theorem places_comp {w : World} {d : Nat} {fr : Option (List Env)} {gd : Option (List Code)} {un : Nat} {s : Shared} {h₀ : Heap} {L ln : Addr} {m : Str → Option Value} {loose : List Str} {mean : ExcName → Option Value} {mg mb : Str → Option Value}
  {one : Str} {to : Tok} {Q : Flow → Shared → Prop} {E : Value → Shared → Prop} {pa pb pc pd pe pf pg ph px py pos spos : Pos} {k0 : Nat} {news : List (Addr × Obj)} {vs : List Value}
  {q1 q2 q3 q4 q5 q6 q7 q8 q9 q10 q11 q12 q13 q14 q15 q16 q17 q18 q19 q20 q21 : Pos} {k1 k2 k3 k4 : Nat}
  (F : Fr h₀ L s.heap m) (X : (hd.heap_39 w.params).In h₀) (T : Top topProg loose mean mg mb h₀) (N : News h₀ L s.heap news) (m1 : m (Str.ofString "one") = some (.str one to)) (hlen : one.length ≤ 13) (h6 : ∀ x ∈ one.cps.toList, six x) (hroom : d < 800)
  (hc : s.heap.IsCell (L + 1) (some (.ref ln))) (hl : s.heap.IsList ln vs.toArray) (hI : IntsAre vs (one.cps.toList.map num))
  (hsw : swapsWith (.ListComp (.Name (Str.ofString "place") pa) [⟨.Name (Str.ofString "place") px,
      .Call (.Name (Str.ofString "range") pb) [.BinOp (.Call (.Name (Str.ofString "len") pc) [.Name (Str.ofString "one") pd] [] pe) .Sub (.Constant (.int 1) k0 pf) pg] [] ph, [plTest q1 q2 q3 q4 q5 q6 q7 q8 q9 q10 q11 q12 q13 q14 q15 q16 q17 q18 q19 q20 q21 k1 k2 k3 k4], 0⟩] plScope pos) (some (.Name (Str.ofString "places") py)) spos.line (endsEnv w L) = pure true)
  (hQ : ∀ (D : Addr) (ys : List Value) (n : Nat) (h' : Heap) (tk : Nat), (∀ b o, b ≠ L → s.heap.get? b = some o → h'.get? b = some o) → h'.Ns L (fun z => if z = Str.ofString "places" then some (.ref D) else m z) → h'.get? D = some (W.listOf ys.toArray n) → s.heap.get? D = none →
    IntsAre ys ((placesL one.cps.toList).map fun k : Nat => (k : Int)) → Q .next { s with heap := h', toks := tk }) :
  wpAny (model Challenge.rw_rs0057_01.row.prog w) (Around.deeper ⟨none, d, fr, gd, un⟩ (endsEnv w L))
    (exec (.Assign [.Name (Str.ofString "places") py] (.ListComp (.Name (Str.ofString "place") pa) [⟨.Name (Str.ofString "place") px,
      .Call (.Name (Str.ofString "range") pb) [.BinOp (.Call (.Name (Str.ofString "len") pc) [.Name (Str.ofString "one") pd] [] pe) .Sub (.Constant (.int 1) k0 pf) pg] [] ph, [plTest q1 q2 q3 q4 q5 q6 q7 q8 q9 q10 q11 q12 q13 q14 q15 q16 q17 q18 q19 q20 q21 k1 k2 k3 k4], 0⟩] plScope pos) spos) (endsEnv w L)) Q E s := by
  revert X; k_fill; intro X
  refine wpAny_Assign_ListComp_free (cl := [(Str.ofString "numbers", L + 1)]) (pOk one.cps.toList) (fun v y => v = y) hsw (by with_unfolding_all rfl) (by decide) rfl (by decide) (by decide) (by with_unfolding_all rfl) (by with_unfolding_all rfl) ?_
  clear hsw
  have keep0 := F.keep
  have above0 := F.above
  k_steps
  rename IsRange _ _ _ _ _ _ _ _ => hr
  rename_i h₂ tk₂ _ _ _ F₂ N₂ hk₂
  have hl0 : one.cps.toList.length = one.length := len_toList one
  refine wpAny_pyIter_range hr (small_one (by omega) (by omega) (by omega) (by omega)) ?_
  rw [rangeSize_nat]
  have hn : ((one.length : Int) - 1 - 0).toNat = one.length - 1 := by omega
  rw [hn]
  have W0 : Walks Challenge.rw_rs0057_01.row.prog w (Around.deeper ⟨none, d, fr, gd, un⟩ (endsEnv w L)) h₂.objs.size [h₂.objs.size] [h₂.objs.size] (one.length - 1) (fun i v => i < one.length - 1 ∧ ∃ t, v = .int (0 + i * 1) t)
      (fun i h => IsRangeIter h h₂.objs.size (0 + (i : Nat) * 1) (((one.length - 1 : Nat) : Int) - (i : Nat)) 1) := (Walks.range rfl _ 0 1 (one.length - 1)).bound
  refine ⟨_, _, _, _, _, _, m, rfl, W0, ?_, ?_, ?_, ?_, ?_, ⟨?_, ?_⟩, ?_⟩
  · rw [sizeLine_eq]; omega
  · show IsRangeIter _ _ _ _ _
    simpa using Heap.get?_push_size _ rfl
  · intro b hb
    rw [List.mem_singleton.mp hb, Heap.size_push]
    exact Nat.lt_succ_self _
  · intro hm
    exact absurd F₂.ns.lt ((List.mem_singleton.mp hm) ▸ Nat.lt_irrefl _)
  · exact F₂.ns.push _
  · intro C i v s₃ m₃ E' hC hP hN hv hk htk
    obtain ⟨hi, t, rfl⟩ := hP
    have up0 : ∀ b o, s.heap.get? b = some o → s₃.heap.get? b = some o := fun b o e => by
      have e1 := hk₂ b o e
      refine hk b o ?_ (Heap.get?_push_of_some _ e1)
      simp only [List.mem_singleton]
      exact Nat.ne_of_lt (Heap.lt_size e1)
    have hCle : h₀.objs.size ≤ C := by
      have a1 := above0
      have a2 := F₂.ns.lt
      have a3 : h₂.objs.size < C := Nat.lt_of_lt_of_le (by rw [Heap.size_push]; exact Nat.lt_succ_self _) hC
      exact Nat.le_trans a1 (Nat.le_of_lt (Nat.lt_trans a2 a3))
    have F₃ : Fr h₀ C s₃.heap m₃ := ⟨hN, fun b o e => up0 b o (keep0 b o e), hCle⟩
    have ek : (0 + (i : Int) * 1) = (i : Int) := by omega
    rw [ek] at hv ⊢
    have hlm : (one.cps.toList.map num).length = one.length := by rw [List.length_map, hl0]
    have hc₃ : s₃.heap.IsCell (L + 1) (some (.ref ln)) := let ⟨o, ho, hd'⟩ := hc; ⟨o, up0 _ _ ho, hd'⟩
    have hl₃ : s₃.heap.IsList ln vs.toArray := hl.at fun o e => up0 _ _ e
    simp only [List.forIn_cons, List.forIn_nil, if_true]
    refine wpAny_bind (wpAny_bind (test_spec F₃ News.nil X T hc₃ hl₃ hI hv (by omega) (by rw [hlm]; omega) (by rw [hlm]; omega) hroom fun b h' tk' hk' hb => ?_))
    refine wpAny_pure (wpAny_pure ⟨?_, h', tk', rfl, hk'⟩)
    have hb' := hb.trans (place_num h6 (k := (i : Int).toNat) (by omega))
    show b = placeB one.cps.toList (i : Int).toNat
    rw [Bool.eq_iff_iff]
    exact hb'
  · intro C i v s₃ m₃ E' hC hP _ hN hv hk htk
    obtain ⟨hi, t, rfl⟩ := hP
    exact ev_place hN hv ⟨rfl, s₃.heap, s₃.toks, rfl, fun _ _ e => e⟩
  · intro D h' tk ys vs' hD hls hpl hlen' hP hF hNs hk
    have e1 := paired_eq hF
    have hIn := ints_filter one.cps.toList vs' 0 fun j v hv => by
      obtain ⟨_, t, e⟩ := hP j v hv
      exact ⟨t, by rw [e]; congr 1; omega⟩
    rw [e1, hlen', ← List.range_eq_range'] at hIn
    have hIn' : IntsAre ys.toList ((placesL one.cps.toList).map fun k : Nat => (k : Int)) := by
      unfold placesL
      rw [hl0]
      exact hIn
    obtain ⟨n, hn'⟩ := hpl
    have nD : s.heap.get? D = none := by
      cases q : s.heap.get? D with
      | none => rfl
      | some o' => rw [Heap.get?_push_of_some _ (hk₂ _ _ q)] at hD; cases hD
    refine hQ D ys.toList n h' tk (fun b o' hb e => hk b o' hb ?_ (Heap.get?_push_of_some _ (hk₂ _ _ e))) hNs (by simpa using hn') nD hIn'
    simp only [List.mem_singleton]
    exact Nat.ne_of_lt (Heap.lt_size (hk₂ _ _ e))
end Mine
end C4
section E0
open PySem PySem.W PyProof.Rows PySem.Calls PyProof.V
namespace Mine
set_option maxRecDepth 100000
theorem fresh_E0 : True := by w_top off; exact True.intro
section
variable {prog : Program} {w : World} {A : Around} {E : Value → Shared → Prop} {s : Shared} {env : Env} {h₀ : Heap} {x : Str} {body : List Stmt} {Q : Flow → Shared → Prop}
/-- a for over a list of ints of the call's own -/
theorem glist {σ : Type} {l : Addr} {vs : List Value} {ns : List Int} {nn : Nat} {m₀ : Str → Option Value} (Led : σ → List (Addr × Obj)) (Ps : σ → List (Str × Value)) (stored : List Str) (Inv : Nat → σ → Prop) (c₀ : σ)
    (hh : A.handled = none) (hl : (l, W.listOf vs.toArray nn) ∈ Led c₀) (hI : IntsAre vs ns) (F : Fr h₀ env.locals s.heap m₀) (N : News h₀ env.locals s.heap (Led c₀))
    (hk : ∀ p ∈ Ps c₀, m₀ p.1 = some p.2) (hi : Inv 0 c₀)
    (turn : ∀ (i : Nat) n t I (c : σ) (u : Str → Option Value) h tk own, ns[i]? = some n → Inv i c → (∀ p ∈ Led c, p.1 ≠ I) → (∀ p ∈ own, p.1 = I ∨ p.1 = l) → (∃ o, (I, o) ∈ own) →
      Fr h₀ env.locals h (fun y => if y = x then some (.int n t) else kstB (fun z => if stored.contains z then u z else m₀ z) (Ps c) y) → News h₀ env.locals h (Led c) → News h₀ env.locals h own →
      wpAny (model prog w) A (execs body env) (GPost h₀ env.locals Led Ps x stored m₀ (Inv (i + 1)) own [I] { s with heap := h, toks := tk } Q) E { s with heap := h, toks := tk })
    (done : ∀ (c : σ) (u : Str → Option Value) h tk, Inv ns.length c → Fr h₀ env.locals h (fun y => if y = x then u y else kstB (fun z => if stored.contains z then u z else m₀ z) (Ps c) y) → News h₀ env.locals h (Led c) → Q .next { s with heap := h, toks := tk }) :
    wpAny (model prog w) A (pyIter (.ref l)) (fun it s₂ => LoopAtV prog w A h₀ env x body Q E it s₂) E s := by
  have hm := N _ hl
  have hls : s.heap.IsList l vs.toArray := ⟨_, hm.1, rfl, nn, rfl⟩
  have hlt : l < s.heap.objs.size := Heap.lt_size hm.1
  refine wpAny_pyIter_list hls ?_
  have W := Walks.list (prog := prog) (w := w) hh s.heap.objs.size l (Nat.ne_of_lt hlt) vs.toArray
  have hlen : vs.toArray.size = ns.length := by simp [hI.length]
  rw [hlen] at W
  refine gloop Led Ps stored Inv c₀ W ?_ ?_ ?_ ⟨⟨_, Heap.get?_push_size _ rfl, rfl, rfl⟩, hls.at fun o e => Heap.get?_push_of_some _ e⟩ (F.push _) (fun p hp => ⟨Heap.get?_push_of_some _ (N p hp).1, (N p hp).2⟩) hk hi ?_ ?_
  · intro hq
    rcases List.mem_cons.mp hq with e | hq
    · exact absurd F.ns.lt (e ▸ Nat.lt_irrefl _)
    · exact hm.2.1 (List.mem_singleton.mp hq).symm
  · intro b hb
    rw [List.mem_singleton.mp hb]
    exact next_is_new F
  · intro p hp hI'
    exact absurd (Heap.lt_size (N p hp).1) ((List.mem_singleton.mp hI') ▸ Nat.lt_irrefl _)
  · intro i v c u h tk own hi' hP hInv hoff hown hall hst F₁ N₁ NO
    have hlt' : i < ns.length := hi'
    obtain ⟨t, hx⟩ := hI.get i ns[i] (by simp [hlt'])
    have hv : v = .int ns[i] t := by
      have hP' : vs[i]? = some v := by simpa using hP
      rw [hx] at hP'; exact (Option.some.inj hP').symm
    subst hv
    exact turn i ns[i] t _ c u h tk own (by simp [hlt']) hInv (fun p hp e => hoff p hp (List.mem_singleton.mpr e)) (fun p hp => by
      rcases List.mem_cons.mp (hown p hp) with e | e
      · exact .inl e
      · exact .inr (List.mem_singleton.mp e)) (let ⟨o, ho, _⟩ := hst.1; ⟨o, hall _ (.head _) (next_is_new F) o ho⟩) F₁ N₁ NO
  · intro c u h tk hInv _ F₁ N₁
    exact done c u h tk hInv F₁ N₁
/-- a for over the keys of a dict of the call's own, keyed by texts -/
theorem gdict {σ : Type} {d : Addr} {od : Obj} {kvs : List (Str × Value)} {cl : List (Str × Int)} {m₀ : Str → Option Value} (Led : σ → List (Addr × Obj)) (Ps : σ → List (Str × Value)) (stored : List Str) (Inv : Nat → σ → Prop) (c₀ : σ)
    (hh : A.handled = none) (hl : (d, od) ∈ Led c₀) (lo : (d == sysModules) = false) (hd : od.IsDictOf (PySem.strKind prog w) kvs) (hf : FlatPairs PyData.str kvs (kdpD cl)) (F : Fr h₀ env.locals s.heap m₀) (N : News h₀ env.locals s.heap (Led c₀))
    (hk : ∀ p ∈ Ps c₀, m₀ p.1 = some p.2) (hi : Inv 0 c₀)
    (turn : ∀ (i : Nat) (one : Str) (e : Int) t I (c : σ) (u : Str → Option Value) h tk own, cl[i]? = some (one, e) → Inv i c → (∀ p ∈ Led c, p.1 ≠ I) → (∀ p ∈ own, p.1 = I ∨ p.1 = d) → (∃ o, (I, o) ∈ own) →
      Fr h₀ env.locals h (fun y => if y = x then some (.str one t) else kstB (fun z => if stored.contains z then u z else m₀ z) (Ps c) y) → News h₀ env.locals h (Led c) → News h₀ env.locals h own →
      wpAny (model prog w) A (execs body env) (GPost h₀ env.locals Led Ps x stored m₀ (Inv (i + 1)) own [I] { s with heap := h, toks := tk } Q) E { s with heap := h, toks := tk })
    (done : ∀ (c : σ) (u : Str → Option Value) h tk, Inv cl.length c → Fr h₀ env.locals h (fun y => if y = x then u y else kstB (fun z => if stored.contains z then u z else m₀ z) (Ps c) y) → News h₀ env.locals h (Led c) → Q .next { s with heap := h, toks := tk }) :
    wpAny (model prog w) A (pyIter (.ref d)) (fun it s₂ => LoopAtV prog w A h₀ env x body Q E it s₂) E s := by
  have hm := N _ hl
  have hlt : d < s.heap.objs.size := Heap.lt_size hm.1
  obtain ⟨ep, hat⟩ := (Heap.dictOf_iff.mpr ⟨od, hm.1, hd⟩ : s.heap.DictOf (PySem.strKind prog w) d kvs).dictAt
  refine wpAny_pyIter_dict lo hat ?_
  have W := Walks.dictKeys (knd := PySem.strKind prog w) hh s.heap.objs.size d (Nat.ne_of_lt hlt) kvs ep
  have hlen : kvs.length = cl.length := by rw [← hf.length, kdpD_length]
  refine gloop Led Ps stored Inv c₀ W ?_ ?_ ?_ ⟨⟨_, Heap.get?_push_size _ rfl, rfl, rfl⟩, hat.push _⟩ (F.push _) (fun p hp => ⟨Heap.get?_push_of_some _ (N p hp).1, (N p hp).2⟩) hk hi ?_ ?_
  · intro hq
    rcases List.mem_cons.mp hq with e | hq
    · exact absurd F.ns.lt (e ▸ Nat.lt_irrefl _)
    · exact hm.2.1 (List.mem_singleton.mp hq).symm
  · intro b hb
    rw [List.mem_singleton.mp hb]
    exact next_is_new F
  · intro p hp hI'
    exact absurd (Heap.lt_size (N p hp).1) ((List.mem_singleton.mp hI') ▸ Nat.lt_irrefl _)
  · intro i v c u h tk own hi' hP hInv hoff hown hall hst F₁ N₁ NO
    obtain ⟨k, xv, hx, hkey⟩ := hP
    obtain ⟨dv, hdv, _⟩ := hf.at hx
    have hd' : (cl[i]?).map (fun p => (PyData.str p.1, PyData.int p.2)) = some (PyData.str k, dv) := by rw [← List.getElem?_map]; exact hdv
    obtain ⟨t, rfl⟩ := PySem.Value.isStrOf_shape hkey
    cases hcj : cl[i]? with
    | none => rw [hcj] at hd'; cases hd'
    | some p =>
      rw [hcj] at hd'
      have e1 : PyData.str p.1 = PyData.str k := congrArg Prod.fst (Option.some.inj hd')
      injection e1 with e1
      subst e1
      exact turn i p.1 p.2 t _ c u h tk own hcj hInv (fun p hp e => hoff p hp (List.mem_singleton.mpr e)) (fun p hp => by
        rcases List.mem_cons.mp (hown p hp) with e | e
        · exact .inl e
        · exact .inr (List.mem_singleton.mp e)) (let ⟨o, ho, _⟩ := hst.1; ⟨o, hall _ (.head _) (next_is_new F) o ho⟩) F₁ N₁ NO
  · intro c u h tk hInv _ F₁ N₁
    rw [hlen] at hInv
    exact done c u h tk hInv F₁ N₁
/-- a for over a range -/
theorem grange {σ : Type} {r : Addr} {b₀ : Int} {t₀ u₀ v₀ : Tok} {n : Nat} {m₀ : Str → Option Value} (Led : σ → List (Addr × Obj)) (Ps : σ → List (Str × Value)) (stored : List Str) (Inv : Nat → σ → Prop) (c₀ : σ) {a₀ : Int}
    (hh : A.handled = none) (hr : IsRange s.heap r a₀ b₀ 1 t₀ u₀ v₀) (hsmall : Builtin.Range.small a₀ b₀ 1 = true) (hn : Builtin.Range.rangeSize a₀ b₀ 1 = (n : Int)) (F : Fr h₀ env.locals s.heap m₀) (N : News h₀ env.locals s.heap (Led c₀))
    (hk : ∀ p ∈ Ps c₀, m₀ p.1 = some p.2) (hi : Inv 0 c₀)
    (turn : ∀ (i : Nat) t I (c : σ) (u : Str → Option Value) h tk own, i < n → Inv i c → (∀ p ∈ Led c, p.1 ≠ I) → (∀ p ∈ own, p.1 = I) → (∃ o, (I, o) ∈ own) →
      Fr h₀ env.locals h (fun y => if y = x then some (.int (a₀ + (i : Int)) t) else kstB (fun z => if stored.contains z then u z else m₀ z) (Ps c) y) → News h₀ env.locals h (Led c) → News h₀ env.locals h own →
      wpAny (model prog w) A (execs body env) (GPost h₀ env.locals Led Ps x stored m₀ (Inv (i + 1)) own [I] { s with heap := h, toks := tk } Q) E { s with heap := h, toks := tk })
    (done : ∀ (c : σ) (u : Str → Option Value) h tk, Inv n c → Fr h₀ env.locals h (fun y => if y = x then u y else kstB (fun z => if stored.contains z then u z else m₀ z) (Ps c) y) → News h₀ env.locals h (Led c) → Q .next { s with heap := h, toks := tk }) :
    wpAny (model prog w) A (pyIter (.ref r)) (fun it s₂ => LoopAtV prog w A h₀ env x body Q E it s₂) E s := by
  refine wpAny_pyIter_range hr hsmall ?_
  have W : Walks prog w A s.heap.objs.size [s.heap.objs.size] [s.heap.objs.size] n (fun i v => i < n ∧ ∃ t, v = .int (a₀ + i * 1) t)
      (fun i h => IsRangeIter h s.heap.objs.size (a₀ + (i : Nat) * 1) ((n : Int) - (i : Nat)) 1) := (Walks.range hh _ a₀ 1 n).bound
  refine gloop Led Ps stored Inv c₀ W ?_ ?_ ?_ (by show IsRangeIter _ _ _ _ _; rw [hn]; simpa using Heap.get?_push_size _ rfl) (F.push _) (fun p hp => ⟨Heap.get?_push_of_some _ (N p hp).1, (N p hp).2⟩) hk hi ?_ ?_
  · intro hm
    exact absurd F.ns.lt ((List.mem_singleton.mp hm) ▸ Nat.lt_irrefl _)
  · intro b hb
    rw [List.mem_singleton.mp hb]
    exact next_is_new F
  · intro p hp hI
    exact absurd (Heap.lt_size (N p hp).1) ((List.mem_singleton.mp hI) ▸ Nat.lt_irrefl _)
  · intro i v c u h tk own hi' hP hInv hoff hown hall hst F₁ N₁ NO
    obtain ⟨_, t, rfl⟩ := hP
    have e1 : a₀ + (i : Int) * 1 = a₀ + (i : Int) := by omega
    rw [e1] at F₁
    exact turn i t _ c u h tk own hi' hInv (fun p hp e => hoff p hp (List.mem_singleton.mpr e)) (fun p hp => List.mem_singleton.mp (hown p hp)) ⟨_, hall _ (.head _) (next_is_new F) _ hst⟩ F₁ N₁ NO
  · intro c u h tk hInv _ F₁ N₁
    exact done c u h tk hInv F₁ N₁
end
end Mine
end E0
section E1
open PySem PySem.W PyProof.Rows PySem.Calls PyProof.V
namespace Mine
set_option maxRecDepth 100000
set_option maxHeartbeats 8000000
local macro_rules | `(tactic| k_room) => `(tactic| ((simp only [depth_under_make, depth_under_kw, depth_in1, depth_deeper, recursionLimit]); omega))
local macro_rules | `(tactic| k_steps) => `(tactic| repeat' (first | ((fail_if_success (with_reducible show wpAny _ _ (pyIter _) _ _ _)); (fail_if_success (with_reducible show wpAny _ _ (call (Value.ref 38) _) _ _ _)); (first | (k_unfold; (try dsimp only)) | (k_end; wrow_close) | walk1 | (dsimp only; walk1) | (leave1; walk_say "STEP leave1"; try dsimp only))) | fail "no step"))

theorem fresh_E1 : True := by w_top off; exact True.intro
structure ESt where
  oS : Obj
  kvs : List (Str × Value)
  cd : List (Str × Int)
  ts : Option Codes

noncomputable def cutS (one : Str) (k : Nat) : Str := Txt.slice one none (some (k : Int)) ++ Txt.slice one (some ((k : Int) + 2)) none
noncomputable def putCut (one : Str) (v : Int) (cd : List (Str × Int)) (k : Nat) : List (Str × Int) := kdpPut cd (cutS one k) (kdpLook cd (cutS one k) 0 + v)

local macro_rules | `(tactic| walk_at "eval Name") => `(tactic| (k_here; k_dflt (refine' nameX_L ?F ?v ?_ ?a ?b; (case F => k_asm); (case v => assumption); (case a => with_unfolding_all rfl); (case b => with_unfolding_all rfl); k_whole)))
theorem places_loop {w : World} {d : Nat} {gd : Option (List Code)} {un : Nat} {A₀ : Around} {s : Shared} {base h₀ : Heap} {outer : List Env} {L : Addr} {m : Str → Option Value} {loose : List Str} {mean : ExcName → Option Value} {mg mb : Str → Option Value}
  {one : Str} {to : Tok} {Q : Flow → Shared → Prop} {ls la lp : Addr} {oL : Obj} {kvl : List (Str × Value)} {cl : List (Str × Int)} {vs : List Value} {pls : List Nat} {nn : Nat} {rest : List (Addr × Obj)} {c₀ : ESt}
  (B : Below A₀ base outer h₀) (F : Fr h₀ L s.heap m) (X : (hd.heap_39 w.params).In h₀) (T : Top topProg loose mean mg mb h₀) (C : CodeHd h₀ 37 33)
  (N : News h₀ L s.heap ((ls, c₀.oS) :: (la, oL) :: (tabL c₀.ts ++ (lp, W.listOf vs.toArray nn) :: rest)))
  (hsl : ls ≠ la) (hsp : ls ≠ lp) (hrs : ∀ p ∈ rest, p.1 ≠ ls) (hI : IntsAre vs (pls.map fun k : Nat => (k : Int))) (hpl : ∀ k ∈ pls, k + 2 ≤ one.length) (hpn : pls.length ≤ 13)
  (hts : TabOk c₀.ts) (htl : ∀ p ∈ (ls, c₀.oS) :: (la, oL) :: (lp, W.listOf vs.toArray nn) :: rest, p.1 ∉ (tabL c₀.ts).map (·.1))
  (lo1 : (ls == sysModules) = false) (hd1 : c₀.oS.IsDictOf (PySem.strKind Challenge.rw_rs0057_01.row.prog w) c₀.kvs) (hf1 : FlatPairs PyData.str c₀.kvs (kdpD c₀.cd)) (hb1 : c₀.cd.length ≤ 16000000)
  (lo2 : (la == sysModules) = false) (hd2 : oL.IsDictOf (PySem.strKind Challenge.rw_rs0057_01.row.prog w) kvl) (hf2 : FlatPairs PyData.str kvl (kdpD cl)) (hone : kdpHas cl one = true)
  (m1 : m (Str.ofString "one") = some (.str one to)) (m2 : m (Str.ofString "level") = some (.ref la)) (m3 : m (Str.ofString "shorter") = some (.ref ls)) (m5 : m (Str.ofString "places") = some (.ref lp))
  (hroom : d < 800) (hlen : one.length ≤ 13)
  (hQ : ∀ (c : ESt) (u : Str → Option Value) h tk, TabOk c.ts → (∀ p ∈ (ls, c.oS) :: (la, oL) :: (lp, W.listOf vs.toArray nn) :: rest, p.1 ∉ (tabL c.ts).map (·.1)) → c.oS.IsDictOf (PySem.strKind Challenge.rw_rs0057_01.row.prog w) c.kvs → FlatPairs PyData.str c.kvs (kdpD c.cd) → c.cd = pls.foldl (putCut one (kdpLook cl one 0)) c₀.cd →
    Fr h₀ L h (fun y => if y = Str.ofString "place" then u y else kstB (fun z => if [Str.ofString "cut"].contains z then u z else m z) [] y) → News h₀ L h ((ls, c.oS) :: (la, oL) :: (tabL c.ts ++ (lp, W.listOf vs.toArray nn) :: rest)) → Q .next { s with heap := h, toks := tk }) :
  wpAny (model Challenge.rw_rs0057_01.row.prog w) (Around.deeper ⟨none, d, some outer, gd, un⟩ (endsEnv w L)) (exec (nth (innerBody w) 2) (endsEnv w L)) Q (fun _ _ => False) s := by
  revert X; k_fill; intro X
  with_unfolding_all refine (id ?_ : wpAny (model _ _) _ (exec (.For (.Name _ _) (.Name _ _) [_, _] [] _) _) _ _ _)
  refine For_invV h₀ (by with_unfolding_all rfl) (by with_unfolding_all rfl) ?_ (by intro _; with_unfolding_all rfl) PassesOwn.never
  refine nameX_L F m5 ?_ (by with_unfolding_all rfl) (by with_unfolding_all rfl)
  refine glist (σ := ESt) (vs := vs) (ns := pls.map fun k : Nat => (k : Int)) (nn := nn) (m₀ := m) (fun c => (ls, c.oS) :: (la, oL) :: (tabL c.ts ++ (lp, W.listOf vs.toArray nn) :: rest)) (fun _ => []) [Str.ofString "cut"]
    (fun i c => TabOk c.ts ∧ (∀ p ∈ (ls, c.oS) :: (la, oL) :: (lp, W.listOf vs.toArray nn) :: rest, p.1 ∉ (tabL c.ts).map (·.1)) ∧ c.oS.IsDictOf (PySem.strKind Challenge.rw_rs0057_01.row.prog w) c.kvs ∧ FlatPairs PyData.str c.kvs (kdpD c.cd) ∧ c.cd = (pls.take i).foldl (putCut one (kdpLook cl one 0)) c₀.cd ∧ c.cd.length ≤ c₀.cd.length + i)
    c₀ rfl (.tail _ (.tail _ (List.mem_append_right _ (.head _)))) hI F N (fun _ q => nomatch q) ⟨hts, htl, hd1, hf1, rfl, by omega⟩ ?_ ?_
  · rintro i k t I ⟨oS, kvs, cd, ts⟩ u h tk own hk ⟨i1, i2, i3, i4, i5, i6⟩ hoffI hown ⟨oI, hIo⟩ F N NO
    dsimp only at i1 i2 i3 i4 i5 i6 hoffI N
    obtain ⟨k', hk', rfl⟩ : ∃ k', pls[i]? = some k' ∧ (k' : Int) = k := by
      rw [List.getElem?_map] at hk
      cases q : pls[i]? with
      | none => rw [q] at hk; cases hk
      | some k' => rw [q] at hk; exact ⟨k', rfl, Option.some.inj hk⟩
    have hk2 := hpl k' (List.mem_of_getElem? hk')
    have hi13 : i < 13 := by
      have := (List.getElem?_eq_some_iff.mp hk').1
      omega
    have hab : (∀ p ∈ own, p.1 ≠ ls) := fun p hp e => by
      rcases hown p hp with q | q
      · exact hoffI (ls, oS) (.head _) (e.symm.trans q)
      · exact hsp (e.symm.trans q)
    have htab : ∀ p ∈ tabL ts, p.1 ≠ ls := fun p hp e => i2 (ls, oS) (.head _) (List.mem_map.mpr ⟨p, hp, e⟩)
    have hown2 : ∀ p ∈ own, p.1 ∉ (tabL ts).map (·.1) := fun p hp hm => by
      rcases hown p hp with q | q
      · obtain ⟨r, hr, e⟩ := List.mem_map.mp hm
        exact hoffI r (.tail _ (.tail _ (List.mem_append_left _ hr))) (e.trans q)
      · exact i2 (lp, W.listOf vs.toArray nn) (.tail _ (.tail _ (.head _))) (by rw [← q]; exact hm)
    have NA : News h₀ L h (tabL ts ++ ((ls, oS) :: (la, oL) :: (lp, W.listOf vs.toArray nn) :: (rest ++ own))) := fun p hp => by
      simp only [List.mem_append, List.mem_cons] at hp
      rcases hp with hp | rfl | rfl | rfl | hp | hp
      · exact N p (.tail _ (.tail _ (List.mem_append_left _ hp)))
      · exact N _ (.head _)
      · exact N _ (.tail _ (.head _))
      · exact N _ (.tail _ (.tail _ (List.mem_append_right _ (.head _))))
      · exact N p (.tail _ (.tail _ (List.mem_append_right _ (.tail _ hp))))
      · exact NO p hp
    obtain ⟨M, hM⟩ : ∃ M, M = (fun y => if y = Str.ofString "place" then some (Value.int (k' : Int) t) else kstB (fun z => if [Str.ofString "cut"].contains z = true then u z else m z) [] y) := ⟨_, rfl⟩
    have f1 : M (Str.ofString "one") = some (.str one to) := by rw [hM]; exact m1
    have f2 : M (Str.ofString "level") = some (.ref la) := by rw [hM]; exact m2
    have f3 : M (Str.ofString "shorter") = some (.ref ls) := by rw [hM]; exact m3
    have f4 : M (Str.ofString "place") = some (.int (k' : Int) t) := by rw [hM]; rfl
    have f9 : ∀ z, z ≠ Str.ofString "place" → z ≠ Str.ofString "cut" → M z = m z := by
      intro z h1 h2
      rw [hM]
      dsimp only
      rw [if_neg h1]
      simp only [kstB, List.contains_cons, List.contains_nil, Bool.or_false, beq_iff_eq, if_neg h2]
    rw [← hM] at F
    clear N NO hM
    k_steps
    refine wpAny_call (cut_spec (env := endsEnv w L) B F X NA T C i1 ?_ rfl (by with_unfolding_all rfl) (by show d + 1 < 900; omega) (by omega) fun ts' h2 tk2 tok2 j1 F NA2 j2 => ?_)
    · intro p hp
      simp only [List.mem_cons, List.mem_append] at hp
      rcases hp with rfl | rfl | rfl | hp | hp
      · exact i2 _ (.head _)
      · exact i2 _ (.tail _ (.head _))
      · exact i2 _ (.tail _ (.tail _ (.head _)))
      · exact i2 p (.tail _ (.tail _ (.tail _ hp)))
      · exact hown2 p hp
    have hcut : Txt.slice one none (some (k' : Int)) ++ Txt.slice one (some ((k' : Int) + 2)) none = cutS one k' := rfl
    rw [hcut]
    have hY : ∀ p ∈ tabL ts' ++ (lp, W.listOf vs.toArray nn) :: (rest ++ own), p.1 ≠ ls := by
      intro p hp
      simp only [List.mem_append, List.mem_cons] at hp
      rcases hp with hp | rfl | hp | hp
      · exact fun e => j2 (ls, oS) (.head _) (List.mem_map.mpr ⟨p, hp, e⟩)
      · exact hsp.symm
      · exact hrs p hp
      · exact hab p hp
    obtain ⟨YY, hYY⟩ : ∃ YY, YY = tabL ts' ++ (lp, W.listOf vs.toArray nn) :: (rest ++ own) := ⟨_, rfl⟩
    have NB : News h₀ L h2 ((ls, oS) :: (la, oL) :: YY) := fun p hp => by
      rw [hYY] at hp
      refine NA2 p ?_
      simp only [List.mem_append, List.mem_cons] at hp ⊢
      rcases hp with rfl | rfl | hp | rfl | hp | hp
      · exact .inr (.inl rfl)
      · exact .inr (.inr (.inl rfl))
      · exact .inl hp
      · exact .inr (.inr (.inr (.inl rfl)))
      · exact .inr (.inr (.inr (.inr (.inl hp))))
      · exact .inr (.inr (.inr (.inr (.inr hp))))
    rw [← hYY] at hY
    have hoffY : OwnOff YY [ls] := fun p hp b hb => by rw [List.mem_singleton.mp hb]; exact hY p hp
    clear NA NA2
    k_steps
    rename Fr _ _ _ _ => F
    rename News _ _ _ _ => N
    refine kdp_setItem F N (UpdF.head (List.forall_mem_cons.mpr ⟨hsl.symm, hY⟩)) i3 i4 (by omega) fun h3 o3 kvs3 F3 N3 a3 b3 => ?_
    k_steps
    refine ⟨h3, _, _, ⟨o3, kvs3, kdpPut cd (cutS one k') (kdpLook cd (cutS one k') 0 + kdpLook cl one 0), ts'⟩, rfl, F3, fun p hp => N3 p ?_, fun p hp => N3 p (.tail _ (.tail _ ?_)), ?_, (fun _ q => (nomatch q)), ?_, j1, ?_, a3, b3, ?_, ?_⟩
    · rw [hYY]
      simp only [List.mem_append, List.mem_cons] at hp ⊢
      rcases hp with rfl | rfl | hp | rfl | hp
      · exact .inl rfl
      · exact .inr (.inl rfl)
      · exact .inr (.inr (.inl hp))
      · exact .inr (.inr (.inr (.inl rfl)))
      · exact .inr (.inr (.inr (.inr (.inl hp))))
    · rw [hYY]
      exact List.mem_append_right _ (.tail _ (List.mem_append_right _ hp))
    · intro p hp hm
      have e := List.mem_singleton.mp hm
      simp only [List.mem_append, List.mem_cons] at hp
      rcases hp with rfl | rfl | hp | rfl | hp
      · exact hoffI (ls, oS) (.head _) e
      · exact hoffI (la, oL) (.tail _ (.head _)) e
      · exact j2 (I, oI) (.tail _ (.tail _ (.tail _ (List.mem_append_right _ hIo)))) (List.mem_map.mpr ⟨p, hp, e⟩)
      · exact hoffI _ (.tail _ (.tail _ (List.mem_append_right _ (.head _)))) e
      · exact hoffI p (.tail _ (.tail _ (List.mem_append_right _ (.tail _ hp)))) e
    · intro z h1 _ h2
      have h2' : z ≠ Str.ofString "cut" := by simpa using h2
      rw [if_neg h2']
      exact f9 z h1 h2'
    · intro p hp
      simp only [List.mem_cons] at hp
      rcases hp with rfl | rfl | rfl | hp
      · exact j2 (ls, oS) (.head _)
      · exact j2 _ (.tail _ (.head _))
      · exact j2 _ (.tail _ (.tail _ (.head _)))
      · exact j2 p (.tail _ (.tail _ (.tail _ (List.mem_append_left _ hp))))
    · dsimp only
      rw [List.take_add_one, hk', List.foldl_append, ← i5]
      rfl
    · dsimp only
      have := kdpPut_len cd (cutS one k') (kdpLook cd (cutS one k') 0 + kdpLook cl one 0)
      omega
  · rintro c u h tk ⟨i1, i2, i3, i4, i5, i6⟩ F N
    refine hQ c u h tk i1 i2 i3 i4 ?_ F N
    rw [i5, List.length_map, List.take_length]
end Mine
end E1
section E2
open PySem PySem.W PyProof.Rows PySem.Calls PyProof.V
namespace Mine
set_option maxRecDepth 100000
set_option maxHeartbeats 8000000
local macro_rules | `(tactic| k_room) => `(tactic| ((simp only [depth_under_make, depth_under_kw, depth_in1, depth_deeper, recursionLimit]); omega))
local macro_rules | `(tactic| k_steps) => `(tactic| repeat' (first | ((fail_if_success (with_reducible show wpAny _ _ (pyIter _) _ _ _)); (fail_if_success (with_reducible show wpAny _ _ (call (Value.ref 38) _) _ _ _)); (first | (k_unfold; (try dsimp only)) | (k_end; wrow_close) | walk1 | (dsimp only; walk1) | (leave1; walk_say "STEP leave1"; try dsimp only))) | fail "no step"))
local macro_rules | `(tactic| walk_at "eval Name") => `(tactic| (k_here; k_dflt (refine' nameX_L ?F ?v ?_ ?a ?b; (case F => k_asm); (case v => assumption); (case a => with_unfolding_all rfl); (case b => with_unfolding_all rfl); k_whole)))

theorem fresh_E2 : True := by w_top off; exact True.intro
structure ISt where
  oC : Obj
  vc : Option Value
  oS : Obj
  kvs : List (Str × Value)
  cd : List (Str × Int)
  oE : Obj
  kve : List (Str × Value)
  ce : List (Str × Int)
  ts : Option Codes
noncomputable def stepOne (cl : List (Str × Int)) (S : List (Str × Int) × List (Str × Int)) (p : Str × Int) : List (Str × Int) × List (Str × Int) :=
  ((placesL p.1.cps.toList).foldl (putCut p.1 (kdpLook cl p.1 0)) S.1, if placesL p.1.cps.toList = [] then kdpPut S.2 p.1 (kdpLook cl p.1 0) else S.2)
theorem places_in {l : List Nat} {k : Nat} (h : k ∈ placesL l) : k + 2 ≤ l.length := by
  unfold placesL at h
  have h1 := (List.mem_filter.mp h).1
  have := List.mem_range.mp h1
  omega
theorem places_len (l : List Nat) : (placesL l).length ≤ l.length - 1 := by
  unfold placesL
  exact Nat.le_trans (List.length_filter_le _ _) (by rw [List.length_range]; exact Nat.le_refl _)
theorem foldPut_len (one : Str) (v : Int) : ∀ (pls : List Nat) (cd : List (Str × Int)), (pls.foldl (putCut one v) cd).length ≤ cd.length + pls.length
  | [], _ => Nat.le_refl _
  | k :: r, cd => by
    have h1 := foldPut_len one v r (putCut one v cd k)
    have h2 := kdpPut_len cd (cutS one k) (kdpLook cd (cutS one k) 0 + v)
    simp only [List.foldl_cons, List.length_cons]
    have h3 : (putCut one v cd k).length ≤ cd.length + 1 := h2
    omega
theorem has_of_mem {cl : List (Str × Int)} {i : Nat} {one : Str} {e : Int} (h : cl[i]? = some (one, e)) : kdpHas cl one = true := by
  unfold kdpHas
  exact List.any_eq_true.mpr ⟨(one, e), List.mem_of_getElem? h, by simp⟩

theorem inner_loop {w : World} {d : Nat} {gd : Option (List Code)} {un : Nat} {A₀ : Around} {s : Shared} {base h₀ : Heap} {outer : List Env} {L : Addr} {m : Str → Option Value} {loose : List Str} {mean : ExcName → Option Value} {mg mb : Str → Option Value}
  {Q : Flow → Shared → Prop} {ls le la : Addr} {oL : Obj} {kvl : List (Str × Value)} {cl : List (Str × Int)} {rest : List (Addr × Obj)} {c₀ : ISt}
  (B : Below A₀ base outer h₀) (F : Fr h₀ L s.heap m) (X : (hd.heap_39 w.params).In h₀) (T : Top topProg loose mean mg mb h₀) (C : CodeHd h₀ 37 33)
  (N : News h₀ L s.heap ((L + 1, c₀.oC) :: (ls, c₀.oS) :: (le, c₀.oE) :: (la, oL) :: (tabL c₀.ts ++ rest)))
  (n1 : ls ≠ le) (n2 : ls ≠ la) (n3 : le ≠ la) (n4 : L + 1 ≠ ls) (n5 : L + 1 ≠ le) (n6 : L + 1 ≠ la) (hrs : ∀ p ∈ rest, p.1 ≠ ls ∧ p.1 ≠ le ∧ p.1 ≠ L + 1)
  (hts : TabOk c₀.ts) (htl : ∀ p ∈ (L + 1, c₀.oC) :: (ls, c₀.oS) :: (le, c₀.oE) :: (la, oL) :: rest, p.1 ∉ (tabL c₀.ts).map (·.1)) (hcell : c₀.oC.data = .cell c₀.vc)
  (lo1 : (ls == sysModules) = false) (hd1 : c₀.oS.IsDictOf (PySem.strKind Challenge.rw_rs0057_01.row.prog w) c₀.kvs) (hf1 : FlatPairs PyData.str c₀.kvs (kdpD c₀.cd)) (hb1 : c₀.cd.length ≤ 1000)
  (lo3 : (le == sysModules) = false) (hd3 : c₀.oE.IsDictOf (PySem.strKind Challenge.rw_rs0057_01.row.prog w) c₀.kve) (hf3 : FlatPairs PyData.str c₀.kve (kdpD c₀.ce)) (hb3 : c₀.ce.length ≤ 1000)
  (lo2 : (la == sysModules) = false) (hd2 : oL.IsDictOf (PySem.strKind Challenge.rw_rs0057_01.row.prog w) kvl) (hf2 : FlatPairs PyData.str kvl (kdpD cl)) (hcl : cl.length ≤ 1000)
  (hone : ∀ p ∈ cl, p.1.length ≤ 13 ∧ ∀ x ∈ p.1.cps.toList, six x)
  (m2 : m (Str.ofString "level") = some (.ref la)) (m3 : m (Str.ofString "shorter") = some (.ref ls)) (m4 : m (Str.ofString "ends") = some (.ref le)) (hroom : d < 800) (hun : un < 5000)
  (hQ : ∀ (c : ISt) (u : Str → Option Value) h tk, TabOk c.ts → (∀ p ∈ (L + 1, c.oC) :: (ls, c.oS) :: (le, c.oE) :: (la, oL) :: rest, p.1 ∉ (tabL c.ts).map (·.1)) → c.oC.data = .cell c.vc →
    c.oS.IsDictOf (PySem.strKind Challenge.rw_rs0057_01.row.prog w) c.kvs → FlatPairs PyData.str c.kvs (kdpD c.cd) → c.oE.IsDictOf (PySem.strKind Challenge.rw_rs0057_01.row.prog w) c.kve → FlatPairs PyData.str c.kve (kdpD c.ce) → (c.cd, c.ce) = cl.foldl (stepOne cl) (c₀.cd, c₀.ce) →
    Fr h₀ L h (fun y => if y = Str.ofString "one" then u y else kstB (fun z => if [Str.ofString "places", Str.ofString "place", Str.ofString "cut"].contains z then u z else m z) [] y) → News h₀ L h ((L + 1, c.oC) :: (ls, c.oS) :: (le, c.oE) :: (la, oL) :: (tabL c.ts ++ rest)) → Q .next { s with heap := h, toks := tk }) :
  wpAny (model Challenge.rw_rs0057_01.row.prog w) (Around.deeper ⟨none, d, some outer, gd, un⟩ (endsEnv w L)) (exec (nth (outerBody w) 1) (endsEnv w L)) Q (fun _ _ => False) s := by
  revert X; k_fill; intro X
  with_unfolding_all refine (id ?_ : wpAny (model _ _) _ (exec (.For (.Name _ _) (.Name _ _) [_, _, _, _] [] _) _) _ _ _)
  refine For_invV h₀ (by with_unfolding_all rfl) (by with_unfolding_all rfl) ?_ (by intro _; with_unfolding_all rfl) PassesOwn.never
  refine nameX_L F m2 ?_ (by with_unfolding_all rfl) (by with_unfolding_all rfl)
  refine gdict (σ := ISt) (kvs := kvl) (cl := cl) (od := oL) (m₀ := m) (fun c => (L + 1, c.oC) :: (ls, c.oS) :: (le, c.oE) :: (la, oL) :: (tabL c.ts ++ rest)) (fun _ => []) [Str.ofString "places", Str.ofString "place", Str.ofString "cut"]
    (fun i c => TabOk c.ts ∧ (∀ p ∈ (L + 1, c.oC) :: (ls, c.oS) :: (le, c.oE) :: (la, oL) :: rest, p.1 ∉ (tabL c.ts).map (·.1)) ∧ c.oC.data = .cell c.vc ∧
      c.oS.IsDictOf (PySem.strKind Challenge.rw_rs0057_01.row.prog w) c.kvs ∧ FlatPairs PyData.str c.kvs (kdpD c.cd) ∧ c.oE.IsDictOf (PySem.strKind Challenge.rw_rs0057_01.row.prog w) c.kve ∧ FlatPairs PyData.str c.kve (kdpD c.ce) ∧
      (c.cd, c.ce) = (cl.take i).foldl (stepOne cl) (c₀.cd, c₀.ce) ∧ c.cd.length ≤ 1000 + 13 * i ∧ c.ce.length ≤ 1000 + i)
    c₀ rfl (.tail _ (.tail _ (.tail _ (.head _)))) lo2 hd2 hf2 F N (fun _ q => nomatch q) ⟨hts, htl, hcell, hd1, hf1, hd3, hf3, rfl, by omega, by omega⟩ ?_ ?_
  · rintro i one e t I ⟨oC, vc, oS, kvs, cd, oE, kve, ce, ts⟩ u h tk own hk ⟨i1, i2, i3, i4, i5, i6, i7, i8, i9, i10⟩ hoffI hown ⟨oI, hIo⟩ F N NO
    dsimp only at i1 i2 i3 i4 i5 i6 i7 i8 i9 i10 hoffI N
    have hi : i < cl.length := (List.getElem?_eq_some_iff.mp hk).1
    obtain ⟨hlen, h6⟩ := hone _ (List.mem_of_getElem? hk)
    dsimp only at hlen h6
    obtain ⟨M, hM⟩ : ∃ M, M = (fun y => if y = Str.ofString "one" then some (Value.str one t) else kstB (fun z => if [Str.ofString "places", Str.ofString "place", Str.ofString "cut"].contains z = true then u z else m z) [] y) := ⟨_, rfl⟩
    have f1 : M (Str.ofString "one") = some (.str one t) := by rw [hM]; rfl
    have f2 : M (Str.ofString "level") = some (.ref la) := by rw [hM]; exact m2
    have f3 : M (Str.ofString "shorter") = some (.ref ls) := by rw [hM]; exact m3
    have f4 : M (Str.ofString "ends") = some (.ref le) := by rw [hM]; exact m4
    have f9 : ∀ z, z ≠ Str.ofString "one" → [Str.ofString "places", Str.ofString "place", Str.ofString "cut"].contains z = false → M z = m z := by
      intro z h1 h2
      rw [hM]
      dsimp only
      rw [if_neg h1]
      simp only [kstB, h2, Bool.false_eq_true, if_false]
    rw [← hM] at F
    clear hM
    have NA : News h₀ L h ((L + 1, oC) :: (ls, oS) :: (le, oE) :: (la, oL) :: (tabL ts ++ (rest ++ own))) := fun p hp => by
      simp only [List.mem_append, List.mem_cons] at hp
      rcases hp with rfl | rfl | rfl | rfl | hp | hp | hp
      · exact N _ (.head _)
      · exact N _ (.tail _ (.head _))
      · exact N _ (.tail _ (.tail _ (.head _)))
      · exact N _ (.tail _ (.tail _ (.tail _ (.head _))))
      · exact N p (.tail _ (.tail _ (.tail _ (.tail _ (List.mem_append_left _ hp)))))
      · exact N p (.tail _ (.tail _ (.tail _ (.tail _ (List.mem_append_right _ hp)))))
      · exact NO p hp
    have hown2 : ∀ p ∈ own, p.1 ∉ (tabL ts).map (·.1) := fun p hp hm => by
      rcases hown p hp with q | q
      · obtain ⟨r, hr, e⟩ := List.mem_map.mp hm
        exact hoffI r (.tail _ (.tail _ (.tail _ (.tail _ (List.mem_append_left _ hr))))) (e.trans q)
      · exact i2 (la, oL) (.tail _ (.tail _ (.tail _ (.head _)))) (by rw [← q]; exact hm)
    have hown3 : ∀ p ∈ own, p.1 ≠ ls ∧ p.1 ≠ le ∧ p.1 ≠ L + 1 := fun p hp => by
      rcases hown p hp with q | q
      · exact ⟨fun e => hoffI _ (.tail _ (.head _)) (e.symm.trans q), fun e => hoffI _ (.tail _ (.tail _ (.head _))) (e.symm.trans q), fun e => hoffI _ (.head _) (e.symm.trans q)⟩
      · exact ⟨fun e => n2 (e.symm.trans q), fun e => n3 (e.symm.trans q), fun e => n6 (e.symm.trans q)⟩
    clear N NO
    refine wpAny_execs_cons (wpAny_Assign_Name (numbers_comp F X T f1 hlen h6 fun D vs n h1 tk1 hk1 hD1 nD1 hI1 => ?_) (by with_unfolding_all rfl))
    have F1 := Fr_ext F hk1
    have hDne : ∀ p ∈ (L + 1, oC) :: (ls, oS) :: (le, oE) :: (la, oL) :: (tabL ts ++ (rest ++ own)), p.1 ≠ D := fun p hp q => by
      have := (NA p hp).1
      rw [q, nD1] at this; cases this
    have nLD : D ≠ L ∧ h₀.get? D = none := by
      refine ⟨fun q => ?_, ?_⟩
      · obtain ⟨o, _, _, ho, _⟩ := F.ns
        have ho' : h.get? L = some o := ho
        have nd' : h.get? D = none := nD1
        rw [q, ho'] at nd'; cases nd'
      · cases q : h₀.get? D with
        | none => rfl
        | some o => rw [F.keep _ _ q] at nD1; cases nD1
    have N1 : News h₀ L h1 ((L + 1, oC) :: (D, W.listOf vs.toArray n) :: (ls, oS) :: (le, oE) :: (la, oL) :: (tabL ts ++ (rest ++ own))) := fun p hp => by
      rcases List.mem_cons.mp hp with rfl | hp
      · have := NA _ (.head _); exact ⟨hk1 _ _ this.1, this.2⟩
      · rcases List.mem_cons.mp hp with rfl | hp
        · exact ⟨hD1, nLD⟩
        · have := NA p (.tail _ hp); exact ⟨hk1 _ _ this.1, this.2⟩
    have hc1 : ∀ p ∈ (D, W.listOf vs.toArray n) :: (ls, oS) :: (le, oE) :: (la, oL) :: (tabL ts ++ (rest ++ own)), p.1 ≠ L + 1 := fun p hp => by
      simp only [List.mem_append, List.mem_cons] at hp
      rcases hp with rfl | rfl | rfl | rfl | hp | hp | hp
      · exact fun q => hDne _ (.head _) q.symm
      · exact n4.symm
      · exact n5.symm
      · exact n6.symm
      · exact fun q => i2 (L + 1, oC) (.head _) (List.mem_map.mpr ⟨p, hp, q⟩)
      · exact (hrs p hp).2.2
      · exact (hown3 p hp).2.2
    refine storeX_C F1 N1 (c := L + 1) (by with_unfolding_all rfl) (UpdF.head hc1) i3 (fun h2 oC2 F2 N2 d2 => ?_) (by with_unfolding_all rfl) (by with_unfolding_all rfl)
    clear F1 N1
    refine wpAny_execs_cons (places_comp F2 X T N2 f1 hlen h6 hroom ⟨oC2, (N2 _ (.head _)).1, d2⟩ ⟨_, (N2 _ (.tail _ (.head _))).1, rfl, n, rfl⟩ hI1 (by with_unfolding_all rfl) fun lp ys np h3 tk3 hk3 hNs hD3 nD3 hI3 => ?_)
    have hLlt : h₀.objs.size ≤ L := F2.above
    have F3 : Fr h₀ L h3 (fun z => if z = Str.ofString "places" then some (.ref lp) else M z) := ⟨hNs, fun b o e => hk3 b o (Nat.ne_of_lt (Nat.lt_of_lt_of_le (Heap.lt_size e) hLlt)) (F2.keep b o e), hLlt⟩
    have hlpne : ∀ p ∈ (L + 1, oC2) :: (D, W.listOf vs.toArray n) :: (ls, oS) :: (le, oE) :: (la, oL) :: (tabL ts ++ (rest ++ own)), p.1 ≠ lp := fun p hp q => by
      have := (N2 p hp).1
      rw [q, nD3] at this; cases this
    have nLlp : lp ≠ L ∧ h₀.get? lp = none := by
      refine ⟨fun q => ?_, ?_⟩
      · obtain ⟨o, _, _, ho, _⟩ := F2.ns
        have ho' : h2.get? L = some o := ho
        have nd' : h2.get? lp = none := nD3
        rw [q, ho'] at nd'; cases nd'
      · cases q : h₀.get? lp with
        | none => rfl
        | some o => rw [F2.keep _ _ q] at nD3; cases nD3
    have N3 : News h₀ L h3 ((ls, oS) :: (la, oL) :: (tabL ts ++ (lp, W.listOf ys.toArray np) :: ((L + 1, oC2) :: (le, oE) :: (rest ++ own)))) := fun p hp => by
      have old : ∀ p ∈ (L + 1, oC2) :: (D, W.listOf vs.toArray n) :: (ls, oS) :: (le, oE) :: (la, oL) :: (tabL ts ++ (rest ++ own)), h3.get? p.1 = some p.2 ∧ p.1 ≠ L ∧ h₀.get? p.1 = none := fun p hp => ⟨hk3 _ _ (N2 p hp).2.1 (N2 p hp).1, (N2 p hp).2⟩
      simp only [List.mem_append, List.mem_cons] at hp
      rcases hp with rfl | rfl | hp | rfl | rfl | rfl | hp | hp
      · exact old _ (.tail _ (.tail _ (.head _)))
      · exact old _ (.tail _ (.tail _ (.tail _ (.tail _ (.head _)))))
      · exact old p (.tail _ (.tail _ (.tail _ (.tail _ (.tail _ (List.mem_append_left _ hp))))))
      · exact ⟨hD3, nLlp⟩
      · exact old _ (.head _)
      · exact old _ (.tail _ (.tail _ (.tail _ (.head _))))
      · exact old p (.tail _ (.tail _ (.tail _ (.tail _ (.tail _ (List.mem_append_right _ (List.mem_append_left _ hp)))))))
      · exact old p (.tail _ (.tail _ (.tail _ (.tail _ (.tail _ (List.mem_append_right _ (List.mem_append_right _ hp)))))))
    have hplen := places_len one.cps.toList
    rw [len_toList] at hplen
    refine wpAny_execs_cons ?_
    refine places_loop (c₀ := ⟨oS, kvs, cd, ts⟩) (pls := placesL one.cps.toList) (cl := cl) (kvl := kvl) (rest := (L + 1, oC2) :: (le, oE) :: (rest ++ own)) B F3 X T C N3 n2 (fun q => hlpne _ (.tail _ (.tail _ (.head _))) q) ?_ hI3 (fun k hk => by rw [← len_toList]; exact places_in hk) (by omega)
      i1 ?_ lo1 i4 i5 (by dsimp only; omega) lo2 hd2 hf2 (has_of_mem hk) f1 f2 f3 (if_pos rfl) hroom hlen (fun c4 u4 h4 tk4 j1 j2 j3 j4 j5 F4 N4 => ?_)
    · intro p hp
      simp only [List.mem_append, List.mem_cons] at hp
      rcases hp with rfl | rfl | hp | hp
      · exact n4
      · exact n1.symm
      · exact (hrs p hp).1
      · exact (hown3 p hp).1
    · intro p hp
      simp only [List.mem_append, List.mem_cons] at hp
      rcases hp with rfl | rfl | rfl | rfl | rfl | hp | hp
      · exact i2 (ls, oS) (.tail _ (.head _))
      · exact i2 (la, oL) (.tail _ (.tail _ (.tail _ (.head _))))
      · intro hm
        obtain ⟨r, hr, e⟩ := List.mem_map.mp hm
        exact hlpne r (.tail _ (.tail _ (.tail _ (.tail _ (.tail _ (List.mem_append_left _ hr)))))) e
      · exact i2 (L + 1, oC) (.head _)
      · exact i2 (le, oE) (.tail _ (.tail _ (.head _)))
      · exact i2 p (.tail _ (.tail _ (.tail _ (.tail _ hp))))
      · exact hown2 p hp
    obtain ⟨oS4, kvs4, cd4, ts4⟩ := c4
    dsimp only at j1 j2 j3 j4 j5 N4
    obtain ⟨M4, hM4⟩ : ∃ M4, M4 = (fun y => if y = Str.ofString "place" then u4 y else kstB (fun z => if [Str.ofString "cut"].contains z = true then u4 z else if z = Str.ofString "places" then some (Value.ref lp) else M z) [] y) := ⟨_, rfl⟩
    have g1 : M4 (Str.ofString "one") = some (.str one t) := by rw [hM4]; exact f1
    have g2 : M4 (Str.ofString "level") = some (.ref la) := by rw [hM4]; exact f2
    have g4 : M4 (Str.ofString "ends") = some (.ref le) := by rw [hM4]; exact f4
    have g5 : M4 (Str.ofString "places") = some (.ref lp) := by rw [hM4]; rfl
    have g9 : ∀ z, z ≠ Str.ofString "one" → [Str.ofString "places", Str.ofString "place", Str.ofString "cut"].contains z = false → M4 z = m z := by
      intro z h1 h2
      have h3 := h2
      simp only [List.contains_cons, List.contains_nil, Bool.or_false, Bool.or_eq_false_iff, beq_eq_false_iff_ne] at h3
      rw [hM4]
      dsimp only
      rw [if_neg h3.2.1]
      simp only [kstB, List.contains_cons, List.contains_nil, Bool.or_false, beq_iff_eq, if_neg h3.2.2, if_neg h3.1]
      exact f9 z h1 h2
    rw [← hM4] at F4
    clear hM4 N3 N2 F3
    obtain ⟨YY, hYY⟩ : ∃ YY, YY = tabL ts4 ++ ((ls, oS4) :: (L + 1, oC2) :: (rest ++ own)) := ⟨_, rfl⟩
    have hYe : ∀ p ∈ YY, p.1 ≠ le := by
      intro p hp
      rw [hYY] at hp
      simp only [List.mem_append, List.mem_cons] at hp
      rcases hp with hp | rfl | rfl | hp | hp
      · exact fun q => j2 (le, oE) (.tail _ (.tail _ (.tail _ (.tail _ (.head _))))) (List.mem_map.mpr ⟨p, hp, q⟩)
      · exact n1
      · exact n5
      · exact (hrs p hp).2.1
      · exact (hown3 p hp).2.1
    have NB : News h₀ L h4 ((le, oE) :: (la, oL) :: (lp, W.listOf ys.toArray np) :: YY) := fun p hp => by
      rw [hYY] at hp
      refine N4 p ?_
      simp only [List.mem_append, List.mem_cons] at hp ⊢
      rcases hp with rfl | rfl | rfl | hp | rfl | rfl | hp | hp
      · exact .inr (.inr (.inr (.inr (.inr (.inl rfl)))))
      · exact .inr (.inl rfl)
      · exact .inr (.inr (.inr (.inl rfl)))
      · exact .inr (.inr (.inl hp))
      · exact .inl rfl
      · exact .inr (.inr (.inr (.inr (.inl rfl))))
      · exact .inr (.inr (.inr (.inr (.inr (.inr (.inl hp))))))
      · exact .inr (.inr (.inr (.inr (.inr (.inr (.inr hp))))))
    have hne5 : lp ≠ le := fun q => hlpne (le, oE) (.tail _ (.tail _ (.tail _ (.head _)))) q.symm
    clear N4
    have hpe : (decide ((placesL one.cps.toList).map (fun k : Nat => (k : Int)) = []) = true) ↔ placesL one.cps.toList = [] := by simp
    have fin : ∀ (l5 : Addr) (oE' : Obj) (kve' : List (Str × Value)) (ce' : List (Str × Int)) (h' : Heap) (tk' : Nat), Fr h₀ L h' M4 → News h₀ L h' ((l5, W.listOf #[] 0) :: (le, oE') :: (la, oL) :: (lp, W.listOf ys.toArray np) :: YY) →
        oE'.IsDictOf (PySem.strKind Challenge.rw_rs0057_01.row.prog w) kve' → FlatPairs PyData.str kve' (kdpD ce') → ce' = (if placesL one.cps.toList = [] then kdpPut ce one (kdpLook cl one 0) else ce) →
        GEnd h₀ (endsEnv w L).locals (fun c : ISt => (L + 1, c.oC) :: (ls, c.oS) :: (le, c.oE) :: (la, oL) :: (tabL c.ts ++ rest)) (fun _ => []) (Str.ofString "one") [Str.ofString "places", Str.ofString "place", Str.ofString "cut"] m
          (fun c => TabOk c.ts ∧ (∀ p ∈ (L + 1, c.oC) :: (ls, c.oS) :: (le, c.oE) :: (la, oL) :: rest, p.1 ∉ (tabL c.ts).map (·.1)) ∧ c.oC.data = .cell c.vc ∧
            c.oS.IsDictOf (PySem.strKind Challenge.rw_rs0057_01.row.prog w) c.kvs ∧ FlatPairs PyData.str c.kvs (kdpD c.cd) ∧ c.oE.IsDictOf (PySem.strKind Challenge.rw_rs0057_01.row.prog w) c.kve ∧ FlatPairs PyData.str c.kve (kdpD c.ce) ∧
            (c.cd, c.ce) = (cl.take (i + 1)).foldl (stepOne cl) (c₀.cd, c₀.ce) ∧ c.cd.length ≤ 1000 + 13 * (i + 1) ∧ c.ce.length ≤ 1000 + (i + 1)) own [I] { s with heap := h, toks := tk } { s with heap := h', toks := tk' } := by
      intro l5 oE' kve' ce' h' tk' F' N' a' b' hce
      refine ⟨h', tk', M4, ⟨oC2, _, oS4, kvs4, cd4, oE', kve', ce', ts4⟩, rfl, F', fun p hp => N' p ?_, fun p hp => N' p ?_, ?_, (fun _ q => (nomatch q)), fun z h1 _ h2 => g9 z h1 h2, j1, ?_, d2, j3, j4, a', b', ?_, ?_, ?_⟩
      · rw [hYY]
        simp only [List.mem_append, List.mem_cons] at hp ⊢
        rcases hp with rfl | rfl | rfl | rfl | hp | hp
        · exact .inr (.inr (.inr (.inr (.inr (.inr (.inl rfl))))))
        · exact .inr (.inr (.inr (.inr (.inr (.inl rfl)))))
        · exact .inr (.inl rfl)
        · exact .inr (.inr (.inl rfl))
        · exact .inr (.inr (.inr (.inr (.inl hp))))
        · exact .inr (.inr (.inr (.inr (.inr (.inr (.inr (.inl hp)))))))
      · rw [hYY]
        exact .tail _ (.tail _ (.tail _ (.tail _ (List.mem_append_right _ (.tail _ (.tail _ (List.mem_append_right _ hp)))))))
      · intro p hp hm
        have e := List.mem_singleton.mp hm
        simp only [List.mem_append, List.mem_cons] at hp
        rcases hp with rfl | rfl | rfl | rfl | hp | hp
        · exact hoffI (L + 1, oC) (.head _) e
        · exact hoffI (ls, oS) (.tail _ (.head _)) e
        · exact hoffI (le, oE) (.tail _ (.tail _ (.head _))) e
        · exact hoffI (la, oL) (.tail _ (.tail _ (.tail _ (.head _)))) e
        · exact j2 (I, oI) (.tail _ (.tail _ (.tail _ (.tail _ (.tail _ (List.mem_append_right _ hIo)))))) (List.mem_map.mpr ⟨p, hp, e⟩)
        · exact hoffI p (.tail _ (.tail _ (.tail _ (.tail _ (List.mem_append_right _ hp))))) e
      · intro p hp
        simp only [List.mem_cons] at hp
        rcases hp with rfl | rfl | rfl | rfl | hp
        · exact j2 (L + 1, oC2) (.tail _ (.tail _ (.tail _ (.head _))))
        · exact j2 (ls, oS4) (.head _)
        · exact j2 (le, oE) (.tail _ (.tail _ (.tail _ (.tail _ (.head _)))))
        · exact j2 _ (.tail _ (.head _))
        · exact j2 p (.tail _ (.tail _ (.tail _ (.tail _ (.tail _ (List.mem_append_left _ hp))))))
      · dsimp only
        rw [List.take_add_one, hk, List.foldl_append, ← i8, hce, j5]
        rfl
      · dsimp only
        rw [j5]
        have := foldPut_len one (kdpLook cl one 0) (placesL one.cps.toList) cd
        omega
      · dsimp only
        rw [hce]
        split
        · have := kdpPut_len ce one (kdpLook cl one 0)
          omega
        · omega
    have hhas := has_of_mem hk
    k_steps
    · rename Fr _ _ _ _ => F5
      rename News _ _ _ _ => N5
      rename (decide _ = true) => hb
      rename (_ ∧ _ ∧ _ ∧ AllLt _ _) => hl5
      refine kdp_setItem F5 N5 (UpdF.tail (Nat.ne_of_gt hl5.1) (UpdF.head (List.forall_mem_cons.mpr ⟨n3.symm, List.forall_mem_cons.mpr ⟨hne5, hYe⟩⟩))) i6 i7 (by omega) fun h6 o6 kve6 F6 N6 a6 b6 => ?_
      k_steps
      exact fin _ o6 kve6 _ h6 _ F6 N6 a6 b6 (by rw [if_pos (hpe.mp hb)])
    · rename Fr _ _ _ _ => F5
      rename News _ _ _ _ => N5
      rename (decide _ = false) => hb
      exact fin _ oE kve ce _ _ F5 N5 i6 i7 (by rw [if_neg (fun q => by have := hpe.mpr q; rw [hb] at this; cases this)])
  · rintro c u h tk ⟨i1, i2, i3, i4, i5, i6, i7, i8, i9, i10⟩ F N
    refine hQ c u h tk i1 i2 i3 i4 i5 i6 i7 ?_ F N
    rw [i8, List.take_length]
end Mine
end E2
section E3
open PySem PySem.W PyProof.Rows PySem.Calls PyProof.V
namespace Mine
set_option maxRecDepth 100000
set_option maxHeartbeats 8000000
local macro_rules | `(tactic| k_room) => `(tactic| ((simp only [depth_under_make, depth_under_kw, depth_in1, depth_deeper, recursionLimit]); omega))
local macro_rules | `(tactic| k_steps) => `(tactic| repeat' (first | ((fail_if_success (with_reducible show wpAny _ _ (pyIter _) _ _ _)); (fail_if_success (with_reducible show wpAny _ _ (call (Value.ref 38) _) _ _ _)); (first | (k_unfold; (try dsimp only)) | (k_end; wrow_close) | walk1 | (dsimp only; walk1) | (leave1; walk_say "STEP leave1"; try dsimp only))) | fail "no step"))
local macro_rules | `(tactic| walk_at "eval Name") => `(tactic| (k_here; k_dflt (refine' nameX_L ?F ?v ?_ ?a ?b; (case F => k_asm); (case v => assumption); (case a => with_unfolding_all rfl); (case b => with_unfolding_all rfl); k_whole)))

theorem fresh_E3 : True := by w_top off; exact True.intro
noncomputable def nextL (S : List (Str × Int) × List (Str × Int)) : List (Str × Int) × List (Str × Int) := S.1.foldl (stepOne S.1) ([], S.2)
noncomputable def runL (t : Str) : Nat → List (Str × Int) × List (Str × Int)
  | 0 => ([(t, 1)], [])
  | k + 1 => nextL (runL t k)
def OkL (S : List (Str × Int) × List (Str × Int)) : Prop := S.1.length ≤ 1000 ∧ S.2.length ≤ 1000 ∧ ∀ p ∈ S.1, p.1.length ≤ 13 ∧ ∀ x ∈ p.1.cps.toList, six x

structure OSt where
  oC : Obj
  vc : Option Value
  la : Addr
  oL : Obj
  kvl : List (Str × Value)
  oE : Obj
  kve : List (Str × Value)
  ts : Option Codes

def OInv (w : World) (t : Str) (L le : Addr) (rest : List (Addr × Obj)) (i : Nat) (c : OSt) : Prop :=
  TabOk c.ts ∧ (∀ p ∈ (L + 1, c.oC) :: (le, c.oE) :: (c.la, c.oL) :: rest, p.1 ∉ (tabL c.ts).map (·.1)) ∧ c.oC.data = .cell c.vc ∧
  c.oL.IsDictOf (PySem.strKind Challenge.rw_rs0057_01.row.prog w) c.kvl ∧ FlatPairs PyData.str c.kvl (kdpD (runL t i).1) ∧
  c.oE.IsDictOf (PySem.strKind Challenge.rw_rs0057_01.row.prog w) c.kve ∧ FlatPairs PyData.str c.kve (kdpD (runL t i).2) ∧
  le ≠ c.la ∧ L + 1 ≠ c.la ∧ (c.la == sysModules) = false

theorem outer_loop {w : World} {d : Nat} {gd : Option (List Code)} {un : Nat} {A₀ : Around} {s : Shared} {base h₀ : Heap} {outer : List Env} {L : Addr} {m : Str → Option Value} {loose : List Str} {mean : ExcName → Option Value} {mg mb : Str → Option Value}
  {Q : Flow → Shared → Prop} {le : Addr} {rest : List (Addr × Obj)} {c₀ : OSt} {t : Str} {tt : Tok}
  (B : Below A₀ base outer h₀) (F : Fr h₀ L s.heap m) (X : (hd.heap_39 w.params).In h₀) (T : Top topProg loose mean mg mb h₀) (C : CodeHd h₀ 37 33)
  (N : News h₀ L s.heap ((L + 1, c₀.oC) :: (le, c₀.oE) :: (c₀.la, c₀.oL) :: (tabL c₀.ts ++ rest)))
  (n5 : L + 1 ≠ le) (hrs : ∀ p ∈ rest, p.1 ≠ le ∧ p.1 ≠ L + 1) (lo3 : (le == sysModules) = false) (hI0 : OInv w t L le rest 0 c₀) (hok : ∀ k ≤ t.length, OkL (runL t k)) (hlen : t.length ≤ 13)
  (m1 : m (Str.ofString "text") = some (.str t tt)) (m2 : m (Str.ofString "level") = some (.ref c₀.la)) (m4 : m (Str.ofString "ends") = some (.ref le)) (hroom : d < 800) (hun : un < 5000)
  (hQ : ∀ (c : OSt) (m' : Str → Option Value) h tk, OInv w t L le rest t.length c → m' (Str.ofString "ends") = some (.ref le) →
    Fr h₀ L h m' → News h₀ L h ((L + 1, c.oC) :: (le, c.oE) :: (c.la, c.oL) :: (tabL c.ts ++ rest)) → Q .next { s with heap := h, toks := tk }) :
  wpAny (model Challenge.rw_rs0057_01.row.prog w) (Around.deeper ⟨none, d, some outer, gd, un⟩ (endsEnv w L)) (exec (nth (funStmts (hd.heap_39 w.params) 57) 2) (endsEnv w L)) Q (fun _ _ => False) s := by
  revert X; k_fill; intro X
  with_unfolding_all refine (id ?_ : wpAny (model _ _) _ (exec (.For (.Name _ _) (.Call _ _ _ _) [_, _, _] [] _) _) _ _ _)
  refine For_invV h₀ (by with_unfolding_all rfl) (by with_unfolding_all rfl) ?_ (by intro _; with_unfolding_all rfl) PassesOwn.never
  obtain ⟨YY, hYY⟩ : ∃ YY, YY = ((L + 1, c₀.oC) :: (le, c₀.oE) :: (c₀.la, c₀.oL) :: (tabL c₀.ts ++ rest)) := ⟨_, rfl⟩
  have N' := N
  rw [← hYY] at N'
  k_steps
  rename News _ _ _ YY => N2
  rename Fr _ _ _ m => F2
  rename IsRange _ _ _ _ _ _ _ _ => hr2
  clear N
  subst hYY
  refine grange (σ := OSt) (n := t.length) (m₀ := m) (fun c => (L + 1, c.oC) :: (le, c.oE) :: (c.la, c.oL) :: (tabL c.ts ++ rest)) (fun c => [(Str.ofString "level", .ref c.la)]) [Str.ofString "shorter", Str.ofString "one", Str.ofString "places", Str.ofString "place", Str.ofString "cut"]
    (OInv w t L le rest) c₀ rfl hr2 (small_one (by omega) (by omega) (by omega) (by omega)) (by rw [rangeSize_nat]; congr 1) F2 N2 (fun p hp => by rw [List.mem_singleton.mp hp]; exact m2) hI0 ?_ ?_
  · rintro i ti I ⟨oC, vc, la, oL, kvl, oE, kve, ts⟩ u h tk own hi ⟨i1, i2, i3, i4, i5, i6, i7, i8, i9, i10⟩ hoffI hown ⟨oI, hIo⟩ F N NO
    dsimp only at i1 i2 i3 i4 i5 i6 i7 i8 i9 i10 hoffI N
    obtain ⟨ok1, ok2, ok3⟩ := hok i (by omega)
    obtain ⟨M, hM⟩ : ∃ M, M = (fun y => if y = Str.ofString "turn" then some (Value.int (0 + (i : Int)) ti) else kstB (fun z => if [Str.ofString "shorter", Str.ofString "one", Str.ofString "places", Str.ofString "place", Str.ofString "cut"].contains z = true then u z else m z) [(Str.ofString "level", Value.ref la)] y) := ⟨_, rfl⟩
    have f2 : M (Str.ofString "level") = some (.ref la) := by rw [hM]; rfl
    have f4 : M (Str.ofString "ends") = some (.ref le) := by rw [hM]; exact m4
    have f9 : ∀ z, z ≠ Str.ofString "turn" → z ≠ Str.ofString "level" → [Str.ofString "shorter", Str.ofString "one", Str.ofString "places", Str.ofString "place", Str.ofString "cut"].contains z = false → M z = m z := by
      intro z h1 h2 h3
      rw [hM]
      dsimp only
      rw [if_neg h1]
      simp only [kstB, if_neg h2, h3, Bool.false_eq_true, if_false]
    rw [← hM] at F
    clear hM
    have NA : News h₀ L h ((L + 1, oC) :: (le, oE) :: (la, oL) :: (tabL ts ++ (rest ++ own))) := fun p hp => by
      simp only [List.mem_append, List.mem_cons] at hp
      rcases hp with rfl | rfl | rfl | hp | hp | hp
      · exact N _ (.head _)
      · exact N _ (.tail _ (.head _))
      · exact N _ (.tail _ (.tail _ (.head _)))
      · exact N p (.tail _ (.tail _ (.tail _ (List.mem_append_left _ hp))))
      · exact N p (.tail _ (.tail _ (.tail _ (List.mem_append_right _ hp))))
      · exact NO p hp
    have hownI : ∀ p ∈ own, p.1 = I := hown
    clear N NO
    refine wpAny_execs_cons (wpAny_Assign_Name (newDict_K F NA T.nolimit fun ls h1 oS F1 N1 l1 lo1 hs1 fs1 _ _ => ?_) (by with_unfolding_all rfl))
    refine storeX_L F1 N1 (fun h2 F2 N2 => ?_) (by with_unfolding_all rfl) (by with_unfolding_all rfl)
    clear F1 N1 F NA
    have hls : ∀ p ∈ (L + 1, oC) :: (le, oE) :: (la, oL) :: (tabL ts ++ (rest ++ own)), p.1 ≠ ls := fun p hp => Nat.ne_of_lt (l1 p hp)
    have N3 : News h₀ L h2 ((L + 1, oC) :: (ls, oS) :: (le, oE) :: (la, oL) :: (tabL ts ++ (rest ++ own))) := fun p hp => by
      rcases List.mem_cons.mp hp with rfl | hp
      · exact N2 _ (.tail _ (.head _))
      · rcases List.mem_cons.mp hp with rfl | hp
        · exact N2 _ (.head _)
        · exact N2 p (.tail _ (.tail _ hp))
    refine wpAny_execs_cons (inner_loop (c₀ := ⟨oC, vc, oS, [], [], oE, kve, (runL t i).2, ts⟩) (kvl := kvl) (cl := (runL t i).1) B F2 X T C N3 ?_ ?_ i8 ?_ n5 i9 ?_ i1 ?_ i3 lo1 hs1 fs1 (Nat.zero_le _) lo3 i6 i7 ok2 i10 i4 i5 ok1 ok3 ?_ ?_ ?_ hroom hun ?_)
    · exact fun q => hls (le, oE) (.tail _ (.head _)) q.symm
    · exact fun q => hls (la, oL) (.tail _ (.tail _ (.head _))) q.symm
    · exact hls (L + 1, oC) (.head _)
    · intro p hp
      refine ⟨hls p (.tail _ (.tail _ (.tail _ (List.mem_append_right _ hp)))), ?_⟩
      rcases List.mem_append.mp hp with hp | hp
      · exact hrs p hp
      · rw [hownI p hp]
        exact ⟨fun q => hoffI (le, oE) (.tail _ (.head _)) q.symm, fun q => hoffI (L + 1, oC) (.head _) q.symm⟩
    · intro p hp
      simp only [List.mem_append, List.mem_cons] at hp
      rcases hp with rfl | rfl | rfl | rfl | hp | hp
      · exact i2 (L + 1, oC) (.head _)
      · intro hm
        obtain ⟨q, hq, e⟩ := List.mem_map.mp hm
        exact hls q (.tail _ (.tail _ (.tail _ (List.mem_append_left _ hq)))) e
      · exact i2 (le, oE) (.tail _ (.head _))
      · exact i2 (la, oL) (.tail _ (.tail _ (.head _)))
      · exact i2 p (.tail _ (.tail _ (.tail _ hp)))
      · intro hm
        obtain ⟨q, hq, e⟩ := List.mem_map.mp hm
        exact hoffI q (.tail _ (.tail _ (.tail _ (List.mem_append_left _ hq)))) (e.trans (hownI p hp))
    · exact f2
    · rfl
    · exact f4
    rintro ⟨oC3, vc3, oS3, kvs3, cd3, oE3, kve3, ce3, ts3⟩ u3 h3 tk3 j1 j2 j3 j4 j5 j6 j7 j8 F3 N4
    dsimp only at j1 j2 j3 j4 j5 j6 j7 j8 N4
    obtain ⟨M3, hM3⟩ : ∃ M3, M3 = (fun y => if y = Str.ofString "one" then u3 y else kstB (fun z => if [Str.ofString "places", Str.ofString "place", Str.ofString "cut"].contains z = true then u3 z else (fun y => if y = Str.ofString "shorter" then some (Value.ref ls) else M y) z) [] y) := ⟨_, rfl⟩
    have g1 : M3 (Str.ofString "shorter") = some (.ref ls) := by rw [hM3]; rfl
    have g9 : ∀ z, z ≠ Str.ofString "turn" → z ≠ Str.ofString "level" → [Str.ofString "shorter", Str.ofString "one", Str.ofString "places", Str.ofString "place", Str.ofString "cut"].contains z = false → M3 z = m z := by
      intro z h1 h2 h3
      rw [← f9 z h1 h2 h3, hM3]
      simp only [List.contains_cons, List.contains_nil, Bool.or_false, Bool.or_eq_false_iff, beq_eq_false_iff_ne] at h3
      simp only [kstB, List.contains_cons, List.contains_nil, Bool.or_false, Bool.or_eq_true, beq_iff_eq, if_neg h3.2.1, h3.2.2.1, h3.2.2.2.1, h3.2.2.2.2, or_false, if_false, if_neg h3.1]
    rw [← hM3] at F3
    clear hM3
    refine wpAny_execs_cons (wpAny_Assign_Name (nameX_L F3 g1 ?_ (by with_unfolding_all rfl) (by with_unfolding_all rfl)) (by with_unfolding_all rfl))
    refine storeX_L F3 N4 (fun h5 F5 N5 => ?_) (by with_unfolding_all rfl) (by with_unfolding_all rfl)
    refine wpAny_execs_nil ?_
    refine ⟨h5, _, _, ⟨oC3, vc3, ls, oS3, kvs3, oE3, kve3, ts3⟩, rfl, F5, fun p hp => N5 p ?_, fun p hp => N5 p ?_, ?_, ?_, ?_, j1, ?_, j3, j4, ?_, j6, ?_, ?_, ?_, lo1⟩
    · simp only [List.mem_append, List.mem_cons] at hp ⊢
      rcases hp with rfl | rfl | rfl | hp | hp
      · exact .inl rfl
      · exact .inr (.inr (.inl rfl))
      · exact .inr (.inl rfl)
      · exact .inr (.inr (.inr (.inr (.inl hp))))
      · exact .inr (.inr (.inr (.inr (.inr (.inl hp)))))
    · exact .tail _ (.tail _ (.tail _ (.tail _ (List.mem_append_right _ (List.mem_append_right _ hp)))))
    · intro p hp hm
      have e := List.mem_singleton.mp hm
      simp only [List.mem_append, List.mem_cons] at hp
      rcases hp with rfl | rfl | rfl | hp | hp
      · exact hoffI (L + 1, oC) (.head _) e
      · exact hoffI (le, oE) (.tail _ (.head _)) e
      · exact hls (I, oI) (.tail _ (.tail _ (.tail _ (List.mem_append_right _ (List.mem_append_right _ hIo))))) e.symm
      · exact j2 (I, oI) (.tail _ (.tail _ (.tail _ (.tail _ (List.mem_append_right _ hIo))))) (List.mem_map.mpr ⟨p, hp, e⟩)
      · exact hoffI p (.tail _ (.tail _ (.tail _ (List.mem_append_right _ hp)))) e
    · intro p hp
      rw [List.mem_singleton.mp hp]
      rfl
    · intro z h1 h2 h3
      have h2' := h2 _ (.head _)
      dsimp only at h2'
      show (if z = Str.ofString "level" then _ else M3 z) = m z
      rw [if_neg h2']
      exact g9 z h1 h2' h3
    · intro p hp
      simp only [List.mem_cons] at hp
      rcases hp with rfl | rfl | rfl | hp
      · exact j2 (L + 1, oC3) (.head _)
      · exact j2 (le, oE3) (.tail _ (.tail _ (.head _)))
      · exact j2 (ls, oS3) (.tail _ (.head _))
      · exact j2 p (.tail _ (.tail _ (.tail _ (.tail _ (List.mem_append_left _ hp)))))
    · have e : (runL t (i + 1)).1 = cd3 := (congrArg Prod.fst j8).symm
      rw [e]; exact j5
    · have e : (runL t (i + 1)).2 = ce3 := (congrArg Prod.snd j8).symm
      rw [e]; exact j7
    · exact hls (le, oE) (.tail _ (.head _))
    · exact hls (L + 1, oC) (.head _)
  · rintro c u h tk hI F N
    refine hQ c _ h tk hI ?_ F N
    exact m4
end Mine
end E3
section E4
open PySem PySem.W PyProof.Rows PySem.Calls PyProof.V
namespace Mine
set_option maxRecDepth 100000
set_option maxHeartbeats 8000000
local macro_rules | `(tactic| k_room) => `(tactic| ((simp only [depth_under_make, depth_under_kw, depth_in1, depth_deeper, recursionLimit]); omega))
local macro_rules | `(tactic| walk_at "eval Name") => `(tactic| (k_here; k_dflt (refine' nameX_L ?F ?v ?_ ?a ?b; (case F => k_asm); (case v => assumption); (case a => with_unfolding_all rfl); (case b => with_unfolding_all rfl); k_whole)))
local macro_rules | `(tactic| k_steps) => `(tactic| repeat' (first | ((fail_if_success (with_reducible show wpAny _ _ (exec (.For _ _ _ _ _) _) _ _ _)); (first | (k_unfold; (try dsimp only)) | (k_end; wrow_close) | walk1 | (dsimp only; walk1) | (leave1; walk_say "STEP leave1"; try dsimp only))) | fail "no step"))

theorem fresh_E4 : True := by w_top off; exact True.intro
theorem ends_spec {w : World} {d : Nat} {gd : Option (List Code)} {un : Nat} {A₀ : Around} {s : Shared} {base h₀ : Heap} {outer : List Env} {L : Addr} {m : Str → Option Value} {env : Env} {loose : List Str} {mean : ExcName → Option Value} {mg mb : Str → Option Value}
  {t : Str} {tt : Tok} {R : Result → Shared → Prop} {ts : Option Codes} {rest : List (Addr × Obj)}
  (B : Below A₀ base outer h₀) (F : Fr h₀ L s.heap m) (X₀ : (hd.heap_39 w.params).In h₀) (N : News h₀ L s.heap (tabL ts ++ rest)) (T : Top topProg loose mean mg mb h₀) (C : CodeHd h₀ 37 33) (hts : TabOk ts)
  (hoff : ∀ p ∈ rest, p.1 ∉ (tabL ts).map (·.1)) (hf : env.frame = some L) (hke : env.scope.kind = .function) (hroom : d < 700) (hun : un < 4000) (hlen : t.length ≤ 13) (hok : ∀ k ≤ t.length, OkL (runL t k))
  (hR : ∀ (D : Addr) (oE : Obj) (kve : List (Str × Value)) (ts' : Option Codes) h' tk', TabOk ts' → Fr h₀ L h' m → News h₀ L h' ((D, oE) :: (tabL ts' ++ rest)) → oE.IsDictOf (PySem.strKind Challenge.rw_rs0057_01.row.prog w) kve → FlatPairs PyData.str kve (kdpD (runL t t.length).2) →
    (∀ p ∈ (D, oE) :: rest, p.1 ∉ (tabL ts').map (·.1)) → (∀ p ∈ rest, p.1 ≠ D) → (D == sysModules) = false → R (.ok (.ret (.ref D))) ⟨h', s.gens, s.drawn, tk', s.os⟩) :
   codeAny (model Challenge.rw_rs0057_01.row.prog w) ⟨none, d, some (env :: outer), gd, un⟩ (.call (.ref 57) ⟨[.str t tt], []⟩) R s := by
  revert X₀; k_fill; intro X₀
  refine' enterC (K := hd.heap_39 w.params) (binds := [(Str.ofString "text", .str t tt)]) B F X₀ N T rfl hf hke ?k6 ?k7 ?k8 ?k9 ?kB ?kD ?_ ?c2 ?c3 ?c4
  case k6 => k_is
  case k7 => k_is
  case k9 => exact BindsTo.of_eq rfl
  case kB => exact rfl
  case kD => decide +kernel
  case c2 => exact rfl
  case c3 => exact rfl
  case c4 => exact rfl
  case k8 => show d < 1000; omega
  intro g L' h₁ tk cells hg FG F' N' Y BG st hlt
  have X' := X₀.keeps st
  have T' := T.keeps st
  have C' := C.keeps st
  k_cells Y
  simp only [List.cons_append, List.nil_append] at N'
  clear F N X₀ T C B FG
  rename Obj => oC
  rename (oC.data = _) => hcell
  obtain ⟨M, hM⟩ : ∃ M, M = (bindL (endsEnv w L').kindOf [(Str.ofString "text", Value.str t tt)] fun _ => none) := ⟨_, rfl⟩
  have f1 : M (Str.ofString "text") = some (.str t tt) := by rw [hM]; with_unfolding_all rfl
  replace F' : Fr g L' h₁ M := by rw [hM]; exact F'
  clear hM
  have hc0 : ∀ p ∈ tabL ts ++ rest, p.1 ≠ L' + 1 := fun p hp q => by have := hlt p hp; rw [q] at this; exact absurd this (Nat.not_lt.mpr (Nat.le_succ _))
  refine wpAny_execs_cons (wpAny_Assign_Name (kdn_eval (knd := PySem.strKind Challenge.rw_rs0057_01.row.prog w) F' N' T'.nolimit (by rfl) (by rfl) (by simp) (by decide) fun la h2 oL F2 N2 l2 lo2 hd2 => ?_) (by with_unfolding_all rfl))
  clear F' N'
  obtain ⟨YY, hYY⟩ : ∃ YY, YY = (L' + 1, oC) :: (tabL ts ++ rest) := ⟨_, rfl⟩
  rw [← hYY] at N2 l2
  k_steps
  rename Fr _ _ _ _ => F3
  rename News _ _ _ _ => N3
  rename (_ < _ ∧ AllLt _ _) => l3
  rename (_ == sysModules) = false => lo3
  rename FlatPairs PyData.str (strPairs _) _ => fl3
  rename Obj.IsDictOf _ _ (strPairs _) => dl3
  rename Obj.IsDictOf (PySem.strKind _ _) _ [] => de3
  rename FlatPairs PyData.str [] [] => fe3
  rename Addr => le
  generalize hvc : bindC _ _ _ _ = vc at hcell
  clear hvc
  have hYl : ∀ p ∈ YY, p.1 ≠ le := fun p hp => Nat.ne_of_lt (Nat.lt_trans (l2 p hp) l3.1)
  have hYa : ∀ p ∈ YY, p.1 ≠ la := fun p hp => Nat.ne_of_lt (l2 p hp)
  subst hYY
  have mems : ∀ p ∈ tabL ts ++ rest, p ∈ (L' + 1, oC) :: (tabL ts ++ rest) := fun p hp => .tail _ hp
  refine wpAny_mono ?_ (fun _ _ x => x) (fun _ _ (x : False) => x.elim)
  with_unfolding_all refine (id ?_ : wpAny (model _ w) (Around.deeper ⟨none, d, some (env :: outer), gd, un⟩ (endsEnv w L')) (exec (nth (funStmts (hd.heap_39 w.params) 57) 2) (endsEnv w L')) _ _ _)
  refine outer_loop (rest := rest) (c₀ := ⟨oC, vc, la, _, _, _, [], ts⟩) (le := le) (t := t) (tt := tt) BG F3 X' T' C' (fun p hp => N3 p ?_) ?_ ?_ lo3 ⟨hts, ?_, hcell, dl3, fl3, de3, fe3, Nat.ne_of_gt l3.1, hYa _ (.head _), lo2⟩ hok hlen f1 rfl rfl (by omega) (by omega) ?_
  · simp only [List.mem_append, List.mem_cons] at hp ⊢
    rcases hp with rfl | rfl | rfl | hp | hp
    · exact .inr (.inr (.inl rfl))
    · exact .inl rfl
    · exact .inr (.inl rfl)
    · exact .inr (.inr (.inr (.inl hp)))
    · exact .inr (.inr (.inr (.inr hp)))
  · exact hYl _ (.head _)
  · exact fun p hp => ⟨hYl p (.tail _ (List.mem_append_right _ hp)), hc0 p (List.mem_append_right _ hp)⟩
  · intro p hp hm
    obtain ⟨q, hq, e⟩ := List.mem_map.mp hm
    simp only [List.mem_cons] at hp
    rcases hp with rfl | rfl | rfl | hp
    · exact hc0 q (List.mem_append_left _ hq) e
    · exact hYl q (.tail _ (List.mem_append_left _ hq)) e
    · exact hYa q (.tail _ (List.mem_append_left _ hq)) e
    · exact hoff p hp hm
  · rintro ⟨oC4, vc4, la4, oL4, kvl4, oE4, kve4, ts4⟩ M4 h4 tk4 ⟨i1, i2, i3, i4, i5, i6, i7, i8, i9, i10⟩ f4 F4 N4
    dsimp only at i1 i2 i3 i4 i5 i6 i7 i8 i9 i10 N4
    have hrl : ∀ p ∈ rest, p.1 ≠ le := fun p hp => hYl p (.tail _ (List.mem_append_right _ hp))
    clear N3 F3
    k_steps
    refine ⟨L', M4, (le, oE4) :: (tabL ts4 ++ rest), F4, fun p hp => N4 p ?_, fun F N => ?_⟩
    · simp only [List.mem_append, List.mem_cons] at hp ⊢
      rcases hp with rfl | hp | hp
      · exact .inr (.inl rfl)
      · exact .inr (.inr (.inr (.inl hp)))
      · exact .inr (.inr (.inr (.inr hp)))
    · refine hR le oE4 kve4 ts4 h4 _ i1 F N i6 i7 (fun p hp => ?_) hrl lo3
      rcases List.mem_cons.mp hp with rfl | hp
      · exact i2 (le, oE4) (.tail _ (.head _))
      · exact i2 p (.tail _ (.tail _ (.tail _ hp)))
end Mine
end E4
section H0
/-! plain part: forests of brackets, the number of orders (hook formula) -/
namespace Mine
theorem fresh_H0 : True := by w_top off; exact True.intro
def fact : Nat → Nat
  | 0 => 1
  | n + 1 => (n + 1) * fact n
theorem fact_pos : ∀ n, 0 < fact n
  | 0 => Nat.one_pos
  | n + 1 => Nat.mul_pos (Nat.succ_pos n) (fact_pos n)

/-- a text as a row of unmatched signs and matched pairs -/
inductive Fo where
  | nil : Fo
  | sgn : Nat → Fo → Fo
  | nod : Nat → Fo → Nat → Fo → Fo
namespace Fo
def flat : Fo → List Nat
  | nil => []
  | sgn x r => x :: flat r
  | nod o i c r => o :: (flat i ++ c :: flat r)
def cnt : Fo → Nat
  | nil => 0
  | sgn _ r => cnt r
  | nod _ i _ r => 1 + cnt i + cnt r
def pr : Fo → Nat
  | nil => 1
  | sgn _ r => pr r
  | nod _ i _ r => (1 + cnt i) * pr i * pr r
def isNil : Fo → Bool
  | nil => true
  | _ => false
def rem : Fo → List Fo
  | nil => []
  | sgn x r => (rem r).map (sgn x)
  | nod o i c r => (if i.isNil then [r] else (rem i).map (fun i' => nod o i' c r)) ++ (rem r).map (nod o i c)
/-- no unmatched sign at the top -/
def bal : Fo → Bool
  | nil => true
  | sgn _ _ => false
  | nod _ _ _ r => bal r
def left : Fo → List Nat
  | nil => []
  | sgn x r => x :: left r
  | nod _ _ _ r => left r
/-- each node is a pair that closes, with nothing unmatched within -/
def wf : Fo → Prop
  | nil => True
  | sgn _ r => wf r
  | nod o i c r => isPair o c = true ∧ bal i = true ∧ wf i ∧ wf r
def sizes : Fo → List Int
  | nil => []
  | sgn _ r => sizes r
  | nod _ i _ r => sizes i ++ ((cnt i : Int) + 1) :: sizes r

theorem pr_pos : ∀ F : Fo, 0 < pr F
  | nil => Nat.one_pos
  | sgn _ r => pr_pos r
  | nod _ i _ r => Nat.mul_pos (Nat.mul_pos (by omega) (pr_pos i)) (pr_pos r)

theorem rem_bal : ∀ {F F' : Fo}, F' ∈ rem F → bal F' = bal F
  | nil, _, h => nomatch h
  | sgn x r, F', h => by
    obtain ⟨r', _, rfl⟩ := List.mem_map.mp h
    rfl
  | nod o i c r, F', h => by
    rcases List.mem_append.mp h with h | h
    · split at h
      · rw [List.mem_singleton.mp h]; rfl
      · obtain ⟨i', _, rfl⟩ := List.mem_map.mp h; rfl
    · obtain ⟨r', hr, rfl⟩ := List.mem_map.mp h
      show bal r' = bal r
      exact rem_bal hr
theorem rem_left : ∀ {F F' : Fo}, F' ∈ rem F → left F' = left F
  | nil, _, h => nomatch h
  | sgn x r, F', h => by
    obtain ⟨r', hr, rfl⟩ := List.mem_map.mp h
    show x :: left r' = x :: left r
    rw [rem_left hr]
  | nod o i c r, F', h => by
    rcases List.mem_append.mp h with h | h
    · split at h
      · rw [List.mem_singleton.mp h]; rfl
      · obtain ⟨i', _, rfl⟩ := List.mem_map.mp h; rfl
    · obtain ⟨r', hr, rfl⟩ := List.mem_map.mp h
      show left r' = left r
      exact rem_left hr
theorem rem_wf : ∀ {F F' : Fo}, wf F → F' ∈ rem F → wf F'
  | nil, _, _, h => nomatch h
  | sgn x r, F', w, h => by
    obtain ⟨r', hr, rfl⟩ := List.mem_map.mp h
    exact rem_wf (F := r) (F' := r') w hr
  | nod o i c r, F', w, h => by
    obtain ⟨w1, w2, w3, w4⟩ := w
    rcases List.mem_append.mp h with h | h
    · split at h
      · rw [List.mem_singleton.mp h]; exact w4
      · obtain ⟨i', hi, rfl⟩ := List.mem_map.mp h
        exact ⟨w1, by rw [rem_bal hi]; exact w2, rem_wf w3 hi, w4⟩
    · obtain ⟨r', hr, rfl⟩ := List.mem_map.mp h
      exact ⟨w1, w2, w3, rem_wf w4 hr⟩
theorem rem_cnt : ∀ {F F' : Fo}, F' ∈ rem F → cnt F' + 1 = cnt F
  | nil, _, h => nomatch h
  | sgn x r, F', h => by
    obtain ⟨r', hr, rfl⟩ := List.mem_map.mp h
    exact rem_cnt (F := r) (F' := r') hr
  | nod o i c r, F', h => by
    rcases List.mem_append.mp h with h | h
    · split at h
      · rename_i hn
        rw [List.mem_singleton.mp h]
        cases i with
        | nil => show cnt r + 1 = 1 + 0 + cnt r; omega
        | sgn _ _ => cases hn
        | nod _ _ _ _ => cases hn
      · obtain ⟨i', hi, rfl⟩ := List.mem_map.mp h
        have := rem_cnt hi
        show 1 + cnt i' + cnt r + 1 = 1 + cnt i + cnt r
        omega
    · obtain ⟨r', hr, rfl⟩ := List.mem_map.mp h
      have := rem_cnt hr
      show 1 + cnt i + cnt r' + 1 = 1 + cnt i + cnt r
      omega
theorem bal_cnt {i : Fo} (h : bal i = true) (hn : i.isNil = false) : 0 < cnt i := by
  cases i with
  | nil => cases hn
  | sgn _ _ => cases h
  | nod _ _ _ _ => show 0 < 1 + _ + _; omega

theorem sum_mul (f : Fo → Nat) (k : Nat) : ∀ l : List Fo, (l.map fun x => f x * k).sum = (l.map f).sum * k
  | [] => by simp
  | a :: l => by
    simp only [List.map_cons, List.sum_cons]
    rw [sum_mul f k l, Nat.add_mul]
/-- the sum over the texts one shorter -/
theorem sum_rem : ∀ (F : Fo), wf F → ∀ (g : Fo → Nat) (K : Nat), (∀ F' ∈ rem F, g F' * pr F' = K) → ((rem F).map g).sum * pr F = cnt F * K
  | nil, _, g, K, _ => by show 0 * 1 = 0 * K; omega
  | sgn x r, w, g, K, h => by
    have := sum_rem r w (fun r' => g (sgn x r')) K fun r' hr => h (sgn x r') (List.mem_map.mpr ⟨r', hr, rfl⟩)
    show (((rem r).map (sgn x)).map g).sum * pr r = cnt r * K
    rw [List.map_map]; exact this
  | nod o i c r, w, g, K, h => by
    obtain ⟨w1, w2, w3, w4⟩ := w
    have hr := sum_rem r w4 (fun r' => g (nod o i c r') * ((1 + cnt i) * pr i)) K fun r' hr => by
      have := h (nod o i c r') (List.mem_append_right _ (List.mem_map.mpr ⟨r', hr, rfl⟩))
      rw [Nat.mul_assoc]; exact this
    rw [sum_mul (fun r' => g (nod o i c r')), Nat.mul_assoc] at hr
    have hi : (((if i.isNil then [r] else (rem i).map (fun i' => nod o i' c r))).map g).sum * ((1 + cnt i) * pr i * pr r) = (1 + cnt i) * K := by
      cases hn : i.isNil with
      | true =>
        cases i with
        | sgn _ _ => cases hn
        | nod _ _ _ _ => cases hn
        | nil =>
          have := h r (List.mem_append_left _ (by simp [isNil]))
          simp only [if_true, List.map_cons, List.map_nil, List.sum_cons, List.sum_nil, cnt, pr, Nat.add_zero, Nat.mul_one, Nat.one_mul]
          exact this
      | false =>
        simp only [Bool.false_eq_true, if_false]
        have hi := sum_rem i w3 (fun i' => g (nod o i' c r) * (cnt i * pr r)) K fun i' hi => by
          have := h (nod o i' c r) (List.mem_append_left _ (by rw [hn]; exact List.mem_map.mpr ⟨i', hi, rfl⟩))
          have hc := rem_cnt hi
          have e : 1 + cnt i' = cnt i := by omega
          have t : pr (nod o i' c r) = cnt i * pr i' * pr r := by show (1 + cnt i') * _ * _ = _; rw [e]
          rw [t] at this
          rw [← this]
          simp only [Nat.mul_assoc, Nat.mul_comm, Nat.mul_left_comm]
        rw [sum_mul (fun i' => g (nod o i' c r))] at hi
        have hp := bal_cnt w2 hn
        have h2 : cnt i * (((rem i).map (fun i' => g (nod o i' c r))).sum * (pr i * pr r)) = cnt i * K := by
          rw [← hi]
          simp only [Nat.mul_assoc, Nat.mul_comm, Nat.mul_left_comm]
        have h3 := Nat.eq_of_mul_eq_mul_left hp h2
        rw [List.map_map]
        have h4 : (List.map (g ∘ fun i' => nod o i' c r) (rem i)).sum * (pr i * pr r) = K := h3
        rw [← h4, Nat.mul_assoc (1 + cnt i), Nat.mul_left_comm]
    show ((((if i.isNil then [r] else (rem i).map (fun i' => nod o i' c r)) ++ (rem r).map (nod o i c)).map g).sum) * ((1 + cnt i) * pr i * pr r) = (1 + cnt i + cnt r) * K
    rw [List.map_append, List.sum_append, List.map_map, Nat.add_mul, hi, Nat.add_mul (1 + cnt i) (cnt r) K]
    exact congrArg _ hr

theorem pr_one : ∀ F : Fo, cnt F = 0 → pr F = 1
  | nil, _ => rfl
  | sgn _ r, h => pr_one r h
  | nod _ _ _ _, h => absurd h (by show 1 + _ + _ ≠ 0; omega)
theorem flat_left : ∀ F : Fo, cnt F = 0 → flat F = left F
  | nil, _ => rfl
  | sgn x r, h => congrArg (x :: ·) (flat_left r h)
  | nod _ _ _ _, h => absurd h (by show 1 + _ + _ ≠ 0; omega)
theorem flat_len : ∀ F : Fo, 2 * cnt F ≤ (flat F).length
  | nil => Nat.le_refl _
  | sgn x r => by
    have := flat_len r
    show 2 * cnt r ≤ (flat r).length + 1
    omega
  | nod o i c r => by
    have h1 := flat_len i
    have h2 := flat_len r
    show 2 * (1 + cnt i + cnt r) ≤ (flat i ++ c :: flat r).length + 1
    rw [List.length_append, List.length_cons]
    omega
/-- the number of orders -/
def orders : Nat → Fo → Nat
  | 0, _ => 1
  | k + 1, F => ((rem F).map (orders k)).sum
theorem hook : ∀ (n : Nat) (F : Fo), wf F → cnt F = n → orders n F * pr F = fact n
  | 0, F, _, hc => by
    have := pr_one F hc
    rw [this]; rfl
  | n + 1, F, w, hc => by
    have := sum_rem F w (orders n) (fact n) fun F' h => hook n F' (rem_wf w h) (by have := rem_cnt h; omega)
    rw [hc] at this
    exact this
end Fo
end Mine
end H0
section H1
/-! plain part: cuts of a text and of its forest -/
namespace Mine
theorem fresh_H1 : True := by w_top off; exact True.intro
def cutsR : List Nat → List (List Nat)
  | a :: b :: r => (if isPair a b then [r] else []) ++ (cutsR (b :: r)).map (a :: ·)
  | _ => []
theorem pair_left {a b c : Nat} (h : isPair a b = true) : isPair b c = false := by
  unfold isPair at h ⊢
  simp only [Bool.or_eq_true, Bool.and_eq_true, beq_iff_eq] at h
  rcases h with (⟨_, rfl⟩ | ⟨_, rfl⟩) | ⟨_, rfl⟩ <;> rfl
theorem pair_right {a b c : Nat} (h : isPair a b = true) : isPair c a = false := by
  unfold isPair at h ⊢
  simp only [Bool.or_eq_true, Bool.and_eq_true, beq_iff_eq] at h
  rcases h with (⟨rfl, _⟩ | ⟨rfl, _⟩) | ⟨rfl, _⟩ <;> simp
/-- no pair where the two texts meet -/
def apart (u v : List Nat) : Prop := ∀ a b, u.getLast? = some a → v.head? = some b → isPair a b = false
theorem cutsR_append : ∀ {u v : List Nat}, apart u v → cutsR (u ++ v) = (cutsR u).map (· ++ v) ++ (cutsR v).map (u ++ ·)
  | [], v, _ => by simp [cutsR]
  | [a], [], _ => by simp [cutsR]
  | [a], b :: v, h => by
    have := h a b rfl rfl
    show (if isPair a b then [v] else []) ++ (cutsR (b :: v)).map (a :: ·) = [] ++ (cutsR (b :: v)).map ([a] ++ ·)
    rw [this]; rfl
  | a :: b :: u, v, h => by
    have ih := cutsR_append (u := b :: u) (v := v) fun x y hx hy => h x y (by rw [List.getLast?_cons_cons]; exact hx) hy
    show (if isPair a b then [u ++ v] else []) ++ (cutsR (b :: u ++ v)).map (a :: ·) = ((if isPair a b then [u] else []) ++ (cutsR (b :: u)).map (a :: ·)).map (· ++ v) ++ (cutsR v).map (a :: b :: u ++ ·)
    rw [ih, List.map_append, List.map_append, List.map_map, List.map_map, List.map_map, List.append_assoc]
    congr 1
    cases isPair a b <;> rfl
namespace Fo
theorem flat_nil_iff {i : Fo} : flat i = [] → i = nil := by
  cases i <;> intro h <;> first | rfl | cases h
theorem bal_head : ∀ {i : Fo} {a : Nat}, wf i → bal i = true → (flat i).head? = some a → ∀ c, isPair c a = false
  | nil, _, _, _, h => nomatch h
  | sgn _ _, _, _, h, _ => nomatch h
  | nod o i c r, a, w, _, h => by
    cases h
    exact fun _ => pair_right w.1
theorem bal_last : ∀ {i : Fo} {a : Nat}, wf i → bal i = true → (flat i).getLast? = some a → ∀ c, isPair a c = false
  | nil, _, _, _, h => nomatch h
  | sgn _ _, _, _, h, _ => nomatch h
  | nod o i c r, a, w, hb, h => by
    have e : flat (nod o i c r) = (o :: (flat i ++ [c])) ++ flat r := by show o :: (flat i ++ c :: flat r) = _; simp
    rw [e, List.getLast?_append] at h
    cases hr : (flat r).getLast? with
    | some y =>
      rw [hr] at h
      cases h
      exact bal_last w.2.2.2 hb hr
    | none =>
      rw [hr] at h
      have : (o :: (flat i ++ [c])).getLast? = some c := by
        rw [← List.cons_append, List.getLast?_append]; rfl
      rw [this] at h
      cases h
      exact fun _ => pair_left w.1
/-- no two unmatched signs close, side by side -/
def calm : List Nat → Prop
  | a :: b :: r => isPair a b = false ∧ calm (b :: r)
  | _ => True
theorem cuts_flat : ∀ {F : Fo}, wf F → calm (left F) → cutsR (flat F) = (rem F).map flat
  | nil, _, _ => rfl
  | sgn x r, w, hc => by
    have hr : calm (left r) := by
      show calm (left r)
      have h' : calm (x :: left r) := hc
      cases hl : left r with
      | nil => trivial
      | cons y l => rw [hl] at h'; exact h'.2
    have ih := cuts_flat (F := r) w hr
    have ha : apart [x] (flat r) := by
      intro a b h1 h2
      cases h1
      cases r with
      | nil => cases h2
      | sgn y r' =>
        have h' : calm (x :: y :: left r') := hc
        cases h2
        exact h'.1
      | nod o i c r' =>
        cases h2
        exact pair_right w.1
    show cutsR ([x] ++ flat r) = ((rem r).map (sgn x)).map flat
    rw [cutsR_append ha, ih, List.map_map, List.map_map]
    rfl
  | nod o i c r, w, hc => by
    have ihr := cuts_flat (F := r) w.2.2.2 hc
    have hac : apart [c] (flat r) := by
      intro a b h1 _
      cases h1
      exact pair_left w.1
    have hoc : apart [o, c] (flat r) := by
      intro a b h1 _
      cases h1
      exact pair_left w.1
    cases hn : i.isNil with
    | true =>
      cases i with
      | sgn _ _ => cases hn
      | nod _ _ _ _ => cases hn
      | nil =>
        show cutsR ([o, c] ++ flat r) = ([r] ++ (rem r).map (nod o nil c)).map flat
        rw [cutsR_append hoc, ihr]
        have e : cutsR [o, c] = [[]] := by
          show (if isPair o c then [[]] else []) ++ _ = _
          rw [w.1]; rfl
        rw [e, List.map_append, List.map_map, List.map_map]
        rfl
    | false =>
      have hli : calm (left i) := by
        have : ∀ j : Fo, bal j = true → left j = [] := by
          intro j
          induction j with
          | nil => intro _; rfl
          | sgn _ _ _ => intro h; cases h
          | nod _ _ _ r _ ih => intro h; exact ih h
        rw [this i w.2.1]; trivial
      have ihi := cuts_flat (F := i) w.2.2.1 hli
      have h1 : apart [o] (flat i ++ ([c] ++ flat r)) := by
        intro a b e1 e2
        cases e1
        cases hf : flat i with
        | nil => rw [flat_nil_iff hf] at hn; cases hn
        | cons y l =>
          rw [hf] at e2
          cases e2
          exact bal_head w.2.2.1 w.2.1 (by rw [hf]; rfl) o
      have h2 : apart (flat i) ([c] ++ flat r) := by
        intro a b e1 e2
        exact bal_last w.2.2.1 w.2.1 e1 b
      show cutsR ([o] ++ (flat i ++ ([c] ++ flat r))) = ((if i.isNil then [r] else (rem i).map (fun i' => nod o i' c r)) ++ (rem r).map (nod o i c)).map flat
      rw [cutsR_append h1, cutsR_append h2, cutsR_append hac, ihi, ihr, hn]
      simp only [Bool.false_eq_true, if_false, List.map_append, List.map_map, cutsR, List.map_nil, List.nil_append]
      rfl
end Fo
end Mine
end H1
section H2
/-! plain part: each text has a forest; the pile finds its sizes -/
namespace Mine
namespace Fo
theorem fresh_H2 : True := by w_top off; exact True.intro
def ins (a b : Nat) : Fo → Nat → Fo
  | F, 0 => nod a nil b F
  | nil, _ + 1 => nod a nil b nil
  | sgn x r, p + 1 => sgn x (ins a b r p)
  | nod o i c r, p + 1 => if p ≤ (flat i).length then nod o (ins a b i p) c r else nod o i c (ins a b r (p - (flat i).length - 1))
theorem ins_left (a b : Nat) : ∀ (F : Fo) (p : Nat), left (ins a b F p) = left F
  | nil, 0 => rfl
  | sgn _ _, 0 => rfl
  | nod _ _ _ _, 0 => rfl
  | nil, _ + 1 => rfl
  | sgn x r, p + 1 => congrArg (x :: ·) (ins_left a b r p)
  | nod o i c r, p + 1 => by
    show left (if _ then _ else _) = _
    split
    · rfl
    · exact ins_left a b r _
theorem ins_bal (a b : Nat) : ∀ (F : Fo) (p : Nat), bal (ins a b F p) = bal F
  | nil, 0 => rfl
  | sgn _ _, 0 => rfl
  | nod _ _ _ _, 0 => rfl
  | nil, _ + 1 => rfl
  | sgn x r, p + 1 => rfl
  | nod o i c r, p + 1 => by
    show bal (if _ then _ else _) = _
    split
    · rfl
    · exact ins_bal a b r _
theorem ins_wf {a b : Nat} (h : isPair a b = true) : ∀ (F : Fo) (p : Nat), wf F → wf (ins a b F p)
  | nil, 0, w => ⟨h, rfl, trivial, w⟩
  | sgn _ _, 0, w => ⟨h, rfl, trivial, w⟩
  | nod _ _ _ _, 0, w => ⟨h, rfl, trivial, w⟩
  | nil, _ + 1, w => ⟨h, rfl, trivial, w⟩
  | sgn x r, p + 1, w => ins_wf h r p w
  | nod o i c r, p + 1, w => by
    show wf (if _ then _ else _)
    split
    · exact ⟨w.1, by rw [ins_bal]; exact w.2.1, ins_wf h i p w.2.2.1, w.2.2.2⟩
    · exact ⟨w.1, w.2.1, w.2.2.1, ins_wf h r _ w.2.2.2⟩
theorem ins_flat (a b : Nat) : ∀ (F : Fo) (p : Nat), p ≤ (flat F).length → flat (ins a b F p) = (flat F).take p ++ a :: b :: (flat F).drop p
  | nil, 0, _ => rfl
  | sgn _ _, 0, _ => rfl
  | nod _ _ _ _, 0, _ => rfl
  | nil, _ + 1, h => absurd h (by show ¬ (_ + 1 ≤ 0); omega)
  | sgn x r, p + 1, h => by
    have := ins_flat a b r p (Nat.le_of_succ_le_succ h)
    show x :: flat (ins a b r p) = _
    rw [this]; rfl
  | nod o i c r, p + 1, h => by
    have h' : p + 1 ≤ (o :: (flat i ++ c :: flat r)).length := h
    rw [List.length_cons, List.length_append, List.length_cons] at h'
    show flat (if _ then _ else _) = (o :: (flat i ++ c :: flat r)).take (p + 1) ++ a :: b :: (o :: (flat i ++ c :: flat r)).drop (p + 1)
    rw [List.take_succ_cons, List.drop_succ_cons]
    split
    · rename_i hp
      have := ins_flat a b i p hp
      show o :: (flat (ins a b i p) ++ c :: flat r) = _
      rw [this, List.take_append_of_le_length hp, List.drop_append_of_le_length hp]
      simp
    · rename_i hp
      have := ins_flat a b r (p - (flat i).length - 1) (by omega)
      show o :: (flat i ++ c :: flat (ins a b r (p - (flat i).length - 1))) = _
      obtain ⟨q, rfl⟩ : ∃ q, p = (flat i).length + (q + 1) := ⟨p - (flat i).length - 1, by omega⟩
      have e : (flat i).length + (q + 1) - (flat i).length - 1 = q := by omega
      rw [e] at this ⊢
      rw [this, List.take_length_add_append, List.drop_length_add_append]
      simp
def row : List Nat → Fo
  | [] => nil
  | x :: l => sgn x (row l)
theorem row_flat : ∀ l, flat (row l) = l
  | [] => rfl
  | x :: l => congrArg (x :: ·) (row_flat l)
theorem row_left : ∀ l, left (row l) = l
  | [] => rfl
  | x :: l => congrArg (x :: ·) (row_left l)
theorem row_wf : ∀ l, wf (row l)
  | [] => trivial
  | _ :: l => row_wf l
theorem calm_or : ∀ l : List Nat, calm l ∨ ∃ u a b v, l = u ++ a :: b :: v ∧ isPair a b = true
  | [] => .inl trivial
  | [_] => .inl trivial
  | a :: b :: r => by
    cases hp : isPair a b with
    | true => exact .inr ⟨[], a, b, r, rfl, hp⟩
    | false =>
      rcases calm_or (b :: r) with h | ⟨u, x, y, v, e, h⟩
      · exact .inl ⟨hp, h⟩
      · exact .inr ⟨a :: u, x, y, v, by rw [e]; rfl, h⟩
theorem exists_forest : ∀ (n : Nat) (l : List Nat), l.length ≤ n → ∃ F : Fo, wf F ∧ calm (left F) ∧ flat F = l
  | 0, l, h => by
    have : l = [] := List.length_eq_zero_iff.mp (Nat.le_zero.mp h)
    exact ⟨nil, trivial, trivial, this.symm⟩
  | n + 1, l, h => by
    rcases calm_or l with hc | ⟨u, a, b, v, rfl, hp⟩
    · exact ⟨row l, row_wf l, by rw [row_left]; exact hc, row_flat l⟩
    · rw [List.length_append, List.length_cons, List.length_cons] at h
      obtain ⟨F, w, c, e⟩ := exists_forest n (u ++ v) (by rw [List.length_append]; omega)
      refine ⟨ins a b F u.length, ins_wf hp F _ w, by rw [ins_left]; exact c, ?_⟩
      rw [ins_flat a b F u.length (by rw [e, List.length_append]; omega), e, List.take_left, List.drop_left]
end Fo
end Mine
end H2
section H3
/-! plain part: the pile finds the forest's sizes -/
namespace Mine
namespace Fo
theorem fresh_H3 : True := by w_top off; exact True.intro
theorem sizes_len : ∀ F : Fo, (sizes F).length = cnt F
  | nil => rfl
  | sgn _ r => sizes_len r
  | nod _ i _ r => by
    show (sizes i ++ _ :: sizes r).length = 1 + cnt i + cnt r
    rw [List.length_append, List.length_cons, sizes_len i, sizes_len r]; omega
theorem sizes_pos : ∀ F : Fo, ∀ z ∈ sizes F, 0 < z
  | nil, _, h => nomatch h
  | sgn _ r, z, h => sizes_pos r z h
  | nod _ i _ r, z, h => by
    rcases List.mem_append.mp h with h | h
    · exact sizes_pos i z h
    · rcases List.mem_cons.mp h with rfl | h
      · omega
      · exact sizes_pos r z h
def prodI : List Int → Int
  | [] => 1
  | z :: l => z * prodI l
theorem prodI_append : ∀ a b : List Int, prodI (a ++ b) = prodI a * prodI b
  | [], b => by show prodI b = 1 * prodI b; omega
  | z :: a, b => by show z * prodI (a ++ b) = z * prodI a * prodI b; rw [prodI_append a b, Int.mul_assoc]
theorem sizes_prod : ∀ F : Fo, prodI (sizes F) = (pr F : Int)
  | nil => rfl
  | sgn _ r => sizes_prod r
  | nod _ i _ r => by
    show prodI (sizes i ++ ((cnt i : Int) + 1) :: sizes r) = ((1 + cnt i) * pr i * pr r : Nat)
    rw [prodI_append]
    show prodI (sizes i) * (((cnt i : Int) + 1) * prodI (sizes r)) = _
    rw [sizes_prod i, sizes_prod r, Int.natCast_mul, Int.natCast_mul, ← Int.mul_assoc, Int.mul_comm (pr i : Int)]
    congr 2
    omega
theorem step_push {st : List Nat} {bs sz : List Int} {c : Nat} (h : ∀ a, st.head? = some a → isPair a c = false) : stepP (st, bs, sz) c = (c :: st, (sz.length : Int) :: bs, sz) := by
  cases st with
  | nil => rfl
  | cons a st =>
    cases bs with
    | nil => rfl
    | cons b bs =>
      show (if isPair a c then _ else _) = _
      rw [h a rfl]; rfl
theorem pile_bal : ∀ {F : Fo}, wf F → bal F = true → ∀ (st : List Nat) (bs sz : List Int), (flat F).foldl stepP (st, bs, sz) = (st, bs, sz ++ sizes F)
  | nil, _, _, st, bs, sz => by show (st, bs, sz) = (st, bs, sz ++ []); rw [List.append_nil]
  | sgn _ _, _, h, _, _, _ => nomatch h
  | nod o i c r, w, h, st, bs, sz => by
    show (o :: (flat i ++ c :: flat r)).foldl stepP (st, bs, sz) = _
    rw [List.foldl_cons, step_push (fun a _ => pair_right w.1), List.foldl_append, pile_bal w.2.2.1 w.2.1, List.foldl_cons]
    have e : stepP (o :: st, (sz.length : Int) :: bs, sz ++ sizes i) c = (st, bs, sz ++ sizes i ++ [(cnt i : Int) + 1]) := by
      show (if isPair o c then _ else _) = _
      rw [w.1]
      show (st, bs, sz ++ sizes i ++ [((sz ++ sizes i).length : Int) - (sz.length : Int) + 1]) = _
      rw [List.length_append, sizes_len]
      congr 4
      omega
    rw [e, pile_bal w.2.2.2 h]
    show (st, bs, sz ++ sizes i ++ [(cnt i : Int) + 1] ++ sizes r) = (st, bs, sz ++ (sizes i ++ ((cnt i : Int) + 1) :: sizes r))
    simp
theorem pile_all : ∀ {F : Fo}, wf F → ∀ (st : List Nat) (bs sz : List Int), (∀ a, st.head? = some a → calm (a :: left F)) → calm (left F) → ∃ bs', (flat F).foldl stepP (st, bs, sz) = ((left F).reverse ++ st, bs', sz ++ sizes F)
  | nil, _, st, bs, sz, _, _ => ⟨bs, by show (st, bs, sz) = (st, bs, sz ++ []); rw [List.append_nil]⟩
  | sgn x r, w, st, bs, sz, h, hc => by
    have hp : stepP (st, bs, sz) x = (x :: st, (sz.length : Int) :: bs, sz) := step_push fun a ha => (h a ha).1
    obtain ⟨bs', e⟩ := pile_all (F := r) w (x :: st) ((sz.length : Int) :: bs) sz (fun a ha => by cases ha; exact hc) (by
      have h' : calm (x :: left r) := hc
      cases hl : left r with
      | nil => trivial
      | cons y l => rw [hl] at h'; exact h'.2)
    refine ⟨bs', ?_⟩
    show (x :: flat r).foldl stepP (st, bs, sz) = ((x :: left r).reverse ++ st, bs', sz ++ sizes r)
    rw [List.foldl_cons, hp, e]
    simp
  | nod o i c r, w, st, bs, sz, h, hc => by
    have hb := pile_bal (F := nod o i c nil) ⟨w.1, w.2.1, w.2.2.1, trivial⟩ rfl st bs sz
    obtain ⟨bs', e⟩ := pile_all (F := r) w.2.2.2 st bs (sz ++ sizes (nod o i c nil)) h hc
    refine ⟨bs', ?_⟩
    have ef : flat (nod o i c r) = flat (nod o i c nil) ++ flat r := by show o :: (flat i ++ c :: flat r) = o :: (flat i ++ c :: []) ++ flat r; simp
    rw [ef, List.foldl_append, hb, e]
    show _ = ((left r).reverse ++ st, bs', sz ++ (sizes i ++ ((cnt i : Int) + 1) :: sizes r))
    show ((left r).reverse ++ st, bs', sz ++ (sizes i ++ ((cnt i : Int) + 1) :: []) ++ sizes r) = _
    simp
theorem pile_run {F : Fo} (w : wf F) (hc : calm (left F)) : ∃ bs, pileRun (flat F) = ((left F).reverse, bs, sizes F) := by
  obtain ⟨bs, e⟩ := pile_all w [] [] [] (fun _ h => nomatch h) hc
  exact ⟨bs, by unfold pileRun; rw [e]; simp⟩
/-- the ways, one size after the other -/
theorem ways_div (F : Fo) (N : Int) : (sizes F).foldl Int.fdiv (N * prodI (sizes F)) = N := by
  have : ∀ (l : List Int), (∀ z ∈ l, 0 < z) → ∀ N : Int, l.foldl Int.fdiv (N * prodI l) = N := by
    intro l
    induction l with
    | nil => intro _ N; show N * 1 = N; omega
    | cons z l ih =>
      intro h N
      have hz := h z (.head _)
      show l.foldl Int.fdiv ((N * (z * prodI l)).fdiv z) = N
      have e : (N * (z * prodI l)).fdiv z = N * prodI l := by
        rw [show N * (z * prodI l) = N * prodI l * z by rw [Int.mul_comm z, Int.mul_assoc], Int.mul_fdiv_cancel _ (by omega)]
      rw [e]
      exact ih (fun y hy => h y (.tail _ hy)) N
  exact this _ (sizes_pos F) N
end Fo
end Mine
end H3
section H4
/-! plain part: the levels -/
open PySem PySem.W PyProof.Rows
namespace Mine
theorem fresh_H4 : True := by w_top off; exact True.intro
theorem cutS_codes {one : Str} {k : Nat} (h : k + 2 ≤ one.length) : (cutS one k).cps.toList = one.cps.toList.take k ++ one.cps.toList.drop (k + 2) := by
  unfold cutS
  rw [toList_append, slice_to (by omega) (by omega), slice_from (by omega) (by omega)]
  congr 2
theorem places_cons (a b : Nat) (r : List Nat) : placesL (a :: b :: r) = (if isPair a b then [0] else []) ++ (placesL (b :: r)).map (· + 1) := by
  unfold placesL
  show (List.range (r.length + 1)).filter (placeB (a :: b :: r)) = _ ++ ((List.range r.length).filter (placeB (b :: r))).map (· + 1)
  rw [List.range_succ_eq_map, List.filter_cons]
  have e0 : placeB (a :: b :: r) 0 = isPair a b := rfl
  have e1 : (List.map Nat.succ (List.range r.length)).filter (placeB (a :: b :: r)) = ((List.range r.length).filter (placeB (b :: r))).map (· + 1) := by
    rw [List.filter_map]
    rfl
  rw [e0, e1]
  cases isPair a b <;> rfl
theorem places_cuts : ∀ l : List Nat, (placesL l).map (fun k => l.take k ++ l.drop (k + 2)) = cutsR l
  | [] => rfl
  | [_] => rfl
  | a :: b :: r => by
    have ih := places_cuts (b :: r)
    rw [places_cons, List.map_append, List.map_map]
    show _ = (if isPair a b then [r] else []) ++ (cutsR (b :: r)).map (a :: ·)
    rw [← ih, List.map_map]
    congr 1
    cases isPair a b <;> rfl

def addD (cd : List (Str × Int)) (k : Str) (v : Int) : List (Str × Int) := kdpPut cd k (kdpLook cd k 0 + v)
theorem addD_nil (k : Str) (v : Int) : addD [] k v = [(k, v)] := by
  unfold addD kdpPut kdpLook
  simp
theorem addD_tail {p : Str × Int} {cd : List (Str × Int)} {k : Str} {v : Int} (h : p.1 ≠ k) : addD (p :: cd) k v = p :: addD cd k v := by
  unfold addD kdpPut kdpLook
  simp only [List.any_cons, h, decide_false, Bool.false_or, List.find?_cons, List.map_cons, Bool.false_eq_true, if_false, List.cons_append]
  split <;> rfl
theorem addD_head {p : Str × Int} {cd : List (Str × Int)} {k : Str} {v : Int} (h : p.1 = k) (hn : k ∉ cd.map (·.1)) : addD (p :: cd) k v = (k, p.2 + v) :: cd := by
  unfold addD kdpPut kdpLook
  simp only [List.any_cons, h, decide_true, Bool.true_or, List.find?_cons, List.map_cons, if_true, Option.map_some, Option.getD_some]
  congr 1
  refine (List.map_congr_left fun q hq => ?_).trans (List.map_id cd)
  have : q.1 ≠ k := fun e => hn (List.mem_map.mpr ⟨q, hq, e⟩)
  simp [this]
def wsum (f : Str → Int) : List (Str × Int) → Int
  | [] => 0
  | p :: cd => p.2 * f p.1 + wsum f cd
theorem addD_all (f : Str → Int) (K : Str → Prop) {k : Str} {v : Int} (hk : K k) (hv : 1 ≤ v) : ∀ {cd : List (Str × Int)}, (cd.map (·.1)).Nodup → (∀ p ∈ cd, 1 ≤ p.2 ∧ K p.1) →
    ((addD cd k v).map (·.1)).Nodup ∧ (∀ p ∈ addD cd k v, 1 ≤ p.2 ∧ K p.1) ∧ wsum f (addD cd k v) = wsum f cd + v * f k ∧ (∀ x ∈ (addD cd k v).map (·.1), x = k ∨ x ∈ cd.map (·.1))
  | [], _, _ => by
    rw [addD_nil]
    refine ⟨by simp, fun p hp => by rw [List.mem_singleton.mp hp]; exact ⟨hv, hk⟩, by simp [wsum], fun x hx => .inl (by simpa using hx)⟩
  | p :: cd, hn, hg => by
    have hn' := List.nodup_cons.mp (show (p.1 :: cd.map (·.1)).Nodup from hn)
    by_cases h : p.1 = k
    · rw [addD_head h (h ▸ hn'.1)]
      refine ⟨?_, fun q hq => ?_, ?_, fun x hx => ?_⟩
      · rw [← h]; exact hn
      · rcases List.mem_cons.mp hq with rfl | hq
        · have := (hg p (.head _)).1
          exact ⟨by show 1 ≤ p.2 + v; omega, hk⟩
        · exact hg q (.tail _ hq)
      · show (p.2 + v) * f k + wsum f cd = p.2 * f p.1 + wsum f cd + v * f k
        rw [h, Int.add_mul]; omega
      · rcases List.mem_cons.mp hx with rfl | hx
        · exact .inl rfl
        · exact .inr (.tail _ hx)
    · rw [addD_tail h]
      obtain ⟨a, b, c, d⟩ := addD_all f K hk hv hn'.2 fun q hq => hg q (.tail _ hq)
      refine ⟨List.nodup_cons.mpr ⟨fun hm => ?_, a⟩, fun q hq => ?_, ?_, fun x hx => ?_⟩
      · rcases d _ hm with e | e
        · exact h e
        · exact hn'.1 e
      · rcases List.mem_cons.mp hq with rfl | hq
        · exact hg _ (.head _)
        · exact b q hq
      · show p.2 * f p.1 + wsum f (addD cd k v) = p.2 * f p.1 + wsum f cd + v * f k
        rw [c]; omega
      · rcases List.mem_cons.mp hx with rfl | hx
        · exact .inr (.head _)
        · exact (d x hx).imp id (.tail _)
end Mine
end H4
section H5
/-! plain part: the levels as sums -/
open PySem PySem.W PyProof.Rows
namespace Mine
theorem fresh_H5 : True := by w_top off; exact True.intro
def ordersL : Nat → List Nat → Nat
  | 0, _ => 1
  | k + 1, l => ((cutsR l).map (ordersL k)).sum
theorem ordersL_flat : ∀ (n : Nat) {F : Fo}, F.wf → Fo.calm F.left → ordersL n F.flat = Fo.orders n F
  | 0, _, _, _ => rfl
  | n + 1, F, w, c => by
    show ((cutsR F.flat).map (ordersL n)).sum = (F.rem.map (Fo.orders n)).sum
    rw [Fo.cuts_flat w c, List.map_map]
    congr 1
    refine List.map_congr_left fun F' h => ?_
    exact ordersL_flat n (Fo.rem_wf w h) (by rw [Fo.rem_left h]; exact c)
/-- a key of the level where j pairs are left -/
def KeyOk (lf : List Nat) (j : Nat) (s : Str) : Prop := (∃ F : Fo, F.wf ∧ Fo.calm F.left ∧ F.flat = s.cps.toList ∧ F.cnt = j ∧ F.left = lf) ∧ s.length ≤ 13 ∧ ∀ x ∈ s.cps.toList, six x
theorem key_cut {lf : List Nat} {j : Nat} {s : Str} (h : KeyOk lf (j + 1) s) {k : Nat} (hk : k ∈ placesL s.cps.toList) : KeyOk lf j (cutS s k) := by
  obtain ⟨⟨F, w, c, e, hc, hl⟩, hlen, h6⟩ := h
  have hin : k + 2 ≤ s.length := by have := places_in hk; rw [len_toList] at this; exact this
  have ec := cutS_codes hin
  have hm : (cutS s k).cps.toList ∈ cutsR F.flat := by
    rw [e, ← places_cuts, ec]
    exact List.mem_map.mpr ⟨k, hk, rfl⟩
  rw [Fo.cuts_flat w c] at hm
  obtain ⟨F', hF, e'⟩ := List.mem_map.mp hm
  refine ⟨⟨F', Fo.rem_wf w hF, by rw [Fo.rem_left hF]; exact c, e', by have := Fo.rem_cnt hF; omega, by rw [Fo.rem_left hF]; exact hl⟩, ?_, ?_⟩
  · rw [← len_toList, ec, List.length_append, List.length_take, List.length_drop, len_toList]
    omega
  · intro x hx
    rw [ec] at hx
    rcases List.mem_append.mp hx with hx | hx
    · exact h6 x (List.mem_of_mem_take hx)
    · exact h6 x (List.mem_of_mem_drop hx)
theorem sum_places (s : Str) (j : Nat) : ((placesL s.cps.toList).map fun k => (ordersL j (cutS s k).cps.toList : Int)).sum = (ordersL (j + 1) s.cps.toList : Int) := by
  have e : ((placesL s.cps.toList).map fun k => (ordersL j (cutS s k).cps.toList : Int)) = ((cutsR s.cps.toList).map (ordersL j)).map (fun n : Nat => (n : Int)) := by
    rw [← places_cuts, List.map_map, List.map_map]
    refine List.map_congr_left fun k hk => ?_
    have hin : k + 2 ≤ s.length := by have := places_in hk; rw [len_toList] at this; exact this
    show (ordersL j (cutS s k).cps.toList : Int) = _
    rw [cutS_codes hin]; rfl
  rw [e]
  show _ = ((((cutsR s.cps.toList).map (ordersL j)).sum : Nat) : Int)
  generalize (cutsR s.cps.toList).map (ordersL j) = l
  induction l with
  | nil => rfl
  | cons a l ih => simp only [List.map_cons, List.sum_cons, ih]; omega
theorem fold_put (f : Str → Int) (K : Str → Prop) (one : Str) (v : Int) (hv : 1 ≤ v) : ∀ (pls : List Nat), (∀ k ∈ pls, K (cutS one k)) → ∀ {cd : List (Str × Int)}, (cd.map (·.1)).Nodup → (∀ p ∈ cd, 1 ≤ p.2 ∧ K p.1) →
    ((pls.foldl (putCut one v) cd).map (·.1)).Nodup ∧ (∀ p ∈ pls.foldl (putCut one v) cd, 1 ≤ p.2 ∧ K p.1) ∧ wsum f (pls.foldl (putCut one v) cd) = wsum f cd + v * (pls.map fun k => f (cutS one k)).sum
  | [], _, cd, h1, h2 => ⟨h1, h2, by simp⟩
  | k :: pls, hK, cd, h1, h2 => by
    obtain ⟨a, b, c, _⟩ := addD_all f K (hK k (.head _)) hv h1 h2
    obtain ⟨a', b', c'⟩ := fold_put f K one v hv pls (fun k hk => hK k (.tail _ hk)) a b
    refine ⟨a', b', ?_⟩
    show wsum f (pls.foldl (putCut one v) (addD cd (cutS one k) v)) = _
    rw [c', c, List.map_cons, List.sum_cons, Int.mul_add]
    omega
end Mine
end H5
section H6
/-! plain part: the levels, to the end -/
open PySem PySem.W PyProof.Rows
namespace Mine
theorem fresh_H6 : True := by w_top off; exact True.intro
theorem look_of_mem : ∀ {cl : List (Str × Int)}, (cl.map (·.1)).Nodup → ∀ {p : Str × Int}, p ∈ cl → kdpLook cl p.1 0 = p.2
  | q :: cl, hn, p, hp => by
    have hn' := List.nodup_cons.mp (show (q.1 :: cl.map (·.1)).Nodup from hn)
    unfold kdpLook
    rw [List.find?_cons]
    rcases List.mem_cons.mp hp with rfl | hp
    · simp
    · have : q.1 ≠ p.1 := fun e => hn'.1 (List.mem_map.mpr ⟨p, hp, e.symm⟩)
      simp only [this, decide_false]
      exact look_of_mem hn'.2 hp
noncomputable def fL (j : Nat) (s : Str) : Int := (ordersL j s.cps.toList : Int)
theorem key_orders {lf : List Nat} {j : Nat} {s : Str} (h : KeyOk lf j s) : 0 < ordersL j s.cps.toList ∧ ordersL j s.cps.toList ≤ fact j := by
  obtain ⟨⟨F, w, c, e, hc, _⟩, _⟩ := h
  have hh := Fo.hook j F w hc
  rw [← e, ordersL_flat j w c]
  have hp := Fo.pr_pos F
  have hf := fact_pos j
  refine ⟨Nat.pos_of_ne_zero fun q => ?_, ?_⟩
  · rw [q, Nat.zero_mul] at hh; omega
  · rw [← hh]; exact Nat.le_mul_of_pos_right _ hp
theorem key_places {lf : List Nat} {j : Nat} {s : Str} (h : KeyOk lf (j + 1) s) : placesL s.cps.toList ≠ [] := fun q => by
  have h1 := (key_orders h).1
  have : ordersL (j + 1) s.cps.toList = 0 := by
    show ((cutsR s.cps.toList).map (ordersL j)).sum = 0
    rw [← places_cuts, q]; rfl
  omega
theorem fold_step (lf : List Nat) (j : Nat) {cl : List (Str × Int)} (hn : (cl.map (·.1)).Nodup) (hK : ∀ p ∈ cl, 1 ≤ p.2 ∧ KeyOk lf (j + 1) p.1) : ∀ (l : List (Str × Int)), (∀ p ∈ l, p ∈ cl) → ∀ {cd ce : List (Str × Int)}, (cd.map (·.1)).Nodup → (∀ p ∈ cd, 1 ≤ p.2 ∧ KeyOk lf j p.1) →
    ((l.foldl (stepOne cl) (cd, ce)).1.map (·.1)).Nodup ∧ (∀ p ∈ (l.foldl (stepOne cl) (cd, ce)).1, 1 ≤ p.2 ∧ KeyOk lf j p.1) ∧ wsum (fL j) (l.foldl (stepOne cl) (cd, ce)).1 = wsum (fL j) cd + wsum (fL (j + 1)) l ∧ (l.foldl (stepOne cl) (cd, ce)).2 = ce
  | [], _, cd, ce, h1, h2 => ⟨h1, h2, by simp [wsum], rfl⟩
  | p :: l, hl, cd, ce, h1, h2 => by
    have hp := hl p (.head _)
    have hv := hK p hp
    have e : stepOne cl (cd, ce) p = ((placesL p.1.cps.toList).foldl (putCut p.1 p.2) cd, ce) := by
      unfold stepOne
      rw [look_of_mem hn hp, if_neg (key_places hv.2)]
    obtain ⟨a, b, c⟩ := fold_put (fL j) (KeyOk lf j) p.1 p.2 hv.1 (placesL p.1.cps.toList) (fun k hk => key_cut hv.2 hk) h1 h2
    obtain ⟨a', b', c', d'⟩ := fold_step lf j hn hK l (fun q hq => hl q (.tail _ hq)) (ce := ce) a b
    rw [List.foldl_cons, e]
    refine ⟨a', b', ?_, d'⟩
    rw [c', c]
    have := sum_places p.1 j
    show wsum (fL j) cd + p.2 * ((placesL p.1.cps.toList).map fun k => (ordersL j (cutS p.1 k).cps.toList : Int)).sum + wsum (fL (j + 1)) l = wsum (fL j) cd + (p.2 * fL (j + 1) p.1 + wsum (fL (j + 1)) l)
    rw [this]
    unfold fL
    omega
theorem level_inv {lf : List Nat} {n : Nat} {t : Str} (h : KeyOk lf n t) : ∀ k, k ≤ n → ((runL t k).1.map (·.1)).Nodup ∧ (∀ p ∈ (runL t k).1, 1 ≤ p.2 ∧ KeyOk lf (n - k) p.1) ∧ wsum (fL (n - k)) (runL t k).1 = fL n t ∧ (runL t k).2 = []
  | 0, _ => by
    refine ⟨by simp [runL], fun p hp => ?_, by simp [runL, wsum], rfl⟩
    rw [List.mem_singleton.mp hp]
    exact ⟨Int.le_refl _, h⟩
  | k + 1, hk => by
    obtain ⟨a, b, c, d⟩ := level_inv h k (by omega)
    have e : n - k = n - (k + 1) + 1 := by omega
    rw [e] at b c
    obtain ⟨a', b', c', d'⟩ := fold_step lf (n - (k + 1)) a b (runL t k).1 (fun _ hp => hp) (cd := []) (ce := (runL t k).2) (by simp) (fun _ hp => nomatch hp)
    refine ⟨a', b', ?_, d'.trans d⟩
    refine c'.trans ?_
    rw [c]; simp [wsum]
theorem wsum_len {f : Str → Int} : ∀ {cd : List (Str × Int)}, (∀ p ∈ cd, 1 ≤ p.2 ∧ 1 ≤ f p.1) → (cd.length : Int) ≤ wsum f cd
  | [], _ => Int.le_refl _
  | p :: cd, h => by
    have ih := wsum_len (f := f) fun q hq => h q (.tail _ hq)
    have hp := h p (.head _)
    have : 1 ≤ p.2 * f p.1 := by
      have := Int.mul_le_mul hp.1 hp.2 (by omega) (by omega)
      omega
    show ((cd.length + 1 : Nat) : Int) ≤ p.2 * f p.1 + wsum f cd
    omega
end Mine
end H6
section H7
/-! plain part: the levels' end -/
open PySem PySem.W PyProof.Rows
namespace Mine
theorem fresh_H7 : True := by w_top off; exact True.intro
theorem end_level {lf : List Nat} {n : Nat} {t left : Str} (h : KeyOk lf n t) (hl : left.cps.toList = lf) : (runL t n).1 = [(left, fL n t)] ∧ (runL t n).2 = [] := by
  obtain ⟨a, b, c, d⟩ := level_inv h n (Nat.le_refl _)
  rw [Nat.sub_self] at b c
  have hkey : ∀ p ∈ (runL t n).1, p.1 = left := fun p hp => by
    obtain ⟨⟨F, _, _, e, hc, hl'⟩, _⟩ := (b p hp).2
    exact str_ext (by rw [← e, Fo.flat_left F hc, hl', hl])
  have hpos : 0 < fL n t := by have := (key_orders h).1; unfold fL; omega
  refine ⟨?_, d⟩
  cases hr : (runL t n).1 with
  | nil => rw [hr] at c; simp [wsum] at c; omega
  | cons p cd =>
    rw [hr] at a c hkey
    have h1 := hkey p (.head _)
    cases cd with
    | cons q cd =>
      have h2 := hkey q (.tail _ (.head _))
      exact absurd (show p.1 ∈ (q :: cd).map (·.1) from List.mem_map.mpr ⟨q, .head _, h2.trans h1.symm⟩) (List.nodup_cons.mp (show (p.1 :: (q :: cd).map (·.1)).Nodup from a)).1
    | nil =>
      have e : p.2 * fL 0 p.1 = fL n t := by simpa [wsum] using c
      have e0 : fL 0 p.1 = 1 := rfl
      rw [e0, Int.mul_one] at e
      rw [← h1, ← e]
theorem after_end {lf : List Nat} {n : Nat} {t left : Str} (h : KeyOk lf n t) (hl : left.cps.toList = lf) : runL t (n + 1) = ([], [(left, fL n t)]) := by
  obtain ⟨e1, e2⟩ := end_level h hl
  obtain ⟨_, b, _, _⟩ := level_inv h n (Nat.le_refl _)
  rw [Nat.sub_self] at b
  obtain ⟨⟨F, w, c, e, hc, _⟩, _⟩ := (b (left, fL n t) (by rw [e1]; exact .head _)).2
  have hp : placesL left.cps.toList = [] := by
    have : cutsR left.cps.toList = [] := by
      have e' : F.flat = left.cps.toList := e
      rw [← e', Fo.cuts_flat w c]
      cases hr : F.rem with
      | nil => rfl
      | cons F' r => exact absurd (Fo.rem_cnt (F := F) (F' := F') (by rw [hr]; exact .head _)) (by omega)
    rw [← places_cuts] at this
    exact List.map_eq_nil_iff.mp this
  show nextL (runL t n) = _
  unfold nextL
  rw [e1, e2]
  show stepOne _ ([], []) (left, fL n t) = _
  unfold stepOne
  dsimp only
  rw [hp, if_pos rfl]
  have hk : kdpLook [(left, fL n t)] left 0 = fL n t := by unfold kdpLook; simp
  rw [hk]
  rfl
theorem run_after {lf : List Nat} {n : Nat} {t left : Str} (h : KeyOk lf n t) (hl : left.cps.toList = lf) : ∀ m, runL t (n + 1 + m) = ([], [(left, fL n t)])
  | 0 => after_end h hl
  | m + 1 => by
    show nextL (runL t (n + 1 + m)) = _
    rw [run_after h hl m]; rfl
theorem run_ok {lf : List Nat} {n : Nat} {t left : Str} (h : KeyOk lf n t) (hl : left.cps.toList = lf) (hn : n ≤ 6) (k : Nat) : OkL (runL t k) := by
  by_cases hk : k ≤ n
  · obtain ⟨a, b, c, d⟩ := level_inv h k hk
    refine ⟨?_, by rw [d]; exact Nat.zero_le _, fun p hp => (b p hp).2.2⟩
    have h1 := wsum_len (f := fL (n - k)) (cd := (runL t k).1) fun p hp => ⟨(b p hp).1, by have := (key_orders (b p hp).2).1; unfold fL; omega⟩
    have h2 := (key_orders h).2
    have h3 : fact n ≤ 720 := by
      have : n = 0 ∨ n = 1 ∨ n = 2 ∨ n = 3 ∨ n = 4 ∨ n = 5 ∨ n = 6 := by omega
      rcases this with rfl | rfl | rfl | rfl | rfl | rfl | rfl <;> decide
    rw [c] at h1
    unfold fL at h1
    omega
  · obtain ⟨m, rfl⟩ : ∃ m, k = n + 1 + m := ⟨k - (n + 1), by omega⟩
    rw [run_after h hl m]
    exact ⟨Nat.zero_le _, by simp, fun _ hp => nomatch hp⟩
/-- all that the law needs of the levels and the pile -/
theorem levels {t left : Str} {bs sz : List Int} (hP : PileInv (KStt.codes t) left bs sz) (hlen : t.length ≤ 13) (h1 : 1 ≤ t.length) (h6 : ∀ x ∈ t.cps.toList, six x) :
    ∃ N : Int, (∀ k, OkL (runL t k)) ∧ (runL t t.length).2 = [(left, N)] ∧ sz.foldl Int.fdiv (fact sz.length : Int) = N ∧ (∀ z ∈ sz, 0 < z) ∧ sz.length ≤ 6 := by
  obtain ⟨F, w, c, e⟩ := Fo.exists_forest _ t.cps.toList (Nat.le_refl _)
  obtain ⟨bs', hr⟩ := Fo.pile_run w c
  unfold PileInv at hP
  rw [codes_nat, ← e, hr] at hP
  injection hP with hl hP
  injection hP with _ hz
  have hl' : left.cps.toList = F.left := by rw [← List.reverse_reverse left.cps.toList, ← hl, List.reverse_reverse]
  have h2 := Fo.flat_len F
  rw [e, len_toList] at h2
  have hk : KeyOk F.left F.cnt t := ⟨⟨F, w, c, e, rfl, rfl⟩, hlen, h6⟩
  refine ⟨fL F.cnt t, run_ok hk hl' (by omega), ?_, ?_, by rw [← hz]; exact Fo.sizes_pos F, by rw [← hz, Fo.sizes_len]; omega⟩
  · obtain ⟨m, hm⟩ : ∃ m, t.length = F.cnt + 1 + m := ⟨t.length - (F.cnt + 1), by omega⟩
    rw [hm, run_after hk hl' m]
  · have hh := Fo.hook F.cnt F w rfl
    rw [← hz, Fo.sizes_len]
    have : ((fact F.cnt : Nat) : Int) = fL F.cnt t * Fo.prodI F.sizes := by
      rw [← hh, Fo.sizes_prod, Int.natCast_mul]
      unfold fL
      rw [← e, ordersL_flat _ w c]
    rw [this, Fo.ways_div]
end Mine
end H7
section L1
open PySem PySem.W PyProof.Rows PySem.Calls PyProof.V
namespace Mine
set_option maxRecDepth 100000
set_option maxHeartbeats 8000000
local macro_rules | `(tactic| k_room) => `(tactic| ((simp only [depth_under_make, depth_under_kw, depth_in1, depth_deeper, recursionLimit]); omega))
local macro_rules | `(tactic| k_steps) => `(tactic| repeat' (first | ((fail_if_success (with_reducible show wpAny _ _ (pyIter _) _ _ _)); (first | (k_unfold; (try dsimp only)) | (k_end; wrow_close) | walk1 | (dsimp only; walk1) | (leave1; walk_say "STEP leave1"; try dsimp only))) | fail "no step"))
local macro_rules | `(tactic| walk_at "eval Name") => `(tactic| (k_here; k_dflt (refine' nameX_L ?F ?v ?_ ?a ?b; (case F => k_asm); (case v => assumption); (case a => with_unfolding_all rfl); (case b => with_unfolding_all rfl); k_whole)))
theorem fresh_L1 : True := by w_top off; exact True.intro
noncomputable abbrev lawEnv (w : World) (L fa : Addr) (cd : Value) : Env := envOf (Str.ofString "law") (funScope (hd.heap_39 w.params) 64) L fa cd
noncomputable abbrev lawSt (w : World) (i : Nat) : Stmt := nth (funStmts (hd.heap_39 w.params) 64) i

structure WSt where
  v : Int
  t : Tok

theorem fact_small {n : Nat} (h : n ≤ 6) : fact n ≤ 720 := by
  have : n = 0 ∨ n = 1 ∨ n = 2 ∨ n = 3 ∨ n = 4 ∨ n = 5 ∨ n = 6 := by omega
  rcases this with rfl | rfl | rfl | rfl | rfl | rfl | rfl <;> decide

theorem ways_end {h₀ h' : Heap} {L I : Addr} {x : Str} {m m' : Str → Option Value} {led own : List (Addr × Obj)} {v : Int} {t : Tok} {s₁ : Shared} {tk : Nat} {P : Int → Prop} {Q : Flow → Shared → Prop}
    (F : Fr h₀ L h' m') (N : News h₀ L h' (led ++ own)) (hoff : ∀ p ∈ led, p.1 ≠ I) (hk : m' (Str.ofString "ways") = some (.int v t)) (hr : ∀ z, z ≠ x → z ≠ Str.ofString "ways" → m' z = m z) (hP : P v) :
    GPost h₀ L (fun _ : WSt => led) (fun c => [(Str.ofString "ways", Value.int c.v c.t)]) x [] m (fun c => P c.v) own [I] s₁ Q .next { s₁ with heap := h', toks := tk } :=
  ⟨h', tk, m', ⟨v, t⟩, rfl, F, fun p hp => N p (List.mem_append_left _ hp), fun p hp => N p (List.mem_append_right _ hp), fun p hp hm => hoff p hp (List.mem_singleton.mp hm),
    fun p hp => by rw [List.mem_singleton.mp hp]; exact hk, fun z h1 h2 _ => hr z h1 (h2 _ (.head _)), hP⟩

theorem ways_up {w : World} {d : Nat} {gd : Option (List Code)} {un : Nat} {s : Shared} {h₀ : Heap} {outer : List Env} {L fa : Addr} {cd : Value} {m : Str → Option Value} {loose : List Str} {mean : ExcName → Option Value} {mg mb : Str → Option Value}
  {Q : Flow → Shared → Prop} {ld : Addr} {vz : List Value} {sz : List Int} {nz : Nat} {rest : List (Addr × Obj)} {tw : Tok} (hroom : d < 800)
  (F : Fr h₀ L s.heap m) (X : (hd.heap_39 w.params).In h₀) (T : Top topProg loose mean mg mb h₀) (N : News h₀ L s.heap ((ld, W.listOf vz.toArray nz) :: rest)) (hI : IntsAre vz sz) (hlen : sz.length ≤ 6)
  (m1 : m (Str.ofString "sizes") = some (.ref ld)) (m2 : m (Str.ofString "ways") = some (.int 1 tw))
  (hQ : ∀ (m' : Str → Option Value) tw' h tk, m' (Str.ofString "ways") = some (.int (fact sz.length : Nat) tw') → (∀ z, z ≠ Str.ofString "place" → z ≠ Str.ofString "ways" → m' z = m z) → Fr h₀ L h m' → News h₀ L h ((ld, W.listOf vz.toArray nz) :: rest) → Q .next { s with heap := h, toks := tk }) :
  wpAny (model Challenge.rw_rs0057_01.row.prog w) (Around.deeper ⟨none, d, some outer, gd, un⟩ (lawEnv w L fa cd)) (exec (lawSt w 4) (lawEnv w L fa cd)) Q (fun _ _ => False) s := by
  revert X; k_fill; intro X
  with_unfolding_all refine (id ?_ : wpAny (model _ _) _ (exec (.For (.Name _ _) (.Call _ _ _ _) [_] [] _) _) _ _ _)
  refine For_invV h₀ (by with_unfolding_all rfl) (by with_unfolding_all rfl) ?_ (by intro _; with_unfolding_all rfl) PassesOwn.never
  have hvl : vz.length = sz.length := hI.length
  k_steps
  rename News _ _ _ _ => N2
  rename Fr _ _ _ m => F2
  rename IsRange _ _ _ _ _ _ _ _ => hr2
  refine grange (σ := WSt) (n := sz.length) (m₀ := m) (fun _ => (ld, W.listOf vz.toArray nz) :: rest) (fun c => [(Str.ofString "ways", .int c.v c.t)]) []
    (fun i c => c.v = (fact i : Nat)) ⟨1, tw⟩ rfl hr2 (small_one (by omega) (by omega) (by omega) (by omega)) (by rw [rangeSize_nat]; congr 1) F2 N2 (fun p hp => by rw [List.mem_singleton.mp hp]; exact m2) rfl ?_ ?_
  · rintro i ti I ⟨v, t⟩ u h tk own hi hv hoffI hown _ F N NO
    dsimp only at hv
    obtain ⟨M, hM⟩ : ∃ M, M = (fun y => if y = Str.ofString "place" then some (Value.int (0 + (i : Int)) ti) else kstB (fun z => if ([] : List Str).contains z = true then u z else m z) [(Str.ofString "ways", Value.int v t)] y) := ⟨_, rfl⟩
    have f1 : M (Str.ofString "place") = some (.int (0 + (i : Int)) ti) := by rw [hM]; rfl
    have f2 : M (Str.ofString "ways") = some (.int v t) := by rw [hM]; rfl
    have f9 : ∀ z, z ≠ Str.ofString "place" → z ≠ Str.ofString "ways" → M z = m z := by
      intro z h1 h2
      rw [hM]
      dsimp only
      rw [if_neg h1]
      simp [kstB, if_neg h2]
    rw [← hM] at F
    clear hM F2 N2
    have hb := fact_small (show i ≤ 6 by omega)
    have hv0 : 0 ≤ v := by omega
    have hv1 : v ≤ 720 := by omega
    have NA : News h₀ L h ((ld, W.listOf vz.toArray nz) :: rest ++ own) := fun p hp => (List.mem_append.mp hp).elim (N p) (NO p)
    clear N NO
    k_steps
    rename News _ _ _ _ => N3
    rename Fr _ _ _ _ => F3
    refine ways_end (P := fun v => v = (fact (i + 1) : Nat)) F3 N3 hoffI rfl ?_ ?_
    · intro z h1 h2
      rw [if_neg h2]
      exact f9 z h1 h2
    · show v * (0 + (i : Int) + 1) = ((fact (i + 1) : Nat) : Int)
      rw [hv]
      show _ = (((i + 1) * fact i : Nat) : Int)
      rw [Int.natCast_mul, Int.mul_comm]
      congr 1
      omega
  · rintro ⟨v, t⟩ u h tk hv F N
    dsimp only at hv
    subst hv
    refine hQ _ t h tk ?_ ?_ F N
    · rfl
    · intro z h1 h2
      dsimp only
      rw [if_neg h1]
      simp [kstB, if_neg h2]

theorem fdiv_in {a b B : Int} (h0 : 0 ≤ a) (h1 : a ≤ B) (hb : 0 < b) : 0 ≤ a.fdiv b ∧ a.fdiv b ≤ B := by
  rw [Int.fdiv_eq_ediv_of_nonneg _ (by omega)]
  exact ⟨Int.ediv_nonneg h0 (by omega), Int.le_trans (Int.ediv_le_self _ h0) h1⟩
theorem fold_in {B : Int} : ∀ (l : List Int) {a : Int}, 0 ≤ a → a ≤ B → (∀ z ∈ l, 0 < z) → 0 ≤ l.foldl Int.fdiv a ∧ l.foldl Int.fdiv a ≤ B
  | [], _, h0, h1, _ => ⟨h0, h1⟩
  | b :: l, a, h0, h1, hp => by
    obtain ⟨x, y⟩ := fdiv_in h0 h1 (hp b (.head _))
    exact fold_in l x y fun z hz => hp z (.tail _ hz)

theorem noPy {x y : Int} (h0 : 0 ≤ x) (h : x ≤ 720) : Builtin.divisionGoesByPylong x y = false := by
  have key : (if x == 0 then 0 else x.natAbs.log2 / 30 + 1) ≤ 1 := by
    by_cases hx : (x == 0) = true
    · rw [if_pos hx]; exact Nat.zero_le _
    · rw [if_neg hx]
      have h1 : x.natAbs.log2 < 10 := (Nat.log2_lt (by have : x ≠ 0 := fun q => hx (by simp [q]); omega)).mpr (by omega)
      omega
  unfold Builtin.divisionGoesByPylong
  dsimp only
  refine Bool.and_eq_false_iff.mpr (.inr (decide_eq_false ?_))
  omega
theorem ways_down {w : World} {d : Nat} {gd : Option (List Code)} {un : Nat} {s : Shared} {h₀ : Heap} {outer : List Env} {L fa : Addr} {cd : Value} {m : Str → Option Value} {loose : List Str} {mean : ExcName → Option Value} {mg mb : Str → Option Value}
  {Q : Flow → Shared → Prop} {ld : Addr} {vz : List Value} {sz : List Int} {nz : Nat} {rest : List (Addr × Obj)} {tw : Tok} {a : Int} (hroom : d < 800)
  (F : Fr h₀ L s.heap m) (X : (hd.heap_39 w.params).In h₀) (T : Top topProg loose mean mg mb h₀) (N : News h₀ L s.heap ((ld, W.listOf vz.toArray nz) :: rest)) (hI : IntsAre vz sz) (hlen : sz.length ≤ 6) (hpos : ∀ z ∈ sz, 0 < z)
  (m1 : m (Str.ofString "sizes") = some (.ref ld)) (m2 : m (Str.ofString "ways") = some (.int a tw)) (ha0 : 0 ≤ a) (ha1 : a ≤ 720)
  (hQ : ∀ (m' : Str → Option Value) tw' h tk, m' (Str.ofString "ways") = some (.int (sz.foldl Int.fdiv a) tw') → (∀ z, z ≠ Str.ofString "size" → z ≠ Str.ofString "ways" → m' z = m z) → Fr h₀ L h m' → News h₀ L h ((ld, W.listOf vz.toArray nz) :: rest) → Q .next { s with heap := h, toks := tk }) :
  wpAny (model Challenge.rw_rs0057_01.row.prog w) (Around.deeper ⟨none, d, some outer, gd, un⟩ (lawEnv w L fa cd)) (exec (lawSt w 5) (lawEnv w L fa cd)) Q (fun _ _ => False) s := by
  revert X; k_fill; intro X
  with_unfolding_all refine (id ?_ : wpAny (model _ _) _ (exec (.For (.Name _ _) (.Name _ _) [_] [] _) _) _ _ _)
  refine For_invV h₀ (by with_unfolding_all rfl) (by with_unfolding_all rfl) ?_ (by intro _; with_unfolding_all rfl) PassesOwn.never
  refine nameX_L F m1 ?_ (by with_unfolding_all rfl) (by with_unfolding_all rfl)
  refine glist (σ := WSt) (vs := vz) (ns := sz) (nn := nz) (m₀ := m) (fun _ => (ld, W.listOf vz.toArray nz) :: rest) (fun c => [(Str.ofString "ways", .int c.v c.t)]) []
    (fun i c => c.v = (sz.take i).foldl Int.fdiv a) ⟨a, tw⟩ rfl (.head _) hI F N (fun p hp => by rw [List.mem_singleton.mp hp]; exact m2) rfl ?_ ?_
  · rintro i n ti I ⟨v, t⟩ u h tk own hi hv hoffI hown _ F N NO
    dsimp only at hv
    obtain ⟨M, hM⟩ : ∃ M, M = (fun y => if y = Str.ofString "size" then some (Value.int n ti) else kstB (fun z => if ([] : List Str).contains z = true then u z else m z) [(Str.ofString "ways", Value.int v t)] y) := ⟨_, rfl⟩
    have f1 : M (Str.ofString "size") = some (.int n ti) := by rw [hM]; rfl
    have f2 : M (Str.ofString "ways") = some (.int v t) := by rw [hM]; rfl
    have f9 : ∀ z, z ≠ Str.ofString "size" → z ≠ Str.ofString "ways" → M z = m z := by
      intro z h1 h2
      rw [hM]
      dsimp only
      rw [if_neg h1]
      simp [kstB, if_neg h2]
    rw [← hM] at F
    clear hM
    have hn0 : 0 < n := hpos n (List.mem_of_getElem? hi)
    obtain ⟨hv0, hv1⟩ := fold_in (sz.take i) ha0 ha1 fun z hz => hpos z (List.mem_of_mem_take hz)
    rw [← hv] at hv0 hv1
    have NA : News h₀ L h ((ld, W.listOf vz.toArray nz) :: rest ++ own) := fun p hp => (List.mem_append.mp hp).elim (N p) (NO p)
    clear N NO
    k_steps
    refine floordiv_int (by omega) ?_ (.inl (noPy hv0 hv1))
    k_steps
    rename News _ _ _ _ => N3
    rename Fr _ _ _ _ => F3
    refine ways_end (P := fun v => v = (sz.take (i + 1)).foldl Int.fdiv a) F3 N3 hoffI rfl ?_ ?_
    · intro z h1 h2
      rw [if_neg h2]
      exact f9 z h1 h2
    · show v.fdiv n = (sz.take (i + 1)).foldl Int.fdiv a
      rw [List.take_add_one, hi, List.foldl_append, ← hv]
      rfl
  · rintro ⟨v, t⟩ u h tk hv F N
    dsimp only at hv
    rw [List.take_length] at hv
    subst hv
    refine hQ _ t h tk ?_ ?_ F N
    · rfl
    · intro z h1 h2
      dsimp only
      rw [if_neg h1]
      simp [kstB, if_neg h2]
end Mine
end L1
section L2
open PySem PySem.W PyProof.Rows PySem.Calls PyProof.V
namespace Mine
set_option maxRecDepth 100000
set_option maxHeartbeats 8000000
local macro_rules | `(tactic| k_room) => `(tactic| ((simp only [depth_under_make, depth_under_kw, depth_in1, depth_deeper, recursionLimit]); omega))
local macro_rules | `(tactic| k_steps) => `(tactic| repeat' (first | ((fail_if_success (with_reducible show wpAny _ _ (pyIter _) _ _ _)); (fail_if_success (with_reducible show wpAny _ _ (call (Value.ref 38) _) _ _ _)); (first | (k_unfold; (try dsimp only)) | (k_end; wrow_close) | walk1 | (dsimp only; walk1) | (leave1; walk_say "STEP leave1"; try dsimp only))) | fail "no step"))
local macro_rules | `(tactic| walk_at "eval Name") => `(tactic| (k_here; k_dflt (refine' nameX_L ?F ?v ?_ ?a ?b; (case F => k_asm); (case v => assumption); (case a => with_unfolding_all rfl); (case b => with_unfolding_all rfl); k_whole)))

theorem fresh_L2 : True := by w_top off; exact True.intro
theorem put_back {t c : Str} {i j : Int} (h0 : 0 ≤ i) (h1 : i ≤ j) (h2 : j ≤ t.length) (hc : c = Txt.slice t none (some i) ++ Txt.slice t (some j) none) :
    c.length = t.length - (j - i).toNat ∧ (Txt.slice c none (some i) ++ Txt.slice t (some i) (some j)) ++ Txt.slice c (some i) none = t := by
  have hl : c.cps.toList = t.cps.toList.take i.toNat ++ t.cps.toList.drop j.toNat := by
    rw [hc, toList_append, slice_to h0 (by omega), slice_from (by omega) h2]
  have hlt : t.cps.toList.length = t.length := len_toList t
  have hlen : c.length = t.length - (j - i).toNat := by
    rw [← len_toList, hl, List.length_append, List.length_take, List.length_drop, hlt]
    omega
  refine ⟨hlen, str_ext ?_⟩
  have hti : (t.cps.toList.take i.toNat).length = i.toNat := by rw [List.length_take, hlt]; omega
  rw [toList_append, toList_append, slice_to h0 (by omega), slice_mid h0 h1 h2, slice_from h0 (by omega), hl, List.take_left' hti, List.drop_left' hti]
  have e : j.toNat = i.toNat + (j - i).toNat := by omega
  rw [List.append_assoc, e, ← List.drop_drop, List.take_append_drop, List.take_append_drop]

noncomputable abbrev behindSt (w : World) : Stmt := nth (forBody (lawSt w 8)) 0

theorem size_some {i n : Nat} (h : i < n + 1) : Builtin.Range.rangeSize (i : Int) ((n : Int) + 1) 1 = ((n + 1 - i : Nat) : Int) := by
  unfold Builtin.Range.rangeSize
  rw [if_pos (by decide), if_pos (by omega)]
  omega

theorem behind_loop {w : World} {d : Nat} {gd : Option (List Code)} {un : Nat} {A₀ : Around} {s : Shared} {base h₀ : Heap} {outer : List Env} {L fa : Addr} {cd : Value} {m : Str → Option Value} {loose : List Str} {mean : ExcName → Option Value} {mg mb : Str → Option Value}
  {Q : Flow → Shared → Prop} {ts : Option Codes} {rest : List (Addr × Obj)} {t : Str} {i : Nat} {tt ti : Tok} (hroom : d < 800)
  (B : Below A₀ base outer h₀) (F : Fr h₀ L s.heap m) (X : (hd.heap_39 w.params).In h₀) (T : Top topProg loose mean mg mb h₀) (C : CodeHd h₀ 37 33) (N : News h₀ L s.heap (tabL ts ++ rest)) (hts : TabOk ts) (hoff : ∀ p ∈ rest, p.1 ∉ (tabL ts).map (·.1))
  (m1 : m (Str.ofString "whole") = some (.str t tt)) (m2 : m (Str.ofString "first") = some (.int (i : Int) ti)) (hlen : t.length ≤ 30) (hi : i ≤ t.length)
  (hQ : ∀ (ts' : Option Codes) (m' : Str → Option Value) h tk, TabOk ts' → (∀ p ∈ rest, p.1 ∉ (tabL ts').map (·.1)) → (∀ z, z ≠ Str.ofString "behind" → z ≠ Str.ofString "cut" → m' z = m z) → Fr h₀ L h m' → News h₀ L h (tabL ts' ++ rest) → Q .next { s with heap := h, toks := tk }) :
  wpAny (model Challenge.rw_rs0057_01.row.prog w) (Around.deeper ⟨none, d, some outer, gd, un⟩ (lawEnv w L fa cd)) (exec (behindSt w) (lawEnv w L fa cd)) Q (fun _ _ => False) s := by
  revert X; k_fill; intro X
  with_unfolding_all refine (id ?_ : wpAny (model _ _) _ (exec (.For (.Name _ _) (.Call _ _ _ _) [_, _] [] _) _) _ _ _)
  refine For_invV h₀ (by with_unfolding_all rfl) (by with_unfolding_all rfl) ?_ (by intro _; with_unfolding_all rfl) PassesOwn.never
  obtain ⟨YY, hYY⟩ : ∃ YY, YY = tabL ts ++ rest := ⟨_, rfl⟩
  have N' := N
  rw [← hYY] at N'
  k_steps
  rename News _ _ _ YY => N2
  rename Fr _ _ _ m => F2
  rename IsRange _ _ _ _ _ _ _ _ => hr2
  clear N
  subst hYY
  refine grange (σ := Option Codes) (n := t.length + 1 - i) (m₀ := m) (fun c => tabL c ++ rest) (fun _ => []) [Str.ofString "cut"]
    (fun _ c => TabOk c ∧ ∀ p ∈ rest, p.1 ∉ (tabL c).map (·.1)) ts rfl hr2 (small_one (by omega) (by omega) (by omega) (by omega)) (size_some (by omega)) F2 N2 (fun _ q => nomatch q) ⟨hts, hoff⟩ ?_ ?_
  · rintro k tk₀ I c u h tk own hk ⟨i1, i2⟩ hoffI hown ⟨oI, hIo⟩ F N NO
    obtain ⟨M, hM⟩ : ∃ M, M = (fun y => if y = Str.ofString "behind" then some (Value.int ((i : Int) + (k : Int)) tk₀) else kstB (fun z => if [Str.ofString "cut"].contains z = true then u z else m z) [] y) := ⟨_, rfl⟩
    have f1 : M (Str.ofString "behind") = some (.int ((i : Int) + (k : Int)) tk₀) := by rw [hM]; rfl
    have f2 : M (Str.ofString "whole") = some (.str t tt) := by rw [hM]; exact m1
    have f3 : M (Str.ofString "first") = some (.int (i : Int) ti) := by rw [hM]; exact m2
    have f9 : ∀ z, z ≠ Str.ofString "behind" → z ≠ Str.ofString "cut" → M z = m z := by
      intro z h1 h2
      rw [hM]
      dsimp only
      rw [if_neg h1]
      simp only [kstB, List.contains_cons, List.contains_nil, Bool.or_false, beq_iff_eq, if_neg h2]
    rw [← hM] at F
    have NA : News h₀ L h (tabL c ++ (rest ++ own)) := fun p hp => by
      simp only [List.mem_append] at hp
      rcases hp with hp | hp | hp
      · exact N p (List.mem_append_left _ hp)
      · exact N p (List.mem_append_right _ hp)
      · exact NO p hp
    clear hM N NO F2 N2
    have hown2 : ∀ p ∈ rest ++ own, p.1 ∉ (tabL c).map (·.1) := fun p hp hm => by
      rcases List.mem_append.mp hp with hp | hp
      · exact i2 p hp hm
      · obtain ⟨r, hr, e⟩ := List.mem_map.mp hm
        exact hoffI r (List.mem_append_left _ hr) (e.trans (hown p hp))
    k_steps
    refine wpAny_call (cut_spec (env := lawEnv w L fa cd) B F X NA T C i1 hown2 rfl (by with_unfolding_all rfl) (by show d + 1 < 900; omega) (by omega) fun ts' h2 tk2 tok2 j1 F NA2 j2 => ?_)
    obtain ⟨cut, hc⟩ : ∃ cut, cut = Txt.slice t none (some (i : Int)) ++ Txt.slice t (some ((i : Int) + (k : Int))) none := ⟨_, rfl⟩
    rw [← hc]
    obtain ⟨hcl, hpb⟩ := put_back (by omega) (by omega) (by omega) hc
    have hcl' : cut.length ≤ 30 := by omega
    clear hc
    obtain ⟨YY, hYY⟩ : ∃ YY, YY = tabL ts' ++ (rest ++ own) := ⟨_, rfl⟩
    rw [← hYY] at NA2
    clear NA
    k_steps
    · rename ((_ != _) = true) => hne
      rw [hpb] at hne
      simp at hne
    rename News _ _ _ _ => N3
    rename Fr _ _ _ _ => F3
    subst hYY
    refine ⟨_, _, _, ts', rfl, F3, fun p hp => N3 p ?_, fun p hp => N3 p (List.mem_append_right _ (List.mem_append_right _ hp)), fun p hp hm => ?_, (fun _ q => (nomatch q)), ?_, j1, fun p hp => j2 p (List.mem_append_left _ hp)⟩
    · rcases List.mem_append.mp hp with hp | hp
      · exact List.mem_append_left _ hp
      · exact List.mem_append_right _ (List.mem_append_left _ hp)
    · have e := List.mem_singleton.mp hm
      rcases List.mem_append.mp hp with hp | hp
      · exact j2 (I, oI) (List.mem_append_right _ hIo) (List.mem_map.mpr ⟨p, hp, e⟩)
      · exact hoffI p (List.mem_append_right _ hp) e
    · intro z h1 _ h2
      have h2' : z ≠ Str.ofString "cut" := by simpa using h2
      rw [if_neg h2']
      exact f9 z h1 h2'
  · rintro c u h tk ⟨i1, i2⟩ F N
    refine hQ c _ h tk i1 i2 ?_ F N
    intro z h1 h2
    rw [if_neg h1]
    simp only [kstB, List.contains_cons, List.contains_nil, Bool.or_false, beq_iff_eq, if_neg h2]
end Mine
end L2
section L3
open PySem PySem.W PyProof.Rows PySem.Calls PyProof.V
namespace Mine
set_option maxRecDepth 100000
set_option maxHeartbeats 8000000
local macro_rules | `(tactic| k_room) => `(tactic| ((simp only [depth_under_make, depth_under_kw, depth_in1, depth_deeper, recursionLimit]); omega))
local macro_rules | `(tactic| k_steps) => `(tactic| repeat' (first | ((fail_if_success (with_reducible show wpAny _ _ (pyIter _) _ _ _)); (fail_if_success (with_reducible show wpAny _ _ (call (Value.ref 38) _) _ _ _)); (first | (k_unfold; (try dsimp only)) | (k_end; wrow_close) | walk1 | (dsimp only; walk1) | (leave1; walk_say "STEP leave1"; try dsimp only))) | fail "no step"))
local macro_rules | `(tactic| walk_at "eval Name") => `(tactic| (k_here; k_dflt (refine' nameX_L ?F ?v ?_ ?a ?b; (case F => k_asm); (case v => assumption); (case a => with_unfolding_all rfl); (case b => with_unfolding_all rfl); k_whole)))

theorem fresh_L3 : True := by w_top off; exact True.intro
theorem first_loop {w : World} {d : Nat} {gd : Option (List Code)} {un : Nat} {A₀ : Around} {s : Shared} {base h₀ : Heap} {outer : List Env} {L fa : Addr} {cd : Value} {m : Str → Option Value} {loose : List Str} {mean : ExcName → Option Value} {mg mb : Str → Option Value}
  {Q : Flow → Shared → Prop} {ts : Option Codes} {rest : List (Addr × Obj)} {t : Str} {tt : Tok} (hroom : d < 800)
  (B : Below A₀ base outer h₀) (F : Fr h₀ L s.heap m) (X : (hd.heap_39 w.params).In h₀) (T : Top topProg loose mean mg mb h₀) (C : CodeHd h₀ 37 33) (N : News h₀ L s.heap (tabL ts ++ rest)) (hts : TabOk ts) (hoff : ∀ p ∈ rest, p.1 ∉ (tabL ts).map (·.1))
  (m1 : m (Str.ofString "whole") = some (.str t tt)) (hlen : t.length ≤ 30)
  (hQ : ∀ (ts' : Option Codes) (m' : Str → Option Value) h tk, TabOk ts' → Fr h₀ L h m' → News h₀ L h (tabL ts' ++ rest) → Q .next { s with heap := h, toks := tk }) :
  wpAny (model Challenge.rw_rs0057_01.row.prog w) (Around.deeper ⟨none, d, some outer, gd, un⟩ (lawEnv w L fa cd)) (exec (lawSt w 8) (lawEnv w L fa cd)) Q (fun _ _ => False) s := by
  revert X; k_fill; intro X
  with_unfolding_all refine (id ?_ : wpAny (model _ _) _ (exec (.For (.Name _ _) (.Call _ _ _ _) [_] [] _) _) _ _ _)
  refine For_invV h₀ (by with_unfolding_all rfl) (by with_unfolding_all rfl) ?_ (by intro _; with_unfolding_all rfl) PassesOwn.never
  obtain ⟨YY, hYY⟩ : ∃ YY, YY = tabL ts ++ rest := ⟨_, rfl⟩
  have N' := N
  rw [← hYY] at N'
  k_steps
  rename News _ _ _ YY => N2
  rename Fr _ _ _ m => F2
  rename IsRange _ _ _ _ _ _ _ _ => hr2
  clear N
  subst hYY
  refine grange (σ := Option Codes) (n := t.length + 1) (m₀ := m) (fun c => tabL c ++ rest) (fun _ => []) [Str.ofString "behind", Str.ofString "cut"]
    (fun _ c => TabOk c ∧ ∀ p ∈ rest, p.1 ∉ (tabL c).map (·.1)) ts rfl hr2 (small_one (by omega) (by omega) (by omega) (by omega)) (size_some (i := 0) (by omega)) F2 N2 (fun _ q => nomatch q) ⟨hts, hoff⟩ ?_ ?_
  · rintro k tk₀ I c u h tk own hk ⟨i1, i2⟩ hoffI hown ⟨oI, hIo⟩ F N NO
    obtain ⟨M, hM⟩ : ∃ M, M = (fun y => if y = Str.ofString "first" then some (Value.int (0 + (k : Int)) tk₀) else kstB (fun z => if [Str.ofString "behind", Str.ofString "cut"].contains z = true then u z else m z) [] y) := ⟨_, rfl⟩
    have f1 : M (Str.ofString "first") = some (.int (k : Int) tk₀) := by rw [hM]; show some (Value.int (0 + (k : Int)) tk₀) = _; rw [Int.zero_add]
    have f2 : M (Str.ofString "whole") = some (.str t tt) := by rw [hM]; exact m1
    have f9 : ∀ z, z ≠ Str.ofString "first" → [Str.ofString "behind", Str.ofString "cut"].contains z = false → M z = m z := by
      intro z h1 h2
      rw [hM]
      dsimp only
      rw [if_neg h1]
      simp only [kstB, h2, Bool.false_eq_true, if_false]
    rw [← hM] at F
    have NA : News h₀ L h (tabL c ++ (rest ++ own)) := fun p hp => by
      simp only [List.mem_append] at hp
      rcases hp with hp | hp | hp
      · exact N p (List.mem_append_left _ hp)
      · exact N p (List.mem_append_right _ hp)
      · exact NO p hp
    clear hM N NO F2 N2
    have hown2 : ∀ p ∈ rest ++ own, p.1 ∉ (tabL c).map (·.1) := fun p hp hm => by
      rcases List.mem_append.mp hp with hp | hp
      · exact i2 p hp hm
      · obtain ⟨r, hr, e⟩ := List.mem_map.mp hm
        exact hoffI r (List.mem_append_left _ hr) (e.trans (hown p hp))
    refine wpAny_execs_cons (behind_loop hroom B F X T C NA i1 hown2 f2 f1 hlen (by omega) fun ts' m' h2 tk2 j1 j2 j3 F3 N3 => ?_)
    refine wpAny_execs_nil ?_
    refine ⟨_, _, _, ts', rfl, F3, fun p hp => N3 p ?_, fun p hp => N3 p (List.mem_append_right _ (List.mem_append_right _ hp)), fun p hp hm => ?_, (fun _ q => (nomatch q)), ?_, j1, fun p hp => j2 p (List.mem_append_left _ hp)⟩
    · rcases List.mem_append.mp hp with hp | hp
      · exact List.mem_append_left _ hp
      · exact List.mem_append_right _ (List.mem_append_left _ hp)
    · have e := List.mem_singleton.mp hm
      rcases List.mem_append.mp hp with hp | hp
      · exact j2 (I, oI) (List.mem_append_right _ hIo) (List.mem_map.mpr ⟨p, hp, e⟩)
      · exact hoffI p (List.mem_append_right _ hp) e
    · intro z h1 _ h2
      have h2' : z ≠ Str.ofString "behind" ∧ z ≠ Str.ofString "cut" := by simpa using h2
      rw [j3 z h2'.1 h2'.2]
      exact f9 z h1 h2
  · rintro c u h tk ⟨i1, i2⟩ F N
    exact hQ c _ h tk i1 F N
end Mine
end L3
section L4
open PySem PySem.W PyProof.Rows PySem.Calls PyProof.V
namespace Mine
set_option maxRecDepth 100000
set_option maxHeartbeats 8000000
local macro_rules | `(tactic| k_room) => `(tactic| ((simp only [depth_under_make, depth_under_kw, depth_in1, depth_deeper, recursionLimit]); omega))
local macro_rules | `(tactic| k_steps) => `(tactic| repeat' (first | ((fail_if_success (with_reducible show wpAny _ _ (eval (.Dict _ _ _) _) _ _ _)); (fail_if_success (with_reducible show wpAny _ _ (compareOp _ (.ref _) (.ref _)) _ _ _)); (fail_if_success (with_reducible show wpAny _ _ (call (Value.ref 57) _) _ _ _)); (first | (k_unfold; (try dsimp only)) | (k_end; wrow_close) | walk1 | (dsimp only; walk1) | (leave1; walk_say "STEP leave1"; try dsimp only))) | fail "no step"))
local macro_rules | `(tactic| walk_at "eval Name") => `(tactic| (k_here; k_dflt (refine' nameX_L ?F ?v ?_ ?a ?b; (case F => k_asm); (case v => assumption); (case a => with_unfolding_all rfl); (case b => with_unfolding_all rfl); k_whole)))

theorem fresh_L4 : True := by w_top off; exact True.intro
theorem ends_test {w : World} {d : Nat} {gd : Option (List Code)} {un : Nat} {A₀ : Around} {s : Shared} {base h₀ : Heap} {outer : List Env} {L fa : Addr} {cd : Value} {m : Str → Option Value} {loose : List Str} {mean : ExcName → Option Value} {mg mb : Str → Option Value}
  {Q : Flow → Shared → Prop} {ts : Option Codes} {rest : List (Addr × Obj)} {t left : Str} {nw : Int} {tt tl tw : Tok} (hroom : d < 600) (hun : un < 3000)
  (B : Below A₀ base outer h₀) (F : Fr h₀ L s.heap m) (X : (hd.heap_39 w.params).In h₀) (T : Top topProg loose mean mg mb h₀) (C : CodeHd h₀ 37 33) (N : News h₀ L s.heap (tabL ts ++ rest)) (hts : TabOk ts) (hoff : ∀ p ∈ rest, p.1 ∉ (tabL ts).map (·.1))
  (m1 : m (Str.ofString "text") = some (.str t tt)) (m2 : m (Str.ofString "left") = some (.str left tl)) (m3 : m (Str.ofString "ways") = some (.int nw tw)) (hlen : t.length ≤ 13)
  (hok : ∀ k, OkL (runL t k)) (hrun : (runL t t.length).2 = [(left, nw)])
  (hQ : ∀ (ts' : Option Codes) h tk, TabOk ts' → Fr h₀ L h m → News h₀ L h (tabL ts' ++ rest) → (∀ p ∈ rest, p.1 ∉ (tabL ts').map (·.1)) → Q .next { s with heap := h, toks := tk }) :
  wpAny (model Challenge.rw_rs0057_01.row.prog w) (Around.deeper ⟨none, d, some outer, gd, un⟩ (lawEnv w L fa cd)) (exec (lawSt w 6) (lawEnv w L fa cd)) Q (fun _ _ => False) s := by
  revert X; k_fill; intro X
  with_unfolding_all refine (id ?_ : wpAny (model _ _) _ (exec (.If (.Compare _ _ _ _) [_] [] _) _) _ _ _)
  obtain ⟨YY, hYY⟩ : ∃ YY, YY = tabL ts ++ rest := ⟨_, rfl⟩
  have N' := N
  rw [← hYY] at N'
  k_steps
  refine wpAny_call (ends_spec (env := lawEnv w L fa cd) B F X N T C hts hoff rfl (by with_unfolding_all rfl) (by show d + 1 < 700; omega) ?hu hlen (fun k _ => hok k) fun D oE kve ts' h2 tk2 j1 F2 N2 j4 j5 j6 j7 j8 => ?_)
  case hu => show un + 3 < 4000; omega
  rw [hrun] at j5
  clear N N' hYY YY F
  obtain ⟨YY, hYY⟩ : ∃ YY, YY = tabL ts' ++ rest := ⟨_, rfl⟩
  rw [← hYY] at N2
  refine kdn_eval (knd := PySem.strKind Challenge.rw_rs0057_01.row.prog w) F2 N2 T.nolimit (by rfl) (by rfl) (by simp) (by decide) fun d2 h3 o3 F3 N3 l3 lo3 hd3 => ?_
  k_steps
  refine kdn_made_strF F3 N3 (UpdF.head fun p hp => Nat.ne_of_lt (l3 p hp)) hd3 rfl (by simp [strPairs]) rfl fun h4 o4 F4 N4 hd4 hf4 => ?_
  refine kne_tabs (knd := PySem.strKind Challenge.rw_rs0057_01.row.prog w) (enc := PyData.str) (r := PyData.eqv (.int nw) (.int nw) && true) PyProof.V.same_str
    ⟨j8, kve, Heap.dictOf_iff.mpr ⟨oE, (N4 (D, oE) (.tail _ (.head _))).1, j4⟩, j5⟩ ⟨lo3, _, Heap.dictOf_iff.mpr ⟨o4, (N4 (d2, o4) (.head _)).1, hd4⟩, hf4⟩ rfl (by show un + 3 < 9900; omega)
    (.hit ?hl .nil) ?_
  case hl =>
    simp [PySem.Spec.lookup, strData, PySem.Spec.same]
    rfl
  have e : (PyData.eqv (.int nw) (.int nw) && true) = true := by simp [PyData.eqv]
  rw [e]
  k_steps
  subst hYY
  exact hQ ts' h4 _ j1 F4 (fun p hp => N4 p (.tail _ (.tail _ hp))) fun p hp => j6 p (.tail _ hp)
end Mine
end L4
section L5
open PySem PySem.W PyProof.Rows PySem.Calls PyProof.V
namespace Mine
set_option maxRecDepth 100000
set_option maxHeartbeats 8000000
local macro_rules | `(tactic| k_room) => `(tactic| ((simp only [depth_under_make, depth_under_kw, depth_in1, depth_deeper, recursionLimit]); omega))
local macro_rules | `(tactic| k_steps) => `(tactic| repeat' (first | ((fail_if_success (with_reducible show wpAny _ _ (exec (.For _ _ _ _ _) _) _ _ _)); (fail_if_success (with_reducible show wpAny _ _ (exec (.If _ _ _ _) _) _ _ _)); (fail_if_success (with_reducible show wpAny _ _ (call (Value.ref 45) _) _ _ _)); (fail_if_success (with_reducible show wpAny _ _ (call (Value.ref 52) _) _ _ _)); (first | (k_unfold; (try dsimp only)) | (k_end; wrow_close) | walk1 | (dsimp only; walk1) | (leave1; walk_say "STEP leave1"; try dsimp only))) | fail "no step"))
local macro_rules | `(tactic| walk_at "eval Name") => `(tactic| (k_here; k_dflt (refine' nameX_L ?F ?v ?_ ?a ?b; (case F => k_asm); (case v => assumption); (case a => with_unfolding_all rfl); (case b => with_unfolding_all rfl); k_whole)))

theorem fresh_L5 : True := by w_top off; exact True.intro
theorem law_rest {w : World} {d : Nat} {gd : Option (List Code)} {un : Nat} {A₀ : Around} {s : Shared} {base h₀ : Heap} {outer : List Env} {L fa : Addr} {cd : Value} {m : Str → Option Value} {loose : List Str} {mean : ExcName → Option Value} {mg mb : Str → Option Value}
  {Q : Flow → Shared → Prop} {D : Addr} {ws : List Value} {ns : List Int} {n0 : Nat} (hroom : d < 600) (hun : un < 3000)
  (B : Below A₀ base outer h₀) (F : Fr h₀ L s.heap m) (X : (hd.heap_39 w.params).In h₀) (T : Top topProg loose mean mg mb h₀) (C : CodeHd h₀ 37 33) (N : News h₀ L s.heap [(D, W.listOf ws.toArray n0), (33, tabObj #[])]) (hI : IntsAre ws ns) (hlen : ns.length ≤ 6) (hD : 33 < D)
  (m1 : m (Str.ofString "drawn") = some (.ref D))
  (hQ : ∀ (ts : Option Codes) (m' : Str → Option Value) h tk, TabOk ts → Fr h₀ L h m' → News h₀ L h (tabL ts) → Q (.ret (.bool true)) { s with heap := h, toks := tk }) :
  wpAny (model Challenge.rw_rs0057_01.row.prog w) (Around.deeper ⟨none, d, some outer, gd, un⟩ (lawEnv w L fa cd)) (execs ((funStmts (hd.heap_39 w.params) 64).drop 1) (lawEnv w L fa cd)) Q (fun _ _ => False) s := by
  revert X; k_fill; intro X
  with_unfolding_all refine (id ?_ : wpAny (model _ _) _ (execs [_, _, _, _, _, _, _, _, _] _) _ _ _)
  k_steps
  refine wpAny_call (text_spec (X.keeps F.keep) (T.keeps F.keep) (by show d + 1 < 900; omega) ⟨_, (N (D, _) (.head _)).1, rfl, n0, rfl⟩ hI hlen fun text tt h1 tk1 hk1 hl1 h61 => ?_)
  have F1 := Fr_ext F hk1
  have N1 : News h₀ L h1 [(D, W.listOf ws.toArray n0), (33, tabObj #[])] := fun p hp => ⟨hk1 _ _ (N p hp).1, (N p hp).2⟩
  clear F N hk1
  k_steps
  rename Fr _ _ _ _ => F2
  rename News _ _ _ _ => N2
  refine pile_call F2 X T N2 (by show d + 1 < 1000; omega) (by omega) fun D3 lz left tl vz bs sz nz h3 tk3 F3 N3 hne3 hlt3 hI3 hP3 hb3 hs3 => ?_
  clear F2 N2
  k_steps
  rename Fr _ _ _ _ => F4
  rename News _ _ _ _ => N4
  obtain ⟨nw, hok, hrun, hnw, hpos, hs6⟩ := levels hP3 (by omega) (by omega) h61
  have hfs := fact_small hs6
  have N5 : News h₀ L _ ((lz, W.listOf vz.toArray nz) :: [(33, tabObj #[])]) := fun p hp => N4 p (by
    rcases List.mem_cons.mp hp with rfl | hp
    · exact .tail _ (.head _)
    · exact .tail _ (.tail _ (.tail _ hp)))
  clear N4
  refine wpAny_mono ?_ (fun _ _ x => x) (fun _ _ (x : False) => x.elim)
  with_unfolding_all refine (id ?_ : wpAny (model _ w) (Around.deeper ⟨none, d, some outer, gd, un⟩ (lawEnv w L fa cd)) (exec (lawSt w 4) (lawEnv w L fa cd)) _ _ _)
  refine ways_up (by omega) F4 X T N5 hI3 hs6 (by with_unfolding_all rfl) (by with_unfolding_all rfl) fun m5 tw5 h5 tk5 g1 g2 F5 N5 => ?_
  have e1 : m5 (Str.ofString "sizes") = some (.ref lz) := by rw [g2 _ (by decide +kernel) (by decide +kernel)]; with_unfolding_all rfl
  have e2 : m5 (Str.ofString "left") = some (.str left tl) := by rw [g2 _ (by decide +kernel) (by decide +kernel)]; with_unfolding_all rfl
  have e3 : m5 (Str.ofString "text") = some (.str text tt) := by rw [g2 _ (by decide +kernel) (by decide +kernel)]; with_unfolding_all rfl
  clear g2 F4
  k_steps
  refine wpAny_mono ?_ (fun _ _ x => x) (fun _ _ (x : False) => x.elim)
  with_unfolding_all refine (id ?_ : wpAny (model _ w) (Around.deeper ⟨none, d, some outer, gd, un⟩ (lawEnv w L fa cd)) (exec (lawSt w 5) (lawEnv w L fa cd)) _ _ _)
  refine ways_down (by omega) F5 X T N5 hI3 hs6 hpos e1 g1 (by omega) (by omega) fun m6 tw6 h6 tk6 g2 g3 F6 N6 => ?_
  rw [hnw] at g2
  have e4 : m6 (Str.ofString "left") = some (.str left tl) := by rw [g3 _ (by decide +kernel) (by decide +kernel)]; exact e2
  have e5 : m6 (Str.ofString "text") = some (.str text tt) := by rw [g3 _ (by decide +kernel) (by decide +kernel)]; exact e3
  clear g3 g1 e1 e2 e3 F5
  have N7 : News h₀ L h6 (tabL none ++ []) := fun p hp => N6 p (.tail _ hp)
  clear N6
  k_steps
  refine wpAny_mono ?_ (fun _ _ x => x) (fun _ _ (x : False) => x.elim)
  with_unfolding_all refine (id ?_ : wpAny (model _ w) (Around.deeper ⟨none, d, some outer, gd, un⟩ (lawEnv w L fa cd)) (exec (lawSt w 6) (lawEnv w L fa cd)) _ _ _)
  refine ends_test hroom hun B F6 X T C N7 trivial (fun _ q => nomatch q) e5 e4 g2 (by omega) hok hrun fun ts8 h8 tk8 t8 F8 N8 _ => ?_
  obtain ⟨YY, hYY⟩ : ∃ YY, YY = tabL ts8 ++ [] := ⟨_, rfl⟩
  rw [← hYY] at N8
  clear F6 N7
  k_steps
  rename Fr _ _ _ _ => F9
  rename News _ _ _ _ => N9
  subst hYY
  have hwl : (Str.ofString " A" ++ text ++ Str.ofString " ").length ≤ 30 := by
    rw [← len_toList, toList_append, toList_append, List.length_append, List.length_append, len_toList, len_toList, len_toList]
    have q1 : (Str.ofString " A").length = 2 := by decide +kernel
    have q2 : (Str.ofString " ").length = 1 := by decide +kernel
    omega
  refine wpAny_mono ?_ (fun _ _ x => x) (fun _ _ (x : False) => x.elim)
  with_unfolding_all refine (id ?_ : wpAny (model _ w) (Around.deeper ⟨none, d, some outer, gd, un⟩ (lawEnv w L fa cd)) (exec (lawSt w 8) (lawEnv w L fa cd)) _ _ _)
  refine first_loop (by omega) B F9 X T C N9 t8 (fun _ q => nomatch q) (by rw [if_pos rfl]) hwl fun ts10 m10 h10 tk10 t10 F10 N10 => ?_
  rw [List.append_nil] at N10
  k_steps
  exact hQ ts10 m10 h10 _ t10 F10 N10
end Mine
end L5
section L6
open PySem PySem.W PyProof.Rows PySem.Calls PyProof.V
namespace Mine
set_option maxRecDepth 100000
set_option maxHeartbeats 8000000
local macro_rules | `(tactic| k_steps) => `(tactic| repeat' (first | ((fail_if_success (with_reducible show wpAny _ _ (execs [_, _, _, _, _, _, _, _, _] _) _ _ _)); (first | (k_unfold; (try dsimp only)) | (k_end; wrow_close) | walk1 | (dsimp only; walk1) | (leave1; walk_say "STEP leave1"; try dsimp only))) | fail "no step"))
theorem fresh_L6 : True := by w_top off; exact True.intro
theorem tab_grown {h₀ h : Heap} {L : Addr} : ∀ {ts : Option Codes}, News h₀ L h (tabL ts) → GrownAll [(37, 33)] h
  | none, N => ⟨GrownAt.of N (.head _), trivial⟩
  | some _, N => ⟨GrownAt.of N (.head _), trivial⟩

theorem law_holds : PySem.Challenge.rw_rs0057_01.Holds := hd (by
  w_strict (
    k_go0
    all_goals try k_fold
    k_steps
    dsimp only
    rename World => w
    rename Fr _ _ _ _ => F1
    rename News _ _ _ _ => N1
    rename Frag.In _ _ => X1
    rename Below _ _ _ _ => B1
    rename Top topProg _ _ _ _ _ => T1
    rename IntsAre _ (List.take 6 _) => I1
    rename _ < (_ : Addr) => l1
    rename CodeHd _ _ _ => C1
    rename _ = (#[] : Array _) => g1
    refine wpAny_mono ?_ (fun _ _ x => x) (fun _ _ (x : False) => x.elim)
    with_unfolding_all refine law_rest (d := 1 + claimMargin) (gd := some []) (un := 4) (by decide) (by decide) B1 F1 X1 T1 C1 N1 I1 (by rw [List.length_take]; omega) l1 (by rfl) fun ts m' h' tk t1 F2 N2 => ?_
    refine And.intro (goodW_bool F2 g1 (raisesW_false ?_) ?_) (tab_grown N2)
    · wrow_none_raised
    · wrow_post))
end Mine
theorem PySem.Challenge.cw_rs0057_01_holds : PySem.Challenge.rw_rs0057_01.Holds :=
  Mine.law_holds
end L6
