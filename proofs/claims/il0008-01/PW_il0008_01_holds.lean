import PyProof.Rows.All
import Wide.All
import OpenK.AllK
import Wide.FinOn
import PyProof.FactsAll.set
import PySem.Challenge.RW_il0008_01
open PySem PySem.W PyProof.Rows PySem.Calls PySem.Spec
set_option Elab.async false
set_option maxRecDepth 100000
set_option linter.all false
set_option maxHeartbeats 8000000
namespace Mine
theorem findSame : Manifest.find? = Manifest.find? := rfl
name_quick tw8075568018651887793 for Manifest.find? by findSame
name_quick tw14155059817488271165 for Manifest.find? by findSame
name_quick tw14979626087600564940 for Manifest.find? by findSame
name_quick tw2313353295222260650 for Manifest.find? by findSame
name_quick tw6462780390474129891 for Manifest.find? by findSame
name_quick tw4565691546616451037 for Manifest.find? by findSame
name_quick tw7131626054202286345 for Manifest.find? by findSame
name_quick tw2859041830047134086 for Manifest.find? by findSame
name_quick tw9979430417999036659 for Manifest.find? by findSame
name_quick tw8493081402897344701 for Manifest.find? by findSame
name_quick tw16487347958798203451 for Manifest.find? by findSame
name_quick tw8686526503394165142 for Manifest.find? by findSame
name_quick tw9274575747777397700 for Manifest.find? by findSame
open_top hd for PySem.Challenge.rw_il0008_01
end Mine
noncomputable section
namespace Mine

/-- a def of the text is entered: the base of its frame is the heap as it stood -/
theorem enter {prog : Program} {w : World} {A : Around} {s : Shared} {K : Frag}
    {R : Result → Shared → Prop} {name qual : Str} {params : Arguments} {body : List Stmt} {scope : Scope} {dV kV doc pm cdv ct oc : Value} {an od : Option Addr} {osl : Array (Option Value)} {f : Addr} {args : Args} {binds : List (Str × Value)}
    (X : K.In s.heap) (hlim : s.heap.NoLimit)
    (ho : K.lookup f = some ⟨oc, od, .func (fnOf name qual params body scope dV kV doc pm an cdv ct), osl⟩) (hcd : codeIn K cdv qual = true) (hroom : A.depth < recursionLimit)
    (hbind : BindsTo s (fnOf name qual params body scope dV kV doc pm an cdv ct) args binds) (hloc : ∀ y ∈ binds, scope.names.lookup y.1 = some .local)
    (h : ∀ g L' h₁, g = s.heap → Fr g L' h₁ (fun y => binds.reverse.lookup y) → News g L' h₁ [] → K.In g → 
      wpAny (model prog w) (A.deeper (envOf qual scope L' f cdv)) (execs body (envOf qual scope L' f cdv))
        (fun fl s' => R (.ok (.ret (match fl with | .ret v => v | _ => .none))) s')
        (fun e s' => wpAny (model prog w) (A.deeper (envOf qual scope L' f cdv)) (leaving (envOf qual scope L' f cdv) e) (fun _ s'' => R (.error e) s'') (fun e' s'' => R (.error e') s'') s')
        { s with heap := h₁, toks := s.toks + binds.length })
    (hco : scope.isCoroutine = false) (hgen : scope.isGenerator = false) (hk : scope.kind = .function)
    (hcell : ∀ x ∈ scope.names, x.2 ≠ .cell) : codeAny (model prog w) A (.call (.ref f) args) R s := by
  refine codeAny_call_def (fd := fnOf name qual params body scope dV kV doc pm an cdv ct) (body := body) (binds := binds) hroom (X _ _ ho) rfl hlim (codeRec_of X hcd) rfl hbind hcell hloc (fun h₁ hns hk₁ => ?_) hco hgen hk
  exact h s.heap s.heap.objs.size h₁ rfl ⟨hns, hk₁, Nat.le_refl _⟩ News.nil X

noncomputable abbrev Lo : List Str := looseW hd.view_39 [Str.ofString "islice", Str.ofString "filterfalse", Str.ofString "_dedupe"]

/-- what stands at every heap of the call -/
def Gd (w : World) (h : Heap) : Prop := (hd.heap_39 w.params).In h ∧ ∃ mean mg mb, Top hd.view_39 Lo mean mg mb h

theorem Gd.keeps {w : World} {h h' : Heap} (G : Gd w h) (k : ∀ b o, h.get? b = some o → h'.get? b = some o) : Gd w h' :=
  ⟨G.1.keeps k, let ⟨a, b, c, T⟩ := G.2; ⟨a, b, c, T.keeps k⟩⟩
theorem Gd.lim {w : World} {h : Heap} (G : Gd w h) : h.NoLimit := let ⟨_, _, _, T⟩ := G.2; T.nolimit

noncomputable abbrev M (w : World) : Model := model PySem.Challenge.rw_il0008_01.row.prog w


noncomputable abbrev ar (dp : Nat) (fr : Option (List Env)) (gd : Option (List Code)) (un : Nat) : Around := { handled := none, depth := dp, frames := fr, guards := gd, units := un }

end Mine
end
noncomputable section
namespace Mine

theorem fr_up {g h h' : Heap} {L : Addr} {m : Str → Option Value} (F : Fr g L h m) (k : h.StaysIn h') : Fr g L h' m :=
  ⟨F.ns.keeps k, fun b o e => k b o (F.keep b o e), F.above⟩
theorem news_up {g h h' : Heap} {L : Addr} {news : List (Addr × Obj)} (N : News g L h news) (k : h.StaysIn h') : News g L h' news :=
  fun p hp => ⟨k _ _ (N p hp).1, (N p hp).2⟩
theorem news_new {g h h' : Heap} {L r : Addr} {o : Obj} {m : Str → Option Value} {news : List (Addr × Obj)} (F : Fr g L h m) (N : News g L h' news) (hn : h.get? r = none) (ho : h'.get? r = some o) : News g L h' ((r, o) :: news) := by
  intro p hp
  rcases List.mem_cons.mp hp with e | hp
  · subst e
    refine ⟨ho, fun e => ?_, ?_⟩
    · obtain ⟨oL, _, _, hL, _⟩ := F.ns
      have e' : r = L := e
      rw [e', hL] at hn; cases hn
    · show g.get? r = none
      cases q : g.get? r with
      | none => rfl
      | some o' => rw [F.keep _ _ q] at hn; cases hn
  · exact N p hp

set_option maxHeartbeats 4000000 in
theorem kind_spec {w : World} {dp un : Nat} {fr : Option (List Env)} {gd : Option (List Code)} {s : Shared} {n x : Str} {tn t : Tok} {Q E : Value → Shared → Prop} (hD : dp + 1 < recursionLimit) (hU : un + 6 < cLine)
    (G : Gd w s.heap) 
    (ret : ∀ h' tk t', s.heap.StaysIn h' → Q (.str (Str.ofString "") t') { s with heap := h', toks := tk }) :
    wpAny (M w) (ar dp fr gd un) (call (.ref 126) [.str n tn, .str x t]) Q E s := by
  have G0 := G
  unfold M; revert G; unfold Gd; k_fill; intro G
  obtain ⟨X, mean, mg, mb, T⟩ := G
  refine wpAny_call ?_
  k_dflt (refine' enter (binds := [(Str.ofString "name", .str n tn), (Str.ofString "x", .str x t)]) X T.nolimit ?k6 ?k7 ?k8 ?k9 ?kB ?_ ?c2 ?c3 ?c4 ?c5; (case k6 => k_is); (case k7 => k_is); (case k8 => (dsimp only; omega)); (case k9 => exact BindsTo.of_eq rfl); (case c5 => decide); (case kB => exact locs rfl); (case c2 => exact rfl); (case c3 => exact rfl); (case c4 => exact rfl))
  intro g L' h' hg F' N' X'
  subst hg
  (try dsimp only)
  (try k_fold)
  k_steps
  exact ret _ _ _ (Fr.keep (by assumption))

set_option maxHeartbeats 4000000 in
theorem fspath_spec {w : World} {dp un : Nat} {fr : Option (List Env)} {gd : Option (List Code)} {s : Shared} {n x : Str} {tn t : Tok} {Q E : Value → Shared → Prop} (hD : dp + 2 < recursionLimit) (hU : un + 9 < cLine)
    (G : Gd w s.heap) 
    (ret : ∀ h' tk, s.heap.StaysIn h' → Q (.str x t) { s with heap := h', toks := tk }) :
    wpAny (M w) (ar dp fr gd un) (call (.ref 133) [.str n tn, .str x t]) Q E s := by
  have G0 := G
  unfold M; revert G; unfold Gd; k_fill; intro G
  obtain ⟨X, mean, mg, mb, T⟩ := G
  refine wpAny_call ?_
  k_dflt (refine' enter (binds := [(Str.ofString "name", .str n tn), (Str.ofString "x", .str x t)]) X T.nolimit ?k6 ?k7 ?k8 ?k9 ?kB ?_ ?c2 ?c3 ?c4 ?c5; (case k6 => k_is); (case k7 => k_is); (case k8 => (dsimp only; omega)); (case k9 => exact BindsTo.of_eq rfl); (case c5 => decide); (case kB => exact locs rfl); (case c2 => exact rfl); (case c3 => exact rfl); (case c4 => exact rfl))
  intro g L' h' hg F' N' X'
  subst hg
  (try dsimp only)
  (try k_fold)
  k_steps
  rename Fr _ _ _ _ => F'
  rename News _ _ _ _ => N'
  refine kind_spec (w := w) (by dsimp only; omega) (by dsimp only; omega) (G0.keeps (Fr.keep (by assumption)))  ?_
  intro h2 tk2 t2 k2
  replace F' := fr_up F' k2
  replace N' := news_up N' k2
  dsimp only at F' N' ⊢
  k_steps
  exact ret _ _ (Fr.keep (by assumption))
end Mine
end
noncomputable section
namespace Mine

def slash : Str := Str.ofString "/"
/-- the head that split gives -/
def headF (x : Str) : Str :=
  let h := Txt.slice x none (some (Txt.rfind x slash + 1))
  if h.length = 0 then h else if (h != Txt.mul slash h.length) = true then Txt.rstripChars h slash else h

/-- what _ancestry gives from a path on -/
inductive Anc : Str → List Str → Prop
  | stop {p : Str} : p.length ≤ 100 → (Txt.rstripChars p slash).length = 0 → Anc p []
  | step {p : Str} {r : List Str} : (Txt.rstripChars p slash).length ≠ 0 → p.length ≤ 100 → Anc (headF p) r → Anc p (p :: r)
theorem Anc.short {p : Str} {r : List Str} (h : Anc p r) : p.length ≤ 100 := by cases h <;> assumption
/-- the generators stay bare -/
def AB (a b : Array GenState) : Prop := AllBare a → AllBare b
theorem AB.refl (a : Array GenState) : AB a a := id
theorem AB.trans {a b c : Array GenState} (x : AB a b) (y : AB b c) : AB a c := fun h => y (x h)
theorem AB.push {a : Array GenState} {y : GenState} (h : y.bare = true) : AB a (a.push y) := fun x => x.push h
theorem AB.setGen (s : Shared) (g : Nat) {y : GenState} (h : y.bare = true) : AB s.gens (s.setGen g y).gens := fun x z hz => by
  rcases Array.mem_or_eq_of_mem_setIfInBounds hz with q | q
  · exact x z q
  · rw [q]; exact h
end Mine
end
noncomputable section
open PySem.Builtin PySem.Builtin.Str
namespace Mine

abbrev L (x : Str) : List Nat := x.cps.toList
theorem L_len (x : Str) : (L x).length = x.length := by simp [L, Str.length]
theorem L_inj {x y : Str} (h : L x = L y) : x = y := by
  cases x with | mk a => cases y with | mk b =>
  have : a.toList = b.toList := h
  rw [Array.toList_inj.mp this]
theorem L_app (x y : Str) : L (x ++ y) = L x ++ L y := by simp [L, Str.cps_append]
theorem L_slash : L slash = [47] := by decide +kernel

def clipI (i : Int) (n : Nat) : Nat := (max 0 (min (if i < 0 then i + n else i) (n : Int))).toNat
def loI (l : Option Int) (n : Nat) : Nat := match l with | none => 0 | some i => clipI i n
def hiI (u : Option Int) (n : Nat) : Nat := match u with | none => n | some i => clipI i n
theorem clipI_le (i : Int) (n : Nat) : clipI i n ≤ n := by unfold clipI; split <;> omega
theorem loI_le (l : Option Int) (n : Nat) : loI l n ≤ n := by cases l; exact Nat.zero_le _; exact clipI_le _ _
theorem hiI_le (l : Option Int) (n : Nat) : hiI l n ≤ n := by cases l; exact Nat.le_refl _; exact clipI_le _ _

theorem idx_eq (l u : Option Int) (n : Nat) : strSliceIndices l u 1 n = (List.range (hiI u n - loI l n)).map (fun k => loI l n + k) := by
  have key : ∀ (a b : Nat), (List.range ((if (a : Int) < (b : Int) then ((b : Int) - (a : Int) + 1 - 1) / 1 else 0).toNat)).map (fun (k : Nat) => ((a : Int) + 1 * (k : Int)).toNat) = (List.range (b - a)).map (fun k => a + k) := by
    intro a b
    by_cases h : (a : Int) < b
    · have e : (((b : Int) - (a : Int) + 1 - 1) / 1).toNat = b - a := by
        rw [Int.ediv_one]; omega
      rw [if_pos h, e]
      refine List.map_congr_left fun k _ => by omega
    · have e : b - a = 0 := by omega
      rw [if_neg h, e]; rfl
  have ea : ∀ i : Int, max (0 : Int) (min (if i < 0 then i + (n : Int) else i) (n : Int)) = ((clipI i n : Nat) : Int) := by
    intro i; unfold clipI; split <;> omega
  unfold strSliceIndices sliceRange
  cases l with
  | none => cases u with
    | none => simp only [show (1 : Int) > 0 from by decide, if_true]; exact key 0 n
    | some j => simp only [show (1 : Int) > 0 from by decide, if_true, ea]; exact key 0 (clipI j n)
  | some i => cases u with
    | none => simp only [show (1 : Int) > 0 from by decide, if_true, ea]; exact key (clipI i n) n
    | some j => simp only [show (1 : Int) > 0 from by decide, if_true, ea]; exact key (clipI i n) (clipI j n)

theorem slice_L (x : Str) (l u : Option Int) : L (Txt.slice x l u) = ((L x).drop (loI l x.length)).take (hiI u x.length - loI l x.length) := by
  unfold Txt.slice
  have h1 := loI_le l x.length
  have h2 := hiI_le u x.length
  have hlen : (L x).length = x.length := L_len x
  rw [idx_eq]
  split
  · rename_i h
    have hl : hiI u x.length - loI l x.length = x.length := by simpa using h
    have e1 : loI l x.length = 0 := by omega
    rw [hl, e1, List.drop_zero, ← hlen, List.take_length]
  · show (List.filterMap (fun k => x.cps[k]?) ((List.range (hiI u x.length - loI l x.length)).map fun k => loI l x.length + k)) = _
    by_cases h : loI l x.length ≤ hiI u x.length
    · have := StrLaws.picks (L x) (hiI u x.length - loI l x.length) (loI l x.length) (by rw [hlen]; omega)
      simpa [L] using this
    · have e : hiI u x.length - loI l x.length = 0 := by omega
      rw [e]; simp

theorem drop_takeWhile_rev (p : Nat → Bool) (l : List Nat) : l.take (l.length - (l.reverse.takeWhile p).length) = (l.reverse.dropWhile p).reverse := by
  have h : l.reverse.takeWhile p ++ l.reverse.dropWhile p = l.reverse := List.takeWhile_append_dropWhile
  have h2 : l = (l.reverse.dropWhile p).reverse ++ (l.reverse.takeWhile p).reverse := by
    rw [← List.reverse_append, h, List.reverse_reverse]
  have h3 : l.length - (l.reverse.takeWhile p).length = (l.reverse.dropWhile p).reverse.length := by
    have := congrArg List.length h2
    simp at this ⊢; omega
  rw [h3]
  conv => lhs; rw [h2]
  simp

def rsL (c : Nat) (l : List Nat) : List Nat := (l.reverse.dropWhile (· == c)).reverse

theorem rstrip_L (x : Str) (c : Nat) : L (Txt.rstripChars x ⟨#[c]⟩) = rsL c (L x) := by
  unfold Txt.rstripChars
  rw [PyProof.Rows.stripBy_eq]
  show L (strSub x 0 (stripHi _ true x 0)) = _
  show (strSub x 0 _).cps.toList = _
  rw [StrLaws.strSub_toList]
  simp only [stripHi, if_true, List.drop_zero, Nat.sub_zero]
  have e : (fun d : Nat => (⟨#[c]⟩ : Str).cps.contains d) = (fun d => d == c) := by
    funext d; simp [Array.contains]
  rw [← L_len x]
  have := drop_takeWhile_rev (fun d => d == c) (L x)
  rw [show ((⟨#[c]⟩ : Str).cps.contains) = (fun d => d == c) from e]
  exact this

theorem join_flat (c : Nat) (z : Str) : ∀ parts : List Str, (∀ p ∈ parts, c ∉ L p) →
    L (Str.join z parts) = (L (Str.join ⟨#[c]⟩ parts)).flatMap (fun d => if d = c then L z else [d]) := by
  have free : ∀ l : List Nat, c ∉ l → l.flatMap (fun d => if d = c then L z else [d]) = l := by
    intro l h
    induction l with
    | nil => rfl
    | cons a r ih =>
      have h1 : a ≠ c := fun e => h (e ▸ List.mem_cons_self ..)
      rw [List.flatMap_cons, if_neg h1, ih (fun m => h (List.mem_cons_of_mem _ m))]; rfl
  intro parts
  induction parts with
  | nil => intro _; rfl
  | cons p r ih =>
    intro h
    cases r with
    | nil => exact (free _ (h p (List.mem_singleton.mpr rfl))).symm
    | cons q r =>
      have ih' := ih fun a ha => h a (List.mem_cons_of_mem _ ha)
      show L (p ++ z ++ Str.join z (q :: r)) = (L (p ++ ⟨#[c]⟩ ++ Str.join ⟨#[c]⟩ (q :: r))).flatMap _
      simp only [L_app, List.flatMap_append]
      rw [ih', free _ (h p (List.mem_cons_self ..))]
      simp [L]

theorem replace_L (x z : Str) (c : Nat) : L (Txt.replace x ⟨#[c]⟩ z) = (L x).flatMap (fun d => if d = c then L z else [d]) := by
  rw [StrLaws.replace_one, join_flat c z _ (StrLaws.split_free x c), StrLaws.join_split]

theorem flat_len (c : Nat) (z : List Nat) (k : Nat) (hz : z.length ≤ k) (hk : 1 ≤ k) : ∀ l : List Nat, (l.flatMap (fun d => if d = c then z else [d])).length ≤ l.length * k
  | [] => by simp
  | a :: r => by
    have ih := flat_len c z k hz hk r
    rw [List.flatMap_cons, List.length_append, List.length_cons]
    have : (if a = c then z else [a]).length ≤ k := by split; exact hz; simpa using hk
    rw [Nat.add_mul]; omega

theorem replace_len (x z : Str) (c k : Nat) (hz : z.length ≤ k) (hk : 1 ≤ k) : (Txt.replace x ⟨#[c]⟩ z).length ≤ x.length * k := by
  rw [← L_len, replace_L, ← L_len x]
  exact flat_len c _ k (by rw [L_len]; exact hz) hk _

theorem lit_slash : Str.ofString "/" = ⟨#[47]⟩ := by decide +kernel
theorem slash_is : slash = ⟨#[47]⟩ := by decide +kernel
end Mine
end
noncomputable section
namespace Mine

def AllOk (ss : List Str) : Prop := ∀ x ∈ ss, PyData.strOk x = true
theorem canLayAll_strs : ∀ ss : List Str, AllOk ss → PyData.canLayAll0 (ss.map PyData.str) = true
  | [], _ => rfl
  | x :: r, h => by simp [PyData.canLayAll0, PyData.canLay0, canLayAll_strs r fun y hy => h y (List.mem_cons_of_mem _ hy), h x (List.mem_cons_self ..)]
theorem depthAll_strs : ∀ ss : List Str, PyData.depthAll (ss.map PyData.str) = 0
  | [] => rfl
  | _ :: r => by simp [PyData.depthAll, PyData.depth, depthAll_strs r]
theorem shaped_strs {ss : List Str} (h : AllOk ss) : SeqAt.shaped (.list (ss.map PyData.str)) = true := by
  simp [SeqAt.shaped, PyData.canLay0, PyData.depth, canLayAll_strs _ h, depthAll_strs]
theorem sameAll_strs : ∀ ss ts : List Str, PySem.Spec.sameAll (ss.map PyData.str) (ts.map PyData.str) = decide (ss = ts)
  | [], [] => by simp [PySem.Spec.sameAll]
  | [], _ :: _ => by simp [PySem.Spec.sameAll]
  | _ :: _, [] => by simp [PySem.Spec.sameAll]
  | a :: r, b :: t => by
    simp only [List.map_cons, PySem.Spec.sameAll, PySem.Spec.same, sameAll_strs r t]
    by_cases h : a = b <;> by_cases h' : r = t <;> simp [h, h']
section
variable {prog : Program} {w : World} {A : Around} {E : Value → Shared → Prop} {s : Shared} {a b : Addr} {xs ys : List Value} {ss ts : List Str} {Q : Value → Shared → Prop}
theorem eq_strs (ha : s.heap.IsList a xs.toArray) (hb : s.heap.IsList b ys.toArray) (hi : StrsAre xs ss) (hj : StrsAre ys ts) (os : AllOk ss) (ot : AllOk ts) (hu : A.units + 64 < cLine) (h : Q (.bool (decide (ss = ts))) s) :
    wpAny (model prog w) A (compareOp .Eq (.ref a) (.ref b)) Q E s :=
  eq_dataH_same (reads_newData ha hi.carried) (reads_newData hb hj.carried) (shaped_strs os) (shaped_strs ot) hu (SeqAt.noMix_of_shape (.list .str) rfl _ _ (list_map_has fun _ => rfl) (list_map_has fun _ => rfl)) (by
    rw [show PySem.Spec.same (.list (ss.map PyData.str)) (.list (ts.map PyData.str)) = decide (ss = ts) from by simp only [PySem.Spec.same]; exact sameAll_strs ss ts]; exact h)
theorem ne_strs (ha : s.heap.IsList a xs.toArray) (hb : s.heap.IsList b ys.toArray) (hi : StrsAre xs ss) (hj : StrsAre ys ts) (os : AllOk ss) (ot : AllOk ts) (hu : A.units + 64 < cLine) (h : Q (.bool (!decide (ss = ts))) s) :
    wpAny (model prog w) A (compareOp .NotEq (.ref a) (.ref b)) Q E s :=
  ne_dataH_same (reads_newData ha hi.carried) (reads_newData hb hj.carried) (shaped_strs os) (shaped_strs ot) hu (SeqAt.noMix_of_shape (.list .str) rfl _ _ (list_map_has fun _ => rfl) (list_map_has fun _ => rfl)) (by
    rw [show PySem.Spec.same (.list (ss.map PyData.str)) (.list (ts.map PyData.str)) = decide (ss = ts) from by simp only [PySem.Spec.same]; exact sameAll_strs ss ts]; exact h)

theorem eq_pair {p q x y : Str} {tp tq tx ty : Tok} (h1 : s.heap.IsTuple a #[.str p tp, .str x tx]) (h2 : s.heap.IsTuple b #[.str q tq, .str y ty]) (hu : A.units < cLine) (h : Q (.bool (p == q && x == y)) s) :
    wpAny (model prog w) A (compareOp .Eq (.ref a) (.ref b)) Q E s := by
  refine SeqAt.eq_tupleAt (e := fun j => if j = 0 then p == q else x == y) h1 h2 hu ?_ ?_
  · intro j hj1 hj2
    match j, hj1 with
    | 0, _ => exact SeqAt.EqAt.str_str _ _ _ _
    | 1, _ => exact SeqAt.EqAt.str_str _ _ _ _
  · have : (List.range (min (#[Value.str p tp, Value.str x tx] : Array Value).size (#[Value.str q tq, Value.str y ty] : Array Value).size)).all (fun j => if j = 0 then p == q else x == y) = (p == q && x == y) := by
      simp [List.range, List.range.loop]
    rw [this]; simpa using h
end
end Mine
end
noncomputable section
namespace Mine

theorem headF_a {x : Str} (h1 : ((Txt.slice x none (some (Txt.rfind x (Str.ofString "/") + 1))).length : Int) ≠ 0) (h2 : (Txt.slice x none (some (Txt.rfind x (Str.ofString "/") + 1)) != Txt.mul (Str.ofString "/") ((Txt.slice x none (some (Txt.rfind x (Str.ofString "/") + 1))).length : Int)) = true) :
    headF x = Txt.rstripChars (Txt.slice x none (some (Txt.rfind x (Str.ofString "/") + 1))) (Str.ofString "/") := by
  unfold headF slash
  dsimp only
  rw [if_neg (by omega), if_pos h2]
theorem headF_b {x : Str} (h1 : ((Txt.slice x none (some (Txt.rfind x (Str.ofString "/") + 1))).length : Int) ≠ 0) (h2 : (Txt.slice x none (some (Txt.rfind x (Str.ofString "/") + 1)) != Txt.mul (Str.ofString "/") ((Txt.slice x none (some (Txt.rfind x (Str.ofString "/") + 1))).length : Int)) = false) :
    headF x = Txt.slice x none (some (Txt.rfind x (Str.ofString "/") + 1)) := by
  unfold headF slash
  dsimp only
  rw [if_neg (by omega), if_neg (by rw [h2]; decide)]
theorem headF_c {x : Str} (h1 : ((Txt.slice x none (some (Txt.rfind x (Str.ofString "/") + 1))).length : Int) = 0) :
    headF x = Txt.slice x none (some (Txt.rfind x (Str.ofString "/") + 1)) := by
  unfold headF slash
  dsimp only
  rw [if_pos (by omega)]
def markF (x : Str) : Str := Str.ofString "z" ++ Txt.replace x (Str.ofString "/") (Str.ofString "/z")
theorem markF_len {x : Str} (h : x.length ≤ 100) : (Txt.replace x (Str.ofString "/") (Str.ofString "/z")).length ≤ 200 := by
  have e : Str.ofString "/" = ⟨#[47]⟩ := by decide +kernel
  rw [e]
  exact Nat.le_trans (replace_len x _ 47 2 (by decide +kernel) (by decide)) (by omega)
def prefixF (x : Str) : Str := if (Txt.slice x (some (-1)) none != Str.ofString "/") = true then x ++ Str.ofString "/" else x
def baseF (x : Str) : Str := if (Txt.slice x (some (-1)) none == Str.ofString "/") = true then Txt.slice x none (some (-1)) else x
def coverF (x y : Str) (ss : List Str) : Bool := x == y || ss.any (· == markF (baseF x))

set_option maxHeartbeats 4000000 in
theorem split_spec {w : World} {dp un : Nat} {fr : Option (List Env)} {gd : Option (List Code)} {s : Shared} {x : Str} {t : Tok} {Q E : Value → Shared → Prop} (hD : dp + 3 < recursionLimit) (hU : un + 12 < cLine)
    (G : Gd w s.heap) (hx : x.length ≤ 100)
    (ret : ∀ r t1 t2 tl h' tk, s.heap.StaysIn h' → s.heap.get? r = none → h'.get? r = some { cls := .type "tuple", data := .seq #[.str (headF x) t1, .str tl t2] } → Q (.ref r) { s with heap := h', toks := tk }) :
    wpAny (M w) (ar dp fr gd un) (call (.ref 140) [.str x t]) Q E s := by
  have G0 := G
  unfold M; revert G; unfold Gd; k_fill; intro G
  obtain ⟨X, mean, mg, mb, T⟩ := G
  refine wpAny_call ?_
  k_dflt (refine' enter (binds := [(Str.ofString "p", .str x t)]) X T.nolimit ?k6 ?k7 ?k8 ?k9 ?kB ?_ ?c2 ?c3 ?c4 ?c5; (case k6 => k_is); (case k7 => k_is); (case k8 => (dsimp only; omega)); (case k9 => exact BindsTo.of_eq rfl); (case c5 => decide); (case kB => exact locs rfl); (case c2 => exact rfl); (case c3 => exact rfl); (case c4 => exact rfl))
  intro g L' h' hg F' N' X'
  subst hg
  (try dsimp only)
  (try k_fold)
  have ret' : ∀ V r t1 t2 tl h' tk, s.heap.StaysIn h' → s.heap.get? r = none → h'.get? r = some { cls := .type "tuple", data := .seq #[.str V t1, .str tl t2] } → headF x = V → Q (.ref r) { s with heap := h', toks := tk } := by
    intro V r t1 t2 tl h' tk a b c e
    subst e
    exact ret r t1 t2 tl h' tk a b c
  k_steps
  rename Fr _ _ _ _ => F'
  rename News _ _ _ _ => N'
  refine fspath_spec (w := w) (by dsimp only; omega) (by dsimp only; omega) (G0.keeps (Fr.keep (by assumption)))  ?_
  intro h2 tk2 k2 
  replace F' := fr_up F' k2
  replace N' := news_up N' k2
  dsimp only at F' N' ⊢
  k_steps
  all_goals (
    rename Fr _ _ _ _ => F9
    rename News _ _ _ _ => N9
    refine ret' _ _ _ _ _ _ _ F9.keep (N9.fresh (.head _)) (N9.get (.head _)) ?_
    first | exact headF_a (by assumption) (by assumption) | exact headF_b (by assumption) (by assumption) | exact headF_c (by assumption))

set_option maxHeartbeats 4000000 in
theorem marked_spec {w : World} {dp un : Nat} {fr : Option (List Env)} {gd : Option (List Code)} {s : Shared} {x : Str} {t : Tok} {Q E : Value → Shared → Prop} (hD : dp + 1 < recursionLimit) (hU : un + 6 < cLine)
    (G : Gd w s.heap) (hx : x.length ≤ 100)
    (ret : ∀ h' tk t', s.heap.StaysIn h' → Q (.str (markF x) t') { s with heap := h', toks := tk }) :
    wpAny (M w) (ar dp fr gd un) (call (.ref 241) [.str x t]) Q E s := by
  have G0 := G
  unfold M; revert G; unfold Gd; k_fill; intro G
  obtain ⟨X, mean, mg, mb, T⟩ := G
  refine wpAny_call ?_
  k_dflt (refine' enter (binds := [(Str.ofString "name", .str x t)]) X T.nolimit ?k6 ?k7 ?k8 ?k9 ?kB ?_ ?c2 ?c3 ?c4 ?c5; (case k6 => k_is); (case k7 => k_is); (case k8 => (dsimp only; omega)); (case k9 => exact BindsTo.of_eq rfl); (case c5 => decide); (case kB => exact locs rfl); (case c2 => exact rfl); (case c3 => exact rfl); (case c4 => exact rfl))
  intro g L' h' hg F' N' X'
  subst hg
  (try dsimp only)
  (try k_fold)
  k_steps
  refine add_str ?_ (by have := markF_len hx; have e : (Str.ofString "z").length = 1 := by decide +kernel
                        rw [e, sizeLine_eq]; omega)
  intro t9 tk9
  exact ret _ _ _ (Fr.keep (by assumption))

set_option maxHeartbeats 4000000 in
theorem suburi_spec {w : World} {dp un : Nat} {fr : Option (List Env)} {gd : Option (List Code)} {s : Shared} {l0 l1 l2 : Addr} {a b x y : Str} {ta tb tx ty : Tok} {Q E : Value → Shared → Prop} (hD : dp + 1 < recursionLimit) (hU : un + 10 < cLine)
    (G : Gd w s.heap) (hx : x.length ≤ 100) (hy : y.length ≤ 100) (h1 : IsTup s.heap l1 #[.str a ta, .str x tx]) (h2 : IsTup s.heap l2 #[.str b tb, .str y ty])
    (ret : ∀ h' tk, s.heap.StaysIn h' → Q (.bool (if (a == b && x == y) = true then true else if (a != b) = true then false else Txt.startswith y (prefixF x))) { s with heap := h', toks := tk }) :
    wpAny (M w) (ar dp fr gd un) (call (.ref 198) [.ref l0, .ref l1, .ref l2]) Q E s := by
  have G0 := G
  unfold M; revert G; unfold Gd; k_fill; intro G
  obtain ⟨X, mean, mg, mb, T⟩ := G
  refine wpAny_call ?_
  k_dflt (refine' enter (binds := [(Str.ofString "self", .ref l0), (Str.ofString "base", .ref l1), (Str.ofString "test", .ref l2)]) X T.nolimit ?k6 ?k7 ?k8 ?k9 ?kB ?_ ?c2 ?c3 ?c4 ?c5; (case k6 => k_is); (case k7 => k_is); (case k8 => (dsimp only; omega)); (case k9 => exact BindsTo.of_eq rfl); (case c5 => decide); (case kB => exact locs rfl); (case c2 => exact rfl); (case c3 => exact rfl); (case c4 => exact rfl))
  intro g L' h' hg F' N' X'
  subst hg
  (try dsimp only)
  (try k_fold)
  have ret' : ∀ V h' tk, s.heap.StaysIn h' → (if (a == b && x == y) = true then true else if (a != b) = true then false else Txt.startswith y (prefixF x)) = V → Q (.bool V) { s with heap := h', toks := tk } := by
    intro V h' tk k e
    subst e
    exact ret h' tk k
  k_steps
  refine eq_pair (IsTup.keeps h1 F'.keep) (IsTup.keeps h2 F'.keep) (by simp only [Around.deeper]; omega) ?_
  k_steps
  all_goals (
    refine ret' _ _ _ (Fr.keep (by assumption)) ?_
    clear ret ret'
    simp_all [prefixF])

set_option maxHeartbeats 4000000 in
theorem covers_spec {w : World} {dp un : Nat} {fr : Option (List Env)} {gd : Option (List Code)} {s : Shared} {l2 : Addr} {vs : List Value} {ss : List Str} {x y : Str} {tx ty : Tok} {Q E : Value → Shared → Prop} (hD : dp + 2 < recursionLimit) (hU : un + 10 < cLine)
    (G : Gd w s.heap) (hx : x.length ≤ 100) (hy : y.length ≤ 100) (h1 : s.heap.IsList l2 vs.toArray) (h2 : StrsAre vs ss)
    (ret : ∀ h' tk, s.heap.StaysIn h' → Q (.bool (coverF x y ss)) { s with heap := h', toks := tk }) :
    wpAny (M w) (ar dp fr gd un) (call (.ref 248) [.str x tx, .str y ty, .ref l2]) Q E s := by
  have G0 := G
  unfold M; revert G; unfold Gd; k_fill; intro G
  obtain ⟨X, mean, mg, mb, T⟩ := G
  refine wpAny_call ?_
  k_dflt (refine' enter (binds := [(Str.ofString "head", .str x tx), (Str.ofString "name", .str y ty), (Str.ofString "above", .ref l2)]) X T.nolimit ?k6 ?k7 ?k8 ?k9 ?kB ?_ ?c2 ?c3 ?c4 ?c5; (case k6 => k_is); (case k7 => k_is); (case k8 => (dsimp only; omega)); (case k9 => exact BindsTo.of_eq rfl); (case c5 => decide); (case kB => exact locs rfl); (case c2 => exact rfl); (case c3 => exact rfl); (case c4 => exact rfl))
  intro g L' h' hg F' N' X'
  subst hg
  (try dsimp only)
  (try k_fold)
  have ret' : ∀ V h' tk, s.heap.StaysIn h' → coverF x y ss = V → Q (.bool V) { s with heap := h', toks := tk } := by
    intro V h' tk k e
    subst e
    exact ret h' tk k
  k_steps
  all_goals try (exact ret' _ _ _ (Fr.keep (by assumption)) (by simp_all [coverF]))
  all_goals (
    rename Fr _ _ _ _ => F'
    rename News _ _ _ _ => N'
    refine marked_spec (w := w) (by dsimp only; omega) (by dsimp only; omega) (G0.keeps (Fr.keep (by assumption))) (by first | assumption | omega) ?_
    intro h2 tk2 t2 k2
    replace F' := fr_up F' k2
    replace N' := news_up N' k2
    dsimp only at F' N' ⊢)
  all_goals k_steps
  all_goals (exact ret' _ _ _ (Fr.keep (by assumption)) (by clear ret ret'; simp_all [coverF, baseF]))
end Mine
end
noncomputable section
namespace Mine

def protoA (C : Addr) (b0 : Heap) (items : List Str) : Protocol := fun m s₀ v s kap =>
  (∃ x t, items[items.length - 1 - m]? = some x ∧ v = .str x t) ∧ GenSince C [] s₀ s ∧ (∃ o, s.heap.get? C = some o) ∧
    ∀ s'' : Shared, b0.StaysIn s''.heap → (∀ o, s.heap.get? C = some o → s''.heap.get? C = some o) → kap (.send .none) s''

abbrev endA (C : Addr) : GenEnd := fun n s₀ r s₁ => r = .ok (.ret .none) ∧ (n = 0 ∧ GenSince C [] s₀ s₁)

def PcE {α : Type} (C : Addr) (G : α → Heap → Prop) (s : Shared) (a : α) (s' : Shared) : Prop :=
  ∃ h' tk, s' = { s with heap := h', toks := tk } ∧ (∀ b o, b ≠ C → s.heap.get? b = some o → h'.get? b = some o) ∧ G a h'

/-- a piece of the generator's turn: it gives what G says, the frame's names alone are turned -/
abbrev Pc {α : Type} (w : World) (D U : Nat) (C : Addr) (t : Sem α) (I : Heap → Prop) (G : α → Heap → Prop) : Prop :=
  ∀ (dp un : Nat) (fr : Option (List Env)) (gd : Option (List Code)) (E : Value → Shared → Prop) (s : Shared), dp ≤ D → un ≤ U → I s.heap →
    wpAny (M w) (ar dp fr gd un) t (PcE C G s) E s

theorem gen_loop {w : World} {env : Env} {test ye : Expr} {ypos epos : Pos} {st : Stmt} {D U D₁ U₁ : Nat} {C : Addr} {b0 : Heap} {items : List Str} (Inv : Str → Heap → Prop) {fs : List Frame} {A : Around}
    (hco : env.scope.isCoroutine = false) (hint : interactive env = false)
    (hup : ∀ p h h', Inv p h → b0.StaysIn h' → (∀ o, h.get? C = some o → h'.get? C = some o) → Inv p h') (hlv : ∀ p h, Inv p h → ∃ o, h.get? C = some o)
    (Htest : ∀ p, p.length ≤ 100 → Pc w D₁ U₁ C (isTrue test env (eval test env)) (Inv p) (fun b h' => b = decide ((Txt.rstripChars p slash).length ≠ 0) ∧ Inv p h'))
    (Hy : ∀ p, p.length ≤ 100 → Pc w D₁ U₁ C (eval ye env) (Inv p) (fun v h' => (∃ t, v = .str p t) ∧ Inv p h'))
    (Hst : ∀ p, p.length ≤ 100 → Pc w D₁ U₁ C (exec st env) (Inv p) (fun f h' => f = .next ∧ Inv (headF p) h'))
    (hov : ∃ dp fr gd un, A.over (.whileLoop test [.Expr (.Yield (some ye) ypos) epos, st] [] env) fs = ar dp fr gd un ∧ dp ≤ D₁ ∧ un ≤ U₁)
    (hfs : splitAtGen fs = none) (hfg : fs.any Frame.guarded = false)
    (Hend : ∀ s₀ s, GenSince C [] s₀ s → Seg (M w) A (endA C) (protoA C b0 items) 0 s₀ (.whileLoop test [.Expr (.Yield (some ye) ypos) epos, st] [] env) (leafOf (.ok .next)) fs s) :
    ∀ (p : Str) (r : List Str), Anc p r → ∀ (pre : List Str), items = pre ++ r → ∀ s₀ s, Inv p s.heap → GenSince C [] s₀ s →
      Seg (M w) A (endA C) (protoA C b0 items) r.length s₀ (.whileLoop test [.Expr (.Yield (some ye) ypos) epos, st] [] env)
        ((M w).den (.whileLoop test [.Expr (.Yield (some ye) ypos) epos, st] [] env)) fs s := by
  obtain ⟨dp, fr, gd, un, hA, hdp, hun⟩ := hov
  intro p r hr
  induction hr with
  | @stop p hp h0 =>
    intro pre he s₀ s hI hs
    refine seg_whileLoop ?_
    rw [hA]
    refine wpAny_mono (Htest p hp dp un fr gd _ s hdp hun hI) ?_ (fun _ _ e => e)
    rintro b s' ⟨h', tk, rfl, hk, hb, hI'⟩
    have hb' : b = false := by rw [hb]; simp [h0]
    subst hb'
    rw [if_neg Bool.false_ne_true]
    refine seg_execs_nil ?_
    exact Hend _ _ (hs.step fun b o hb _ e => hk b o hb e)
  | @step p r hne hp hr ih =>
    intro pre he s₀ s hI hs
    refine seg_whileLoop ?_
    rw [hA]
    refine wpAny_mono (Htest p hp dp un fr gd _ s hdp hun hI) ?_ (fun _ _ e => e)
    rintro b s' ⟨h', tk, rfl, hk, hb, hI'⟩
    have hb' : b = true := by rw [hb]; simp [hne]
    subst hb'
    rw [if_pos rfl]
    refine seg_execs_cons ?_
    refine seg_Expr_Yield hfs rfl hfg ?_ hco hint
    rw [hA]
    refine wpAny_mono (Hy p hp dp un fr gd _ _ hdp hun hI') ?_ (fun _ _ e => e)
    rintro v s' ⟨h2, tk2, rfl, hk2, ⟨t, rfl⟩, hI2⟩
    intro kap hkap
    have hs2 : GenSince C [] s₀ { s with heap := h2, toks := tk2 } := hs.step fun b o hb _ e => hk2 b o hb (hk b o hb e)
    refine ⟨⟨p, t, ?_, rfl⟩, hs2, hlv _ _ hI2, fun s'' hst hal => hkap .none s'' ?_⟩
    · rw [he]
      have : (pre ++ p :: r).length - 1 - r.length = pre.length := by simp
      rw [this]; simp
    · show Seg _ _ _ _ _ _ _ _ _ _
      refine seg_execs_cons ?_
      refine seg_wrap ?_
      rw [hA]
      have hI3 := hup _ _ _ hI2 hst hal
      refine wpAny_mono (Hst p hp dp un fr gd _ _ hdp hun hI3) ?_ (fun _ _ e => e)
      rintro f s3 ⟨h3, tk3, rfl, hk3, rfl, hI4⟩
      show Seg _ _ _ _ _ _ _ _ _ _
      refine seg_execs_nil ?_
      refine seg_again rfl ?_
      exact ih (pre ++ [p]) (by rw [he]; simp) _ _ hI4 ((GenSince.refl C [] s'').step fun b o hb _ e => hk3 b o hb e)
end Mine
end
noncomputable section
namespace Mine

theorem wp_weak {α : Type} {M : Model} {dp un D U : Nat} {fr : Option (List Env)} {gd : Option (List Code)} {t : Sem α} {Q : α → Shared → Prop} {E : Value → Shared → Prop} {s : Shared} (hd : dp ≤ D) (hu : un ≤ U)
    (h : wpAny M (ar D none none U) t Q E s) : wpAny M (ar dp fr gd un) t Q E s := fun Γ p hΓ =>
  h Γ p ⟨hΓ.1, Nat.le_trans hΓ.2.1 hd, (fun l h => nomatch h), (fun l h => nomatch h), Nat.le_trans hΓ.2.2.2.2 hu⟩

/-- __next__ of a generator, called by its special name -/
theorem special_gen {w : World} {A : Around} {E : Value → Shared → Prop} {s : Shared} {a g n : Nat} {gs : GenState} {P : Nat → Shared → Shared → Prop} {Y : Protocol} {Q : Option Value → Shared → Prop} (hh : A.handled = none)
    (hl : s.heap.NoLimit) (hroom : A.depth < recursionLimit)
    (hg : s.heap.IsGen a g) (hgs : s.gens[g]? = some gs)
    (hgo : gs.Goes (M w) A.in1 (fun n s₀ r s₁ => r = .ok (.ret .none) ∧ P n s₀ s₁) Y n (.send .none) (s.setGen g .running))
    (hY : ∀ v s₁ gs', gs'.bare = true → Y (n - 1) (s.setGen g .running) v s₁ (fun r' s'' => match n with
        | 0 => False
        | m + 1 => gs'.Goes (M w) A.in1 (fun n s₀ r s₁ => r = .ok (.ret .none) ∧ P n s₀ s₁) Y m r' s'') → Q (some v) (s₁.setGen g gs'))
    (hP : ∀ s₁, P n (s.setGen g .running) s₁ → ∀ h' e, Heap.NewExc s₁.heap h' e "StopIteration" → E (.ref e) { s₁.setGen g .finished with heap := h' }) :
    wpAny (M w) A (callSpecial? (.ref a) "__next__") Q E s := by
  refine wpAny_callSpecial?_slot (name := Str.ofString "__next__") hg.typeIs slot_gen_next
    (wpAny_call_entry slot_gen_next hg.typeIs entry_gen_next ?_ (args_gen_next _))
  show wpAny _ _ (Builtin.Generator.genWake (.ref a) (.send .none)) _ _ s
  unfold Builtin.Generator.genWake
  refine wpAny_bind (wpAny_holding (wpAny_genNumber hg (wpAny_bind (wpAny_genState hgs ?_))))
  cases gs with
  | running => exact hgo.elim
  | finished => exact hgo.elim
  | _ =>
    refine wpAny_bind (wpAny_roomToWake hl hroom ?_)
    show wpAny _ _ (.resume g (.send .none) [] _) _ _ s
    refine wpAny_resumeQ hgs hgo (fun x s₁ hx => ?_) (fun v s₁ gs' hb hv => ?_)
    · obtain ⟨rfl, hp⟩ := hx
      show wpAny _ _ (newExc (.type "StopIteration") [] >>= _) _ _ _
      refine wpAny_bind ?_
      simp only [newExc, newTuple]
      refine wpAny_bind (wpAny_newObj_type ?_ (by size_fits))
      refine wpAny_bind (m := firstArgMember _ _) (wpAny_of_eq (a := Value.none) (by first | rfl | (simp only [firstArgMember]; rfl)) ?_)
      refine wpAny_newObj_type ?_ (by size_fits)
      simp only [raiseNew]
      refine wpAny_bind (wpAny_bind (wpAny_handled ?_))
      rw [show A.in1.handled = none from hh]
      refine wpAny_throw ?_
      refine hP s₁ hp _ _ ⟨fun b o hb => Heap.get?_push_of_some _ (Heap.get?_push_of_some _ hb), ?_, _, Value.ref s₁.heap.objs.size, Heap.get?_push_size _ rfl, rfl, ?_⟩
      · exact Heap.get?_none_of_le (by rw [Heap.size_push]; exact Nat.le_succ _)
      · first | rfl | (show Data.fields _ = Data.fields _; congr 1)
    · exact wpAny_pure ⟨v, rfl, (hY v s₁ gs' hb hv)⟩

/-- pyNext of a generator: it stays bare -/
theorem pyNext_genQ {w : World} {A : Around} {E : Value → Shared → Prop} {s : Shared} {a g n : Nat} {gs : GenState} {P : Nat → Shared → Shared → Prop} {Y : Protocol} {Q : Option Value → Shared → Prop} (hh : A.handled = none)
    (hl : s.heap.NoLimit) (hroom : A.depth < recursionLimit)
    (hg : s.heap.IsGen a g) (hgs : s.gens[g]? = some gs)
    (hgo : gs.Goes (M w) A.in1 (fun n s₀ r s₁ => r = .ok (.ret .none) ∧ P n s₀ s₁) Y n (.send .none) (s.setGen g .running))
    (hY : ∀ v s₁ gs', gs'.bare = true → Y (n - 1) (s.setGen g .running) v s₁ (fun r' s'' => match n with
        | 0 => False
        | m + 1 => gs'.Goes (M w) A.in1 (fun n s₀ r s₁ => r = .ok (.ret .none) ∧ P n s₀ s₁) Y m r' s'') → Q (some v) (s₁.setGen g gs'))
    (hP : ∀ s₁, P n (s.setGen g .running) s₁ → ∀ h', (∀ b o, s₁.heap.get? b = some o → h'.get? b = some o) → Q none { s₁.setGen g .finished with heap := h' }) :
    wpAny (M w) A (pyNext (.ref a)) Q E s := by
  unfold pyNext
  refine wpAny_bind (wpAny_attempt (special_gen hh hl hroom hg hgs hgo (fun v s₁ gs' hb hv => ?_) (fun s₁ hp h' e hx => ?_)))
  · exact wpAny_pure (hY v s₁ gs' hb hv)
  · obtain ⟨oe, hoe, hce⟩ : ∃ o, h'.get? e = some o ∧ o.cls = .type "StopIteration" := by obtain ⟨ob, tp, he, hcls, hd⟩ := hx.there; exact ⟨ob, he, hcls⟩
    refine wpAny_bind (wpAny_isInstance (T := "StopIteration") (b := true) ⟨oe, hoe, hce⟩ (by rw [isSubtype_type]; kernel_rfl) ?_)
    rw [if_pos rfl]
    exact wpAny_pure (hP s₁ hp h' hx.keeps)

/-- a suspended _ancestry, j of its items given -/
def GenA (w : World) (D U : Nat) (a g C : Nat) (b0 : Heap) (items : List Str) (j : Nat) (s : Shared) : Prop :=
  s.heap.IsGen a g ∧ (∃ o, s.heap.get? C = some o) ∧ b0.StaysIn s.heap ∧ ∃ gs, s.gens[g]? = some gs ∧ gs.bare = true ∧ ∀ s'' : Shared, b0.StaysIn s''.heap → (∀ o, s.heap.get? C = some o → s''.heap.get? C = some o) →
    gs.Goes (M w) (ar D none none (U + 1)) (endA C) (protoA C b0 items) (items.length - j) (.send .none) s''

theorem genA_frame {w : World} {D U a g C : Nat} {b0 : Heap} {items : List Str} {j : Nat} {s : Shared} {h' : Heap} {tk : Nat} (st : GenA w D U a g C b0 items j s) (h1 : b0.StaysIn h') (h2 : ∀ o, s.heap.get? a = some o → h'.get? a = some o) (h3 : ∀ o, s.heap.get? C = some o → h'.get? C = some o) :
    GenA w D U a g C b0 items j { s with heap := h', toks := tk } :=
  ⟨let ⟨o, nm, qn, ho, r⟩ := st.1; ⟨o, nm, qn, h2 o ho, r⟩, let ⟨o, ho⟩ := st.2.1; ⟨o, h3 o ho⟩, h1, let ⟨gs, hgs, hb, hgo⟩ := st.2.2.2; ⟨gs, hgs, hb, fun s'' a b => hgo s'' a fun o e => b o (h3 o e)⟩⟩

theorem gen_walks {w : World} {dp un D U : Nat} {fr : Option (List Env)} {gd : Option (List Code)} {a g C : Nat} {b0 : Heap} {items : List Str} (hd : dp ≤ D) (hu : un ≤ U) (hroom : D < recursionLimit)
    (haC : a ≠ C) (hC : b0.get? C = none) (hl : b0.NoLimit) :
    WalksS PySem.Challenge.rw_il0008_01.row.prog w (ar dp fr gd un) a (a :: C :: List.range b0.objs.size) [C] AB items.length (fun j v => ∃ x t, items[j]? = some x ∧ v = .str x t) (GenA w D U a g C b0 items) where
  sub := fun b hb => by
    rw [List.mem_singleton.mp hb]; simp
  grefl := fun _ => AB.refl _
  gtrans := fun _ _ _ x y => x.trans y
  frame := fun j s h' tk st _ hk => genA_frame st (fun b o e => hk b (List.mem_cons_of_mem _ (List.mem_cons_of_mem _ (List.mem_range.mpr (Heap.lt_size e)))) o (st.2.2.1 b o e)) (fun o e => hk a (by simp) o e) (fun o e => hk C (by simp) o e)
  item := fun j s Q E hj st hQ => by
    obtain ⟨hg, hlv, hst, gs, hgs, hb0, hgo⟩ := st
    obtain ⟨m, hm⟩ : ∃ m, items.length - j = m + 1 := ⟨items.length - j - 1, by omega⟩
    rw [hm] at hgo
    refine wp_weak hd hu ?_
    refine wpAny_with_toks (Nat.le_refl s.toks) ?_
    refine pyNext_genQ (P := fun n s₀ s₁ => n = 0 ∧ GenSince C [] s₀ s₁) (Y := protoA C b0 items) rfl (hl.keeps hst) hroom hg hgs
      (hgo _ hst fun _ e => e) (fun v s₁ gs' hbr hv => ?_) (fun s₁ hp h' hk => ?_)
    · obtain ⟨⟨x, t, hx, rfl⟩, ⟨h₁, tk₁, rfl, hk₁⟩, hlv₁, hkap⟩ := hv
      have hidx : items.length - 1 - (m + 1 - 1) = j := by omega
      rw [hidx] at hx
      intro htk
      have hst₁ : b0.StaysIn h₁ := fun b o e => hk₁ b o (fun q => by rw [q, hC] at e; cases e) (fun h => nomatch h) (hst b o e)
      refine hQ _ _ ⟨x, t, hx, rfl⟩ ⟨let ⟨o, nm, qn, ho, r⟩ := hg; ⟨o, nm, qn, hk₁ a o haC (fun h => nomatch h) ho, r⟩, hlv₁, hst₁,
        gs', setGen_self (gs := .running) (setGen_self hgs), hbr, fun s'' h1 h2 => ?_⟩
        ⟨fun b o hb e => hk₁ b o (fun h => hb (h ▸ List.mem_cons_self ..)) (fun h => nomatch h) e, (AB.setGen s g (y := .running) rfl).trans (AB.setGen _ g hbr), rfl, rfl, htk⟩
      have e : items.length - (j + 1) = m := by omega
      rw [e]
      exact hkap s'' h1 h2
    · exact absurd hp.1 (Nat.succ_ne_zero m)
  done := fun s Q E st hQ => by
    obtain ⟨hg, hlv, hst, gs, hgs, hb0, hgo⟩ := st
    rw [Nat.sub_self] at hgo
    refine wp_weak hd hu ?_
    refine wpAny_with_toks (Nat.le_refl s.toks) ?_
    refine pyNext_genQ (P := fun n s₀ s₁ => n = 0 ∧ GenSince C [] s₀ s₁) (Y := protoA C b0 items) rfl (hl.keeps hst) hroom hg hgs
      (hgo _ hst fun _ e => e) (fun v s₁ gs' hbr hv => ?_) (fun s₁ hp h' hk => ?_)
    · obtain ⟨_, ⟨h₁, tk₁, rfl, hk₁⟩, _, hkap⟩ := hv
      exact False.elim (hkap _ (fun b o e => hk₁ b o (fun q => by rw [q, hC] at e; cases e) (fun h => nomatch h) (hst b o e)) fun _ e => e)
    · obtain ⟨_, h₁, tk₁, rfl, hk₁⟩ := hp
      intro htk
      exact hQ _ ⟨fun b o hb e => hk b o (hk₁ b o (fun h => hb (h ▸ List.mem_cons_self ..)) (fun h => nomatch h) e), (AB.setGen s g (y := .running) rfl).trans (AB.setGen _ g (y := .finished) rfl), rfl, rfl, htk⟩
  self := fun _ _ _ _ st hQ => wpAny_pyIter_gen st.1 hQ
end Mine
end
noncomputable section
namespace Mine

theorem gen_body {w : World} {env : Env} {st0 : Stmt} {test ye : Expr} {ypos epos wpos : Pos} {st : Stmt} {D U : Nat} {C : Addr} {b0 : Heap} (Inv0 Inv : Str → Heap → Prop)
    (hco : env.scope.isCoroutine = false) (hint : interactive env = false)
    (hup : ∀ p h h', Inv p h → b0.StaysIn h' → (∀ o, h.get? C = some o → h'.get? C = some o) → Inv p h') (hlv : ∀ p h, Inv p h → ∃ o, h.get? C = some o)
    (H0 : ∀ x, x.length ≤ 100 → Pc w (D + 1) (U + 6) C (exec st0 env) (Inv0 x) (fun f h' => f = .next ∧ Inv (Txt.rstripChars x slash) h'))
    (Htest : ∀ p, p.length ≤ 100 → Pc w (D + 1) (U + 6) C (isTrue test env (eval test env)) (Inv p) (fun b h' => b = decide ((Txt.rstripChars p slash).length ≠ 0) ∧ Inv p h'))
    (Hy : ∀ p, p.length ≤ 100 → Pc w (D + 1) (U + 6) C (eval ye env) (Inv p) (fun v h' => (∃ t, v = .str p t) ∧ Inv p h'))
    (Hst : ∀ p, p.length ≤ 100 → Pc w (D + 1) (U + 6) C (exec st env) (Inv p) (fun f h' => f = .next ∧ Inv (headF p) h')) :
    ∀ (x : Str) (r : List Str), x.length ≤ 100 → Anc (Txt.rstripChars x slash) r → ∀ s₀ s, Inv0 x s.heap → GenSince C [] s₀ s →
      Seg (M w) (ar D none none U) (endA C) (protoA C b0 r) r.length s₀ (.func [st0, .While test [.Expr (.Yield (some ye) ypos) epos, st] [] wpos] env)
        ((M w).den (.func [st0, .While test [.Expr (.Yield (some ye) ypos) epos, st] [] wpos] env)) [] s := by
  intro x r hx hr s₀ s hI hs
  refine seg_func ?_
  refine seg_execs_cons ?_
  refine seg_wrap ?_
  have hA : (ar D none none U).over (.func [st0, .While test [.Expr (.Yield (some ye) ypos) epos, st] [] wpos] env) [] = ar (D + 1) none none (U + 3) := rfl
  rw [hA]
  refine wpAny_mono (H0 x hx _ _ none none _ s (Nat.le_refl _) (by omega) hI) ?_ (fun _ _ e => e)
  rintro f s' ⟨h', tk, rfl, hk, rfl, hI'⟩
  show Seg _ _ _ _ _ _ _ _ _ _
  refine seg_execs_cons ?_
  refine seg_While (M := M w) fun p => ?_
  have hs' : GenSince C [] s₀ { s with heap := h', toks := tk } := hs.step fun b o hb _ e => hk b o hb e
  refine gen_loop (D := 0) (U := 0) (D₁ := D + 1) (U₁ := U + 6) (items := r) Inv hco hint hup hlv Htest Hy Hst ⟨D + 1, none, none, U + 3, ?_, Nat.le_refl _, by omega⟩ rfl rfl ?_ _ _ hr [] rfl _ _ hI' hs'
  · rfl
  · intro s₁ s₂ h12
    refine seg_leaf (.ok .next) ?_
    show Seg _ _ _ _ _ _ _ _ _ _
    exact seg_end (.ok (.ret .none)) ⟨rfl, rfl, h12⟩

/-- a generator function is called -/
theorem enter_gen {prog : Program} {w : World} {A : Around} {s : Shared} {K : Frag} {Q E : Value → Shared → Prop}
    {name qual : Str} {params : Arguments} {body : List Stmt} {scope : Scope} {dV kV doc pm cdv ct oc : Value} {an od : Option Addr} {osl : Array (Option Value)} {f : Addr} {vals : List Value} {binds : List (Str × Value)}
    (X : K.In s.heap) (hlim : s.heap.NoLimit)
    (ho : K.lookup f = some ⟨oc, od, .func (fnOf name qual params body scope dV kV doc pm an cdv ct), osl⟩) (hcd : codeIn K cdv qual = true) (hroom : A.depth < recursionLimit)
    (hbind : BindsTo s (fnOf name qual params body scope dV kV doc pm an cdv ct) ⟨vals, []⟩ binds) (hloc : ∀ y ∈ binds, scope.names.lookup y.1 = some .local)
    (h : ∀ L' h₁ nm qn tk, s.heap.objs.size ≤ L' → L' < h₁.objs.size → Fr s.heap L' h₁ (fun y => binds.reverse.lookup y) → 
      Q (.ref h₁.objs.size) { s with heap := h₁.push { cls := .type "generator", data := .fields #[.int s.gens.size 0, nm, qn] }, gens := s.gens.push (.fresh (.func body (envOf qual scope L' f cdv))), toks := tk })
    (hco : scope.isCoroutine = false) (hgen : scope.isGenerator = true) (hk : scope.kind = .function)
    (hcell : ∀ x ∈ scope.names, x.2 ≠ .cell) : wpAny (model prog w) A (call (.ref f) vals) Q E s := by
  refine wpAny_call (codeAny_call_generator hroom (X _ _ ho) rfl hco hgen rfl (codeRec_of X hcd) (hbind _ _ _ _ ?_))
  refine wpAny_newFunctionEnv hcell hloc (fun h₁ hns hsb => ⟨hlim.fresh _ hsb, ?_⟩) hk
  have F : Fr s.heap s.heap.objs.size h₁ (fun y => binds.reverse.lookup y) := ⟨hns, fun b o e => hsb.extBut b o (Nat.ne_of_lt (Heap.lt_size e)) (Heap.get?_push_of_some _ e), Nat.le_refl _⟩
  obtain ⟨oL, _, _, hL, _⟩ := id hns
  exact h s.heap.objs.size h₁ _ _ _ (Nat.le_refl _) (Heap.lt_size hL) F
end Mine
end
noncomputable section
namespace Mine

abbrev pathM (p : Str) (t : Tok) (u : Str → Option Value) : Str → Option Value := fun y => if y = Str.ofString "path" then some (.str p t) else u y
def InvP (h₀ : Heap) (C : Addr) (p : Str) (h : Heap) : Prop := ∃ t u, Fr h₀ C h (pathM p t u)

theorem InvP.of {h₀ h : Heap} {C : Addr} {p : Str} {m : Str → Option Value} (F : Fr h₀ C h m) (e : ∃ t, m (Str.ofString "path") = some (.str p t)) : InvP h₀ C p h := by
  obtain ⟨t, e⟩ := e
  refine ⟨t, m, ?_⟩
  have : pathM p t m = m := by
    funext y
    unfold pathM
    by_cases hy : y = Str.ofString "path"
    · rw [if_pos hy, hy, e]
    · rw [if_neg hy]
  rw [this]; exact F

theorem all_news (g h : Heap) (C : Addr) : ∃ ow, News g C h ow ∧ ∀ b o, b ≠ C → h.get? b = some o → g.get? b = none → (b, o) ∈ ow := by
  refine ⟨ownOf g ((List.range h.objs.size).filter (· ≠ C)) h, news_ownOf (by simp), fun b o hb e hn => mem_ownOf ?_ hn e⟩
  simp only [List.mem_filter, List.mem_range, decide_eq_true_eq]
  exact ⟨Heap.lt_size e, by simpa using hb⟩
theorem keep_all {g h h' : Heap} {C : Addr} {m : Str → Option Value} {ow news : List (Addr × Obj)} (k : g.StaysIn h) (F : Fr g C h' m) (N : News g C h' news) (hw : ∀ b o, b ≠ C → h.get? b = some o → g.get? b = none → (b, o) ∈ ow) (hs : ∀ p ∈ ow, p ∈ news) :
    ∀ b o, b ≠ C → h.get? b = some o → h'.get? b = some o := by
  intro b o hb e
  cases q : g.get? b with
  | some o' =>
    have := k b o' q
    rw [e] at this; cases this
    exact F.keep b o q
  | none => exact (N _ (hs _ (hw b o hb e q))).1

theorem keep_of_range {h₀ h h' : Heap} (k : h₀.StaysIn h) (hr : ∀ b ∈ List.range h₀.objs.size, ∀ o, h.get? b = some o → h'.get? b = some o) : h₀.StaysIn h' :=
  fun b o e => hr b (List.mem_range.mpr (Heap.lt_size e)) o (k b o e)

set_option maxHeartbeats 4000000 in
theorem ancestry_spec {w : World} {dp un : Nat} {fr : Option (List Env)} {gd : Option (List Code)} {s : Shared} {x : Str} {t : Tok} {items : List Str} {D U : Nat} {Q E : Value → Shared → Prop} {b0 : Heap} (hD : dp < recursionLimit)
    (hD' : D + 5 < recursionLimit) (hU : U + 30 < cLine)
    (G : Gd w b0) (k0 : b0.StaysIn s.heap) (z0 : b0.objs.size ≤ s.heap.objs.size) (hx : x.length ≤ 100) (hA : Anc (Txt.rstripChars x slash) items)
    (ret : ∀ a C h' gs tk, s.heap.StaysIn h' → s.heap.objs.size ≤ C → C < a → a < h'.objs.size → GenA w D U a s.gens.size C b0 items 0 { s with heap := h', toks := tk, gens := s.gens.push gs } →
      Q (.ref a) { s with heap := h', toks := tk, gens := s.gens.push gs }) :
    wpAny (M w) (ar dp fr gd un) (call (.ref 147) [.str x t]) Q E s := by
  have G0 := G
  unfold M; revert G; unfold Gd; k_fill; intro G
  obtain ⟨X, mean, mg, mb, T⟩ := G
  k_dflt (refine' enter_gen (binds := [(Str.ofString "path", .str x t)]) (X.keeps k0) (T.nolimit.keeps k0) ?k6 ?k7 ?k8 ?k9 ?kB ?_ ?c2 ?c3 ?c4 ?c5; (case k6 => k_is); (case k7 => k_is); (case k8 => (dsimp only; omega)); (case k9 => exact BindsTo.of_eq rfl); (case c5 => decide); (case kB => exact locs rfl); (case c2 => exact rfl); (case c3 => exact rfl); (case c4 => exact rfl))
  intro C h₁ nm qn tk hC1 hC2 F
  have F2 := F.push { cls := .type "generator", data := .fields #[.int s.gens.size 0, nm, qn] }
  refine ret _ C _ _ _ F2.keep hC1 hC2 (by rw [Heap.size_push]; exact Nat.lt_succ_self _) ?_
  have kF : b0.StaysIn (h₁.push { cls := .type "generator", data := .fields #[.int s.gens.size 0, nm, qn] }) := fun b o e => F2.keep b o (k0 b o e)
  refine ⟨⟨_, nm, qn, Heap.get?_push_size _ rfl, rfl, rfl, rfl⟩, (let ⟨o, _, _, ho, _⟩ := F2.ns; ⟨o, ho⟩), kF, _, Array.getElem?_push_size, rfl, fun s'' hst hal => ⟨rfl, ?_⟩⟩
  have F3 : Fr b0 C s''.heap (fun y => List.lookup y [(Str.ofString "path", Value.str x t)].reverse) :=
    ⟨F2.ns.at' fun o e => hal o e, hst, Nat.le_trans z0 hC1⟩
  rw [Nat.sub_zero]
  refine gen_body (D := D) (U := U + 1) (InvP b0 C) (InvP b0 C) rfl rfl ?_ ?_ ?_ ?_ ?_ ?_ x items hx hA s'' s'' (InvP.of F3 ⟨t, rfl⟩) (GenSince.refl _ _ _)
  · rintro p h h' ⟨t', u, F⟩ hst hk
    exact ⟨t', u, F.ns.at' fun o e => hk o e, hst, F.above⟩
  · rintro p h ⟨t', u, F⟩
    obtain ⟨o, _, _, ho, _⟩ := F.ns
    exact ⟨o, ho⟩
  all_goals (
    intro x' hx' dp' un' fr' gd' E' s' hd' hu' hI'
    obtain ⟨t', u', F'⟩ := hI'
    obtain ⟨ow, N', how⟩ := all_news b0 s'.heap C
    have k1 := F'.keep
    clear F F2 F3 hal hst ret hC1 hC2 E Q kF k0)
  · k_steps
    rename Fr _ _ _ _ => F9
    rename News _ _ _ _ => N9
    exact ⟨_, _, rfl, keep_all k1 F9 N9 how (fun _ h => h), rfl, InvP.of F9 ⟨_, rfl⟩⟩
  · k_steps
    exact ⟨_, _, rfl, (fun b o _ e => e), (by rw [Bool.eq_iff_iff, decide_eq_true_eq]; simp [slash]), InvP.of F' ⟨_, rfl⟩⟩
  · k_steps
    exact ⟨_, _, rfl, (fun b o _ e => e), ⟨_, rfl⟩, InvP.of F' ⟨_, rfl⟩⟩
  · k_steps
    refine split_spec (w := w) (by omega) (by omega) (G0.keeps k1) hx' ?_
    intro r t1 t2 tl h2 tk2 k2 hn2 hr2
    have F2 := fr_up F' k2
    have N2 := news_new F' (news_up N' k2) hn2 hr2
    clear F' N'
    (try dsimp only at F2 N2 ⊢)
    k_steps
    rename Fr _ _ _ _ => F9
    rename News _ _ _ _ => N9
    exact ⟨_, _, rfl, keep_all k1 F9 N9 how (fun _ h => List.mem_cons_of_mem _ h), rfl, InvP.of F9 ⟨_, rfl⟩⟩
end Mine
end
noncomputable section
namespace Mine

/-- the heaps agree but on the frames named, and there up to their slots -/
def UpTo (fs : List Addr) (h h' : Heap) : Prop :=
  (∀ b o, b ∉ fs → h.get? b = some o → h'.get? b = some o) ∧ ∀ b o, h.get? b = some o → (∀ vs, o.data ≠ .fields vs) → ∃ sl, h'.get? b = some { o with slots := sl }
theorem UpTo.refl (fs : List Addr) (h : Heap) : UpTo fs h h := ⟨fun _ _ _ e => e, fun _ o e _ => ⟨o.slots, e⟩⟩
theorem UpTo.of_stays {fs : List Addr} {h h' : Heap} (k : h.StaysIn h') : UpTo fs h h' := ⟨fun b o _ e => k b o e, fun b o e _ => ⟨o.slots, k b o e⟩⟩
theorem UpTo.trans {fs : List Addr} {a b c : Heap} (x : UpTo fs a b) (y : UpTo fs b c) : UpTo fs a c :=
  ⟨fun p o hp e => y.1 p o hp (x.1 p o hp e), fun p o e hn => let ⟨_, e₁⟩ := x.2 p o e hn; let ⟨sl, e₂⟩ := y.2 p _ e₁ hn; ⟨sl, e₂⟩⟩
theorem UpTo.ns {fs : List Addr} {h h' : Heap} {L : Addr} {m : Str → Option Value} (x : UpTo fs h h') (n : h.Ns L m) : h'.Ns L m := by
  obtain ⟨o, es, ep, ho, hd, r⟩ := n
  obtain ⟨sl, e⟩ := x.2 L o ho (fun vs q => by rw [hd] at q; cases q)
  exact ⟨_, es, ep, e, hd, r⟩

abbrev frs (l : List Env) : List Addr := l.filterMap (·.frame)
/-- frames stand, whatever the base -/
abbrev FF (h : Heap) (l : List Env) : Prop := h.FunFrames {} l

theorem ff_base {h base : Heap} : ∀ {l : List Env}, FF h l → (∀ b ∈ frs l, base.get? b = none) → h.FunFrames base l
  | [], _, _ => trivial
  | env :: r, ⟨hk, ⟨L, o, hf, _, ho, hd⟩, hr⟩, hb =>
    ⟨hk, ⟨L, o, hf, hb L (by unfold frs; rw [List.filterMap_cons, hf]; exact List.mem_cons_self ..), ho, hd⟩, ff_base hr fun b hm => hb b (by
      unfold frs at hm ⊢; rw [List.filterMap_cons, hf]; exact List.mem_cons_of_mem _ hm)⟩
theorem ff_drop {h base : Heap} : ∀ {l : List Env}, h.FunFrames base l → FF h l
  | [], _ => trivial
  | env :: r, ⟨hk, ⟨L, o, hf, _, ho, hd⟩, hr⟩ => ⟨hk, ⟨L, o, hf, rfl, ho, hd⟩, ff_drop hr⟩
theorem ff_stays {h h' : Heap} {l : List Env} (x : FF h l) (k : h.StaysIn h') : FF h' l := x.of_keeps fun b o e _ => ⟨o, k b o e, rfl⟩
theorem ff_up {fs : List Addr} {h h' : Heap} {l : List Env} (x : FF h l) (k : UpTo fs h h') : FF h' l := x.of_keeps fun b o e hn => let ⟨sl, e'⟩ := k.2 b o e hn; ⟨_, e', rfl⟩
theorem ff_cons {h : Heap} {env : Env} {outer : List Env} {L : Addr} {m : Str → Option Value} (hk : env.scope.kind ≠ .module) (hf : env.frame = some L) (hn : h.Ns L m) (x : FF h outer) : FF h (env :: outer) :=
  Heap.FunFrames.cons hk hf hn rfl x

abbrev hid (h : Heap) (l : List Addr) : Heap := hideAll h l

/-- a new exception leaves its frame -/
theorem left_new {M : Model} {A : Around} {E : Value → Shared → Prop} {s : Shared} {env : Env} {outer : List Env} {L e : Addr} {h : Heap} {cls : String} {Q : Unit → Shared → Prop}
    (hfr : A.frames = some (env :: outer)) (hf : env.frame = some L) (x : FF h (env :: outer)) (hx : Heap.NewExc h s.heap e cls)
    (hQ : ∀ h', UpTo (frs (env :: outer)) h h' → (∃ o, h'.get? e = some o ∧ o.cls = .type cls) → Q () { s with heap := h' }) : wpAny M A (leaving env (.ref e)) Q E s := by
  obtain ⟨ob, tp, he, hcls, hd⟩ := hx.there
  have hb : ∀ b ∈ frs (env :: outer), (hid h (frs (env :: outer))).get? b = none := fun b hb => hideAll_none _ hb
  have hkb : (hid h (frs (env :: outer))).StaysIn h := fun b o e => of_hideAll _ e
  have hen : (hid h (frs (env :: outer))).get? e = none := by
    cases hq : (hid h (frs (env :: outer))).get? e with
    | none => rfl
    | some o' => have := hkb e o' hq; rw [hx.new] at this; cases this
  refine wpAny_leaving_first (base := hid h (frs (env :: outer))) hfr ((ff_base x hb).of_keeps fun b o hb _ => ⟨o, hx.keeps b o hb, rfl⟩) hf he (fun b o hb => hx.keeps b o (hkb b o hb)) hen hd rfl fun h' hL => ?_
  obtain ⟨k1, k2, k3, k4⟩ := hL
  refine hQ h' ⟨fun b o hn e => k1 b o (hideAll_get _ e hn), fun b o e hn => k4 b o (hx.keeps b o e) hn⟩ ?_
  obtain ⟨oe, _, _, _, _, he', hc', _⟩ := k3
  exact ⟨oe, he', hc'.trans hcls⟩

/-- a new exception is looked at by the frame's own try: behind the note and the mark's fall -/
theorem noted_new {M : Model} {A : Around} {E : Value → Shared → Prop} {s : Shared} {env : Env} {outer : List Env} {L e : Addr} {h : Heap} {cls : String} {Q : Unit → Shared → Prop}
    (hfr : A.frames = some (env :: outer)) (hf : env.frame = some L) (x : FF h (env :: outer)) (hx : Heap.NewExc h s.heap e cls)
    (hQ : ∀ h', UpTo (frs (env :: outer)) h h' → h'.Traced h e (.type cls) → Q () { s with heap := h' }) :
    wpAny M A (noteFrame (.ref e) env) (fun _ s' => wpAny M A (setFlight (.ref e) none) Q E s') E s := by
  obtain ⟨ob, tp, he, hcls, hd⟩ := hx.there
  have hb : ∀ b ∈ frs (env :: outer), (hid h (frs (env :: outer))).get? b = none := fun b hb => hideAll_none _ hb
  have hkb : (hid h (frs (env :: outer))).StaysIn h := fun b o e => of_hideAll _ e
  have hen : (hid h (frs (env :: outer))).get? e = none := by
    cases hq : (hid h (frs (env :: outer))).get? e with
    | none => rfl
    | some o' => have := hkb e o' hq; rw [hx.new] at this; cases this
  unfold noteFrame
  simp only [hf]
  refine wpAny_bind (wpAny_field he hd (i := 1) (x := Value.none) rfl ?_)
  rw [if_neg (by decide)]
  refine wpAny_newEntry (base := hid h (frs (env :: outer))) hfr ((ff_base x hb).of_keeps fun b o hb _ => ⟨o, hx.keeps b o hb, rfl⟩) hf he (fun b o hb => hx.keeps b o (hkb b o hb)) hen hd (show 1 < 6 by decide) fun h' hL => ?_
  obtain ⟨k1, k2, k3, k4⟩ := hL
  have hU : UpTo (frs (env :: outer)) h h' := ⟨fun b o hn e => k1 b o (hideAll_get _ e hn), fun b o e hn => k4 b o (hx.keeps b o e) hn⟩
  refine hQ h' hU ?_
  obtain ⟨oe, vs, T, oT, ts, q1, q2, q3, q4, q5, q6, q7, q8, q9⟩ := k3
  refine ⟨oe, vs, T, oT, ts, q1, q2.trans hcls, q3, q4, ?_, q6, q7, q8, q9⟩
  cases q : h.get? T with
  | none => rfl
  | some o =>
    by_cases hT : T ∈ frs (env :: outer)
    · obtain ⟨_, o2, ho2, hn2⟩ := (ff_base x hb).mem hT
      obtain ⟨sl, e2⟩ := hU.2 T o2 ho2 hn2
      rw [q7] at e2; cases e2
      exact absurd q8 (hn2 ts)
    · have := hideAll_get _ q hT
      rw [q5] at this; cases this
end Mine
end
noncomputable section
namespace Mine

theorem entry_next : entryFor table "next" = some Builtin.«next» := kdk_entry_next

theorem next_call {w : World} {A : Around} {E : Value → Shared → Prop} {s : Shared} {a g : Nat} {Q : Value → Shared → Prop} (hg : s.heap.IsGen a g)
    (h : wpAny (M w) A.in1 (callSpecial? (.ref a) "__next__") (fun r s' => ∃ v, r = some v ∧ Q v s') E s) : wpAny (M w) A (call (.builtin "next") [.ref a]) Q E s := by
  refine call_function_entry (by decide +kernel) (by decide +kernel) entry_next (kdk_args_next _) ?_
  unfold Builtin.«next»
  refine wpAny_bind (m := someArgs "next" 1 2 _) (wpAny_of_eq (a := [Value.ref a]) (by first | rfl | kernel_rfl!) ?_)
  dsimp only
  refine wpAny_bind (wpAny_specialOf (name := Str.ofString "__next__") hg.typeIs slot_gen_next.lookup ?_)
  refine wpAny_ite_split (fun hab => absurd hab (by decide)) (fun _ => ?_)
  refine wpAny_bind (wpAny_mono h (fun r s' hr => ?_) fun _ _ x => x)
  obtain ⟨v, rfl, hq⟩ := hr
  exact wpAny_pure ⟨_, rfl, hq⟩

theorem next_gen_item {w : World} {dp un D U : Nat} {fr : Option (List Env)} {gd : Option (List Code)} {a g C : Nat} {b0 : Heap} {items : List Str} {j : Nat} {s : Shared} {Q : Value → Shared → Prop} {E : Value → Shared → Prop} (hd : dp ≤ D) (hu : un + 1 ≤ U) (hroom : D < recursionLimit)
    (haC : a ≠ C) (hC : b0.get? C = none) (hl : b0.NoLimit) (hj : j < items.length) (st : GenA w D U a g C b0 items j s)
    (hQ : ∀ x t h₁ tk gs', items[j]? = some x → (∀ b o, b ≠ C → s.heap.get? b = some o → h₁.get? b = some o) → AB s.gens gs' → GenA w D U a g C b0 items (j + 1) { s with heap := h₁, toks := tk, gens := gs' } → Q (.str x t) { s with heap := h₁, toks := tk, gens := gs' }) :
    wpAny (M w) (ar dp fr gd un) (call (.builtin "next") [.ref a]) Q E s := by
  obtain ⟨hg, hlv, hst, gs, hgs, hb0, hgo⟩ := st
  obtain ⟨m, hm⟩ : ∃ m, items.length - j = m + 1 := ⟨items.length - j - 1, by omega⟩
  rw [hm] at hgo
  refine next_call hg ?_
  show wpAny _ (ar dp fr gd (un + 1)) _ _ _ _
  refine wp_weak hd hu ?_
  refine special_gen (P := fun n s₀ s₁ => n = 0 ∧ GenSince C [] s₀ s₁) (Y := protoA C b0 items) rfl (hl.keeps hst) hroom hg hgs
      (hgo _ hst fun _ e => e) (fun v s₁ gs' hbr hv => ?_) (fun s₁ hp h' e hx => absurd hp.1 (Nat.succ_ne_zero m))
  obtain ⟨⟨x, t, hx, rfl⟩, ⟨h₁, tk₁, rfl, hk₁⟩, hlv₁, hkap⟩ := hv
  have hidx : items.length - 1 - (m + 1 - 1) = j := by omega
  rw [hidx] at hx
  have hst₁ : b0.StaysIn h₁ := fun b o e => hk₁ b o (fun q => by rw [q, hC] at e; cases e) (fun h => nomatch h) (hst b o e)
  refine ⟨_, rfl, hQ x t h₁ tk₁ _ hx (fun b o hb e => hk₁ b o hb (fun h => nomatch h) e) ((AB.setGen s g (y := .running) rfl).trans (AB.setGen _ g hbr)) ⟨let ⟨o, nm, qn, ho, r⟩ := hg; ⟨o, nm, qn, hk₁ a o haC (fun h => nomatch h) ho, r⟩, hlv₁, hst₁,
        gs', setGen_self (gs := .running) (setGen_self hgs), hbr, fun s'' h1 h2 => ?_⟩⟩
  have e : items.length - (j + 1) = m := by omega
  rw [e]
  exact hkap s'' h1 h2

theorem next_gen_end {w : World} {dp un D U : Nat} {fr : Option (List Env)} {gd : Option (List Code)} {a g C : Nat} {b0 : Heap} {items : List Str} {s : Shared} {Q : Value → Shared → Prop} {E : Value → Shared → Prop} (hd : dp ≤ D) (hu : un + 1 ≤ U) (hroom : D < recursionLimit)
    (hC : b0.get? C = none) (hl : b0.NoLimit) (st : GenA w D U a g C b0 items items.length s)
    (hE : ∀ h₁ h₂ e tk gs', (∀ b o, b ≠ C → s.heap.get? b = some o → h₁.get? b = some o) → Heap.NewExc h₁ h₂ e "StopIteration" → AB s.gens gs' → E (.ref e) { s with heap := h₂, toks := tk, gens := gs' }) :
    wpAny (M w) (ar dp fr gd un) (call (.builtin "next") [.ref a]) Q E s := by
  obtain ⟨hg, hlv, hst, gs, hgs, hb0, hgo⟩ := st
  rw [Nat.sub_self] at hgo
  refine next_call hg ?_
  show wpAny _ (ar dp fr gd (un + 1)) _ _ _ _
  refine wp_weak hd hu ?_
  refine special_gen (P := fun n s₀ s₁ => n = 0 ∧ GenSince C [] s₀ s₁) (Y := protoA C b0 items) rfl (hl.keeps hst) hroom hg hgs
      (hgo _ hst fun _ e => e) (fun v s₁ gs' hbr hv => ?_) (fun s₁ hp h' e hx => ?_)
  · obtain ⟨_, ⟨h₁, tk₁, rfl, hk₁⟩, _, hkap⟩ := hv
    exact False.elim (hkap _ (fun b o e => hk₁ b o (fun q => by rw [q, hC] at e; cases e) (fun h => nomatch h) (hst b o e)) fun _ e => e)
  · obtain ⟨_, h₁, tk₁, rfl, hk₁⟩ := hp
    exact hE h₁ h' e tk₁ _ (fun b o hb e => hk₁ b o hb (fun h => nomatch h) e) hx ((AB.setGen s g (y := .running) rfl).trans (AB.setGen _ g (y := .finished) rfl))
end Mine
end
noncomputable section
namespace Mine

/-- a def is entered; the objects at hs stand apart from its base, those in news are told -/
theorem enterH {prog : Program} {w : World} {A : Around} {s : Shared} {K : Frag} (hs : List Addr) (news : List (Addr × Obj))
    {R : Result → Shared → Prop} {name qual : Str} {params : Arguments} {body : List Stmt} {scope : Scope} {dV kV doc pm cdv ct oc : Value} {an od : Option Addr} {osl : Array (Option Value)} {f : Addr} {args : Args} {binds : List (Str × Value)}
    (X : K.In s.heap) (hlim : s.heap.NoLimit) (hn : ∀ p ∈ news, s.heap.get? p.1 = some p.2 ∧ p.1 ∈ hs)
    (ho : K.lookup f = some ⟨oc, od, .func (fnOf name qual params body scope dV kV doc pm an cdv ct), osl⟩) (hcd : codeIn K cdv qual = true) (hroom : A.depth < recursionLimit)
    (hbind : BindsTo s (fnOf name qual params body scope dV kV doc pm an cdv ct) args binds) (hloc : ∀ y ∈ binds, scope.names.lookup y.1 = some .local)
    (h : ∀ g L' h₁, g = hid s.heap hs → Fr g L' h₁ (fun y => binds.reverse.lookup y) → News g L' h₁ news → s.heap.StaysIn h₁ → s.heap.get? L' = none →
      wpAny (model prog w) (A.deeper (envOf qual scope L' f cdv)) (execs body (envOf qual scope L' f cdv))
        (fun fl s' => R (.ok (.ret (match fl with | .ret v => v | _ => .none))) s')
        (fun e s' => wpAny (model prog w) (A.deeper (envOf qual scope L' f cdv)) (leaving (envOf qual scope L' f cdv) e) (fun _ s'' => R (.error e) s'') (fun e' s'' => R (.error e') s'') s')
        { s with heap := h₁, toks := s.toks + binds.length })
    (hco : scope.isCoroutine = false) (hgen : scope.isGenerator = false) (hk : scope.kind = .function)
    (hcell : ∀ x ∈ scope.names, x.2 ≠ .cell) : codeAny (model prog w) A (.call (.ref f) args) R s := by
  refine codeAny_call_def (fd := fnOf name qual params body scope dV kV doc pm an cdv ct) (body := body) (binds := binds) hroom (X _ _ ho) rfl hlim (codeRec_of X hcd) rfl hbind hcell hloc (fun h₁ hns hk₁ => ?_) hco hgen hk
  refine h _ s.heap.objs.size h₁ rfl ⟨hns, fun b o e => hk₁ b o (of_hideAll _ e), Nat.le_of_eq (hideAll_size _ _)⟩ (fun p hp => ⟨hk₁ _ _ (hn p hp).1, Nat.ne_of_lt (Heap.lt_size (hn p hp).1), hideAll_none _ (hn p hp).2⟩) hk₁ (Heap.get?_none_of_le (Nat.le_refl _))

theorem stays_hid {b h : Heap} {hs : List Addr} (k : b.StaysIn h) (hn : ∀ a ∈ hs, b.get? a = none) : b.StaysIn (hid h hs) :=
  fun a o e => hideAll_get _ (k a o e) fun m => by rw [hn a m] at e; cases e

/-- an own class of the text's is made, its own __init__ called -/
theorem make_raw {prog : Program} {w : World} {A : Around} {K : Frag} {C fI : Addr} {s : Shared} {R : Result → Shared → Prop} {rest : List Value} {kw : List (Str × Value)} (X : K.In s.heap) (hm : makesIn K C = true)
    (hi : findIn K (.ref C) "__init__" = some (some (.ref fI))) (hf : isFn K (.ref fI) = true)
    (h : codeAny (model prog w) (A.under (.builtin "type.__call__" ⟨.ref C :: rest, kw⟩)) (.call (.ref fI) ⟨.ref (s.heap.objs.size + 1) :: rest, kw⟩) (InitBack (s.heap.objs.size + 1) R)
      { s with heap := (s.heap.push emptyDict).push (instObj C s.heap.objs.size) }) :
    codeAny (model prog w) A (.call (.ref C) ⟨rest, kw⟩) R s := by
  obtain ⟨hh, g, d, t, os⟩ := s
  exact make_core (makes_of X hm) (looks_findIn X hi) (fun self => bind_fn X self (beq_iff_eq.mp hf)) (.inl rfl) h
end Mine
namespace Mine
/-- a def with *rest is entered -/
theorem enterV {prog : Program} {w : World} {A : Around} {s : Shared} {K : Frag} (hs : List Addr) (news : List (Addr × Obj)) (ex : List Value) (bf : Value → List (Str × Value))
    {R : Result → Shared → Prop} {name qual : Str} {params : Arguments} {body : List Stmt} {scope : Scope} {dV kV doc pm cdv ct oc : Value} {an od : Option Addr} {osl : Array (Option Value)} {f : Addr} {args : Args}
    (X : K.In s.heap) (hlim : s.heap.NoLimit) (hn : ∀ p ∈ news, s.heap.get? p.1 = some p.2 ∧ p.1 ∈ hs)
    (ho : K.lookup f = some ⟨oc, od, .func (fnOf name qual params body scope dV kV doc pm an cdv ct), osl⟩) (hcd : codeIn K cdv qual = true) (hroom : A.depth < recursionLimit)
    (hbind : bindArgs (fnOf name qual params body scope dV kV doc pm an cdv ct) args = (newTuple ex >>= fun v => pure (bf v))) (hex : ex.length ≤ sizeLine) (hloc : ∀ v, ∀ y ∈ bf v, scope.names.lookup y.1 = some .local)
    (h : ∀ g L' h₁ D tk, g = hid s.heap hs → D = s.heap.objs.size → D < L' → Fr g L' h₁ (fun y => (bf (.ref D)).reverse.lookup y) → News g L' h₁ ((D, { cls := .type "tuple", data := .seq ex.toArray }) :: news) → s.heap.StaysIn h₁ →
      wpAny (model prog w) (A.deeper (envOf qual scope L' f cdv)) (execs body (envOf qual scope L' f cdv))
        (fun fl s' => R (.ok (.ret (match fl with | .ret v => v | _ => .none))) s')
        (fun e s' => wpAny (model prog w) (A.deeper (envOf qual scope L' f cdv)) (leaving (envOf qual scope L' f cdv) e) (fun _ s'' => R (.error e) s'') (fun e' s'' => R (.error e') s'') s')
        { s with heap := h₁, toks := tk })
    (hco : scope.isCoroutine = false) (hgen : scope.isGenerator = false) (hk : scope.kind = .function)
    (hcell : ∀ x ∈ scope.names, x.2 ≠ .cell) : codeAny (model prog w) A (.call (.ref f) args) R s := by
  refine codeAny_call_function (fd := fnOf name qual params body scope dV kV doc pm an cdv ct) hroom (X _ _ ho) rfl hco hgen rfl (codeRec_of X hcd) ?_
  rw [hbind]
  refine wpAny_bind (wpAny_newObj_type ?_ (by show ex.toArray.size ≤ sizeLine; rw [List.size_toArray]; exact hex))
  refine wpAny_pure ?_
  have kp : s.heap.StaysIn (s.heap.push { cls := .type "tuple", data := .seq ex.toArray }) := fun b o e => Heap.get?_push_of_some _ e
  have hD := Heap.get?_push_size (o := { cls := .type "tuple", data := .seq ex.toArray }) s.heap rfl
  refine wpAny_newFunctionEnv hcell (hloc _) (fun h₀ hns₀ hsb₀ => ⟨(hlim.keeps kp).fresh _ hsb₀, codeAny_func ?_⟩) hk
  have hk₁ : (s.heap.push { cls := .type "tuple", data := .seq ex.toArray }).StaysIn h₀ := fun b o e => hsb₀.extBut b o (Nat.ne_of_lt (Heap.lt_size e)) (Heap.get?_push_of_some _ e)
  have hlt : s.heap.objs.size < (s.heap.push { cls := .type "tuple", data := .seq ex.toArray }).objs.size := by rw [Heap.size_push]; exact Nat.lt_succ_self _
  refine h _ (s.heap.push { cls := .type "tuple", data := .seq ex.toArray }).objs.size h₀ s.heap.objs.size _ rfl rfl hlt
    ⟨hns₀, fun b o e => hk₁ b o (kp b o (of_hideAll _ e)), ?_⟩ ?_ fun b o e => hk₁ b o (kp b o e)
  · rw [hideAll_size]; exact Nat.le_of_lt hlt
  · intro p hp
    rcases List.mem_cons.mp hp with e | hp
    · subst e
      refine ⟨hk₁ _ _ hD, Nat.ne_of_lt hlt, ?_⟩
      show (hid s.heap hs).get? s.heap.objs.size = none
      cases q : (hid s.heap hs).get? s.heap.objs.size with
      | none => rfl
      | some o => exact absurd (Heap.lt_size (of_hideAll _ q)) (Nat.lt_irrefl _)
    · exact ⟨hk₁ _ _ (kp _ _ (hn p hp).1), Nat.ne_of_lt (Nat.lt_trans (Heap.lt_size (hn p hp).1) hlt), hideAll_none _ (hn p hp).2⟩
end Mine
end
noncomputable section
namespace Mine

/-- the end of a turn -/
def TurnP (g : Heap) (L : Addr) (I : Addr) (oI : Obj) (Inv : Array GenState → (Str → Option Value) → List (Addr × Obj) → Prop) (s : Shared) (Q : Flow → Shared → Prop) (f : Flow) (s₂ : Shared) : Prop :=
  match f with
  | .ret v => Q (.ret v) s₂
  | .brk => Q .next s₂
  | _ => ∃ h' tk' gs' m' news', s₂ = { s with heap := h', toks := tk', gens := gs' } ∧ Fr g L h' m' ∧ News g L h' ((I, oI) :: news') ∧ (∀ p ∈ news', p.1 ≠ I) ∧ Inv gs' m' news'

theorem TurnP.next {g : Heap} {L : Addr} {I : Addr} {oI : Obj} {Inv : Array GenState → (Str → Option Value) → List (Addr × Obj) → Prop} {s : Shared} {Q : Flow → Shared → Prop} {h' : Heap} {tk' : Nat} {gs' : Array GenState} {m' : Str → Option Value} {news' : List (Addr × Obj)}
    (F : Fr g L h' m') (N : News g L h' ((I, oI) :: news')) (hI : ∀ p ∈ news', p.1 ≠ I) (hi : Inv gs' m' news') : TurnP g L I oI Inv s Q .next { s with heap := h', toks := tk', gens := gs' } :=
  ⟨h', tk', gs', m', news', rfl, F, N, hI, hi⟩
theorem TurnP.cont {g : Heap} {L : Addr} {I : Addr} {oI : Obj} {Inv : Array GenState → (Str → Option Value) → List (Addr × Obj) → Prop} {s : Shared} {Q : Flow → Shared → Prop} {h' : Heap} {tk' : Nat} {gs' : Array GenState} {m' : Str → Option Value} {news' : List (Addr × Obj)}
    (F : Fr g L h' m') (N : News g L h' ((I, oI) :: news')) (hI : ∀ p ∈ news', p.1 ≠ I) (hi : Inv gs' m' news') : TurnP g L I oI Inv s Q .cont { s with heap := h', toks := tk', gens := gs' } :=
  ⟨h', tk', gs', m', news', rfl, F, N, hI, hi⟩

def ForG (prog : Program) (w : World) (A : Around) (env : Env) (x : Str) (body : List Stmt) (Q : Flow → Shared → Prop) (E : Value → Shared → Prop) (it : Value) (s : Shared) : Prop :=
  ∃ (I : Addr) (fp : List Addr) (n : Nat) (P : Nat → Value → Prop) (St : Nat → Heap → Prop) (g : Heap) (oI : Obj) (m : Str → Option Value) (news need : List (Addr × Obj)) (Inv : Nat → Array GenState → (Str → Option Value) → List (Addr × Obj) → Prop),
    it = .ref I ∧ Walks prog w A I fp [I] n P St ∧ (∀ b ∈ fp, b = I ∨ (∃ o, g.get? b = some o) ∨ (∃ o, (b, o) ∈ need)) ∧ (∀ i h, St i h → ∃ o, h.get? I = some o) ∧ St 0 s.heap ∧
    Fr g env.locals s.heap m ∧ News g env.locals s.heap ((I, oI) :: news) ∧ (∀ p ∈ news, p.1 ≠ I) ∧ (∀ i gs m news, Inv i gs m news → ∀ p ∈ need, p ∈ news) ∧ Inv 0 s.gens m news ∧
    (∀ i v gs m news h tk oI, i < n → P i v → Inv i gs m news → Fr g env.locals h (fun y => if y = x then some v else m y) → News g env.locals h ((I, oI) :: news) → (∀ p ∈ news, p.1 ≠ I) →
      wpAny (model prog w) A (execs body env) (TurnP g env.locals I oI (Inv (i + 1)) s Q) E { s with heap := h, toks := tk, gens := gs }) ∧
    (∀ gs m news h tk, Inv n gs m news → Fr g env.locals h m → News g env.locals h news → Q .next { s with heap := h, toks := tk, gens := gs })

theorem for_G {prog : Program} {w : World} {A : Around} {E : Value → Shared → Prop} {s : Shared} {env : Env} {x : Str} {px pos : Pos} {iter : Expr} {body : List Stmt} {Q : Flow → Shared → Prop}
    (hx : env.kindOf x = some .local) (hp : (env.scope.kind == .class || (env.scope.kind == .module && env.locals != env.globals)) = false)
    (h : wpAny (model prog w) A (eval iter env) (fun xv s₁ => wpAny (model prog w) A (pyIter xv) (fun it s₂ => ForG prog w A env x body Q E it s₂) E s₁) E s)
    (hs : ∀ x, foldedSetIterable iter env x = pure x := by intro _; rfl)
    (hE : PassesOwn (model prog w) A env E := by passes_own) :
    wpAny (model prog w) A (exec (.For (.Name x px) iter body [] pos) env) Q E s := by
  refine wpAny_For (wpAny_mono h (fun xv s₁ h₁ => wpAny_mono h₁ (fun it s₂ h₂ => ?_) fun _ _ e => e) fun _ _ e => e) hs
  obtain ⟨I, fp, n, P, St, g, oI, m, news, need, Inv, rfl, W, hfp, hal, hst, F, N, hNI, hneed, h0, turn, done⟩ := h₂
  have hgI : g.get? I = none := (N _ (List.mem_cons_self ..)).2.2
  have hLI : env.locals ≠ I := fun e => (N _ (List.mem_cons_self ..)).2.1 e.symm
  refine codeAny_forLoop (R := fun r s' => match r with | .ok f => Q f s' | .error e => cameBackBy (model prog w) A env E e s')
    (fun k s' => ∃ h' tk gs m' news' i, s' = { s₂ with heap := h', toks := tk, gens := gs } ∧ St i h' ∧ Fr g env.locals h' m' ∧ News g env.locals h' news' ∧ (∀ p ∈ news', p.1 ≠ I) ∧ Inv i gs m' news' ∧ i ≤ n ∧ k = n + 1 - i) ?_ (n + 1)
    ⟨s₂.heap, s₂.toks, s₂.gens, m, news, 0, rfl, hst, F, fun p hp => N p (List.mem_cons_of_mem _ hp), hNI, h0, Nat.zero_le _, rfl⟩
  rintro k s' ⟨h', tk, gs, m', news', i, rfl, hst', F', N', hnw', hJ, hi, rfl⟩
  have next : ∀ h₁ : Heap, (∀ b o, b ∉ [I] → h'.get? b = some o → h₁.get? b = some o) → Fr g env.locals h₁ m' ∧ News g env.locals h₁ news' := fun h₁ hk₁ =>
    ⟨⟨F'.ns.at' fun o e => hk₁ _ o (fun m => hLI (List.mem_singleton.mp m)) e, fun b o e => hk₁ b o (fun m => by rw [List.mem_singleton.mp m, hgI] at e; cases e) (F'.keep b o e), F'.above⟩,
      fun p hp => ⟨hk₁ _ _ (fun m => hnw' p hp (List.mem_singleton.mp m)) (N' p hp).1, (N' p hp).2⟩⟩
  by_cases hlt : i < n
  · refine wpAny_passesOwn hE (W.item i _ _ _ hlt hst' fun v h₁ tk₁ hP hst₁ hk₁ => ?_)
    obtain ⟨F₁, N₁⟩ := next h₁ hk₁
    refine wpAny_assign_Name (wpAny_storeName_local hx F₁.ns (fun h₂ hn₂ hs₂ => ?_) hp)
    have F₂ := F₁.set hn₂ hs₂
    have N₂ := N₁.set hs₂
    obtain ⟨oI', hoI'⟩ := hal _ _ hst₁
    have hoI2 : h₂.get? I = some oI' := (hs₂.2 I (Ne.symm hLI)).trans hoI'
    have N₃ : News g env.locals h₂ ((I, oI') :: news') := by
      intro p hp
      rcases List.mem_cons.mp hp with e | hp
      · subst e; exact ⟨hoI2, Ne.symm hLI, hgI⟩
      · exact N₂ p hp
    have hst₂ : St (i + 1) h₂ := W.frame _ _ _ hst₁ fun b hb o e => (hs₂.2 b fun q => by
      rcases hfp b hb with r | ⟨o', r⟩ | ⟨o', r⟩
      · exact hLI (q.symm.trans r)
      · obtain ⟨oL, _, _, hL, _⟩ := F'.ns
        have hnl := F'.above
        rw [q] at r
        exact absurd (Nat.lt_of_lt_of_le (Heap.lt_size r) hnl) (Nat.lt_irrefl _)
      · exact (N' _ (hneed _ _ _ _ hJ _ r)).2.1 q).trans e
    refine wpAny_passesOwn hE (wpAny_mono (turn i v gs m' news' h₂ _ oI' hlt hP hJ F₂ N₃ hnw') (fun f s₃ h₃ => ?_) fun _ _ e => e)
    have fin : TurnP g env.locals I oI' (Inv (i + 1)) s₂ Q .next s₃ → ∃ m, m < n + 1 - i ∧ ∃ h' tk gs m' news' i, s₃ = { s₂ with heap := h', toks := tk, gens := gs } ∧ St i h' ∧ Fr g env.locals h' m' ∧ News g env.locals h' news' ∧ (∀ p ∈ news', p.1 ≠ I) ∧ Inv i gs m' news' ∧ i ≤ n ∧ m = n + 1 - i := by
      rintro ⟨h₃', tk₃, gs₃, m₃, news₃, rfl, F₃, N₃', ha₃, hJ₃⟩
      refine ⟨n + 1 - (i + 1), by omega, h₃', tk₃, gs₃, m₃, news₃, i + 1, rfl, ?_, F₃, fun p hp => N₃' p (List.mem_cons_of_mem _ hp), ha₃, hJ₃, hlt, rfl⟩
      refine W.frame _ _ _ hst₂ fun b hb o e => ?_
      rcases hfp b hb with r | ⟨o', r⟩ | ⟨o', r⟩
      · have := (N₃' _ (List.mem_cons_self ..)).1
        rw [r] at e ⊢; rw [hoI2] at e; cases e; exact this
      · have := F₂.keep _ _ r
        rw [e] at this; cases this
        exact F₃.keep _ _ r
      · have := (N₂ _ (hneed _ _ _ _ hJ _ r)).1
        dsimp only at this
        rw [e] at this; cases this
        exact (N₃' _ (List.mem_cons_of_mem _ (hneed _ _ _ _ hJ₃ _ r))).1
    cases f with
    | ret v => exact h₃
    | brk => exact h₃
    | cont => exact fin h₃
    | next => exact fin h₃
  · have hin : i = n := by omega
    subst hin
    refine wpAny_passesOwn hE (W.done _ _ _ hst' fun h₁ tk₁ hk₁ => wpAny_execs_nil ?_)
    obtain ⟨F₁, N₁⟩ := next h₁ hk₁
    exact done gs m' news' h₁ tk₁ hJ F₁ N₁
end Mine
end
noncomputable section
namespace Mine
section
variable {prog : Program} {w : World} {A : Around} {E : Value → Shared → Prop} {s : Shared} {env : Env} {x : Str} {body : List Stmt} {Q : Flow → Shared → Prop} {g : Heap} {m : Str → Option Value} {news : List (Addr × Obj)}

/-- the turns and the end of a loop, the iterator's values told by P -/
def LoopOk (prog : Program) (w : World) (A : Around) (env : Env) (x : Str) (body : List Stmt) (Q : Flow → Shared → Prop) (E : Value → Shared → Prop) (g : Heap) (s : Shared) (n : Nat) (P : Nat → Value → Prop)
    (Inv : Nat → Array GenState → (Str → Option Value) → List (Addr × Obj) → Prop) : Prop :=
  (∀ i v gs m news h tk I oI, i < n → P i v → Inv i gs m news → Fr g env.locals h (fun y => if y = x then some v else m y) → News g env.locals h ((I, oI) :: news) → (∀ p ∈ news, p.1 ≠ I) →
      wpAny (model prog w) A (execs body env) (TurnP g env.locals I oI (Inv (i + 1)) s Q) E { s with heap := h, toks := tk, gens := gs }) ∧
  (∀ gs m news h tk, Inv n gs m news → Fr g env.locals h m → News g env.locals h news → Q .next { s with heap := h, toks := tk, gens := gs })

theorem forG_core {oI : Obj} {fp : List Addr} {n : Nat} {P : Nat → Value → Prop} {St : Nat → Heap → Prop} {need : List (Addr × Obj)} {Inv : Nat → Array GenState → (Str → Option Value) → List (Addr × Obj) → Prop}
    (F : Fr g env.locals s.heap m) (N : News g env.locals s.heap news) (hfz : oI.isFreed = false)
    (W : Walks prog w A s.heap.objs.size fp [s.heap.objs.size] n P St) (hfp : ∀ b ∈ fp, b = s.heap.objs.size ∨ (∃ o, g.get? b = some o) ∨ (∃ o, (b, o) ∈ need))
    (hal : ∀ i h, St i h → ∃ o, h.get? s.heap.objs.size = some o) (hst : St 0 (s.heap.push oI)) (hneed : ∀ i gs m news, Inv i gs m news → ∀ p ∈ need, p ∈ news) (h0 : Inv 0 s.gens m news)
    (h : LoopOk prog w A env x body Q E g s n P Inv) : ForG prog w A env x body Q E (.ref s.heap.objs.size) { s with heap := s.heap.push oI } := by
  have hlt : ∀ p ∈ news, p.1 ≠ s.heap.objs.size := fun p hp e => absurd (Heap.lt_size (N p hp).1) (by rw [e]; exact Nat.lt_irrefl _)
  have hgI : g.get? s.heap.objs.size = none := by
    cases q : g.get? s.heap.objs.size with
    | none => rfl
    | some o => exact absurd (Heap.lt_size (F.keep _ _ q)) (Nat.lt_irrefl _)
  refine ⟨_, fp, n, P, St, g, oI, m, news, need, Inv, rfl, W, hfp, hal, hst, F.push _, ?_, hlt, hneed, h0, ?_, ?_⟩
  · intro p hp
    rcases List.mem_cons.mp hp with e | hp
    · subst e
      exact ⟨Heap.get?_push_size _ hfz, (Nat.ne_of_gt F.ns.lt), hgI⟩
    · exact ⟨Heap.get?_push_of_some _ (N p hp).1, (N p hp).2⟩
  · intro i v gs m news h' tk oI' hi hP hI F' N' hn
    exact h.1 i v gs m news h' tk _ oI' hi hP hI F' N' hn
  · intro gs m news h' tk hI F' N'
    exact h.2 gs m news h' tk hI F' N'

theorem iter_listN {l : Addr} {vs : Array Value} {c : Nat} {Inv : Nat → Array GenState → (Str → Option Value) → List (Addr × Obj) → Prop} (hh : A.handled = none)
    (F : Fr g env.locals s.heap m) (N : News g env.locals s.heap news) (hl : (l, ({ cls := .type "list", data := .seq vs c } : Obj)) ∈ news)
    (hneed : ∀ i gs m news, Inv i gs m news → (l, ({ cls := .type "list", data := .seq vs c } : Obj)) ∈ news) (h0 : Inv 0 s.gens m news)
    (h : LoopOk prog w A env x body Q E g s vs.size (fun i v => vs[i]? = some v) Inv) :
    wpAny (model prog w) A (pyIter (.ref l)) (fun it s₂ => ForG prog w A env x body Q E it s₂) E s := by
  have ho := (N _ hl).1
  have hls : s.heap.IsList l vs := ⟨_, ho, rfl, c, rfl⟩
  have hne : l ≠ s.heap.objs.size := Nat.ne_of_lt (Heap.lt_size ho)
  refine wpAny_pyIter_list hls ?_
  refine forG_core (need := [(l, ({ cls := .type "list", data := .seq vs c } : Obj))]) F N rfl (Walks.list (prog := prog) (w := w) hh s.heap.objs.size l hne vs) ?_ (fun i h st => let ⟨o, ho, _⟩ := st.1; ⟨o, ho⟩)
    ⟨⟨_, Heap.get?_push_size _ rfl, rfl, rfl⟩, hls.at fun o e => Heap.get?_push_of_some _ e⟩ (fun i gs m nx hi p hp => by rw [List.mem_singleton.mp hp]; exact hneed i gs m nx hi) h0 h
  intro b hb
  simp only [List.mem_cons, List.mem_nil_iff, or_false] at hb
  rcases hb with r | r
  · exact .inl r
  · exact .inr (.inr ⟨_, by rw [r]; exact List.mem_singleton.mpr rfl⟩)

theorem iter_listB {l : Addr} {vs : Array Value} {Inv : Nat → Array GenState → (Str → Option Value) → List (Addr × Obj) → Prop} (hh : A.handled = none)
    (F : Fr g env.locals s.heap m) (N : News g env.locals s.heap news) (hl : g.IsList l vs) (h0 : Inv 0 s.gens m news)
    (h : LoopOk prog w A env x body Q E g s vs.size (fun i v => vs[i]? = some v) Inv) :
    wpAny (model prog w) A (pyIter (.ref l)) (fun it s₂ => ForG prog w A env x body Q E it s₂) E s := by
  have hls : s.heap.IsList l vs := hl.at fun o e => F.keep l o e
  obtain ⟨ol, hol, _⟩ := id hls
  obtain ⟨og, hog, _⟩ := id hl
  have hne : l ≠ s.heap.objs.size := Nat.ne_of_lt (Heap.lt_size hol)
  refine wpAny_pyIter_list hls ?_
  refine forG_core (need := []) F N rfl (Walks.list (prog := prog) (w := w) hh s.heap.objs.size l hne vs) ?_ (fun i h st => let ⟨o, ho, _⟩ := st.1; ⟨o, ho⟩)
    ⟨⟨_, Heap.get?_push_size _ rfl, rfl, rfl⟩, hls.at fun o e => Heap.get?_push_of_some _ e⟩ (fun i gs m nx hi p hp => nomatch hp) h0 h
  intro b hb
  simp only [List.mem_cons, List.mem_nil_iff, or_false] at hb
  rcases hb with r | r
  · exact .inl r
  · exact .inr (.inl ⟨_, by rw [r]; exact hog⟩)

theorem iter_strS {y : Str} {t : Tok} {Inv : Nat → Array GenState → (Str → Option Value) → List (Addr × Obj) → Prop} (hh : A.handled = none)
    (F : Fr g env.locals s.heap m) (N : News g env.locals s.heap news) (h0 : Inv 0 s.gens m news)
    (h : LoopOk prog w A env x body Q E g s y.cps.size (SignAt y) Inv) :
    wpAny (model prog w) A (pyIter (.str y t)) (fun it s₂ => ForG prog w A env x body Q E it s₂) E s := by
  cases ha : y.cps.all (· < 128)
  · refine wpAny_pyIter_wide ha (forG_core (need := []) F N rfl (Walks.strWide hh _ y t) ?_ (fun i h st => let ⟨o, ho, _⟩ := st; ⟨o, ho⟩) ⟨_, Heap.get?_push_size _ rfl, rfl, rfl⟩ (fun i gs m nx hi p hp => nomatch hp) h0 h)
    intro b hb
    exact .inl (List.mem_singleton.mp hb)
  · refine wpAny_pyIter_ascii ha (forG_core (need := []) F N rfl (Walks.strAscii hh _ y t) ?_ (fun i h st => let ⟨o, ho, _⟩ := st; ⟨o, ho⟩) ⟨_, Heap.get?_push_size _ rfl, rfl, rfl⟩ (fun i gs m nx hi p hp => nomatch hp) h0 h)
    intro b hb
    exact .inl (List.mem_singleton.mp hb)

theorem iter_range {r : Addr} {a b c : Int} {t u v : Tok} {n : Nat} {Inv : Nat → Array GenState → (Str → Option Value) → List (Addr × Obj) → Prop} (hh : A.handled = none) (hr : IsRange s.heap r a b c t u v) (hs : Builtin.Range.small a b c = true) (hn : Builtin.Range.rangeSize a b c = (n : Int))
    (F : Fr g env.locals s.heap m) (N : News g env.locals s.heap news) (h0 : Inv 0 s.gens m news)
    (h : LoopOk prog w A env x body Q E g s n (fun i v => ∃ t, v = .int (a + i * c) t) Inv) :
    wpAny (model prog w) A (pyIter (.ref r)) (fun it s₂ => ForG prog w A env x body Q E it s₂) E s := by
  refine wpAny_pyIter_range hr hs ?_
  refine forG_core (need := []) F N rfl (Walks.range hh _ a c n) ?_ (fun i h st => ⟨_, st⟩) ?_ (fun i gs m nx hi p hp => nomatch hp) h0 h
  · intro b hb
    exact .inl (List.mem_singleton.mp hb)
  · have e1 : a + ((0 : Nat) : Int) * c = a := by simp
    have e2 : (n : Int) - ((0 : Nat) : Int) = n := by simp
    show IsRangeIter _ _ _ _ _
    rw [hn, e1, e2]
    exact Heap.get?_push_size _ rfl
end
end Mine
end
noncomputable section
namespace Mine


theorem first_addr {g h : Heap} {L a : Addr} {o : Obj} {r : List (Addr × Obj)} (_ : News g L h ((a, o) :: r)) : ∃ b, b = a := ⟨_, rfl⟩

theorem remap {g h : Heap} {L : Addr} {m m' : Str → Option Value} (F : Fr g L h m) (e : ∀ y, m' y = m y) : Fr g L h m' := by
  have : m' = m := funext e
  rw [this]; exact F
theorem known1 {g h : Heap} {L : Addr} {m : Str → Option Value} {x : Str} {v : Value} {n1 : Str} {w1 : Value} (F : Fr g L h (fun y => if y = x then some v else m y)) (h1 : m n1 = some w1) :
    Fr g L h (fun y => if y = x then some v else if y = n1 then some w1 else m y) := by
  refine remap F fun y => ?_
  by_cases a : y = x
  · simp [a]
  · simp only [if_neg a]
    repeat' split
    all_goals (first | rfl | (subst_vars; simp_all))
theorem know1 {g h : Heap} {L : Addr} {m : Str → Option Value} {n1 : Str} {w1 : Value} (F : Fr g L h m) (h1 : m n1 = some w1) :
    Fr g L h (fun y => if y = n1 then some w1 else m y) := by
  refine remap F fun y => ?_
  repeat' split
  all_goals (first | rfl | (subst_vars; simp_all))
theorem known2 {g h : Heap} {L : Addr} {m : Str → Option Value} {x : Str} {v : Value} {n1 n2 : Str} {w1 w2 : Value} (F : Fr g L h (fun y => if y = x then some v else m y)) (h1 : m n1 = some w1) (h2 : m n2 = some w2) :
    Fr g L h (fun y => if y = x then some v else if y = n1 then some w1 else if y = n2 then some w2 else m y) := by
  refine remap F fun y => ?_
  by_cases a : y = x
  · simp [a]
  · simp only [if_neg a]
    repeat' split
    all_goals (first | rfl | (subst_vars; simp_all))
theorem know2 {g h : Heap} {L : Addr} {m : Str → Option Value} {n1 n2 : Str} {w1 w2 : Value} (F : Fr g L h m) (h1 : m n1 = some w1) (h2 : m n2 = some w2) :
    Fr g L h (fun y => if y = n1 then some w1 else if y = n2 then some w2 else m y) := by
  refine remap F fun y => ?_
  repeat' split
  all_goals (first | rfl | (subst_vars; simp_all))
theorem known3 {g h : Heap} {L : Addr} {m : Str → Option Value} {x : Str} {v : Value} {n1 n2 n3 : Str} {w1 w2 w3 : Value} (F : Fr g L h (fun y => if y = x then some v else m y)) (h1 : m n1 = some w1) (h2 : m n2 = some w2) (h3 : m n3 = some w3) :
    Fr g L h (fun y => if y = x then some v else if y = n1 then some w1 else if y = n2 then some w2 else if y = n3 then some w3 else m y) := by
  refine remap F fun y => ?_
  by_cases a : y = x
  · simp [a]
  · simp only [if_neg a]
    repeat' split
    all_goals (first | rfl | (subst_vars; simp_all))
theorem know3 {g h : Heap} {L : Addr} {m : Str → Option Value} {n1 n2 n3 : Str} {w1 w2 w3 : Value} (F : Fr g L h m) (h1 : m n1 = some w1) (h2 : m n2 = some w2) (h3 : m n3 = some w3) :
    Fr g L h (fun y => if y = n1 then some w1 else if y = n2 then some w2 else if y = n3 then some w3 else m y) := by
  refine remap F fun y => ?_
  repeat' split
  all_goals (first | rfl | (subst_vars; simp_all))
theorem known4 {g h : Heap} {L : Addr} {m : Str → Option Value} {x : Str} {v : Value} {n1 n2 n3 n4 : Str} {w1 w2 w3 w4 : Value} (F : Fr g L h (fun y => if y = x then some v else m y)) (h1 : m n1 = some w1) (h2 : m n2 = some w2) (h3 : m n3 = some w3) (h4 : m n4 = some w4) :
    Fr g L h (fun y => if y = x then some v else if y = n1 then some w1 else if y = n2 then some w2 else if y = n3 then some w3 else if y = n4 then some w4 else m y) := by
  refine remap F fun y => ?_
  by_cases a : y = x
  · simp [a]
  · simp only [if_neg a]
    repeat' split
    all_goals (first | rfl | (subst_vars; simp_all))
theorem know4 {g h : Heap} {L : Addr} {m : Str → Option Value} {n1 n2 n3 n4 : Str} {w1 w2 w3 w4 : Value} (F : Fr g L h m) (h1 : m n1 = some w1) (h2 : m n2 = some w2) (h3 : m n3 = some w3) (h4 : m n4 = some w4) :
    Fr g L h (fun y => if y = n1 then some w1 else if y = n2 then some w2 else if y = n3 then some w3 else if y = n4 then some w4 else m y) := by
  refine remap F fun y => ?_
  repeat' split
  all_goals (first | rfl | (subst_vars; simp_all))
theorem known5 {g h : Heap} {L : Addr} {m : Str → Option Value} {x : Str} {v : Value} {n1 n2 n3 n4 n5 : Str} {w1 w2 w3 w4 w5 : Value} (F : Fr g L h (fun y => if y = x then some v else m y)) (h1 : m n1 = some w1) (h2 : m n2 = some w2) (h3 : m n3 = some w3) (h4 : m n4 = some w4) (h5 : m n5 = some w5) :
    Fr g L h (fun y => if y = x then some v else if y = n1 then some w1 else if y = n2 then some w2 else if y = n3 then some w3 else if y = n4 then some w4 else if y = n5 then some w5 else m y) := by
  refine remap F fun y => ?_
  by_cases a : y = x
  · simp [a]
  · simp only [if_neg a]
    repeat' split
    all_goals (first | rfl | (subst_vars; simp_all))
theorem know5 {g h : Heap} {L : Addr} {m : Str → Option Value} {n1 n2 n3 n4 n5 : Str} {w1 w2 w3 w4 w5 : Value} (F : Fr g L h m) (h1 : m n1 = some w1) (h2 : m n2 = some w2) (h3 : m n3 = some w3) (h4 : m n4 = some w4) (h5 : m n5 = some w5) :
    Fr g L h (fun y => if y = n1 then some w1 else if y = n2 then some w2 else if y = n3 then some w3 else if y = n4 then some w4 else if y = n5 then some w5 else m y) := by
  refine remap F fun y => ?_
  repeat' split
  all_goals (first | rfl | (subst_vars; simp_all))

theorem mapSeq_set {vs : Array Value} {n i : Nat} {v : Value} : Obj.mapSeq (·.setIfInBounds i v) ({ cls := .type "list", data := .seq vs n } : Obj) = { cls := .type "list", data := .seq (vs.setIfInBounds i v) n } := by
  simp [Obj.mapSeq]

theorem set_last {prog : Program} {w : World} {A : Around} {E : Value → Shared → Prop} {s : Shared} {l : Addr} {vs : Array Value} {n : Nat} {t : Tok} {v : Value} {Q : Unit → Shared → Prop} (ho : s.heap.get? l = some { cls := .type "list", data := .seq vs n })
    (hz : 0 < vs.size) (hQ : ∀ h' n', h'.get? l = some { cls := .type "list", data := .seq (vs.setIfInBounds (vs.size - 1) v) n' } → Heap.SameBut l s.heap h' → Q () { s with heap := h' }) :
    wpAny (model prog w) A (setItem (.ref l) (.int (-1) t) v) Q E s := by
  have hl : s.heap.IsList l vs := ⟨_, ho, rfl, n, rfl⟩
  have hx : vs[vs.size - 1]? = some vs[vs.size - 1] := Array.getElem?_eq_getElem (by omega)
  unfold setItem
  try with_reducible refine wpAny_holding ?_
  first | refine wpAny_bind (wpAny_pure ?_) | skip
  refine wpAny_bind (wpAny_sequenceKey hl.typeIs (by decide) ?_)
  refine wpAny_bind (wpAny_callSpecial?_slot (name := Str.ofString "__setitem__") hl.typeIs slot_list_setitem
    (wpAny_call_entry slot_list_setitem hl.typeIs entry_list_setitem ?_ (args_list_setitem _ _ _)))
  show wpAny _ _ (Builtin.List.listSubscript? (.int (-1) t) >>= _) _ _ s
  refine wpAny_bind (wpAny_listSubscript_int (by decide) ?_)
  have hidx : seqIndex? (-1) vs.size = some (vs.size - 1) := by
    rw [seqIndex_neg (by decide) (by omega)]
    congr 1; omega
  show wpAny _ _ ((Builtin.List.listItems (.ref l) >>= fun xs => pure ((seqIndex? (-1) xs.size).bind fun i => xs[i]?.map (i, ·))) >>= _) _ _ s
  refine wpAny_bind (wpAny_bind ?_)
  show wpAny _ _ (seqItems? (.ref l) >>= _) _ _ s
  refine wpAny_bind (wpAny_seqItems ho rfl (wpAny_pure (wpAny_pure ?_)))
  rw [hidx]
  simp only [Option.bind_some, hx, Option.map_some]
  show wpAny _ _ (setSeqItemAt l (vs.size - 1) v >>= _) _ _ s
  have hfin : (s.heap.update l (Obj.mapSeq (·.setIfInBounds (vs.size - 1) v))).get? l = some { cls := .type "list", data := .seq (vs.setIfInBounds (vs.size - 1) v) n } := by
    rw [Heap.get?_update_self _ ho (by rw [mapSeq_set]; rfl), mapSeq_set]
  refine wpAny_bind (wpAny_setSeqItemAt ho rfl ?_)
  first
    | exact wpAny_bind (wpAny_pure (wpAny_pure ⟨.none, rfl, wpAny_pure (hQ _ n hfin (Heap.SameBut.update ..))⟩))
    | exact wpAny_pure ⟨.none, rfl, wpAny_pure (hQ _ n hfin (Heap.SameBut.update ..))⟩

theorem strs_setLast {vs : Array Value} {xs : List Str} {x : Str} {t : Tok} (h : StrsAre vs.toList xs) (hz : xs ≠ []) : StrsAre (vs.setIfInBounds (vs.size - 1) (.str x t)).toList (xs.dropLast ++ [x]) := by
  rcases W.strs_nil_or_snoc h with ⟨_, r⟩ | ⟨jts, ys, z, t', e1, e2, h'⟩
  · exact absurd r hz
  · subst e1; subst e2
    have : (jts.push (.str z t')).setIfInBounds ((jts.push (.str z t')).size - 1) (.str x t) = jts.push (.str x t) := by
      apply Array.ext'
      simp
    rw [this, List.dropLast_concat]
    exact strsAre_push h'

def lastS (ys : List Str) : Str := ys.getD (ys.length - 1) Str.empty

theorem sub_last {prog : Program} {w : World} {A : Around} {E : Value → Shared → Prop} {s : Shared} {value slice : PySem.Expr} {l : Addr} {vs : Array Value} {n : Nat} {ys : List Str} {u : Tok} {Q : Value → Shared → Prop} (ho : s.heap.get? l = some { cls := .type "list", data := .seq vs n })
    (hi : StrsAre vs.toList ys) (hne : ys ≠ []) (h : ∀ t, Q (.str (lastS ys) t) s)
    (hs : subscripted slice false (.ref l) (.int (-1) u) = operate [.ref l, .int (-1) u] (getItem (.ref l) (.int (-1) u)) := by with_unfolding_all rfl) :
    wpAny (model prog w) A (subscriptTail value slice (.ref l) (.int (-1) u)) Q E s := by
  have hp : 0 < ys.length := List.length_pos_iff.mpr hne
  refine item_strs_negR (vs := vs.toList) ⟨_, ho, rfl, n, rfl⟩ hi (by decide) (by omega) (by decide) (fun t => ?_) hs
  have : ((-1 : Int) + ys.length).toNat = ys.length - 1 := by omega
  rw [this]; exact h t
end Mine
end
noncomputable section
namespace Mine
section
variable {prog : Program} {w : World} {A : Around} {h₀ : Heap} {L : Addr} {m : Str → Option Value} {env : Env} {ct elt : Expr} {x : Str} {scope : Scope} {cl : List (Str × Addr)} {s : Shared} {S : List (Addr × Obj) → Prop} {P : Nat → Value → Prop} {Fin : List Value → List (Addr × Obj) → Prop} {news : List (Addr × Obj)}

theorem rest_gen {α β : Type} {n : Nat} {items : List α} (hn : items.length = n) (R : α → Value → Prop) (hP : ∀ i v, i < n → P i v → ∃ a, items[i]? = some a ∧ R a v) (g : α → β) (Out : β → Value → Prop) (Acc : List Value → List β → Prop)
    (h0 : Acc [] []) (hs : ∀ ys bs y b, Acc ys bs → Out b y → Acc (ys ++ [y]) (bs ++ [b]))
    (turn : ∀ a v I oI C oC D m₂ ys h tk (E' : Value → Shared → Prop), a ∈ items → R a v → LCg.NsObj oC m₂ → m₂ x = some v → Fr h₀ L h m → News h₀ L h ((I, oI) :: (C, oC) :: (D, LCg.lst ys) :: news) → LCg.Off3 I C D news → ((@Ne Nat I C) ∧ (@Ne Nat I D) ∧ (@Ne Nat C D)) →
      wpAny (model prog w) A (eval elt (compEnvC scope cl C env)) (LCg.CompEnd h₀ L m { s with heap := h, toks := tk } I oI C oC D (LCg.lst ys) S (fun y news' => news' = news ∧ Out (g a) y)) E' { s with heap := h, toks := tk })
    (fin : ∀ ys, Acc ys (items.map g) → Fin ys news) : LCg.CompRest prog w A h₀ L m env elt x scope cl s S P Fin n 0 [] news := by
  have key : ∀ (j i : Nat) (ys : List Value), i + j = n → Acc ys ((items.take i).map g) → LCg.CompRest prog w A h₀ L m env elt x scope cl s S P Fin j i ys news := by
    intro j
    induction j with
    | zero =>
      intro i ys hi hy
      have e : i = items.length := by omega
      subst e
      rw [List.take_length] at hy
      exact LCg.CompRest.zero (fin ys hy)
    | succ j ih =>
      intro i ys hi hy
      refine LCg.CompRest.succ ?_
      intro v I oI C oC D m₂ h tk E' hv hC hx F N off ne
      obtain ⟨k, hk, hv'⟩ := hP i v (by omega) hv
      refine wpAny_mono (turn k v I oI C oC D m₂ ys h tk E' (List.mem_of_getElem? hk) hv' hC hx F N off ne) (fun y s₂ hq => ?_) fun _ _ e => e
      obtain ⟨h', tk', nw, e, F', N', off', hS, hn, ho⟩ := hq
      rw [hn] at N' off' hS
      refine ⟨h', tk', news, e, F', N', off', hS, ?_⟩
      refine ih (i + 1) _ (by omega) ?_
      rw [List.take_add_one, hk]
      simpa using hs _ _ _ _ hy ho
  exact key n 0 [] (by omega) (by simpa using h0)

theorem restT_gen {α β : Type} {n : Nat} {items : List α} (hn : items.length = n) (R : α → Value → Prop) (hP : ∀ i v, i < n → P i v → ∃ a, items[i]? = some a ∧ R a v) (p : α → Bool) (g : α → β) (Out : β → Value → Prop) (Acc : List Value → List β → Prop)
    (h0 : Acc [] []) (hs : ∀ ys bs y b, Acc ys bs → Out b y → Acc (ys ++ [y]) (bs ++ [b]))
    (turn : ∀ a v I oI C oC D m₂ ys h tk (E' : Value → Shared → Prop), a ∈ items → R a v → LCg.NsObj oC m₂ → m₂ x = some v → Fr h₀ L h m → News h₀ L h ((I, oI) :: (C, oC) :: (D, LCg.lst ys) :: news) → LCg.Off3 I C D news → ((@Ne Nat I C) ∧ (@Ne Nat I D) ∧ (@Ne Nat C D)) →
      wpAny (model prog w) A (isTrue ct (compEnvC scope cl C env) (eval ct (compEnvC scope cl C env))) (fun ok s' => if ok = true then
        wpAny (model prog w) A (eval elt (compEnvC scope cl C env)) (LCg.CompEnd h₀ L m { s with heap := h, toks := tk } I oI C oC D (LCg.lst ys) S (fun y news' => news' = news ∧ p a = true ∧ Out (g a) y)) E' s'
        else LCg.CompEnd h₀ L m { s with heap := h, toks := tk } I oI C oC D (LCg.lst ys) S (fun _ news' => news' = news ∧ p a = false) Value.none s') E' { s with heap := h, toks := tk })
    (fin : ∀ ys, Acc ys ((items.filter p).map g) → Fin ys news) : LCt.CompRestT prog w A h₀ L m env ct elt x scope cl s S P Fin n 0 [] news := by
  have key : ∀ (j i : Nat) (ys : List Value), i + j = n → Acc ys (((items.take i).filter p).map g) → LCt.CompRestT prog w A h₀ L m env ct elt x scope cl s S P Fin j i ys news := by
    intro j
    induction j with
    | zero =>
      intro i ys hi hy
      have e : i = items.length := by omega
      subst e
      rw [List.take_length] at hy
      exact LCt.CompRestT.zero (fin ys hy)
    | succ j ih =>
      intro i ys hi hy
      refine LCt.CompRestT.succ ?_
      intro v I oI C oC D m₂ h tk E' hv hC hx F N off ne
      obtain ⟨k, hk, hv'⟩ := hP i v (by omega) hv
      refine wpAny_mono (turn k v I oI C oC D m₂ ys h tk E' (List.mem_of_getElem? hk) hv' hC hx F N off ne) (fun ok s₂ hq => ?_) fun _ _ e => e
      cases ok with
      | true =>
        rw [if_pos rfl] at hq ⊢
        refine wpAny_mono hq (fun y s₃ hq => ?_) fun _ _ e => e
        obtain ⟨h', tk', nw, e, F', N', off', hS, hn, hp, ho⟩ := hq
        rw [hn] at N' off' hS
        refine ⟨h', tk', news, e, F', N', off', hS, ?_⟩
        refine ih (i + 1) _ (by omega) ?_
        rw [List.take_add_one, hk]
        simpa [List.filter_append, hp] using hs _ _ _ _ hy ho
      | false =>
        rw [if_neg Bool.false_ne_true] at hq ⊢
        obtain ⟨h', tk', nw, e, F', N', off', hS, hn, hp⟩ := hq
        rw [hn] at N' off' hS
        refine ⟨h', tk', news, e, F', N', off', hS, ?_⟩
        refine ih (i + 1) _ (by omega) ?_
        rw [List.take_add_one, hk]
        simpa [List.filter_append, hp] using hy
  exact key n 0 [] (by omega) (by simpa using h0)

theorem strs_items {vs : Array Value} {ss : List Str} (hi : StrsAre vs.toList ss) : ∀ i v, i < vs.size → vs[i]? = some v → ∃ a, ss[i]? = some a ∧ ∃ t, v = Value.str a t := by
  intro i v hlt hv
  have hl := hi.length
  obtain ⟨t, hx⟩ := hi.at (show ss[i]? = some ss[i] from List.getElem?_eq_getElem (by simp at hl; omega))
  have hP' : vs.toList[i]? = some v := by simpa using hv
  rw [hx] at hP'
  exact ⟨_, List.getElem?_eq_getElem (by simp at hl; omega), t, (Option.some.inj hP').symm⟩
theorem acc_strs : ∀ (ys : List Value) (bs : List Str) (y : Value) (b : Str), StrsAre ys bs → (∃ t, y = .str b t) → StrsAre (ys ++ [y]) (bs ++ [b]) := by
  rintro ys bs y b h ⟨t, rfl⟩
  exact W.kct_snoc h
end
end Mine
end
noncomputable section
namespace Mine

/-- a def with cells of its own is entered -/
theorem enterC {prog : Program} {w : World} {A : Around} {s : Shared} {K : Frag}
    {R : Result → Shared → Prop} {name qual : Str} {params : Arguments} {body : List Stmt} {scope : Scope} {dV kV doc pm cdv ct oc : Value} {an od : Option Addr} {osl : Array (Option Value)} {f : Addr} {args : Args} {binds : List (Str × Value)}
    (X : K.In s.heap) (hlim : s.heap.NoLimit)
    (ho : K.lookup f = some ⟨oc, od, .func (fnOf name qual params body scope dV kV doc pm an cdv ct), osl⟩) (hcd : codeIn K cdv qual = true) (hroom : A.depth < recursionLimit)
    (hbind : BindsTo s (fnOf name qual params body scope dV kV doc pm an cdv ct) args binds)
    (hkind : ∀ n, ∀ x ∈ binds, scope.names.lookup x.1 = some .local ∨ (scope.names.lookup x.1 = some .cell ∧ ((cellsFrom n scope.names []).lookup x.1).isSome = true))
    (hnd : ((cellsFrom 0 scope.names []).map (·.1)).Nodup)
    (h : ∀ g L' h₁ tk cells, g = s.heap → Fr g L' h₁ (bindL (envOfC qual scope L' f cdv).kindOf binds fun _ => none) → News g L' h₁ cells →
      CellsAre (bindC (envOfC qual scope L' f cdv).kindOf binds fun _ => none) (cellsFrom (L' + 1) scope.names []) cells → K.In g →
      wpAny (model prog w) (A.deeper (envOfC qual scope L' f cdv)) (execs body (envOfC qual scope L' f cdv))
        (fun fl s' => R (.ok (.ret (match fl with | .ret v => v | _ => .none))) s')
        (fun e s' => wpAny (model prog w) (A.deeper (envOfC qual scope L' f cdv)) (leaving (envOfC qual scope L' f cdv) e) (fun _ s'' => R (.error e) s'') (fun e' s'' => R (.error e') s'') s')
        { s with heap := h₁, toks := tk })
    (hco : scope.isCoroutine = false) (hgen : scope.isGenerator = false) (hk : scope.kind = .function) : codeAny (model prog w) A (.call (.ref f) args) R s := by
  refine codeAny_call_function (fd := fnOf name qual params body scope dV kV doc pm an cdv ct) hroom (X _ _ ho) rfl hco hgen rfl (codeRec_of X hcd) (hbind _ _ _ _ ?_)
  refine wpAny_newFunctionEnv_cells hk (hkind _) fun env' he s' x => ?_
  subst he
  refine ⟨hlim.keeps x.toInCall.keep, codeAny_func ?_⟩
  obtain ⟨h₁, tk, rfl, _⟩ := x.done
  obtain ⟨cells, NC, Y⟩ := Cl.news (h₀ := s.heap) (Nat.le_refl _) fun n c hm => ⟨x.cell n c (lookup_of_mem_nodup (cellsFrom_names scope.names 0 (s.heap.objs.size + 1) [] [] rfl ▸ hnd) hm), x.above n c hm⟩
  exact h s.heap s.heap.objs.size h₁ tk cells rfl ⟨x.toInCall.ns, fun b o e => x.toInCall.keep b o e, Nat.le_refl _⟩ NC Y X
end Mine
end
noncomputable section
namespace Mine
section
variable {prog : Program} {w : World} {A : Around} {E : Value → Shared → Prop} {s : Shared} {h₀ : Heap} {L : Addr} {m : Str → Option Value} {env : Env}

/-- a tested block's iterator, whatever it walks -/
def SrcW (prog : Program) (w : World) (A : Around) (h₀ : Heap) (L : Addr) (m : Str → Option Value) (env : Env) (ct elt : PySem.Expr) (x : Str) (scope : Scope) (cl : List (Str × Addr)) (Fin : Shared → List Value → List (Addr × Obj) → Prop) (it : Value) (s₂ : Shared) : Prop :=
  ∃ I n P St news, it = .ref I ∧ Walks prog w A I [I] [I] n P St ∧ n ≤ sizeLine ∧ (∀ i h, St i h → ∃ o, h.get? I = some o) ∧ (∀ i h h' o, St i h → h.get? I = some o → h'.get? I = some o → St i h') ∧ St 0 s₂.heap ∧ I < s₂.heap.objs.size ∧
    Fr h₀ L s₂.heap m ∧ News h₀ L s₂.heap news ∧ L ≠ I ∧ h₀.get? I = none ∧ (∀ p ∈ news, p.1 ≠ I) ∧ LCt.CompRestT prog w A h₀ L m env ct elt x scope cl s₂ (fun _ => True) P (Fin s₂) n 0 [] news

theorem Assign_LC_W {ct elt iter : PySem.Expr} {x y : Str} {px py : Pos} {scope : Scope} {cl : List (Str × Addr)} {pos spos : Pos} {Q : Flow → Shared → Prop} (_F₀ : Fr h₀ L s.heap m) (hLe : env.locals = L)
    (hsw : swapsWith (.ListComp elt [⟨.Name x px, iter, [ct], 0⟩] scope pos) (some (.Name y py)) spos.line env = pure true)
    (hclos : closureFor scope env = pure cl) (hcell : ∀ z ∈ scope.names, z.2 ≠ .cell) (hkind : scope.kind = .function)
    (hnames : ∀ z ∈ scope.names, z.2 = .local → scope.names.lookup z.1 = some .local) (hx : scope.names.lookup x = some .local)
    (hy : env.kindOf y = some .local) (hp : (env.scope.kind == .class || (env.scope.kind == .module && env.locals != env.globals)) = false)
    (h : wpAny (model prog w) A (eval iter env) (fun xv s₁ => wpAny (model prog w) A (pyIter xv) (SrcW prog w A h₀ L m env ct elt x scope cl (fun s₂ => LCg.FinA h₀ L m s₂ y Q)) E s₁) E s)
    (hs : ∀ x, foldedSetIterable iter env x = pure x := by intro _; rfl) :
    wpAny (model prog w) A (exec (.Assign [.Name y py] (.ListComp elt [⟨.Name x px, iter, [ct], 0⟩] scope pos) spos) env) Q E s := by
  subst hLe
  rw [exec_Assign_Name_used _ _ _ _ hsw]
  refine wpAny_bind (wpAny_standAt (wpAny_bind ?_))
  show wpAny _ A (do let _ ← comprehension (.ListComp elt [⟨.Name x px, iter, [ct], 0⟩] scope pos) scope env _ (newList []) false (eval iter env) (some (assign (.Name y py) env))) _ _ s
  refine wpAny_bind (wpAny_mono (wpAny_comprehension_free (use := some (assign (.Name y py) env)) (Q := fun _ s' => Q .next s') rfl hs hclos hkind hnames
    (wpAny_mono h (fun xv s₁ h₁ => wpAny_mono h₁ (fun it s₂ h₂ => ?_) fun _ _ e => e) fun _ _ e => e)) (fun _ s' hq => wpAny_pure (wpAny_pure hq)) fun _ _ e => e)
  obtain ⟨I, n, P, St, news, rfl, W, hsz, hIo, hSt, hst, hlt, F, N, hLI, hI₀, off, R⟩ := h₂
  refine LCt.block_T W hsz hIo (fun i h h' o nw st e e' _ _ _ => hSt i h h' o st e e') hcell hkind hx hst (fun b hb => by rw [List.mem_singleton.mp hb]; exact hlt) F N hLI hI₀ off trivial R ?_
  intro D C h' tk m' ys news' F' N' o1 hn hC₀ hD₀ hCL hDL hCD offC fin
  show wpAny _ A (assign (.Name y py) env (.ref D)) _ _ _
  refine wpAny_assign_Name (wpAny_storeName_local hy F'.ns (fun h₂ hn₂ hs₂ => ?_) hp)
  have hL₀ : h₀.get? env.locals = none := Heap.get?_none_of_le F'.above
  have F₂ : Fr h₀ env.locals h₂ (fun z => if z = y then some (.ref D) else m z) := ⟨hn₂, fun b o e => hs₂.extBut b o (fun q => by rw [q, hL₀] at e; cases e) (F'.keep b o e), F'.above⟩
  refine ⟨m', hn.sameBut hs₂ hCL, fun h'' hs'' => fin D h'' _ (F₂.change hs'' hCL hC₀) (fun p hp => ?_) o1⟩
  have z : h₂.get? p.1 = some p.2 := hs₂.extBut _ _ (N' p hp).2.1 (N' p hp).1
  refine ⟨hs''.extBut _ _ ?_ z, (N' p hp).2⟩
  rcases List.mem_cons.mp hp with rfl | hp
  · exact Ne.symm hCD
  · exact offC p hp

theorem SrcW.range {ct elt : PySem.Expr} {x : Str} {scope : Scope} {cl : List (Str × Addr)} {Fin : Shared → List Value → List (Addr × Obj) → Prop} {E : Value → Shared → Prop} {r : Addr} {a b c : Int} {t u v : Tok} {n : Nat} {news : List (Addr × Obj)}
    (hh : A.handled = none) (F : Fr h₀ L s.heap m) (N : News h₀ L s.heap news) (hr : IsRange s.heap r a b c t u v) (hsm : Builtin.Range.small a b c = true) (hn : Builtin.Range.rangeSize a b c = ((n : Nat) : Int)) (hsz : n ≤ sizeLine)
    (h : ∀ g, LCt.CompRestT prog w A h₀ L m env ct elt x scope cl { s with heap := g } (fun _ => True) (fun i v => ∃ t, v = .int (a + i * c) t) (Fin { s with heap := g }) n 0 [] news) :
    wpAny (model prog w) A (pyIter (.ref r)) (SrcW prog w A h₀ L m env ct elt x scope cl Fin) E s := by
  refine wpAny_pyIter_range hr hsm ?_
  have e1 : a + ((0 : Nat) : Int) * c = a := by simp
  have e2 : (n : Int) - ((0 : Nat) : Int) = n := by simp
  refine ⟨_, n, _, _, news, rfl, Walks.range hh _ a c n, hsz, (fun i h st => ⟨_, st⟩), (fun i h h' o st e e' => by
    have st' : h.get? _ = some _ := st
    show h'.get? _ = some _
    rw [e', ← e]; exact st'), ?_, ?_, F.push _, (fun p hp => ⟨Heap.get?_push_of_some _ (N p hp).1, (N p hp).2⟩), Nat.ne_of_lt F.ns.lt, next_is_new F, (fun p hp => Nat.ne_of_lt (Heap.lt_size (N p hp).1)), h _⟩
  · show IsRangeIter _ _ _ _ _
    rw [hn, e1, e2]
    exact Heap.get?_push_size _ rfl
  · show s.heap.objs.size < (s.heap.push _).objs.size
    rw [Heap.size_push]; exact Nat.lt_succ_self _
end
end Mine
end
noncomputable section
namespace Mine

/-- a def with cells of its own is entered; the objects at hs stand apart from its base, those in news are told -/
theorem enterCH {prog : Program} {w : World} {A : Around} {s : Shared} {K : Frag} (hs : List Addr) (news : List (Addr × Obj))
    {R : Result → Shared → Prop} {name qual : Str} {params : Arguments} {body : List Stmt} {scope : Scope} {dV kV doc pm cdv ct oc : Value} {an od : Option Addr} {osl : Array (Option Value)} {f : Addr} {args : Args} {binds : List (Str × Value)}
    (X : K.In s.heap) (hlim : s.heap.NoLimit) (hn : ∀ p ∈ news, s.heap.get? p.1 = some p.2 ∧ p.1 ∈ hs)
    (ho : K.lookup f = some ⟨oc, od, .func (fnOf name qual params body scope dV kV doc pm an cdv ct), osl⟩) (hcd : codeIn K cdv qual = true) (hroom : A.depth < recursionLimit)
    (hbind : BindsTo s (fnOf name qual params body scope dV kV doc pm an cdv ct) args binds)
    (hkind : ∀ n, ∀ x ∈ binds, scope.names.lookup x.1 = some .local ∨ (scope.names.lookup x.1 = some .cell ∧ ((cellsFrom n scope.names []).lookup x.1).isSome = true))
    (hnd : ((cellsFrom 0 scope.names []).map (·.1)).Nodup)
    (h : ∀ g L' h₁ tk cells, g = hid s.heap hs → Fr g L' h₁ (bindL (envOfC qual scope L' f cdv).kindOf binds fun _ => none) → News g L' h₁ (cells ++ news) →
      CellsAre (bindC (envOfC qual scope L' f cdv).kindOf binds fun _ => none) (cellsFrom (L' + 1) scope.names []) cells → s.heap.StaysIn h₁ → (∀ p ∈ news, p.1 < L') →
      wpAny (model prog w) (A.deeper (envOfC qual scope L' f cdv)) (execs body (envOfC qual scope L' f cdv))
        (fun fl s' => R (.ok (.ret (match fl with | .ret v => v | _ => .none))) s')
        (fun e s' => wpAny (model prog w) (A.deeper (envOfC qual scope L' f cdv)) (leaving (envOfC qual scope L' f cdv) e) (fun _ s'' => R (.error e) s'') (fun e' s'' => R (.error e') s'') s')
        { s with heap := h₁, toks := tk })
    (hco : scope.isCoroutine = false) (hgen : scope.isGenerator = false) (hk : scope.kind = .function) : codeAny (model prog w) A (.call (.ref f) args) R s := by
  refine codeAny_call_function (fd := fnOf name qual params body scope dV kV doc pm an cdv ct) hroom (X _ _ ho) rfl hco hgen rfl (codeRec_of X hcd) (hbind _ _ _ _ ?_)
  refine wpAny_newFunctionEnv_cells hk (hkind _) fun env' he s' x => ?_
  subst he
  refine ⟨hlim.keeps x.toInCall.keep, codeAny_func ?_⟩
  obtain ⟨h₁, tk, rfl, _⟩ := x.done
  have hk₁ := x.toInCall.keep
  obtain ⟨cells, NC, Y⟩ := Cl.news (h₀ := s.heap) (Nat.le_refl _) fun n c hm => ⟨x.cell n c (lookup_of_mem_nodup (cellsFrom_names scope.names 0 (s.heap.objs.size + 1) [] [] rfl ▸ hnd) hm), x.above n c hm⟩
  refine h _ s.heap.objs.size h₁ tk cells rfl ⟨x.toInCall.ns, fun b o e => hk₁ b o (of_hideAll _ e), Nat.le_of_eq (hideAll_size _ _)⟩ (fun p hp => ?_) Y hk₁ (fun p hp => Heap.lt_size (hn p hp).1)
  rcases List.mem_append.mp hp with hp | hp
  · refine ⟨(NC p hp).1, (NC p hp).2.1, ?_⟩
    cases q : (hideAll s.heap hs).get? p.1 with
    | none => rfl
    | some o => have := of_hideAll _ q; rw [(NC p hp).2.2] at this; cases this
  · exact ⟨hk₁ _ _ (hn p hp).1, Nat.ne_of_lt (Heap.lt_size (hn p hp).1), hideAll_none _ (hn p hp).2⟩
end Mine
end
noncomputable section
namespace Mine

set_option maxHeartbeats 4000000 in
theorem isint_spec {w : World} {dp un : Nat} {fr : Option (List Env)} {gd : Option (List Code)} {s : Shared} {x : Int} {t : Tok} {Q E : Value → Shared → Prop} (hD : dp + 1 < recursionLimit) (hU : un + 6 < cLine)
    (G : Gd w s.heap) 
    (ret : ∀ h' tk, s.heap.StaysIn h' → Q (.bool true) { s with heap := h', toks := tk }) :
    wpAny (M w) (ar dp fr gd un) (call (.ref 28) [.int x t]) Q E s := by
  have G0 := G
  unfold M; revert G; unfold Gd; k_fill; intro G
  obtain ⟨X, mean, mg, mb, T⟩ := G
  refine wpAny_call ?_
  k_dflt (refine' enter (binds := [(Str.ofString "x", .int x t)]) X T.nolimit ?k6 ?k7 ?k8 ?k9 ?kB ?_ ?c2 ?c3 ?c4 ?c5; (case k6 => k_is); (case k7 => k_is); (case k8 => (dsimp only; omega)); (case k9 => exact BindsTo.of_eq rfl); (case c5 => decide); (case kB => exact locs rfl); (case c2 => exact rfl); (case c3 => exact rfl); (case c4 => exact rfl))
  intro g L' h' hg F' N' X'
  subst hg
  (try dsimp only)
  (try k_fold)
  k_steps
  all_goals exact ret _ _ (Fr.keep (by assumption))

set_option maxHeartbeats 4000000 in
theorem whole_spec {w : World} {dp un : Nat} {fr : Option (List Env)} {gd : Option (List Code)} {s : Shared} {x y : Int} {n : Str} {t u tn : Tok} {Q E : Value → Shared → Prop} (hD : dp + 2 < recursionLimit) (hU : un + 12 < cLine)
    (G : Gd w s.heap) (hx : x ≤ y) (hy : -999999 ≤ x)
    (ret : ∀ h' tk, s.heap.StaysIn h' → Q .none { s with heap := h', toks := tk }) :
    wpAny (M w) (ar dp fr gd un) (call (.ref 35) [.int x t, .int y u, .str n tn]) Q E s := by
  have G0 := G
  unfold M; revert G; unfold Gd; k_fill; intro G
  obtain ⟨X, mean, mg, mb, T⟩ := G
  refine wpAny_call ?_
  k_dflt (refine' enter (binds := [(Str.ofString "x", .int x t), (Str.ofString "top", .int y u), (Str.ofString "what", .str n tn)]) X T.nolimit ?k6 ?k7 ?k8 ?k9 ?kB ?_ ?c2 ?c3 ?c4 ?c5; (case k6 => k_is); (case k7 => k_is); (case k8 => (dsimp only; omega)); (case k9 => exact BindsTo.of_eq rfl); (case c5 => decide); (case kB => exact locs rfl); (case c2 => exact rfl); (case c3 => exact rfl); (case c4 => exact rfl))
  intro g L' h' hg F' N' X'
  subst hg
  (try dsimp only)
  (try k_fold)
  k_steps
  rename Fr _ _ _ _ => F'
  rename News _ _ _ _ => N'
  refine isint_spec (w := w) (by dsimp only; omega) (by dsimp only; omega) (G0.keeps (Fr.keep (by assumption)))  ?_
  intro h2 tk2 k2 
  replace F' := fr_up F' k2
  replace N' := news_up N' k2
  dsimp only at F' N' ⊢
  k_steps
  all_goals exact ret _ _ (Fr.keep (by assumption))
end Mine
end
noncomputable section
namespace Mine
abbrev islO (dx : Addr) (c i n st sp : Value) : Obj := { cls := .ref 68, dict := some dx, data := .plain, slots := #[some c, some i, some n, some st, some sp] }

theorem iter_gen {prog : Program} {w : World} {A : Around} {E : Value → Shared → Prop} {s : Shared} {a g : Addr} {Q : Value → Shared → Prop} (hg : s.heap.IsGen a g) (h : Q (.ref a) s) : wpAny (model prog w) A (call (.builtin "iter") [.ref a]) Q E s := by
  refine call_function_entry (by decide +kernel) (by decide +kernel) kdk_entry_iter (kdk_args_iter _) ?_
  unfold Builtin.«iter»
  refine wpAny_bind (m := someArgs "iter" 1 2 _) (wpAny_of_eq (a := [Value.ref a]) (by first | rfl | kernel_rfl!) ?_)
  show wpAny _ _ (pyIter (.ref a) >>= _) _ _ _
  refine wpAny_bind (wpAny_pyIter_gen hg ?_)
  exact wpAny_pure ⟨_, rfl, h⟩

set_option maxHeartbeats 8000000 in
theorem islice_spec {w : World} {dp un : Nat} {fr : Option (List Env)} {gd : Option (List Code)} {s : Shared} {a g : Addr} {t1 : Tok} {Q E : Value → Shared → Prop} {b0 : Heap} (hD : dp + 10 < recursionLimit) (hU : un + 30 < cLine)
    (G : Gd w b0) (k0 : b0.StaysIn s.heap) (hg : s.heap.IsGen a g)
    (ret : ∀ x dx h' tk q1 q2 q3 q4, s.heap.StaysIn h' → s.heap.objs.size ≤ dx → dx < x → h'.get? x = some (islO dx (.int 0 q1) (.ref a) (.int 1 q2) (.int 1 q3) (.int (-1) q4)) → h'.get? dx = some emptyDict →
      Q (.ref x) { s with heap := h', toks := tk }) :
    wpAny (M w) (ar dp fr gd un) (call (.ref 68) [.ref a, .int 1 t1, .none]) Q E s := by
  have G0 := G
  unfold M; revert G; unfold Gd; k_fill; intro G
  obtain ⟨X, mean, mg, mb, T⟩ := G
  refine wpAny_call ?_
  k_dflt (refine' make_raw (X.keeps k0) ?m1 ?m2 ?m3 ?_; (case m1 => k_is); (case m2 => k_is); (case m3 => k_is))
  have kp : s.heap.StaysIn ((s.heap.push emptyDict).push (instObj 68 s.heap.objs.size)) := fun b o e => Heap.get?_push_of_some _ (Heap.get?_push_of_some _ e)
  have hX : ((s.heap.push emptyDict).push (instObj 68 s.heap.objs.size)).get? (s.heap.objs.size + 1) = some (instObj 68 s.heap.objs.size) := by heap_get
  have hDx : ((s.heap.push emptyDict).push (instObj 68 s.heap.objs.size)).get? s.heap.objs.size = some emptyDict := by heap_get
  generalize hH : (s.heap.push emptyDict).push (instObj 68 s.heap.objs.size) = H at *
  have hxn : s.heap.get? (s.heap.objs.size + 1) = none := Heap.get?_none_of_le (Nat.le_succ _)
  have hdn : s.heap.get? s.heap.objs.size = none := Heap.get?_none_of_le (Nat.le_refl _)
  have hlt : s.heap.objs.size < s.heap.objs.size + 1 := Nat.lt_succ_self _
  have hle : s.heap.objs.size ≤ s.heap.objs.size := Nat.le_refl _
  generalize hdx : s.heap.objs.size = dx at *
  generalize hx : dx + 1 = x at *
  have kH : b0.StaysIn H := fun b o e => kp b o (k0 b o e)
  k_dflt (refine' enterV [x, dx] [(x, instObj 68 dx), (dx, emptyDict)] [.int 1 t1, .none] (fun v => [(Str.ofString "self", .ref x), (Str.ofString "iterable", .ref a), (Str.ofString "args", v)]) (X.keeps kH) (T.nolimit.keeps kH) ?hn ?k6 ?k7 ?k8 ?k9 ?kz ?kB ?_ ?c2 ?c3 ?c4 ?c5; (case k6 => k_is); (case k7 => k_is); (case k8 => (show dp + 1 < _; omega)); (case k9 => exact rfl); (case kz => exact Nat.le_of_ble_eq_true rfl); (case c5 => decide); (case kB => exact fun v => locs rfl); (case c2 => exact rfl); (case c3 => exact rfl); (case c4 => exact rfl))
  case hn =>
    intro p hp
    rcases List.mem_cons.mp hp with e | hp
    · subst e; exact ⟨hX, List.mem_cons_self ..⟩
    · rw [List.mem_singleton.mp hp]; exact ⟨hDx, by simp⟩
  intro gb L' h' D tk hgb hDD hDL F' N' kk
  have xD : x < D := by rw [hDD]; exact Heap.lt_size hX
  have dxx : dx < x := by rw [← hx]; exact Nat.lt_succ_self _
  have hb0 : ∀ q ∈ [x, dx], b0.get? q = none := by
    intro q hq
    cases e : b0.get? q with
    | none => rfl
    | some o =>
      have := k0 q o e
      rcases List.mem_cons.mp hq with r | r
      · rw [r, hxn] at this; cases this
      · rw [List.mem_singleton.mp r, hdn] at this; cases this
  have kg : b0.StaysIn gb := by rw [hgb]; exact stays_hid kH hb0
  have X' := X.keeps kg
  have T' := T.keeps kg
  have hga : gb.IsGen a g := by
    obtain ⟨o, nm, qn, ho, r⟩ := hg
    refine ⟨o, nm, qn, ?_, r⟩
    rw [hgb]
    refine hideAll_get _ (kp a o ho) ?_
    intro hm
    rcases List.mem_cons.mp hm with e | e
    · rw [e, hxn] at ho; cases ho
    · rw [List.mem_singleton.mp e, hdn] at ho; cases ho
  have kend : ∀ h2, gb.StaysIn h2 → s.heap.StaysIn h2 := by
    intro h2 k2 b o e
    refine k2 b o ?_
    rw [hgb]
    refine hideAll_get _ (kp b o e) ?_
    intro hm
    rcases List.mem_cons.mp hm with r | r
    · rw [r, hxn] at e; cases e
    · rw [List.mem_singleton.mp r, hdn] at e; cases e
  replace hle : s.heap.objs.size ≤ dx := by rw [hdx]; exact Nat.le_refl _
  clear hgb kk hDD hX hDx hH kH k0 hg hx X T hdx hlt
  (try dsimp only)
  (try k_fold)
  k_steps
  rename Fr _ _ _ _ => F'
  rename News _ _ _ _ => N'
  refine whole_spec (w := w) (by show dp + 1 + 1 + 2 < _; omega) (by show un + 1 + 3 + 12 < _; omega) (G0.keeps fun b o e => F'.keep b o (kg b o e)) (by decide) (by decide) ?_
  intro h2 tk2 k2
  have F2 := fr_up F' k2
  have N2 := news_up N' k2
  clear F' N'
  (try dsimp only at F2 N2 ⊢)
  k_steps
  rename Fr _ _ _ _ => F3
  rename News _ _ _ _ => N3
  refine iter_gen (hga.keeps F3.keep) ?_
  k_steps
  rename Fr _ _ _ _ => F9
  rename News _ _ _ _ => N9
  exact ⟨rfl, ret _ _ _ _ _ _ _ _ (kend _ F9.keep) (Nat.le_refl _) dxx (N9.get (.tail _ (.head _))) (N9.get (.tail _ (.tail _ (.head _))))⟩
end Mine
end
noncomputable section
namespace Mine

/-- an islice over a suspended _ancestry, i items given -/
def IslA (w : World) (D U : Nat) (x dx a g C : Nat) (b0 : Heap) (items : List Str) (i : Nat) (s : Shared) : Prop :=
  (∃ j c q1 q2 q3 q4, ((i = 0 ∧ j = 0 ∧ c = 0) ∨ (0 < i ∧ j = i + 1 ∧ c = i + 1)) ∧ GenA w D U a g C b0 items j s ∧
    s.heap.get? x = some (islO dx (.int (c : Nat) q1) (.ref a) (.int ((if i = 0 then 1 else c) : Nat) q2) (.int 1 q3) (.int (-1) q4))) ∧ s.heap.get? dx = some emptyDict

theorem IslA.bare {w : World} {D U : Nat} {x dx a C : Nat} {b0 : Heap} {items : List Str} {i : Nat} {r : Array GenState} {gs : GenState} {s : Shared} (st : IslA w D U x dx a r.size C b0 items i s) (hg : s.gens = r.push gs := by rfl) : gs.bare = true := by
  obtain ⟨⟨j, c, q1, q2, q3, q4, hj, ⟨_, _, _, gs', hgs, hb, _⟩, _⟩, _⟩ := st
  rw [hg, Array.getElem?_push_size] at hgs
  cases hgs; exact hb
theorem GenA.bare {w : World} {D U : Nat} {a C : Nat} {b0 : Heap} {items : List Str} {i : Nat} {r : Array GenState} {gs : GenState} {s : Shared} (st : GenA w D U a r.size C b0 items i s) (hg : s.gens = r.push gs := by rfl) : gs.bare = true := by
  obtain ⟨_, _, _, gs', hgs, hb, _⟩ := st
  rw [hg, Array.getElem?_push_size] at hgs
  cases hgs; exact hb

set_option maxHeartbeats 4000000 in
theorem parents_spec {w : World} {dp un : Nat} {fr : Option (List Env)} {gd : Option (List Code)} {s : Shared} {x : Str} {t : Tok} {items : List Str} {D U : Nat} {Q E : Value → Shared → Prop} {b0 : Heap} (hD : dp + 20 < recursionLimit) (hU : un + 60 < cLine)
    (hD' : D + 5 < recursionLimit) (hU' : U + 30 < cLine)
    (G : Gd w b0) (k0 : b0.StaysIn s.heap) (z0 : b0.objs.size ≤ s.heap.objs.size) (hx : x.length ≤ 100) (hA : Anc (Txt.rstripChars x slash) items)
    (ret : ∀ x dx a C h' gs tk, s.heap.StaysIn h' → s.heap.objs.size ≤ C → C < a → a < dx → dx < x → x < h'.objs.size → s.heap.get? x = none → IslA w D U x dx a s.gens.size C b0 items 0 { s with heap := h', toks := tk, gens := s.gens.push gs } →
      Q (.ref x) { s with heap := h', toks := tk, gens := s.gens.push gs }) :
    wpAny (M w) (ar dp fr gd un) (call (.ref 119) [.str x t]) Q E s := by
  have G0 := G
  unfold M; revert G; unfold Gd; k_fill; intro G
  obtain ⟨X, mean, mg, mb, T⟩ := G
  have X := X.keeps k0
  have T := T.keeps k0
  refine wpAny_call ?_
  k_dflt (refine' enter (binds := [(Str.ofString "path", .str x t)]) X T.nolimit ?k6 ?k7 ?k8 ?k9 ?kB ?_ ?c2 ?c3 ?c4 ?c5; (case k6 => k_is); (case k7 => k_is); (case k8 => (dsimp only; omega)); (case k9 => exact BindsTo.of_eq rfl); (case c5 => decide); (case kB => exact locs rfl); (case c2 => exact rfl); (case c3 => exact rfl); (case c4 => exact rfl))
  intro g L' h' hg F' N' X'
  subst hg
  have zF : s.heap.objs.size ≤ h'.objs.size := by
    obtain ⟨oL, _, _, hL, _⟩ := F'.ns
    exact Nat.le_of_lt (Nat.lt_of_le_of_lt F'.above (Heap.lt_size hL))
  have kF := F'.keep
  (try dsimp only)
  (try k_fold)
  k_steps
  refine ancestry_spec (w := w) (D := D) (U := U) (b0 := b0) (by show dp + 1 < _; omega) hD' hU' G0 (fun b o e => kF b o (k0 b o e)) (Nat.le_trans z0 zF) hx hA ?_
  intro a C h2 gs tk2 k2 hC1 hC2 hC3 hGA
  rename Fr _ _ _ _ => F'
  rename News _ _ _ _ => N'
  have F2 := fr_up F' k2
  have N2 := news_up N' k2
  (try dsimp only at F2 N2 ⊢)
  k_steps
  refine islice_spec (w := w) (b0 := b0) (by show dp + 1 + 10 < _; omega) (by show un + 3 + 30 < _; omega) G0 (fun b o e => k2 b o (kF b o (k0 b o e))) hGA.1 ?_
  intro xx dx h3 tk3 q1 q2 q3 q4 k3 hle hdx hxo hdo
  have F3 := fr_up F2 k3
  have N3 := news_up N2 k3
  (try dsimp only at F3 N3 ⊢)
  k_steps
  dsimp only at hC1 hC2 hC3 hle k3 k2 hGA
  refine ret xx dx a C h3 gs tk3 (fun b o e => k3 b o (k2 b o (kF b o e))) (Nat.le_trans zF hC1) hC2 (Nat.lt_of_lt_of_le hC3 hle) hdx (Heap.lt_size hxo) ?_ ⟨⟨0, 0, q1, q2, q3, q4, .inl ⟨rfl, rfl, rfl⟩, genA_frame hGA (fun b o e => k3 b o (k2 b o (kF b o (k0 b o e)))) (fun o e => k3 _ o e) (fun o e => k3 _ o e), hxo⟩, hdo⟩
  exact Heap.get?_none_of_le (Nat.le_trans zF (Nat.le_trans hC1 (by omega)))
end Mine
end
noncomputable section
namespace Mine

theorem fr_but {g h h' : Heap} {L C : Addr} {m : Str → Option Value} (F : Fr g L h m) (hk : ∀ b o, b ≠ C → h.get? b = some o → h'.get? b = some o) (hC : g.get? C = none) (hL : L ≠ C) : Fr g L h' m :=
  ⟨F.ns.at' fun o e => hk L o hL e, fun b o e => hk b o (fun q => by rw [q, hC] at e; cases e) (F.keep b o e), F.above⟩
theorem news_chg {g h h' : Heap} {L C : Addr} {news : List (Addr × Obj)} {oC oC' : Obj} (N : News g L h (news ++ [(C, oC)])) (hk : ∀ b o, b ≠ C → h.get? b = some o → h'.get? b = some o) (hn : ∀ p ∈ news, p.1 ≠ C) (ho : h'.get? C = some oC') : News g L h' (news ++ [(C, oC')]) := by
  intro p hp
  rcases List.mem_append.mp hp with q | q
  · have := N p (List.mem_append_left _ q)
    exact ⟨hk _ _ (hn p q) this.1, this.2⟩
  · rw [List.mem_singleton.mp q]
    have := N (C, oC) (List.mem_append_right _ (List.mem_singleton.mpr rfl))
    exact ⟨ho, this.2⟩

theorem notin3 {b x y z : Addr} (h1 : b ≠ x) (h2 : b ≠ y) (h3 : b ≠ z) : b ∉ [x, y, z] := by
  intro h
  rcases List.mem_cons.mp h with e | h
  · exact h1 e
  · rcases List.mem_cons.mp h with e | h
    · exact h2 e
    · exact h3 (List.mem_singleton.mp h)
theorem news_drop {g h h' : Heap} {L C : Addr} {news : List (Addr × Obj)} {oC : Obj} (N : News g L h (news ++ [(C, oC)])) (hk : ∀ b o, b ≠ C → h.get? b = some o → h'.get? b = some o) (hn : ∀ p ∈ news, p.1 ≠ C) : News g L h' news := fun p hp =>
  have := N p (List.mem_append_left _ hp); ⟨hk _ _ (hn p hp) this.1, this.2⟩
theorem news_re {gb g2 h1 h3 : Heap} {L : Addr} {l ex : List (Addr × Obj)} (N : News gb L h1 l) (h : ∀ p ∈ l, h1.get? p.1 = some p.2 → p.1 ≠ L → h3.get? p.1 = some p.2 ∧ g2.get? p.1 = none) (he : ∀ p ∈ ex, h3.get? p.1 = some p.2 ∧ p.1 ≠ L ∧ g2.get? p.1 = none) : News g2 L h3 (l ++ ex) := by
  intro p hp
  rcases List.mem_append.mp hp with q | q
  · have a := N p q; have b := h p q a.1 a.2.1; exact ⟨b.1, a.2.1, b.2⟩
  · exact he p q
def trunc (h : Heap) (n : Nat) : Heap := { h with objs := h.objs.extract 0 n }
theorem trunc_get (h : Heap) (n b : Nat) : (trunc h n).get? b = if b < n then h.get? b else none := by
  unfold trunc Heap.get?
  have e : (h.objs.extract 0 n)[b]? = if b < n then h.objs[b]? else none := by
    rw [Array.getElem?_extract]
    simp only [Nat.sub_zero, Nat.zero_add]
    by_cases h1 : b < n
    · by_cases h2 : b < h.objs.size
      · rw [if_pos (by omega), if_pos h1]
      · rw [if_pos h1, Array.getElem?_eq_none (by omega)]; split <;> rfl
    · rw [if_neg (by omega), if_neg h1]
  show (match (h.objs.extract 0 n)[b]? with | some ⟨_, _, .freed, _⟩ => none | o => o) = _
  rw [e]
  by_cases h1 : b < n
  · simp only [h1, if_true]; rfl
  · simp only [h1, if_false]
theorem trunc_size (h : Heap) (n : Nat) : (trunc h n).objs.size ≤ n := by unfold trunc; simp; omega

theorem raise_bare {M : Model} {A : Around} {E : Value → Shared → Prop} {Q : Flow → Shared → Prop} {s : Shared} {env : Env} {pos : Pos} {L e T : Addr} {oe oT : Obj} {vs ts : Array Value} (hh : A.handled = some (.ref e)) (hf : env.frame = some L)
    (he : s.heap.get? e = some oe) (hd : oe.data = .fields vs) (h1 : vs[1]? = some (.ref T)) (hT : s.heap.get? T = some oT) (hdT : oT.data = .fields ts) (hsz : 3 < ts.size)
    (h : E (.ref e) { s with heap := s.heap.update T (Obj.mapFields (·.setIfInBounds 3 (rawInt L))) }) : wpAny M A (exec (.Raise none none pos) env) Q E s := by
  rw [arm_exec_Raise]
  refine wpAny_bind (wpAny_standAt ?_)
  unfold raiseStmt
  refine wpAny_bind (wpAny_handled ?_)
  rw [hh]
  refine wpAny_bind (wpAny_rule (wpAny_bind (wpAny_field he hd h1 ?_)))
  rw [if_neg (by simp)]
  refine wpAny_bind ?_
  unfold setFlight
  refine wpAny_bind (wpAny_field he hd h1 ?_)
  rw [if_pos (show (Value.ref T != Value.none) = true from by simp), hf]
  refine wpAny_setField hT hdT hsz (wpAny_throw h)

theorem leave_marked {M : Model} {A : Around} {E : Value → Shared → Prop} {Q : Unit → Shared → Prop} {s : Shared} {env : Env} {L e T : Addr} {oe oT : Obj} {vs ts : Array Value} (hf : env.frame = some L)
    (he : s.heap.get? e = some oe) (hd : oe.data = .fields vs) (h1 : vs[1]? = some (.ref T)) (hT : s.heap.get? T = some oT) (hdT : oT.data = .fields ts) (h3 : ts[3]? = some (rawInt L))
    (h : Q () { s with heap := s.heap.update T (Obj.mapFields (·.setIfInBounds 3 .none)) }) : wpAny M A (leaving env (.ref e)) Q E s := by
  unfold leaving
  exact wpAny_bind (wpAny_noteFrame_inFlight hf he hd h1 hT hdT h3 (wpAny_setFlight_none he hd h1 hT hdT (Array.getElem?_eq_some_iff.mp h3).1 h))
theorem hid_mem {h : Heap} {l : List Addr} {b : Addr} {o : Obj} (e : (hid h l).get? b = some o) : h.get? b = some o ∧ b ∉ l :=
  ⟨of_hideAll _ e, fun m => by rw [hideAll_none _ m] at e; cases e⟩
theorem ff_sub {h h' : Heap} : ∀ {l : List Env}, FF h l → (∀ b ∈ frs l, ∀ o, h.get? b = some o → h'.get? b = some o) → FF h' l
  | [], _, _ => trivial
  | env :: r, ⟨hk, ⟨L, o, hf, _, ho, hd⟩, hr⟩, hs =>
    ⟨hk, ⟨L, o, hf, rfl, hs L (by unfold frs; rw [List.filterMap_cons, hf]; exact List.mem_cons_self ..) o ho, hd⟩, ff_sub hr fun b hm => hs b (by
      unfold frs at hm ⊢; rw [List.filterMap_cons, hf]; exact List.mem_cons_of_mem _ hm)⟩
/-- the heaps agree but at ex and on the frames, there up to their slots -/
def UpX (ex fs : List Addr) (h h' : Heap) : Prop :=
  (∀ b o, b ∉ ex → b ∉ fs → h.get? b = some o → h'.get? b = some o) ∧ ∀ b o, b ∉ ex → h.get? b = some o → (∀ vs, o.data ≠ .fields vs) → ∃ sl, h'.get? b = some { o with slots := sl }

end Mine
end
noncomputable section
namespace Mine

set_option maxHeartbeats 8000000 in
theorem isl_first {w : World} {dp un : Nat} {outer : List Env} {gd : Option (List Code)} {s : Shared} {D U x dx a g C : Nat} {items : List Str} {q1 q2 q3 q4 : Tok} {Q E : Value → Shared → Prop} {b0 : Heap}  (hD : dp + 3 ≤ D) (hU : un + 10 ≤ U)
    (hD' : D < recursionLimit)
    (G : Gd w b0) (hNC : b0.objs.size ≤ C) (hCa : C < a) (had : a < dx) (hdx : dx < x)
    (hg : GenA w D U a g C b0 items 0 s) (hx : s.heap.get? x = some (islO dx (.int 0 q1) (.ref a) (.int 1 q2) (.int 1 q3) (.int (-1) q4))) (hdo : s.heap.get? dx = some emptyDict)
    (hi : 1 < items.length)
    (ret : ∀ v t h' tk gs', items[1]? = some v → (∀ b o, b ≠ x → b ≠ C → s.heap.get? b = some o → h'.get? b = some o) → AB s.gens gs' → IslA w D U x dx a g C b0 items 1 { s with heap := h', toks := tk, gens := gs' } → Q (.str v t) { s with heap := h', toks := tk, gens := gs' }) :
    wpAny (M w) (ar dp (some outer) gd un) (call (.ref 64) [.ref x]) Q E s := by
  have G0 := G
  unfold M; revert G; unfold Gd; k_fill; intro G
  obtain ⟨X, mean, mg, mb, T⟩ := G
  have hg0 := hg
  obtain ⟨_, ⟨oC, hoC⟩, k0, _⟩ := hg
  have hb0 : ∀ q ∈ [x, dx, C], b0.get? q = none := by
    intro q hq
    refine Heap.get?_none_of_le ?_
    simp only [List.mem_cons, List.mem_nil_iff, or_false] at hq
    rcases hq with r | r | r <;> omega
  refine wpAny_call ?_
  k_dflt (refine' enterH [x, dx, C] [(x, islO dx (.int 0 q1) (.ref a) (.int 1 q2) (.int 1 q3) (.int (-1) q4)), (dx, emptyDict), (C, oC)] (binds := [(Str.ofString "self", .ref x)]) (X.keeps k0) (T.nolimit.keeps k0) ?hn ?k6 ?k7 ?k8 ?k9 ?kB ?_ ?c2 ?c3 ?c4 ?c5; (case k6 => k_is); (case k7 => k_is); (case k8 => (dsimp only; omega)); (case k9 => exact BindsTo.of_eq rfl); (case c5 => decide); (case kB => exact locs rfl); (case c2 => exact rfl); (case c3 => exact rfl); (case c4 => exact rfl))
  case hn =>
    intro p hp
    simp only [List.mem_cons, List.mem_nil_iff, or_false] at hp
    rcases hp with e | e | e <;> subst e
    · exact ⟨hx, by simp⟩
    · exact ⟨hdo, by simp⟩
    · exact ⟨hoC, by simp⟩
  intro gb L' h' hgb F' N' kk hLn
  have hLs : s.heap.objs.size ≤ L' := by have := F'.above; rw [hgb, hideAll_size] at this; exact this
  have kg : b0.StaysIn gb := by rw [hgb]; exact stays_hid k0 hb0
  have X' := X.keeps kg
  have T' := T.keeps kg
  have hLC : L' ≠ C := fun q => by rw [q, hoC] at hLn; cases hLn
  have hgC : gb.get? C = none := by rw [hgb]; exact hideAll_none _ (by simp)
  have hbC : b0.get? C = none := hb0 C (by simp)
  have hga : ∀ o, s.heap.get? a = some o → gb.get? a = some o := fun o e => by
    rw [hgb]; exact hideAll_get _ e (notin3 (Nat.ne_of_lt (Nat.lt_trans had hdx)) (Nat.ne_of_lt had) (Nat.ne_of_gt hCa))
  have kin : ∀ b o, b ≠ x → b ≠ dx → b ≠ C → s.heap.get? b = some o → gb.get? b = some o := by
    intro b o h1 h2 h3 e
    rw [hgb]
    exact hideAll_get _ e (notin3 h1 h2 h3)
  have kend : ∀ h2, gb.StaysIn h2 → ∀ b o, b ≠ x → b ≠ C → s.heap.get? b = some o → (b = dx → h2.get? dx = some emptyDict) → h2.get? b = some o := by
    intro h2 k2 b o h1 h3 e hd
    by_cases hbd : b = dx
    · rw [hbd] at e ⊢; rw [hdo] at e; cases e; exact hd hbd
    · exact k2 b o (kin b o h1 hbd h3 e)
  obtain ⟨oa, hoa⟩ : ∃ o, s.heap.get? a = some o := let ⟨o, _, _, ho, _⟩ := hg0.1; ⟨o, ho⟩
  (try dsimp only)
  (try k_fold)
  k_steps
  rename Fr _ _ _ _ => F2
  rename News _ _ _ _ => N2
  refine next_gen_item (D := D) (U := U) (items := items) (g := g) (C := C) (b0 := b0) (by show dp + 1 ≤ D; omega) (by show un + 3 + 1 ≤ U; omega) hD' (by omega) hbC T.nolimit (j := 0) (by omega) ?st ?_
  case st => exact genA_frame hg0 (fun b o e => F2.keep b o (kg b o e)) (fun o e => F2.keep _ o (hga o e)) (fun o e => by rw [hoC] at e; cases e; exact N2.get (.tail _ (.tail _ (.head _))))
  intro y1 ty1 hp tk1 gs1 hy1 hk1 hgo1 hst
  obtain ⟨oC2, hoC2⟩ := hst.2.1
  have F3 := fr_but F2 hk1 hgC hLC
  have N3 := news_chg (news := [(x, _), (dx, _)]) N2 hk1 (by intro p hp; simp only [List.mem_cons, List.mem_nil_iff, or_false] at hp; rcases hp with r | r <;> (rw [r]; exact Nat.ne_of_gt (by omega))) hoC2
  clear F2 N2
  have fp := F3.keep _ _ (hga _ hoa)
  (try dsimp only [List.cons_append, List.nil_append] at F3 N3 ⊢)
  k_steps
  rename Fr _ _ _ _ => F2
  rename News _ _ _ _ => N2
  refine next_gen_item (D := D) (U := U) (items := items) (g := g) (C := C) (b0 := b0) (by show dp + 1 ≤ D; omega) (by show un + 3 + 1 ≤ U; omega) hD' (by omega) hbC T.nolimit (j := 1) (by omega) ?st ?_
  case st => exact genA_frame hst (fun b o e => F2.keep b o (kg b o e)) (fun o e => by
      have h2 := F2.keep _ _ (hga _ hoa)
      rw [show hp.get? a = some o from e] at fp; cases fp; exact h2) (fun o e => by rw [show hp.get? C = some o from e] at hoC2; cases hoC2; exact N2.get (.tail _ (.tail _ (.head _))))
  clear hst fp hoC2
  intro y2 ty2 hp tk2 gs2 hy2 hk2 hgo2 hst
  obtain ⟨oC2, hoC2⟩ := hst.2.1
  have F3 := fr_but F2 hk2 hgC hLC
  have N3 := news_chg (news := [(x, _), (dx, _)]) N2 hk2 (by intro p hp; simp only [List.mem_cons, List.mem_nil_iff, or_false] at hp; rcases hp with r | r <;> (rw [r]; exact Nat.ne_of_gt (by omega))) hoC2
  clear F2 N2
  have fp := F3.keep _ _ (hga _ hoa)
  (try dsimp only [List.cons_append, List.nil_append] at F3 N3 ⊢)
  k_steps
  rename Fr _ _ _ _ => F9
  rename News _ _ _ _ => N9
  refine ret y2 ty2 _ _ gs2 hy2 (fun b o h1 h2 e => kend _ F9.keep b o h1 h2 e fun _ => N9.get (.tail _ (.head _))) (hgo1.trans hgo2) ⟨⟨2, 2, _, _, _, _, .inr ⟨by omega, rfl, rfl⟩, ?_, N9.get (.head _)⟩, N9.get (.tail _ (.head _))⟩
  exact genA_frame hst (fun b o e => F9.keep b o (kg b o e)) (fun o e => by
      have h2 := F9.keep _ _ (hga _ hoa)
      rw [show hp.get? a = some o from e] at fp; cases fp; exact h2) (fun o e => by rw [show hp.get? C = some o from e] at hoC2; cases hoC2; exact N9.get (.tail _ (.tail _ (.head _))))

set_option maxHeartbeats 8000000 in
theorem isl_more {w : World} {dp un : Nat} {outer : List Env} {gd : Option (List Code)} {s : Shared} {D U x dx a g C : Nat} {items : List Str} {q1 q2 q3 q4 : Tok} {Q E : Value → Shared → Prop} {b0 : Heap} {i : Nat} (hD : dp + 3 ≤ D) (hU : un + 10 ≤ U)
    (hD' : D < recursionLimit)
    (G : Gd w b0) (hNC : b0.objs.size ≤ C) (hCa : C < a) (had : a < dx) (hdx : dx < x)
    (hg : GenA w D U a g C b0 items (i + 1) s) (hx : s.heap.get? x = some (islO dx (.int ((i + 1 : Nat) : Int) q1) (.ref a) (.int ((i + 1 : Nat) : Int) q2) (.int 1 q3) (.int (-1) q4))) (hdo : s.heap.get? dx = some emptyDict)
    (hi0 : 0 < i) (hi : i + 1 < items.length)
    (ret : ∀ v t h' tk gs', items[i + 1]? = some v → (∀ b o, b ≠ x → b ≠ C → s.heap.get? b = some o → h'.get? b = some o) → AB s.gens gs' → IslA w D U x dx a g C b0 items (i + 1) { s with heap := h', toks := tk, gens := gs' } → Q (.str v t) { s with heap := h', toks := tk, gens := gs' }) :
    wpAny (M w) (ar dp (some outer) gd un) (call (.ref 64) [.ref x]) Q E s := by
  have G0 := G
  unfold M; revert G; unfold Gd; k_fill; intro G
  obtain ⟨X, mean, mg, mb, T⟩ := G
  have hg0 := hg
  obtain ⟨_, ⟨oC, hoC⟩, k0, _⟩ := hg
  have hb0 : ∀ q ∈ [x, dx, C], b0.get? q = none := by
    intro q hq
    refine Heap.get?_none_of_le ?_
    simp only [List.mem_cons, List.mem_nil_iff, or_false] at hq
    rcases hq with r | r | r <;> omega
  refine wpAny_call ?_
  k_dflt (refine' enterH [x, dx, C] [(x, islO dx (.int ((i + 1 : Nat) : Int) q1) (.ref a) (.int ((i + 1 : Nat) : Int) q2) (.int 1 q3) (.int (-1) q4)), (dx, emptyDict), (C, oC)] (binds := [(Str.ofString "self", .ref x)]) (X.keeps k0) (T.nolimit.keeps k0) ?hn ?k6 ?k7 ?k8 ?k9 ?kB ?_ ?c2 ?c3 ?c4 ?c5; (case k6 => k_is); (case k7 => k_is); (case k8 => (dsimp only; omega)); (case k9 => exact BindsTo.of_eq rfl); (case c5 => decide); (case kB => exact locs rfl); (case c2 => exact rfl); (case c3 => exact rfl); (case c4 => exact rfl))
  case hn =>
    intro p hp
    simp only [List.mem_cons, List.mem_nil_iff, or_false] at hp
    rcases hp with e | e | e <;> subst e
    · exact ⟨hx, by simp⟩
    · exact ⟨hdo, by simp⟩
    · exact ⟨hoC, by simp⟩
  intro gb L' h' hgb F' N' kk hLn
  have hLs : s.heap.objs.size ≤ L' := by have := F'.above; rw [hgb, hideAll_size] at this; exact this
  have kg : b0.StaysIn gb := by rw [hgb]; exact stays_hid k0 hb0
  have X' := X.keeps kg
  have T' := T.keeps kg
  have hLC : L' ≠ C := fun q => by rw [q, hoC] at hLn; cases hLn
  have hgC : gb.get? C = none := by rw [hgb]; exact hideAll_none _ (by simp)
  have hbC : b0.get? C = none := hb0 C (by simp)
  have hga : ∀ o, s.heap.get? a = some o → gb.get? a = some o := fun o e => by
    rw [hgb]; exact hideAll_get _ e (notin3 (Nat.ne_of_lt (Nat.lt_trans had hdx)) (Nat.ne_of_lt had) (Nat.ne_of_gt hCa))
  have kin : ∀ b o, b ≠ x → b ≠ dx → b ≠ C → s.heap.get? b = some o → gb.get? b = some o := by
    intro b o h1 h2 h3 e
    rw [hgb]
    exact hideAll_get _ e (notin3 h1 h2 h3)
  have kend : ∀ h2, gb.StaysIn h2 → ∀ b o, b ≠ x → b ≠ C → s.heap.get? b = some o → (b = dx → h2.get? dx = some emptyDict) → h2.get? b = some o := by
    intro h2 k2 b o h1 h3 e hd
    by_cases hbd : b = dx
    · rw [hbd] at e ⊢; rw [hdo] at e; cases e; exact hd hbd
    · exact k2 b o (kin b o h1 hbd h3 e)
  obtain ⟨oa, hoa⟩ : ∃ o, s.heap.get? a = some o := let ⟨o, _, _, ho, _⟩ := hg0.1; ⟨o, ho⟩
  (try dsimp only)
  (try k_fold)
  k_steps
  rw [show decide (((i + 1 : Nat) : Int) < ((i + 1 : Nat) : Int)) = false from decide_eq_false (Int.lt_irrefl _)]
  k_steps
  rename Fr _ _ _ _ => F2
  rename News _ _ _ _ => N2
  refine next_gen_item (D := D) (U := U) (items := items) (g := g) (C := C) (b0 := b0) (by show dp + 1 ≤ D; omega) (by show un + 3 + 1 ≤ U; omega) hD' (by omega) hbC T.nolimit (j := i + 1) (by omega) ?st ?_
  case st => exact genA_frame hg0 (fun b o e => F2.keep b o (kg b o e)) (fun o e => F2.keep _ o (hga o e)) (fun o e => by rw [hoC] at e; cases e; exact N2.get (.tail _ (.tail _ (.head _))))
  intro y1 ty1 hp tk1 gs1 hy1 hk1 hgo1 hst
  obtain ⟨oC2, hoC2⟩ := hst.2.1
  have F3 := fr_but F2 hk1 hgC hLC
  have N3 := news_chg (news := [(x, _), (dx, _)]) N2 hk1 (by intro p hp; simp only [List.mem_cons, List.mem_nil_iff, or_false] at hp; rcases hp with r | r <;> (rw [r]; exact Nat.ne_of_gt (by omega))) hoC2
  clear F2 N2
  have fp := F3.keep _ _ (hga _ hoa)
  (try dsimp only [List.cons_append, List.nil_append] at F3 N3 ⊢)
  k_steps
  rename Fr _ _ _ _ => F9
  rename News _ _ _ _ => N9
  refine ret y1 ty1 _ _ gs1 hy1 (fun b o h1 h2 e => kend _ F9.keep b o h1 h2 e fun _ => N9.get (.tail _ (.head _))) hgo1 ⟨⟨i + 1 + 1, i + 1 + 1, _, _, _, _, .inr ⟨by omega, rfl, rfl⟩, ?_, N9.get (.head _)⟩, N9.get (.tail _ (.head _))⟩
  exact genA_frame hst (fun b o e => F9.keep b o (kg b o e)) (fun o e => by
      have h2 := F9.keep _ _ (hga _ hoa)
      rw [show hp.get? a = some o from e] at fp; cases fp; exact h2) (fun o e => by rw [show hp.get? C = some o from e] at hoC2; cases hoC2; exact N9.get (.tail _ (.tail _ (.head _))))
end Mine
end
noncomputable section
namespace Mine

set_option maxHeartbeats 8000000 in
theorem isl_stop0 {w : World} {dp un : Nat} {outer : List Env} {gd : Option (List Code)} {s : Shared} {D U x dx a g C : Nat} {items : List Str} {q1 q2 q3 q4 : Tok} {Q E : Value → Shared → Prop} {b0 : Heap}  (hD : dp + 3 ≤ D) (hU : un + 10 ≤ U)
    (hD' : D < recursionLimit)
    (G : Gd w b0) (hNC : b0.objs.size ≤ C) (hCa : C < a) (had : a < dx) (hdx : dx < x)
    (hg : GenA w D U a g C b0 items 0 s) (hx : s.heap.get? x = some (islO dx (.int 0 q1) (.ref a) (.int 1 q2) (.int 1 q3) (.int (-1) q4))) (hdo : s.heap.get? dx = some emptyDict)
    (hlen : items.length = 0) (hFF : FF s.heap outer) (hfrs : ∀ b ∈ frs outer, b < C) (hfb : ∀ b ∈ frs outer, b0.get? b = none)
    (ret : ∀ e h' tk gs', UpX [x, C] (frs outer) s.heap h' → AB s.gens gs' → (∃ o, h'.get? e = some o ∧ o.cls = .type "StopIteration") → E (.ref e) { s with heap := h', toks := tk, gens := gs' }) :
    wpAny (M w) (ar dp (some outer) gd un) (call (.ref 64) [.ref x]) Q E s := by
  have G0 := G
  unfold M; revert G; unfold Gd; k_fill; intro G
  obtain ⟨X, mean, mg, mb, T⟩ := G
  have hg0 := hg
  obtain ⟨_, ⟨oC, hoC⟩, k0, _⟩ := hg
  have hb0 : ∀ q ∈ [x, dx, C], b0.get? q = none := by
    intro q hq
    refine Heap.get?_none_of_le ?_
    simp only [List.mem_cons, List.mem_nil_iff, or_false] at hq
    rcases hq with r | r | r <;> omega
  refine wpAny_call ?_
  k_dflt (refine' enterH [x, dx, C] [(x, islO dx (.int 0 q1) (.ref a) (.int 1 q2) (.int 1 q3) (.int (-1) q4)), (dx, emptyDict), (C, oC)] (binds := [(Str.ofString "self", .ref x)]) (X.keeps k0) (T.nolimit.keeps k0) ?hn ?k6 ?k7 ?k8 ?k9 ?kB ?_ ?c2 ?c3 ?c4 ?c5; (case k6 => k_is); (case k7 => k_is); (case k8 => (dsimp only; omega)); (case k9 => exact BindsTo.of_eq rfl); (case c5 => decide); (case kB => exact locs rfl); (case c2 => exact rfl); (case c3 => exact rfl); (case c4 => exact rfl))
  case hn =>
    intro p hp
    simp only [List.mem_cons, List.mem_nil_iff, or_false] at hp
    rcases hp with e | e | e <;> subst e
    · exact ⟨hx, by simp⟩
    · exact ⟨hdo, by simp⟩
    · exact ⟨hoC, by simp⟩
  intro gb L' h' hgb F' N' kk hLn
  have hLs : s.heap.objs.size ≤ L' := by have := F'.above; rw [hgb, hideAll_size] at this; exact this
  have kg : b0.StaysIn gb := by rw [hgb]; exact stays_hid k0 hb0
  have X' := X.keeps kg
  have T' := T.keeps kg
  have hLC : L' ≠ C := fun q => by rw [q, hoC] at hLn; cases hLn
  have hgC : gb.get? C = none := by rw [hgb]; exact hideAll_none _ (by simp)
  have hbC : b0.get? C = none := hb0 C (by simp)
  have hga : ∀ o, s.heap.get? a = some o → gb.get? a = some o := fun o e => by
    rw [hgb]; exact hideAll_get _ e (notin3 (Nat.ne_of_lt (Nat.lt_trans had hdx)) (Nat.ne_of_lt had) (Nat.ne_of_gt hCa))
  have kin : ∀ b o, b ≠ x → b ≠ dx → b ≠ C → s.heap.get? b = some o → gb.get? b = some o := by
    intro b o h1 h2 h3 e
    rw [hgb]
    exact hideAll_get _ e (notin3 h1 h2 h3)
  have kend : ∀ h2, gb.StaysIn h2 → ∀ b o, b ≠ x → b ≠ C → s.heap.get? b = some o → (b = dx → h2.get? dx = some emptyDict) → h2.get? b = some o := by
    intro h2 k2 b o h1 h3 e hd
    by_cases hbd : b = dx
    · rw [hbd] at e ⊢; rw [hdo] at e; cases e; exact hd hbd
    · exact k2 b o (kin b o h1 hbd h3 e)
  obtain ⟨oa, hoa⟩ : ∃ o, s.heap.get? a = some o := let ⟨o, _, _, ho, _⟩ := hg0.1; ⟨o, ho⟩
  (try dsimp only)
  (try k_fold)
  k_steps
  rename Fr _ _ _ _ => F2
  rename News _ _ _ _ => N2
  refine next_gen_end (D := D) (U := U) (items := items) (g := g) (C := C) (b0 := b0) (by show dp + 1 ≤ D; omega) (by show un + 3 + 1 ≤ U; omega) hD' hbC T.nolimit ?st ?_
  case st => (rw [hlen]; exact genA_frame hg0 (fun b o e => F2.keep b o (kg b o e)) (fun o e => F2.keep _ o (hga o e)) (fun o e => by rw [hoC] at e; cases e; exact N2.get (.tail _ (.tail _ (.head _)))))
  intro h1 h2 e tkE gsE hk1 hxE hgoE
  have F3 := fr_but F2 hk1 hgC hLC
  have N3 := news_drop (news := [(x, _), (dx, _)]) N2 hk1 (by intro p hp; simp only [List.mem_cons, List.mem_nil_iff, or_false] at hp; rcases hp with r | r <;> (rw [r]; exact Nat.ne_of_gt (by omega)))
  clear F2 N2
  have ffo : FF h1 outer := ff_sub hFF fun b hb o q => F3.keep b o (kin b o (Nat.ne_of_lt (Nat.lt_trans (hfrs b hb) (Nat.lt_trans hCa (Nat.lt_trans had hdx)))) (Nat.ne_of_lt (Nat.lt_trans (hfrs b hb) (Nat.lt_trans hCa had))) (Nat.ne_of_lt (hfrs b hb)) q)
  obtain ⟨oL1, _, _, hL1, _⟩ := id F3.ns
  refine noted_new (h := h1) (L := L') (outer := outer) rfl rfl (ff_cons (fun q => nomatch q) rfl F3.ns ffo) hxE ?_
  intro h3 hU htr
  replace hU : UpTo (L' :: frs outer) h1 h3 := hU
  obtain ⟨oe, vse, T3, oT, ts, he3, hce, hde, h1e, hT1, hTe, hT3, hdT, h3T⟩ := htr
  have hx3 : x ∉ frs outer := fun m => absurd (Nat.lt_trans (hfrs x m) (Nat.lt_trans hCa (Nat.lt_trans had hdx))) (Nat.lt_irrefl _)
  have hdx3 : dx ∉ frs outer := fun m => absurd (Nat.lt_trans (hfrs dx m) (Nat.lt_trans hCa had)) (Nat.lt_irrefl _)
  generalize hg2 : hid (trunc h3 L') [x, dx, e, T3] = g2
  have g2in : ∀ b o, g2.get? b = some o → h3.get? b = some o := fun b o q => by
    rw [← hg2] at q; have := (hid_mem q).1; rw [trunc_get] at this
    split at this
    · exact this
    · cases this
  have g2no : ∀ b, b ∈ [x, dx, e, T3] → g2.get? b = none := fun b hb => by rw [← hg2]; exact hideAll_none _ hb
  have g2of : ∀ b o, @LT.lt Nat _ b L' → b ∉ [x, dx, e, T3] → h3.get? b = some o → g2.get? b = some o := fun b o hl hn q => by
    rw [← hg2]; refine hideAll_get _ ?_ hn; rw [trunc_get, if_pos hl]; exact q
  have hz2 : g2.objs.size ≤ L' := by rw [← hg2, hideAll_size]; exact trunc_size h3 L'
  have nfr : ∀ b, b ≠ L' → b ∉ frs outer → b ∉ L' :: frs outer := fun b q1 q2 m => by
    rcases List.mem_cons.mp m with r | r
    · exact q1 r
    · exact q2 r
  have F4 : Fr g2 L' h3 _ := ⟨hU.ns F3.ns, g2in, hz2⟩
  have newL : ∀ b, h1.get? b = none → b ≠ L' := fun b hb m => by rw [m, hL1] at hb; cases hb
  have hx1 := (N3 _ (.head _)).1
  have hdx1 := (N3 _ (.tail _ (.head _))).1
  have N4 := news_re (g2 := g2) (h3 := h3) (ex := [(e, oe), (T3, oT)]) N3 (by
    intro p hp q1 q2
    simp only [List.mem_cons, List.mem_nil_iff, or_false] at hp
    rcases hp with r | r <;> subst r
    · exact ⟨hU.1 _ _ (nfr _ q2 hx3) q1, g2no _ (by simp)⟩
    · exact ⟨hU.1 _ _ (nfr _ q2 hdx3) q1, g2no _ (by simp)⟩) (by
    intro p hp
    simp only [List.mem_cons, List.mem_nil_iff, or_false] at hp
    rcases hp with r | r <;> subst r
    · exact ⟨he3, newL _ hxE.new, g2no _ (by simp)⟩
    · exact ⟨hT3, newL _ hT1, g2no _ (by simp)⟩)
  have s1 : ∀ b o, b ≠ x → b ≠ dx → b ≠ C → s.heap.get? b = some o → h1.get? b = some o := fun b o q1 q2 q3 q => F3.keep b o (kin b o q1 q2 q3 q)
  have sL : ∀ b o, s.heap.get? b = some o → @LT.lt Nat _ b L' := fun b o q => Nat.lt_of_lt_of_le (Heap.lt_size q) hLs
  have sn : ∀ b o, b ≠ x → b ≠ dx → h1.get? b = some o → b ∉ [x, dx, e, T3] := fun b o q1 q2 q m => by
    simp only [List.mem_cons, List.mem_nil_iff, or_false] at m
    rcases m with r | r | r | r
    · exact q1 r
    · exact q2 r
    · rw [r, hxE.new] at q; cases q
    · rw [r, hT1] at q; cases q
  have kg2 : b0.StaysIn g2 := fun b o q => by
    have qx : b ≠ x := fun r => by rw [r, hb0 x (by simp)] at q; cases q
    have qd : b ≠ dx := fun r => by rw [r, hb0 dx (by simp)] at q; cases q
    have qC : b ≠ C := fun r => by rw [r, hbC] at q; cases q
    have q0 := k0 b o q
    have q1 := s1 b o qx qd qC q0
    refine g2of b o (sL b o q0) (sn b o qx qd q1) (hU.1 b o (nfr b (fun r => by rw [r, hLn] at q0; cases q0) (fun m => by rw [hfb b m] at q; cases q)) q1)
  have X2 := X.keeps kg2
  have T2 := Top.keeps T kg2
  clear F3 N3 X' T'
  (try dsimp only [List.cons_append, List.nil_append] at F4 N4 ⊢)
  refine wpAny_handleBy_builtin (X := "StopIteration") (T := "BaseException") (b := true) (by rw [isSubtype_type]; kernel_rfl) (by rw [isSubtype_type]; kernel_rfl) (by rw [isSubtype_type]; kernel_rfl) ?_
  k_steps
  · exact ⟨oe, he3, hce⟩
  rename Fr _ _ _ _ => F4
  rename News _ _ _ _ => N4
  refine wpAny_setFlight_none he3 hde h1e hT3 hdT (Array.getElem?_eq_some_iff.mp h3T).1 ?_
  have hkT : ∀ b o, b ≠ T3 → h3.get? b = some o → (h3.update T3 (Obj.mapFields (·.setIfInBounds 3 .none))).get? b = some o := fun b o q r => (Heap.get?_update_other _ _ (Ne.symm q)).trans r
  have hdT4 := Obj.data_mapFields hdT (·.setIfInBounds 3 Value.none)
  have hT4 := Heap.get?_update_self (Obj.mapFields (·.setIfInBounds 3 Value.none)) hT3 (Obj.isFreed_of_fields hdT4)
  have F5 := fr_but F4 hkT (g2no T3 (by simp)) (Ne.symm (newL T3 hT1))
  have nx3 : ∀ b o, h1.get? b = some o → b ≠ T3 := fun b o q r => by rw [r, hT1] at q; cases q
  have N5 := news_chg (news := [(x, _), (dx, _), (e, oe)]) N4 hkT (by
    intro p hp
    simp only [List.mem_cons, List.mem_nil_iff, or_false] at hp
    rcases hp with r | r | r <;> subst r
    · exact nx3 _ _ hx1
    · exact nx3 _ _ hdx1
    · exact Ne.symm hTe) hT4
  clear F4 N4
  (try dsimp only [List.cons_append, List.nil_append] at F5 N5 ⊢)
  generalize hH4 : h3.update T3 (Obj.mapFields (·.setIfInBounds 3 Value.none)) = h4 at F5 N5 hkT hT4 ⊢
  have nex : @Ne Nat e x := fun r => by have q := hxE.new; rw [show e = x from r, hx1] at q; cases q
  have nTx : @Ne Nat T3 x := fun r => by have q := hT1; rw [show T3 = x from r, hx1] at q; cases q
  k_steps
  rename Heap => h5
  rename Fr _ _ _ _ => F9
  rename News _ _ _ _ => N9
  have He9 := (N9 _ (.tail _ (.tail _ (.head _)))).1
  have HT9 := (N9 _ (.tail _ (.tail _ (.tail _ (.head _))))).1
  have Hx9 := (N9 _ (.head _)).1
  have Hd9 := (N9 _ (.tail _ (.head _))).1
  refine wpAny_passesOwnAt PassesOwnAt.leaving ?_
  refine raise_bare (L := L') (e := e) (T := T3) rfl rfl He9 hde h1e HT9 hdT4 (by rw [Array.size_setIfInBounds]; exact (Array.getElem?_eq_some_iff.mp h3T).1) ?_
  have hdT7 := Obj.data_mapFields hdT4 (·.setIfInBounds 3 (rawInt L'))
  have hT7 := Heap.get?_update_self (Obj.mapFields (·.setIfInBounds 3 (rawInt L'))) HT9 (Obj.isFreed_of_fields hdT7)
  refine leave_marked (L := L') (e := e) (T := T3) rfl ((Heap.get?_update_other _ _ hTe).trans He9) hde h1e hT7 hdT7 (by
    rw [Array.getElem?_setIfInBounds_self_of_lt]; rw [Array.size_setIfInBounds]; exact (Array.getElem?_eq_some_iff.mp h3T).1) ?_
  have kT : ∀ b o, b ≠ T3 → h5.get? b = some o → ((h5.update T3 (Obj.mapFields (·.setIfInBounds 3 (rawInt L')))).update T3 (Obj.mapFields (·.setIfInBounds 3 .none))).get? b = some o := fun b o q r =>
    (Heap.get?_update_other _ _ (Ne.symm q)).trans ((Heap.get?_update_other _ _ (Ne.symm q)).trans r)
  have E1 : ∀ b o, b ∉ [x, C] → b ∉ frs outer → s.heap.get? b = some o → ((h5.update T3 (Obj.mapFields (·.setIfInBounds 3 (rawInt L')))).update T3 (Obj.mapFields (·.setIfInBounds 3 .none))).get? b = some o := by
    intro b o hb hbf q
    have bx : b ≠ x := fun r => hb (r ▸ List.mem_cons_self ..)
    have bC : b ≠ C := fun r => hb (r ▸ List.mem_cons_of_mem _ (List.mem_singleton.mpr rfl))
    by_cases bd : b = dx
    · rw [bd] at q ⊢; rw [hdo] at q; cases q
      exact kT _ _ (nx3 _ _ hdx1) Hd9
    · have q1 := s1 b o bx bd bC q
      exact kT _ _ (nx3 _ _ q1) (F9.keep _ _ (g2of _ _ (sL _ _ q) (sn _ _ bx bd q1) (hU.1 _ _ (nfr _ (fun r => by rw [r, hLn] at q; cases q) hbf) q1)))
  refine ret e _ _ _ ⟨E1, ?_⟩ hgoE ⟨oe, kT _ _ (Ne.symm hTe) He9, hce⟩
  intro b o hb q hnf
  by_cases hbf : b ∈ frs outer
  · have lC := hfrs b hbf
    have bx : b ≠ x := Nat.ne_of_lt (Nat.lt_trans lC (Nat.lt_trans hCa (Nat.lt_trans had hdx)))
    have bd : b ≠ dx := Nat.ne_of_lt (Nat.lt_trans lC (Nat.lt_trans hCa had))
    have q1 := s1 b o bx bd (Nat.ne_of_lt lC) q
    obtain ⟨sl, q2⟩ := hU.2 _ _ q1 hnf
    exact ⟨sl, kT _ _ (nx3 _ _ q1) (F9.keep _ _ (g2of _ _ (sL _ _ q) (sn _ _ bx bd q1) q2))⟩
  · exact ⟨o.slots, E1 b o hb hbf q⟩
end Mine
end
noncomputable section
namespace Mine

set_option maxHeartbeats 8000000 in
theorem isl_stop1 {w : World} {dp un : Nat} {outer : List Env} {gd : Option (List Code)} {s : Shared} {D U x dx a g C : Nat} {items : List Str} {q1 q2 q3 q4 : Tok} {Q E : Value → Shared → Prop} {b0 : Heap}  (hD : dp + 3 ≤ D) (hU : un + 10 ≤ U)
    (hD' : D < recursionLimit)
    (G : Gd w b0) (hNC : b0.objs.size ≤ C) (hCa : C < a) (had : a < dx) (hdx : dx < x)
    (hg : GenA w D U a g C b0 items 0 s) (hx : s.heap.get? x = some (islO dx (.int 0 q1) (.ref a) (.int 1 q2) (.int 1 q3) (.int (-1) q4))) (hdo : s.heap.get? dx = some emptyDict)
    (hlen : items.length = 1) (hFF : FF s.heap outer) (hfrs : ∀ b ∈ frs outer, b < C) (hfb : ∀ b ∈ frs outer, b0.get? b = none)
    (ret : ∀ e h' tk gs', UpX [x, C] (frs outer) s.heap h' → AB s.gens gs' → (∃ o, h'.get? e = some o ∧ o.cls = .type "StopIteration") → E (.ref e) { s with heap := h', toks := tk, gens := gs' }) :
    wpAny (M w) (ar dp (some outer) gd un) (call (.ref 64) [.ref x]) Q E s := by
  have G0 := G
  unfold M; revert G; unfold Gd; k_fill; intro G
  obtain ⟨X, mean, mg, mb, T⟩ := G
  have hg0 := hg
  obtain ⟨_, ⟨oC, hoC⟩, k0, _⟩ := hg
  have hb0 : ∀ q ∈ [x, dx, C], b0.get? q = none := by
    intro q hq
    refine Heap.get?_none_of_le ?_
    simp only [List.mem_cons, List.mem_nil_iff, or_false] at hq
    rcases hq with r | r | r <;> omega
  refine wpAny_call ?_
  k_dflt (refine' enterH [x, dx, C] [(x, islO dx (.int 0 q1) (.ref a) (.int 1 q2) (.int 1 q3) (.int (-1) q4)), (dx, emptyDict), (C, oC)] (binds := [(Str.ofString "self", .ref x)]) (X.keeps k0) (T.nolimit.keeps k0) ?hn ?k6 ?k7 ?k8 ?k9 ?kB ?_ ?c2 ?c3 ?c4 ?c5; (case k6 => k_is); (case k7 => k_is); (case k8 => (dsimp only; omega)); (case k9 => exact BindsTo.of_eq rfl); (case c5 => decide); (case kB => exact locs rfl); (case c2 => exact rfl); (case c3 => exact rfl); (case c4 => exact rfl))
  case hn =>
    intro p hp
    simp only [List.mem_cons, List.mem_nil_iff, or_false] at hp
    rcases hp with e | e | e <;> subst e
    · exact ⟨hx, by simp⟩
    · exact ⟨hdo, by simp⟩
    · exact ⟨hoC, by simp⟩
  intro gb L' h' hgb F' N' kk hLn
  have hLs : s.heap.objs.size ≤ L' := by have := F'.above; rw [hgb, hideAll_size] at this; exact this
  have kg : b0.StaysIn gb := by rw [hgb]; exact stays_hid k0 hb0
  have X' := X.keeps kg
  have T' := T.keeps kg
  have hLC : L' ≠ C := fun q => by rw [q, hoC] at hLn; cases hLn
  have hgC : gb.get? C = none := by rw [hgb]; exact hideAll_none _ (by simp)
  have hbC : b0.get? C = none := hb0 C (by simp)
  have hga : ∀ o, s.heap.get? a = some o → gb.get? a = some o := fun o e => by
    rw [hgb]; exact hideAll_get _ e (notin3 (Nat.ne_of_lt (Nat.lt_trans had hdx)) (Nat.ne_of_lt had) (Nat.ne_of_gt hCa))
  have kin : ∀ b o, b ≠ x → b ≠ dx → b ≠ C → s.heap.get? b = some o → gb.get? b = some o := by
    intro b o h1 h2 h3 e
    rw [hgb]
    exact hideAll_get _ e (notin3 h1 h2 h3)
  have kend : ∀ h2, gb.StaysIn h2 → ∀ b o, b ≠ x → b ≠ C → s.heap.get? b = some o → (b = dx → h2.get? dx = some emptyDict) → h2.get? b = some o := by
    intro h2 k2 b o h1 h3 e hd
    by_cases hbd : b = dx
    · rw [hbd] at e ⊢; rw [hdo] at e; cases e; exact hd hbd
    · exact k2 b o (kin b o h1 hbd h3 e)
  obtain ⟨oa, hoa⟩ : ∃ o, s.heap.get? a = some o := let ⟨o, _, _, ho, _⟩ := hg0.1; ⟨o, ho⟩
  (try dsimp only)
  (try k_fold)
  k_steps
  rename Fr _ _ _ _ => F2
  rename News _ _ _ _ => N2
  refine next_gen_item (D := D) (U := U) (items := items) (g := g) (C := C) (b0 := b0) (by show dp + 1 ≤ D; omega) (by show un + 3 + 1 ≤ U; omega) hD' (by omega) hbC T.nolimit (j := 0) (by omega) ?st ?_
  case st => exact genA_frame hg0 (fun b o e => F2.keep b o (kg b o e)) (fun o e => F2.keep _ o (hga o e)) (fun o e => by rw [hoC] at e; cases e; exact N2.get (.tail _ (.tail _ (.head _))))
  intro y1 ty1 hp tk1 gs1 hy1 hk1 hgo1 hst
  obtain ⟨oC2, hoC2⟩ := hst.2.1
  have F3 := fr_but F2 hk1 hgC hLC
  have N3 := news_chg (news := [(x, _), (dx, _)]) N2 hk1 (by intro p hp; simp only [List.mem_cons, List.mem_nil_iff, or_false] at hp; rcases hp with r | r <;> (rw [r]; exact Nat.ne_of_gt (by omega))) hoC2
  clear F2 N2
  have fp := F3.keep _ _ (hga _ hoa)
  (try dsimp only [List.cons_append, List.nil_append] at F3 N3 ⊢)
  k_steps
  rename Fr _ _ _ _ => F2
  rename News _ _ _ _ => N2
  refine next_gen_end (D := D) (U := U) (items := items) (g := g) (C := C) (b0 := b0) (by show dp + 1 ≤ D; omega) (by show un + 3 + 1 ≤ U; omega) hD' hbC T.nolimit ?st ?_
  case st => (rw [hlen]; exact genA_frame hst (fun b o e => F2.keep b o (kg b o e)) (fun o e => by
      have h2 := F2.keep _ _ (hga _ hoa)
      rw [show hp.get? a = some o from e] at fp; cases fp; exact h2) (fun o e => by rw [show hp.get? C = some o from e] at hoC2; cases hoC2; exact N2.get (.tail _ (.tail _ (.head _)))))
  intro h1 h2 e tkE gsE hk1 hxE hgoE
  have F3 := fr_but F2 hk1 hgC hLC
  have N3 := news_drop (news := [(x, _), (dx, _)]) N2 hk1 (by intro p hp; simp only [List.mem_cons, List.mem_nil_iff, or_false] at hp; rcases hp with r | r <;> (rw [r]; exact Nat.ne_of_gt (by omega)))
  clear F2 N2
  have ffo : FF h1 outer := ff_sub hFF fun b hb o q => F3.keep b o (kin b o (Nat.ne_of_lt (Nat.lt_trans (hfrs b hb) (Nat.lt_trans hCa (Nat.lt_trans had hdx)))) (Nat.ne_of_lt (Nat.lt_trans (hfrs b hb) (Nat.lt_trans hCa had))) (Nat.ne_of_lt (hfrs b hb)) q)
  obtain ⟨oL1, _, _, hL1, _⟩ := id F3.ns
  refine noted_new (h := h1) (L := L') (outer := outer) rfl rfl (ff_cons (fun q => nomatch q) rfl F3.ns ffo) hxE ?_
  intro h3 hU htr
  replace hU : UpTo (L' :: frs outer) h1 h3 := hU
  obtain ⟨oe, vse, T3, oT, ts, he3, hce, hde, h1e, hT1, hTe, hT3, hdT, h3T⟩ := htr
  have hx3 : x ∉ frs outer := fun m => absurd (Nat.lt_trans (hfrs x m) (Nat.lt_trans hCa (Nat.lt_trans had hdx))) (Nat.lt_irrefl _)
  have hdx3 : dx ∉ frs outer := fun m => absurd (Nat.lt_trans (hfrs dx m) (Nat.lt_trans hCa had)) (Nat.lt_irrefl _)
  generalize hg2 : hid (trunc h3 L') [x, dx, e, T3] = g2
  have g2in : ∀ b o, g2.get? b = some o → h3.get? b = some o := fun b o q => by
    rw [← hg2] at q; have := (hid_mem q).1; rw [trunc_get] at this
    split at this
    · exact this
    · cases this
  have g2no : ∀ b, b ∈ [x, dx, e, T3] → g2.get? b = none := fun b hb => by rw [← hg2]; exact hideAll_none _ hb
  have g2of : ∀ b o, @LT.lt Nat _ b L' → b ∉ [x, dx, e, T3] → h3.get? b = some o → g2.get? b = some o := fun b o hl hn q => by
    rw [← hg2]; refine hideAll_get _ ?_ hn; rw [trunc_get, if_pos hl]; exact q
  have hz2 : g2.objs.size ≤ L' := by rw [← hg2, hideAll_size]; exact trunc_size h3 L'
  have nfr : ∀ b, b ≠ L' → b ∉ frs outer → b ∉ L' :: frs outer := fun b q1 q2 m => by
    rcases List.mem_cons.mp m with r | r
    · exact q1 r
    · exact q2 r
  have F4 : Fr g2 L' h3 _ := ⟨hU.ns F3.ns, g2in, hz2⟩
  have newL : ∀ b, h1.get? b = none → b ≠ L' := fun b hb m => by rw [m, hL1] at hb; cases hb
  have hx1 := (N3 _ (.head _)).1
  have hdx1 := (N3 _ (.tail _ (.head _))).1
  have N4 := news_re (g2 := g2) (h3 := h3) (ex := [(e, oe), (T3, oT)]) N3 (by
    intro p hp q1 q2
    simp only [List.mem_cons, List.mem_nil_iff, or_false] at hp
    rcases hp with r | r <;> subst r
    · exact ⟨hU.1 _ _ (nfr _ q2 hx3) q1, g2no _ (by simp)⟩
    · exact ⟨hU.1 _ _ (nfr _ q2 hdx3) q1, g2no _ (by simp)⟩) (by
    intro p hp
    simp only [List.mem_cons, List.mem_nil_iff, or_false] at hp
    rcases hp with r | r <;> subst r
    · exact ⟨he3, newL _ hxE.new, g2no _ (by simp)⟩
    · exact ⟨hT3, newL _ hT1, g2no _ (by simp)⟩)
  have s1 : ∀ b o, b ≠ x → b ≠ dx → b ≠ C → s.heap.get? b = some o → h1.get? b = some o := fun b o q1 q2 q3 q => F3.keep b o (kin b o q1 q2 q3 q)
  have sL : ∀ b o, s.heap.get? b = some o → @LT.lt Nat _ b L' := fun b o q => Nat.lt_of_lt_of_le (Heap.lt_size q) hLs
  have sn : ∀ b o, b ≠ x → b ≠ dx → h1.get? b = some o → b ∉ [x, dx, e, T3] := fun b o q1 q2 q m => by
    simp only [List.mem_cons, List.mem_nil_iff, or_false] at m
    rcases m with r | r | r | r
    · exact q1 r
    · exact q2 r
    · rw [r, hxE.new] at q; cases q
    · rw [r, hT1] at q; cases q
  have kg2 : b0.StaysIn g2 := fun b o q => by
    have qx : b ≠ x := fun r => by rw [r, hb0 x (by simp)] at q; cases q
    have qd : b ≠ dx := fun r => by rw [r, hb0 dx (by simp)] at q; cases q
    have qC : b ≠ C := fun r => by rw [r, hbC] at q; cases q
    have q0 := k0 b o q
    have q1 := s1 b o qx qd qC q0
    refine g2of b o (sL b o q0) (sn b o qx qd q1) (hU.1 b o (nfr b (fun r => by rw [r, hLn] at q0; cases q0) (fun m => by rw [hfb b m] at q; cases q)) q1)
  have X2 := X.keeps kg2
  have T2 := Top.keeps T kg2
  clear F3 N3 X' T'
  (try dsimp only [List.cons_append, List.nil_append] at F4 N4 ⊢)
  refine wpAny_handleBy_builtin (X := "StopIteration") (T := "BaseException") (b := true) (by rw [isSubtype_type]; kernel_rfl) (by rw [isSubtype_type]; kernel_rfl) (by rw [isSubtype_type]; kernel_rfl) ?_
  k_steps
  · exact ⟨oe, he3, hce⟩
  rename Fr _ _ _ _ => F4
  rename News _ _ _ _ => N4
  refine wpAny_setFlight_none he3 hde h1e hT3 hdT (Array.getElem?_eq_some_iff.mp h3T).1 ?_
  have hkT : ∀ b o, b ≠ T3 → h3.get? b = some o → (h3.update T3 (Obj.mapFields (·.setIfInBounds 3 .none))).get? b = some o := fun b o q r => (Heap.get?_update_other _ _ (Ne.symm q)).trans r
  have hdT4 := Obj.data_mapFields hdT (·.setIfInBounds 3 Value.none)
  have hT4 := Heap.get?_update_self (Obj.mapFields (·.setIfInBounds 3 Value.none)) hT3 (Obj.isFreed_of_fields hdT4)
  have F5 := fr_but F4 hkT (g2no T3 (by simp)) (Ne.symm (newL T3 hT1))
  have nx3 : ∀ b o, h1.get? b = some o → b ≠ T3 := fun b o q r => by rw [r, hT1] at q; cases q
  have N5 := news_chg (news := [(x, _), (dx, _), (e, oe)]) N4 hkT (by
    intro p hp
    simp only [List.mem_cons, List.mem_nil_iff, or_false] at hp
    rcases hp with r | r | r <;> subst r
    · exact nx3 _ _ hx1
    · exact nx3 _ _ hdx1
    · exact Ne.symm hTe) hT4
  clear F4 N4
  (try dsimp only [List.cons_append, List.nil_append] at F5 N5 ⊢)
  generalize hH4 : h3.update T3 (Obj.mapFields (·.setIfInBounds 3 Value.none)) = h4 at F5 N5 hkT hT4 ⊢
  have nex : @Ne Nat e x := fun r => by have q := hxE.new; rw [show e = x from r, hx1] at q; cases q
  have nTx : @Ne Nat T3 x := fun r => by have q := hT1; rw [show T3 = x from r, hx1] at q; cases q
  k_steps
  rename Heap => h5
  rename Fr _ _ _ _ => F9
  rename News _ _ _ _ => N9
  have He9 := (N9 _ (.tail _ (.tail _ (.head _)))).1
  have HT9 := (N9 _ (.tail _ (.tail _ (.tail _ (.head _))))).1
  have Hx9 := (N9 _ (.head _)).1
  have Hd9 := (N9 _ (.tail _ (.head _))).1
  refine wpAny_passesOwnAt PassesOwnAt.leaving ?_
  refine raise_bare (L := L') (e := e) (T := T3) rfl rfl He9 hde h1e HT9 hdT4 (by rw [Array.size_setIfInBounds]; exact (Array.getElem?_eq_some_iff.mp h3T).1) ?_
  have hdT7 := Obj.data_mapFields hdT4 (·.setIfInBounds 3 (rawInt L'))
  have hT7 := Heap.get?_update_self (Obj.mapFields (·.setIfInBounds 3 (rawInt L'))) HT9 (Obj.isFreed_of_fields hdT7)
  refine leave_marked (L := L') (e := e) (T := T3) rfl ((Heap.get?_update_other _ _ hTe).trans He9) hde h1e hT7 hdT7 (by
    rw [Array.getElem?_setIfInBounds_self_of_lt]; rw [Array.size_setIfInBounds]; exact (Array.getElem?_eq_some_iff.mp h3T).1) ?_
  have kT : ∀ b o, b ≠ T3 → h5.get? b = some o → ((h5.update T3 (Obj.mapFields (·.setIfInBounds 3 (rawInt L')))).update T3 (Obj.mapFields (·.setIfInBounds 3 .none))).get? b = some o := fun b o q r =>
    (Heap.get?_update_other _ _ (Ne.symm q)).trans ((Heap.get?_update_other _ _ (Ne.symm q)).trans r)
  have E1 : ∀ b o, b ∉ [x, C] → b ∉ frs outer → s.heap.get? b = some o → ((h5.update T3 (Obj.mapFields (·.setIfInBounds 3 (rawInt L')))).update T3 (Obj.mapFields (·.setIfInBounds 3 .none))).get? b = some o := by
    intro b o hb hbf q
    have bx : b ≠ x := fun r => hb (r ▸ List.mem_cons_self ..)
    have bC : b ≠ C := fun r => hb (r ▸ List.mem_cons_of_mem _ (List.mem_singleton.mpr rfl))
    by_cases bd : b = dx
    · rw [bd] at q ⊢; rw [hdo] at q; cases q
      exact kT _ _ (nx3 _ _ hdx1) Hd9
    · have q1 := s1 b o bx bd bC q
      exact kT _ _ (nx3 _ _ q1) (F9.keep _ _ (g2of _ _ (sL _ _ q) (sn _ _ bx bd q1) (hU.1 _ _ (nfr _ (fun r => by rw [r, hLn] at q; cases q) hbf) q1)))
  refine ret e _ _ _ ⟨E1, ?_⟩ (hgo1.trans hgoE) ⟨oe, kT _ _ (Ne.symm hTe) He9, hce⟩
  intro b o hb q hnf
  by_cases hbf : b ∈ frs outer
  · have lC := hfrs b hbf
    have bx : b ≠ x := Nat.ne_of_lt (Nat.lt_trans lC (Nat.lt_trans hCa (Nat.lt_trans had hdx)))
    have bd : b ≠ dx := Nat.ne_of_lt (Nat.lt_trans lC (Nat.lt_trans hCa had))
    have q1 := s1 b o bx bd (Nat.ne_of_lt lC) q
    obtain ⟨sl, q2⟩ := hU.2 _ _ q1 hnf
    exact ⟨sl, kT _ _ (nx3 _ _ q1) (F9.keep _ _ (g2of _ _ (sL _ _ q) (sn _ _ bx bd q1) q2))⟩
  · exact ⟨o.slots, E1 b o hb hbf q⟩
end Mine
end
noncomputable section
namespace Mine

set_option maxHeartbeats 8000000 in
theorem isl_stopM {w : World} {dp un : Nat} {outer : List Env} {gd : Option (List Code)} {s : Shared} {D U x dx a g C : Nat} {items : List Str} {q1 q2 q3 q4 : Tok} {Q E : Value → Shared → Prop} {b0 : Heap} {i : Nat} (hD : dp + 3 ≤ D) (hU : un + 10 ≤ U)
    (hD' : D < recursionLimit)
    (G : Gd w b0) (hNC : b0.objs.size ≤ C) (hCa : C < a) (had : a < dx) (hdx : dx < x)
    (hg : GenA w D U a g C b0 items (i + 1) s) (hx : s.heap.get? x = some (islO dx (.int ((i + 1 : Nat) : Int) q1) (.ref a) (.int ((i + 1 : Nat) : Int) q2) (.int 1 q3) (.int (-1) q4))) (hdo : s.heap.get? dx = some emptyDict)
    (hi0 : 0 < i) (hlen : items.length = i + 1) (hFF : FF s.heap outer) (hfrs : ∀ b ∈ frs outer, b < C) (hfb : ∀ b ∈ frs outer, b0.get? b = none)
    (ret : ∀ e h' tk gs', UpX [x, C] (frs outer) s.heap h' → AB s.gens gs' → (∃ o, h'.get? e = some o ∧ o.cls = .type "StopIteration") → E (.ref e) { s with heap := h', toks := tk, gens := gs' }) :
    wpAny (M w) (ar dp (some outer) gd un) (call (.ref 64) [.ref x]) Q E s := by
  have G0 := G
  unfold M; revert G; unfold Gd; k_fill; intro G
  obtain ⟨X, mean, mg, mb, T⟩ := G
  have hg0 := hg
  obtain ⟨_, ⟨oC, hoC⟩, k0, _⟩ := hg
  have hb0 : ∀ q ∈ [x, dx, C], b0.get? q = none := by
    intro q hq
    refine Heap.get?_none_of_le ?_
    simp only [List.mem_cons, List.mem_nil_iff, or_false] at hq
    rcases hq with r | r | r <;> omega
  refine wpAny_call ?_
  k_dflt (refine' enterH [x, dx, C] [(x, islO dx (.int ((i + 1 : Nat) : Int) q1) (.ref a) (.int ((i + 1 : Nat) : Int) q2) (.int 1 q3) (.int (-1) q4)), (dx, emptyDict), (C, oC)] (binds := [(Str.ofString "self", .ref x)]) (X.keeps k0) (T.nolimit.keeps k0) ?hn ?k6 ?k7 ?k8 ?k9 ?kB ?_ ?c2 ?c3 ?c4 ?c5; (case k6 => k_is); (case k7 => k_is); (case k8 => (dsimp only; omega)); (case k9 => exact BindsTo.of_eq rfl); (case c5 => decide); (case kB => exact locs rfl); (case c2 => exact rfl); (case c3 => exact rfl); (case c4 => exact rfl))
  case hn =>
    intro p hp
    simp only [List.mem_cons, List.mem_nil_iff, or_false] at hp
    rcases hp with e | e | e <;> subst e
    · exact ⟨hx, by simp⟩
    · exact ⟨hdo, by simp⟩
    · exact ⟨hoC, by simp⟩
  intro gb L' h' hgb F' N' kk hLn
  have hLs : s.heap.objs.size ≤ L' := by have := F'.above; rw [hgb, hideAll_size] at this; exact this
  have kg : b0.StaysIn gb := by rw [hgb]; exact stays_hid k0 hb0
  have X' := X.keeps kg
  have T' := T.keeps kg
  have hLC : L' ≠ C := fun q => by rw [q, hoC] at hLn; cases hLn
  have hgC : gb.get? C = none := by rw [hgb]; exact hideAll_none _ (by simp)
  have hbC : b0.get? C = none := hb0 C (by simp)
  have hga : ∀ o, s.heap.get? a = some o → gb.get? a = some o := fun o e => by
    rw [hgb]; exact hideAll_get _ e (notin3 (Nat.ne_of_lt (Nat.lt_trans had hdx)) (Nat.ne_of_lt had) (Nat.ne_of_gt hCa))
  have kin : ∀ b o, b ≠ x → b ≠ dx → b ≠ C → s.heap.get? b = some o → gb.get? b = some o := by
    intro b o h1 h2 h3 e
    rw [hgb]
    exact hideAll_get _ e (notin3 h1 h2 h3)
  have kend : ∀ h2, gb.StaysIn h2 → ∀ b o, b ≠ x → b ≠ C → s.heap.get? b = some o → (b = dx → h2.get? dx = some emptyDict) → h2.get? b = some o := by
    intro h2 k2 b o h1 h3 e hd
    by_cases hbd : b = dx
    · rw [hbd] at e ⊢; rw [hdo] at e; cases e; exact hd hbd
    · exact k2 b o (kin b o h1 hbd h3 e)
  obtain ⟨oa, hoa⟩ : ∃ o, s.heap.get? a = some o := let ⟨o, _, _, ho, _⟩ := hg0.1; ⟨o, ho⟩
  (try dsimp only)
  (try k_fold)
  k_steps
  rw [show decide (((i + 1 : Nat) : Int) < ((i + 1 : Nat) : Int)) = false from decide_eq_false (Int.lt_irrefl _)]
  k_steps
  rename Fr _ _ _ _ => F2
  rename News _ _ _ _ => N2
  refine next_gen_end (D := D) (U := U) (items := items) (g := g) (C := C) (b0 := b0) (by show dp + 1 ≤ D; omega) (by show un + 3 + 1 ≤ U; omega) hD' hbC T.nolimit ?st ?_
  case st => (rw [hlen]; exact genA_frame hg0 (fun b o e => F2.keep b o (kg b o e)) (fun o e => F2.keep _ o (hga o e)) (fun o e => by rw [hoC] at e; cases e; exact N2.get (.tail _ (.tail _ (.head _)))))
  intro h1 h2 e tkE gsE hk1 hxE hgoE
  have F3 := fr_but F2 hk1 hgC hLC
  have N3 := news_drop (news := [(x, _), (dx, _)]) N2 hk1 (by intro p hp; simp only [List.mem_cons, List.mem_nil_iff, or_false] at hp; rcases hp with r | r <;> (rw [r]; exact Nat.ne_of_gt (by omega)))
  clear F2 N2
  have ffo : FF h1 outer := ff_sub hFF fun b hb o q => F3.keep b o (kin b o (Nat.ne_of_lt (Nat.lt_trans (hfrs b hb) (Nat.lt_trans hCa (Nat.lt_trans had hdx)))) (Nat.ne_of_lt (Nat.lt_trans (hfrs b hb) (Nat.lt_trans hCa had))) (Nat.ne_of_lt (hfrs b hb)) q)
  obtain ⟨oL1, _, _, hL1, _⟩ := id F3.ns
  refine noted_new (h := h1) (L := L') (outer := outer) rfl rfl (ff_cons (fun q => nomatch q) rfl F3.ns ffo) hxE ?_
  intro h3 hU htr
  replace hU : UpTo (L' :: frs outer) h1 h3 := hU
  obtain ⟨oe, vse, T3, oT, ts, he3, hce, hde, h1e, hT1, hTe, hT3, hdT, h3T⟩ := htr
  have hx3 : x ∉ frs outer := fun m => absurd (Nat.lt_trans (hfrs x m) (Nat.lt_trans hCa (Nat.lt_trans had hdx))) (Nat.lt_irrefl _)
  have hdx3 : dx ∉ frs outer := fun m => absurd (Nat.lt_trans (hfrs dx m) (Nat.lt_trans hCa had)) (Nat.lt_irrefl _)
  generalize hg2 : hid (trunc h3 L') [x, dx, e, T3] = g2
  have g2in : ∀ b o, g2.get? b = some o → h3.get? b = some o := fun b o q => by
    rw [← hg2] at q; have := (hid_mem q).1; rw [trunc_get] at this
    split at this
    · exact this
    · cases this
  have g2no : ∀ b, b ∈ [x, dx, e, T3] → g2.get? b = none := fun b hb => by rw [← hg2]; exact hideAll_none _ hb
  have g2of : ∀ b o, @LT.lt Nat _ b L' → b ∉ [x, dx, e, T3] → h3.get? b = some o → g2.get? b = some o := fun b o hl hn q => by
    rw [← hg2]; refine hideAll_get _ ?_ hn; rw [trunc_get, if_pos hl]; exact q
  have hz2 : g2.objs.size ≤ L' := by rw [← hg2, hideAll_size]; exact trunc_size h3 L'
  have nfr : ∀ b, b ≠ L' → b ∉ frs outer → b ∉ L' :: frs outer := fun b q1 q2 m => by
    rcases List.mem_cons.mp m with r | r
    · exact q1 r
    · exact q2 r
  have F4 : Fr g2 L' h3 _ := ⟨hU.ns F3.ns, g2in, hz2⟩
  have newL : ∀ b, h1.get? b = none → b ≠ L' := fun b hb m => by rw [m, hL1] at hb; cases hb
  have hx1 := (N3 _ (.head _)).1
  have hdx1 := (N3 _ (.tail _ (.head _))).1
  have N4 := news_re (g2 := g2) (h3 := h3) (ex := [(e, oe), (T3, oT)]) N3 (by
    intro p hp q1 q2
    simp only [List.mem_cons, List.mem_nil_iff, or_false] at hp
    rcases hp with r | r <;> subst r
    · exact ⟨hU.1 _ _ (nfr _ q2 hx3) q1, g2no _ (by simp)⟩
    · exact ⟨hU.1 _ _ (nfr _ q2 hdx3) q1, g2no _ (by simp)⟩) (by
    intro p hp
    simp only [List.mem_cons, List.mem_nil_iff, or_false] at hp
    rcases hp with r | r <;> subst r
    · exact ⟨he3, newL _ hxE.new, g2no _ (by simp)⟩
    · exact ⟨hT3, newL _ hT1, g2no _ (by simp)⟩)
  have s1 : ∀ b o, b ≠ x → b ≠ dx → b ≠ C → s.heap.get? b = some o → h1.get? b = some o := fun b o q1 q2 q3 q => F3.keep b o (kin b o q1 q2 q3 q)
  have sL : ∀ b o, s.heap.get? b = some o → @LT.lt Nat _ b L' := fun b o q => Nat.lt_of_lt_of_le (Heap.lt_size q) hLs
  have sn : ∀ b o, b ≠ x → b ≠ dx → h1.get? b = some o → b ∉ [x, dx, e, T3] := fun b o q1 q2 q m => by
    simp only [List.mem_cons, List.mem_nil_iff, or_false] at m
    rcases m with r | r | r | r
    · exact q1 r
    · exact q2 r
    · rw [r, hxE.new] at q; cases q
    · rw [r, hT1] at q; cases q
  have kg2 : b0.StaysIn g2 := fun b o q => by
    have qx : b ≠ x := fun r => by rw [r, hb0 x (by simp)] at q; cases q
    have qd : b ≠ dx := fun r => by rw [r, hb0 dx (by simp)] at q; cases q
    have qC : b ≠ C := fun r => by rw [r, hbC] at q; cases q
    have q0 := k0 b o q
    have q1 := s1 b o qx qd qC q0
    refine g2of b o (sL b o q0) (sn b o qx qd q1) (hU.1 b o (nfr b (fun r => by rw [r, hLn] at q0; cases q0) (fun m => by rw [hfb b m] at q; cases q)) q1)
  have X2 := X.keeps kg2
  have T2 := Top.keeps T kg2
  clear F3 N3 X' T'
  (try dsimp only [List.cons_append, List.nil_append] at F4 N4 ⊢)
  refine wpAny_handleBy_builtin (X := "StopIteration") (T := "BaseException") (b := true) (by rw [isSubtype_type]; kernel_rfl) (by rw [isSubtype_type]; kernel_rfl) (by rw [isSubtype_type]; kernel_rfl) ?_
  k_steps
  · exact ⟨oe, he3, hce⟩
  rename Fr _ _ _ _ => F4
  rename News _ _ _ _ => N4
  refine wpAny_setFlight_none he3 hde h1e hT3 hdT (Array.getElem?_eq_some_iff.mp h3T).1 ?_
  have hkT : ∀ b o, b ≠ T3 → h3.get? b = some o → (h3.update T3 (Obj.mapFields (·.setIfInBounds 3 .none))).get? b = some o := fun b o q r => (Heap.get?_update_other _ _ (Ne.symm q)).trans r
  have hdT4 := Obj.data_mapFields hdT (·.setIfInBounds 3 Value.none)
  have hT4 := Heap.get?_update_self (Obj.mapFields (·.setIfInBounds 3 Value.none)) hT3 (Obj.isFreed_of_fields hdT4)
  have F5 := fr_but F4 hkT (g2no T3 (by simp)) (Ne.symm (newL T3 hT1))
  have nx3 : ∀ b o, h1.get? b = some o → b ≠ T3 := fun b o q r => by rw [r, hT1] at q; cases q
  have N5 := news_chg (news := [(x, _), (dx, _), (e, oe)]) N4 hkT (by
    intro p hp
    simp only [List.mem_cons, List.mem_nil_iff, or_false] at hp
    rcases hp with r | r | r <;> subst r
    · exact nx3 _ _ hx1
    · exact nx3 _ _ hdx1
    · exact Ne.symm hTe) hT4
  clear F4 N4
  (try dsimp only [List.cons_append, List.nil_append] at F5 N5 ⊢)
  generalize hH4 : h3.update T3 (Obj.mapFields (·.setIfInBounds 3 Value.none)) = h4 at F5 N5 hkT hT4 ⊢
  have nex : @Ne Nat e x := fun r => by have q := hxE.new; rw [show e = x from r, hx1] at q; cases q
  have nTx : @Ne Nat T3 x := fun r => by have q := hT1; rw [show T3 = x from r, hx1] at q; cases q
  k_steps
  rename Heap => h5
  rename Fr _ _ _ _ => F9
  rename News _ _ _ _ => N9
  have He9 := (N9 _ (.tail _ (.tail _ (.head _)))).1
  have HT9 := (N9 _ (.tail _ (.tail _ (.tail _ (.head _))))).1
  have Hx9 := (N9 _ (.head _)).1
  have Hd9 := (N9 _ (.tail _ (.head _))).1
  refine wpAny_passesOwnAt PassesOwnAt.leaving ?_
  refine raise_bare (L := L') (e := e) (T := T3) rfl rfl He9 hde h1e HT9 hdT4 (by rw [Array.size_setIfInBounds]; exact (Array.getElem?_eq_some_iff.mp h3T).1) ?_
  have hdT7 := Obj.data_mapFields hdT4 (·.setIfInBounds 3 (rawInt L'))
  have hT7 := Heap.get?_update_self (Obj.mapFields (·.setIfInBounds 3 (rawInt L'))) HT9 (Obj.isFreed_of_fields hdT7)
  refine leave_marked (L := L') (e := e) (T := T3) rfl ((Heap.get?_update_other _ _ hTe).trans He9) hde h1e hT7 hdT7 (by
    rw [Array.getElem?_setIfInBounds_self_of_lt]; rw [Array.size_setIfInBounds]; exact (Array.getElem?_eq_some_iff.mp h3T).1) ?_
  have kT : ∀ b o, b ≠ T3 → h5.get? b = some o → ((h5.update T3 (Obj.mapFields (·.setIfInBounds 3 (rawInt L')))).update T3 (Obj.mapFields (·.setIfInBounds 3 .none))).get? b = some o := fun b o q r =>
    (Heap.get?_update_other _ _ (Ne.symm q)).trans ((Heap.get?_update_other _ _ (Ne.symm q)).trans r)
  have E1 : ∀ b o, b ∉ [x, C] → b ∉ frs outer → s.heap.get? b = some o → ((h5.update T3 (Obj.mapFields (·.setIfInBounds 3 (rawInt L')))).update T3 (Obj.mapFields (·.setIfInBounds 3 .none))).get? b = some o := by
    intro b o hb hbf q
    have bx : b ≠ x := fun r => hb (r ▸ List.mem_cons_self ..)
    have bC : b ≠ C := fun r => hb (r ▸ List.mem_cons_of_mem _ (List.mem_singleton.mpr rfl))
    by_cases bd : b = dx
    · rw [bd] at q ⊢; rw [hdo] at q; cases q
      exact kT _ _ (nx3 _ _ hdx1) Hd9
    · have q1 := s1 b o bx bd bC q
      exact kT _ _ (nx3 _ _ q1) (F9.keep _ _ (g2of _ _ (sL _ _ q) (sn _ _ bx bd q1) (hU.1 _ _ (nfr _ (fun r => by rw [r, hLn] at q; cases q) hbf) q1)))
  refine ret e _ _ _ ⟨E1, ?_⟩ hgoE ⟨oe, kT _ _ (Ne.symm hTe) He9, hce⟩
  intro b o hb q hnf
  by_cases hbf : b ∈ frs outer
  · have lC := hfrs b hbf
    have bx : b ≠ x := Nat.ne_of_lt (Nat.lt_trans lC (Nat.lt_trans hCa (Nat.lt_trans had hdx)))
    have bd : b ≠ dx := Nat.ne_of_lt (Nat.lt_trans lC (Nat.lt_trans hCa had))
    have q1 := s1 b o bx bd (Nat.ne_of_lt lC) q
    obtain ⟨sl, q2⟩ := hU.2 _ _ q1 hnf
    exact ⟨sl, kT _ _ (nx3 _ _ q1) (F9.keep _ _ (g2of _ _ (sL _ _ q) (sn _ _ bx bd q1) q2))⟩
  · exact ⟨o.slots, E1 b o hb hbf q⟩
end Mine
end
noncomputable section
namespace Mine

theorem UpX.refl (ex fs : List Addr) (h : Heap) : UpX ex fs h h := ⟨fun _ _ _ _ e => e, fun _ o _ e _ => ⟨o.slots, e⟩⟩
theorem UpX.trans {ex fs : List Addr} {a b c : Heap} (x : UpX ex fs a b) (y : UpX ex fs b c) : UpX ex fs a c :=
  ⟨fun p o h1 h2 e => y.1 p o h1 h2 (x.1 p o h1 h2 e), fun p o h1 e hn => let ⟨_, e₁⟩ := x.2 p o h1 e hn; let ⟨sl, e₂⟩ := y.2 p _ h1 e₁ hn; ⟨sl, e₂⟩⟩
theorem UpX.mono {ex ex' fs : List Addr} {a b : Heap} (x : UpX ex fs a b) (h : ∀ p ∈ ex, p ∈ ex') : UpX ex' fs a b :=
  ⟨fun p o h1 h2 e => x.1 p o (fun m => h1 (h p m)) h2 e, fun p o h1 e hn => x.2 p o (fun m => h1 (h p m)) e hn⟩
theorem UpX.of {ex fs : List Addr} {a b : Heap} (k : ∀ p o, p ∉ ex → a.get? p = some o → b.get? p = some o) : UpX ex fs a b :=
  ⟨fun p o h1 _ e => k p o h1 e, fun p o h1 e _ => ⟨o.slots, k p o h1 e⟩⟩
theorem UpX.ff {ex fs : List Addr} {a b : Heap} {l : List Env} (x : UpX ex fs a b) (f : FF a l) (h : ∀ p ∈ frs l, p ∉ ex) : FF b l := by
  induction l with
  | nil => trivial
  | cons env r ih =>
    obtain ⟨hk, ⟨L, o, hf, _, ho, hd⟩, hr⟩ := f
    have hL : L ∈ frs (env :: r) := by unfold frs; rw [List.filterMap_cons, hf]; exact List.mem_cons_self ..
    obtain ⟨sl, e⟩ := x.2 L o (h L hL) ho hd
    exact ⟨hk, ⟨L, _, hf, rfl, e, hd⟩, ih hr fun p hp => h p (by unfold frs at hp ⊢; rw [List.filterMap_cons, hf]; exact List.mem_cons_of_mem _ hp)⟩

/-- an iterator walked: the states part at ex, on the frames' slots and at the generator -/
structure WalkU (prog : Program) (w : World) (A : Around) (I : Addr) (fp ex fs : List Addr) (G : Array GenState → Array GenState → Prop) (n : Nat) (P : Nat → Value → Prop) (St : Nat → Shared → Prop) : Prop where
  sub : ∀ b ∈ ex, b ∈ fp
  subf : ∀ b ∈ fs, b ∈ fp
  mem : I ∈ fp
  grefl : ∀ a, G a a
  gtrans : ∀ a b c, G a b → G b c → G a c
  frame : ∀ i (s : Shared) h' tk, St i s → (∀ b ∈ fp, ∀ o, s.heap.get? b = some o → h'.get? b = some o) → St i { s with heap := h', toks := tk }
  item : ∀ i (s : Shared) (Q : Option Value → Shared → Prop) (E : Value → Shared → Prop), i < n → St i s →
    (∀ v h' tk gs', P i v → St (i + 1) { s with heap := h', toks := tk, gens := gs' } → UpX ex fs s.heap h' → G s.gens gs' → Q (some v) { s with heap := h', toks := tk, gens := gs' }) → wpAny (model prog w) A (pyNext (.ref I)) Q E s
  done : ∀ (s : Shared) (Q : Option Value → Shared → Prop) (E : Value → Shared → Prop), St n s → (∀ h' tk gs', UpX ex fs s.heap h' → G s.gens gs' → Q none { s with heap := h', toks := tk, gens := gs' }) → wpAny (model prog w) A (pyNext (.ref I)) Q E s
  self : ∀ i (s : Shared) (Q : Value → Shared → Prop) (E : Value → Shared → Prop), St i s → (∀ h' tk, s.heap.StaysIn h' → Q (.ref I) { s with heap := h', toks := tk }) → wpAny (model prog w) A (pyIter (.ref I)) Q E s
  typ : ∀ i (s : Shared) (Q : Value → Shared → Prop) (E : Value → Shared → Prop), St i s → (∀ T, (T == Value.type "list") = false → (T == Value.type "tuple") = false → Q T s) → wpAny (model prog w) A (typeOf (.ref I)) Q E s
  hint : ∀ i (s : Shared) (Q : Bool → Shared → Prop) (E : Value → Shared → Prop), St i s → Q true s → wpAny (model prog w) A (Builtin.List.listLengthHint (.ref I)) Q E s

section
variable {prog : Program} {w : World} {A : Around} {s : Shared} {R : Result → Shared → Prop}
variable {I : Addr} {fp ex fs : List Addr} {G : Array GenState → Array GenState → Prop} {n : Nat} {P : Nat → Value → Prop} {St : Nat → Shared → Prop}

abbrev lstO (acc : Array Value) (c : Nat) : Obj := { cls := .type "list", dict := none, data := .seq acc c, slots := #[] }

theorem extend_loopU (W : WalkU prog w A.in1 I fp ex fs G n P St) (hn : n ≤ sizeLine) (S : Addr) (hSf : S ∉ fp) (res : Value) :
    ∀ (k i : Nat) (s : Shared) (acc : Array Value) (c : Nat), n - i = k → i ≤ n → St i s → s.heap.get? S = some (lstO acc c) → ItemsOf P acc i →
    (∀ h' tk gs' acc' c', UpX (S :: ex) fs s.heap h' → G s.gens gs' → h'.get? S = some (lstO acc' c') → ItemsOf P acc' n → R (.ok (.ret res)) { s with heap := h', toks := tk, gens := gs' }) →
    codeAny (model prog w) A (.builtin "list.extend.loop" ⟨[.ref S, .ref I, res], []⟩) R s := by
  have hSw : S ∉ ex := fun h => hSf (W.sub _ h)
  have hSs : S ∉ fs := fun h => hSf (W.subf _ h)
  have hsub : ∀ b ∈ ex, b ∈ S :: ex := fun b hb => List.mem_cons_of_mem _ hb
  intro k
  induction k with
  | zero =>
    intro i s acc c hk hi hst hS hacc hR
    have hin : i = n := by omega
    subst hin
    refine codeAny_builtin F.entry_extend_loop ?_
    rw [Around.under_plainId F.plain_extend_loop _]
    show wpAny _ A.in1 (pyNext (.ref I) >>= _) _ _ s
    refine wpAny_bind (W.done s _ _ hst fun h' tk gs' hm hg => ?_)
    exact wpAny_pure (hR h' tk gs' acc c (hm.mono hsub) hg (hm.1 S _ hSw hSs hS) hacc)
  | succ k ih =>
    intro i s acc c hk hi hst hS hacc hR
    have hlt : i < n := by omega
    refine codeAny_builtin F.entry_extend_loop ?_
    rw [Around.under_plainId F.plain_extend_loop _]
    show wpAny _ A.in1 (pyNext (.ref I) >>= _) _ _ s
    refine wpAny_bind (W.item i s _ _ hlt hst fun v h' tk gs' hP hst' hm hg => ?_)
    have hS' := hm.1 S _ hSw hSs hS
    show wpAny _ A.in1 (updateSeq S (·.push v) >>= _) _ _ _
    refine wpAny_bind ?_
    refine wpAny_updateSeq hS' rfl (wpAny_pure ⟨plainId_quiet F.plain_extend_loop _, ih (i + 1) _ (acc.push v) _ (by omega) hlt (W.frame _ _ _ tk hst' fun b hb o e => ?_) (Heap.get?_update_self _ hS' rfl) (hacc.push hP) fun h2 tk2 gs2 acc' c' hm'' hg'' hS'' hacc' => ?_⟩)
      (by rw [hacc.1]; omega) (by show (acc.push v).size ≤ sizeLine + 1; rw [Array.size_push, hacc.1]; omega)
    · exact (Heap.get?_update_other _ _ (fun h : S = b => hSf (by rw [h]; exact hb))).trans e
    · refine hR h2 tk2 gs2 acc' c' ((hm.mono hsub).trans ((UpX.of fun b o hb e => ?_).trans hm'')) (W.gtrans _ _ _ hg hg'') hS'' hacc'
      exact (Heap.get?_update_other _ _ (fun h : S = b => hb (by rw [h]; exact List.mem_cons_self))).trans e

theorem extendU (W : WalkU prog w A.in1 I fp ex fs G n P St) (S : Addr) (res : Value) (c₀ : Nat) (hst : St 0 s) (hSf : S ∉ fp)
    (hS : s.heap.get? S = some (lstO #[] c₀))
    (hR : ∀ h' tk gs' acc' c', UpX (S :: ex) fs s.heap h' → G s.gens gs' → h'.get? S = some (lstO acc' c') → ItemsOf P acc' n → R (.ok (.ret res)) { s with heap := h', toks := tk, gens := gs' }) (hn : n ≤ sizeLine) :
    wpAny (model prog w) A.in1 (Builtin.List.listExtendWith (.ref S) (.ref I) res)
      (fun fin s' => match fin with | .done f => R (.ok f) s' | .again c' => c'.quiet = true ∧ codeAny (model prog w) A c' R s') (fun e s' => R (.error e) s') s := by
  have hSI : S ≠ I := fun e => hSf (e ▸ W.mem)
  unfold Builtin.List.listExtendWith
  refine wpAny_bind (W.typ 0 _ _ _ hst fun T h2 h3 => ?_)
  have h1 : Builtin.List.listSameRef (.ref S) (.ref I) = false := by simp [Builtin.List.listSameRef, hSI]
  simp only [h1, h2, h3, Bool.or_false, Bool.false_eq_true, if_false]
  refine wpAny_bind (W.self 0 _ _ _ hst fun h₁ tk₁ k₁ => ?_)
  have hst₁ := W.frame 0 s h₁ tk₁ hst fun b _ o e => k₁ b o e
  have hS₁ := k₁ _ _ hS
  refine wpAny_bind (wpAny_holding ?_)
  refine W.hint 0 _ _ _ hst₁ ?_
  show wpAny _ A.in1 (rule "list.extend.makes-room" >>= fun _ => Builtin.List.listTouch (.ref S) >>= fun _ =>
    again (.builtin "list.extend.loop" ⟨[.ref S, .ref I, res], []⟩)) _ _ _
  refine wpAny_bind (wpAny_rule ?_)
  refine wpAny_bind ?_
  show wpAny _ A.in1 (updateSeq S (·.push .none) >>= fun _ => updateSeq S (·.pop)) _ _ _
  refine wpAny_bind (wpAny_updateSeq hS₁ rfl ?_)
  have hS₂ := Heap.get?_update_self (Obj.mapSeq (·.push Value.none)) hS₁ rfl
  refine wpAny_updateSeq (hz := by seq_fits) hS₂ rfl ?_
  have hS₃ := Heap.get?_update_self (Obj.mapSeq (·.pop)) hS₂ rfl
  have oth : ∀ b o, b ≠ S → h₁.get? b = some o → ((h₁.update S (Obj.mapSeq (·.push Value.none))).update S (Obj.mapSeq (·.pop))).get? b = some o :=
    fun b o hb e => (Heap.get?_update_other _ _ (Ne.symm hb)).trans ((Heap.get?_update_other _ _ (Ne.symm hb)).trans e)
  refine wpAny_pure ⟨plainId_quiet F.plain_extend_loop _, extend_loopU W hn _ hSf _ n 0 _ _ _ rfl (Nat.zero_le _)
    (W.frame 0 { s with heap := h₁, toks := tk₁ } _ tk₁ hst₁ fun b hb o e => oth b o (fun h => hSf (h ▸ hb)) e) hS₃ (ItemsOf.nil P) fun h' tk gs' acc' c' hm hg hS' hacc => ?_⟩
  exact hR h' tk gs' acc' c' ((UpX.of fun b o hb e => oth b o (fun h => hb (h ▸ List.mem_cons_self)) (k₁ b o e)).trans hm) hg hS' hacc

theorem list_initU (W : WalkU prog w A.in1 I fp ex fs G n P St) (S : Addr) (hst : St 0 s) (hSf : S ∉ fp)
    (hS : s.heap.get? S = some (lstO #[] 0))
    (hR : ∀ h' tk gs' acc' c', UpX (S :: ex) fs s.heap h' → G s.gens gs' → h'.get? S = some (lstO acc' c') → ItemsOf P acc' n → R (.ok (.ret .none)) { s with heap := h', toks := tk, gens := gs' }) (hn : n ≤ sizeLine) :
    wpAny (model prog w) A.in1 (Builtin.«list.__init__» ⟨[.ref S, .ref I], []⟩)
      (fun fin s' => match fin with | .done f => R (.ok f) s' | .again c' => c'.quiet = true ∧ codeAny (model prog w) A c' R s') (fun e s' => R (.error e) s') s := by
  show wpAny _ A.in1 (do let old ← Builtin.List.listItems (.ref S); Builtin.List.listUpdate (.ref S) (fun _ => #[]); letGo old.toList.reverse; Builtin.List.listExtendWith (.ref S) (.ref I) .none) _ _ s
  refine wpAny_bind ?_
  unfold Builtin.List.listItems
  refine wpAny_bind (wpAny_seqItems hS rfl (wpAny_pure ?_))
  show wpAny _ A.in1 (updateSeq S (fun _ => #[]) >>= fun _ => letGo (#[] : Array Value).toList.reverse >>= fun _ => Builtin.List.listExtendWith (.ref S) (.ref I) .none) _ _ s
  refine wpAny_bind (wpAny_updateSeq hS rfl ?_)
  have hS₂ := Heap.get?_update_self (Obj.mapSeq (fun _ => (#[] : Array Value))) hS rfl
  have oth : ∀ b o, b ≠ S → s.heap.get? b = some o → (s.heap.update S (Obj.mapSeq (fun _ => (#[] : Array Value)))).get? b = some o :=
    fun b o hb e => (Heap.get?_update_other _ _ (Ne.symm hb)).trans e
  refine wpAny_bind (wpAny_letGo ?_)
  refine extendU (hn := hn) W S .none _ (W.frame 0 s _ s.toks hst fun b hb o e => oth b o (fun h => hSf (h ▸ hb)) e) hSf hS₂ fun h' tk gs' acc' c' hm hg hS' hacc => ?_
  exact hR h' tk gs' acc' c' ((UpX.of fun b o hb e => oth b o (fun h => hb (h ▸ List.mem_cons_self)) e).trans hm) hg hS' hacc
end

theorem call_listU {prog : Program} {w : World} {A : Around} {E : Value → Shared → Prop} {s : Shared} {I : Addr} {fp ex fs : List Addr} {G : Array GenState → Array GenState → Prop} {n : Nat} {P : Nat → Value → Prop} {St : Nat → Shared → Prop} {Q : Value → Shared → Prop} (W : WalkU prog w A.in1.in1 I fp ex fs G n P St) (hst : St 0 s) (hfp : ∀ b ∈ fp, b < s.heap.objs.size) (hn : n ≤ sizeLine)
    (hQ : ∀ S h' tk gs' acc' c', s.heap.get? S = none → s.heap.objs.size ≤ S → UpX ex fs s.heap h' → G s.gens gs' → 
      h'.get? S = some (lstO acc' c') → ItemsOf P acc' n → Q (.ref S) { s with heap := h', toks := tk, gens := gs' }) :
    wpAny (model prog w) A (call (.type "list") [.ref I]) Q E s := by
  have hSf : s.heap.objs.size ∉ fp := fun hm => Nat.lt_irrefl _ (hfp _ hm)
  refine callType_codes (Q₁ := fun obj s₁ => obj = .ref s.heap.objs.size ∧ s₁ = { s with heap := s.heap.push { cls := .type "list", data := .seq #[] } }) F.called_list (F.typeCall_list_1 _) F.entry_list_init
    (code_list_new _ ⟨rfl, rfl⟩) fun obj s₁ h₁ => ?_
  obtain ⟨rfl, rfl⟩ := h₁
  have hS : (s.heap.push { cls := .type "list", data := .seq #[] }).get? s.heap.objs.size = some { cls := .type "list", data := .seq #[] } := Heap.get?_push_size _ rfl
  refine ⟨⟨_, hS, rfl⟩, F.args_list_init_2 _ _, list_initU (hn := hn) W _ (W.frame 0 s _ s.toks hst fun b _ o e => Heap.get?_push_of_some _ e) hSf hS fun h' tk gs' acc' c' hm hg hS' hacc => ?_⟩
  refine ⟨rfl, hQ _ h' tk gs' acc' c' (Heap.get?_none_of_le (Nat.le_refl _)) (Nat.le_refl _) ⟨fun b o h1 h2 e => ?_, fun b o h1 e hnf => ?_⟩ hg hS' hacc⟩
  · refine hm.1 b o (fun m => ?_) h2 (Heap.get?_push_of_some _ e)
    rcases List.mem_cons.mp m with r | r
    · exact absurd (Heap.lt_size e) (by rw [r]; exact Nat.lt_irrefl _)
    · exact h1 r
  · refine hm.2 b o (fun m => ?_) (Heap.get?_push_of_some _ e) hnf
    rcases List.mem_cons.mp m with r | r
    · exact absurd (Heap.lt_size e) (by rw [r]; exact Nat.lt_irrefl _)
    · exact h1 r
end Mine
end
noncomputable section
namespace Mine

abbrev ancP (items : List Str) (k : Nat) (j : Nat) (v : Value) : Prop := ∃ x t, items[j + k]? = some x ∧ v = .str x t

theorem gen_walkU {w : World} {dp un D U : Nat} {fr : Option (List Env)} {gd : Option (List Code)} {a g C : Nat} {b0 : Heap} {items : List Str} (fs : List Addr) (hd : dp ≤ D) (hu : un ≤ U) (hroom : D < recursionLimit)
    (haC : a ≠ C) (hC : b0.get? C = none) (hl : b0.NoLimit) :
    WalkU PySem.Challenge.rw_il0008_01.row.prog w (ar dp fr gd un) a (a :: C :: List.range b0.objs.size) [C] [] AB items.length (ancP items 0) (GenA w D U a g C b0 items) := by
  have W := gen_walks (w := w) (dp := dp) (un := un) (fr := fr) (gd := gd) (items := items) (g := g) hd hu hroom haC hC hl
  refine ⟨W.sub, (fun _ h => nomatch h), List.mem_cons_self .., W.grefl, W.gtrans, ?_, ?_, ?_, ?_, ?_, ?_⟩
  · intro j s h' tk st hk
    exact genA_frame st (fun b o e => hk b (List.mem_cons_of_mem _ (List.mem_cons_of_mem _ (List.mem_range.mpr (Heap.lt_size e)))) o (st.2.2.1 b o e)) (fun o e => hk a (by simp) o e) (fun o e => hk C (by simp) o e)
  · intro i s Q E hi st hQ
    refine W.item i s Q E hi st fun v s' hp st' hm => ?_
    obtain ⟨h1, h2, h3, h4, h5⟩ := hm
    obtain ⟨hp', gp', dr', tk', os'⟩ := s'
    obtain ⟨hh, gg, dd, tt, oo⟩ := s
    dsimp only at h1 h2 h3 h4
    subst h3; subst h4
    exact hQ v hp' tk' gp' hp st' (UpX.of h1) h2
  · intro s Q E st hQ
    refine W.done s Q E st fun s' hm => ?_
    obtain ⟨h1, h2, h3, h4, h5⟩ := hm
    obtain ⟨hp', gp', dr', tk', os'⟩ := s'
    obtain ⟨hh, gg, dd, tt, oo⟩ := s
    dsimp only at h1 h2 h3 h4
    subst h3; subst h4
    exact hQ hp' tk' gp' (UpX.of h1) h2
  · intro i s Q E st hQ
    exact W.self i s Q E st (hQ s.heap s.toks fun _ _ e => e)
  · intro i s Q E st hQ
    obtain ⟨o, nm, qn, ho, hc, _⟩ := st.1
    exact wpAny_typeOf (show s.TypeIs (.ref a) "generator" from ⟨o, ho, hc⟩) (hQ _ (by decide) (by decide))
  · intro i s Q E st hQ
    obtain ⟨o, nm, qn, ho, hc, _⟩ := st.1
    have hT : s.TypeIs (.ref a) "generator" := ⟨o, ho, hc⟩
    unfold Builtin.List.listLengthHint
    refine wpAny_bind (wpAny_specialOf hT F.gen_no_len ?_)
    show wpAny _ _ (specialOf (Value.ref a) (Str.ofString "__length_hint__") >>= _) _ _ _
    refine wpAny_bind (wpAny_specialOf hT F.gen_no_hint ?_)
    exact wpAny_pure hQ

set_option maxHeartbeats 4000000 in
theorem isl_iter {w : World} {dp un : Nat} {fr : Option (List Env)} {gd : Option (List Code)} {s : Shared} {x : Addr} {Q E : Value → Shared → Prop} (hD : dp + 1 < recursionLimit) (hU : un + 6 < cLine)
    (G : Gd w s.heap) 
    (ret : ∀ h' tk, s.heap.StaysIn h' → Q (.ref x) { s with heap := h', toks := tk }) :
    wpAny (M w) (ar dp fr gd un) (call (.ref 57) [.ref x]) Q E s := by
  have G0 := G
  unfold M; revert G; unfold Gd; k_fill; intro G
  obtain ⟨X, mean, mg, mb, T⟩ := G
  refine wpAny_call ?_
  k_dflt (refine' enter (binds := [(Str.ofString "self", .ref x)]) X T.nolimit ?k6 ?k7 ?k8 ?k9 ?kB ?_ ?c2 ?c3 ?c4 ?c5; (case k6 => k_is); (case k7 => k_is); (case k8 => (dsimp only; omega)); (case k9 => exact BindsTo.of_eq rfl); (case c5 => decide); (case kB => exact locs rfl); (case c2 => exact rfl); (case c3 => exact rfl); (case c4 => exact rfl))
  intro g L' h' hg F' N' X'
  subst hg
  (try dsimp only)
  (try k_fold)
  k_steps
  exact ret _ _ (Fr.keep (by assumption))

theorem isl_inst {h : Heap} {x dx : Addr} {c i n st sp : Value} (hx : h.get? x = some (islO dx c i n st sp)) (hd : h.get? dx = some emptyDict) : InstAt h x (islO dx c i n st sp) 68 (some emptyDict) :=
  ⟨hx, rfl, rfl, hd⟩

set_option maxHeartbeats 4000000 in
theorem isl_find (w : World) : findIn (hd.heap_39 w.params) (.ref 68) "__next__" = some (some (.ref 64)) ∧ isFn (hd.heap_39 w.params) (.ref 64) = true ∧ findIn (hd.heap_39 w.params) (.ref 68) "__iter__" = some (some (.ref 57)) ∧ isFn (hd.heap_39 w.params) (.ref 57) = true ∧ findIn (hd.heap_39 w.params) (.ref 68) "__len__" = some none ∧ findIn (hd.heap_39 w.params) (.ref 68) "__length_hint__" = some none := by
  k_fill
  refine ⟨?_, ?_, ?_, ?_, ?_, ?_⟩ <;> k_is
end Mine
end
noncomputable section
namespace Mine

abbrev IslS (w : World) (D U : Nat) (outer : List Env) (x dx a g C : Nat) (b0 : Heap) (items : List Str) (i : Nat) (s : Shared) : Prop :=
  IslA w D U x dx a g C b0 items i s ∧ FF s.heap outer

theorem isl_frame {w : World} {D U : Nat} {outer : List Env} {x dx a g C : Nat} {b0 : Heap} {items : List Str} {i : Nat} {s : Shared} {h' : Heap} {tk : Nat} (st : IslS w D U outer x dx a g C b0 items i s)
    (hk : ∀ b ∈ x :: dx :: a :: C :: (frs outer ++ List.range b0.objs.size), ∀ o, s.heap.get? b = some o → h'.get? b = some o) : IslS w D U outer x dx a g C b0 items i { s with heap := h', toks := tk } := by
  obtain ⟨⟨⟨j, c, q1, q2, q3, q4, hj, hg, hx⟩, hdx⟩, hff⟩ := st
  refine ⟨⟨⟨j, c, q1, q2, q3, q4, hj, genA_frame hg (fun b o e => hk b (by simp [Heap.lt_size e]) o (hg.2.2.1 b o e)) (fun o e => hk a (by simp) o e) (fun o e => hk C (by simp) o e), hk x (by simp) _ hx⟩, hk dx (by simp) _ hdx⟩, ff_sub hff fun b hb o e => hk b (by simp [hb]) o e⟩

theorem ns_empty {h : Heap} {dx : Addr} (hd : h.get? dx = some emptyDict) : h.Ns dx (fun _ => none) :=
  ⟨emptyDict, #[], 0, hd, rfl, (by intro k e; simp at e), fun _ => rfl⟩

theorem isl_walkU {w : World} {dp un D U : Nat} {outer : List Env} {gd : Option (List Code)} {x dx a g C : Nat} {b0 : Heap} {items : List Str} (hD : dp + 3 ≤ D) (hU : un + 10 ≤ U) (hroom : D < recursionLimit) (hcl : U < cLine)
    (G : Gd w b0) (hNC : b0.objs.size ≤ C) (hCa : C < a) (had : a < dx) (hdx : dx < x) (hfrs : ∀ b ∈ frs outer, b < C) (hfb : ∀ b ∈ frs outer, b0.get? b = none) :
    WalkU PySem.Challenge.rw_il0008_01.row.prog w (ar dp (some outer) gd un) x (x :: dx :: a :: C :: (frs outer ++ List.range b0.objs.size)) [x, C] (frs outer) AB (items.length - 1) (ancP items 1) (IslS w D U outer x dx a g C b0 items) := by
  have K1 := isl_find w
  have hnx : ∀ b ∈ frs outer, b ∉ [x, C] := fun b hb m => by
    have := hfrs b hb
    simp only [List.mem_cons, List.mem_nil_iff, or_false] at m
    rcases m with r | r
    · rw [r] at this; exact absurd (Nat.lt_trans this (Nat.lt_trans hCa (Nat.lt_trans had hdx))) (Nat.lt_irrefl _)
    · rw [r] at this; exact absurd this (Nat.lt_irrefl _)
  refine ⟨?_, ?_, List.mem_cons_self .., (fun _ => AB.refl _), (fun _ _ _ x y => x.trans y), (fun i s h' tk st hk => isl_frame st hk), ?_, ?_, ?_, ?_, ?_⟩
  · intro b hb
    simp only [List.mem_cons, List.mem_nil_iff, or_false] at hb
    rcases hb with r | r <;> simp [r]
  · intro b hb; simp [hb]
  · intro i s Q E hi st hQ
    obtain ⟨⟨⟨j, c, q1, q2, q3, q4, hj, hg, hx⟩, hdo⟩, hff⟩ := st
    have X : (hd.heap_39 w.params).In s.heap := G.1.keeps hg.2.2.1
    unfold pyNext
    have fin : ∀ v t h' tk gs', items[i + 1]? = some v → (∀ b o, b ≠ x → b ≠ C → s.heap.get? b = some o → h'.get? b = some o) → AB s.gens gs' → IslA w D U x dx a g C b0 items (i + 1) { s with heap := h', toks := tk, gens := gs' } → Q (some (.str v t)) { s with heap := h', toks := tk, gens := gs' } := by
      intro v t h' tk gs' hv hk hgo hi'
      have hu : UpX [x, C] (frs outer) s.heap h' := UpX.of fun b o hb e => hk b o (fun r => hb (r ▸ List.mem_cons_self ..)) (fun r => hb (r ▸ List.mem_cons_of_mem _ (List.mem_singleton.mpr rfl))) e
      exact hQ _ h' tk gs' ⟨v, t, hv, rfl⟩ ⟨hi', hu.ff hff hnx⟩ hu hgo
    refine wpAny_bind (wpAny_attempt (special_fn (name := "__next__") (args := []) X (isl_inst hx hdo) K1.1 (beq_iff_eq.mp K1.2.1) ?_))
    rcases hj with ⟨rfl, rfl, rfl⟩ | ⟨h0, rfl, rfl⟩
    · refine isl_first (D := D) (U := U) (b0 := b0) (items := items) hD hU hroom G hNC hCa had hdx hg hx hdo (by omega) fun v t h' tk gs' hv hk hgo hi' => ?_
      exact wpAny_pure (fin v t h' tk gs' hv hk hgo hi')
    · rw [if_neg (by omega)] at hx
      refine isl_more (D := D) (U := U) (b0 := b0) (items := items) (i := i) hD hU hroom G hNC hCa had hdx hg hx hdo h0 (by omega) fun v t h' tk gs' hv hk hgo hi' => ?_
      exact wpAny_pure (fin v t h' tk gs' hv hk hgo hi')
  · intro s Q E st hQ
    obtain ⟨⟨⟨j, c, q1, q2, q3, q4, hj, hg, hx⟩, hdo⟩, hff⟩ := st
    have X : (hd.heap_39 w.params).In s.heap := G.1.keeps hg.2.2.1
    unfold pyNext
    refine wpAny_bind (wpAny_attempt (special_fn (name := "__next__") (args := []) X (isl_inst hx hdo) K1.1 (beq_iff_eq.mp K1.2.1) ?_))
    have fin : ∀ e h' tk gs', UpX [x, C] (frs outer) s.heap h' → AB s.gens gs' → (∃ o, h'.get? e = some o ∧ o.cls = .type "StopIteration") →
        wpAny (M w) (ar dp (some outer) gd un) (isInstance (.ref e) (.type "StopIteration")) (fun b s₂ => wpAny (M w) (ar dp (some outer) gd un) (if b = true then pure none else throw (.ref e)) Q E s₂) E { s with heap := h', toks := tk, gens := gs' } := by
      intro e h' tk gs' hu hgo ho
      refine wpAny_isInstance (T := "StopIteration") (b := true) ho (by rw [isSubtype_type]; kernel_rfl) ?_
      rw [if_pos rfl]
      exact wpAny_pure (hQ h' tk gs' hu hgo)
    rcases hj with ⟨h0, rfl, rfl⟩ | ⟨h0, rfl, rfl⟩
    · rw [h0] at hx
      by_cases hz : items.length = 0
      · refine isl_stop0 (D := D) (U := U) (b0 := b0) (items := items) hD hU hroom G hNC hCa had hdx hg hx hdo hz hff hfrs hfb fun e h' tk gs' hu hgo ho => ?_
        exact wpAny_bind (fin e h' tk gs' hu hgo ho)
      · refine isl_stop1 (D := D) (U := U) (b0 := b0) (items := items) hD hU hroom G hNC hCa had hdx hg hx hdo (by omega) hff hfrs hfb fun e h' tk gs' hu hgo ho => ?_
        exact wpAny_bind (fin e h' tk gs' hu hgo ho)
    · rw [if_neg (by omega)] at hx
      refine isl_stopM (D := D) (U := U) (b0 := b0) (items := items) (i := items.length - 1) hD hU hroom G hNC hCa had hdx hg hx hdo h0 (by omega) hff hfrs hfb fun e h' tk gs' hu hgo ho => ?_
      exact wpAny_bind (fin e h' tk gs' hu hgo ho)
  · intro i s Q E st hQ
    obtain ⟨⟨⟨j, c, q1, q2, q3, q4, hj, hg, hx⟩, hdo⟩, hff⟩ := st
    have G1 := G.keeps hg.2.2.1
    have X : (hd.heap_39 w.params).In s.heap := G.1.keeps hg.2.2.1
    have I := isl_inst hx hdo
    refine owit_iter (⟨ns_empty hdo, hg.2.2.1, by omega⟩ : Fr b0 dx s.heap _) G.1 I K1.2.2.1 K1.2.2.2.1 ?_
    refine isl_iter (by omega) (by omega) G1 fun h' tk k => ?_
    unfold OwitIt
    exact wpAny_bind ((isl_inst (k _ _ hx) (k _ _ hdo)).type.here ((looks_findIn (X.keeps k) K1.1).here (hQ h' tk k)))
  · intro i s Q E st hQ
    obtain ⟨⟨⟨j, c, q1, q2, q3, q4, hj, hg, hx⟩, hdo⟩, hff⟩ := st
    exact (isl_inst hx hdo).type.here (hQ _ (by decide) (by decide))
  · intro i s Q E st hQ
    obtain ⟨⟨⟨j, c, q1, q2, q3, q4, hj, hg, hx⟩, hdo⟩, hff⟩ := st
    have X : (hd.heap_39 w.params).In s.heap := G.1.keeps hg.2.2.1
    unfold Builtin.List.listLengthHint
    refine wpAny_bind (wpAny_bind ((isl_inst hx hdo).type.here ((looks_findIn X K1.2.2.2.2.1).here ?_)))
    refine wpAny_bind (wpAny_bind ((isl_inst hx hdo).type.here ((looks_findIn X K1.2.2.2.2.2).here ?_)))
    exact wpAny_pure hQ
end Mine
end
noncomputable section
namespace Mine

theorem turn_nest0 (elt t0 i0 t1 i1 : PySem.Expr) (scope : Scope) (pos : Pos) (it acc : Value) (env : Env) :
    compTurn (.ListComp elt [⟨t0, i0, [], 0⟩, ⟨t1, i1, [], 0⟩] scope pos) 0 it acc env = (standAt i0.pos >>= fun _ => pyNext it >>= fun r => match r with
      | none => pure (.done .next)
      | some v => letOwnedTupleGo t0 it v >>= fun _ => assign t0 env v >>= fun _ =>
        eval i1 env >>= fun x => standAt i1.pos >>= fun _ => foldedSetIterable i1 env x >>= fun x => holding [x] (pyIter x) >>= fun it' =>
          runOwn (.compStart (.ListComp elt [⟨t0, i0, [], 0⟩, ⟨t1, i1, [], 0⟩] scope pos) 1 it' acc env) env >>= fun _ =>
          again (.compLoop (.ListComp elt [⟨t0, i0, [], 0⟩, ⟨t1, i1, [], 0⟩] scope pos) 0 it acc env)) := by
  unfold compTurn
  dsimp only
  simp only [List.getElem?_cons_zero, List.getElem?_cons_succ, bne_self_eq_false, Bool.false_eq_true, if_false, List.forIn_nil, pure_bind, if_true]
  rfl

theorem turn_nest1 (elt t0 i0 t1 i1 : PySem.Expr) (scope : Scope) (pos : Pos) (it acc : Value) (env : Env) :
    compTurn (.ListComp elt [⟨t0, i0, [], 0⟩, ⟨t1, i1, [], 0⟩] scope pos) 1 it acc env = (standAt i1.pos >>= fun _ => pyNext it >>= fun r => match r with
      | none => pure (.done .next)
      | some v => letOwnedTupleGo t1 it v >>= fun _ => assign t1 env v >>= fun _ =>
        (eval elt env >>= fun x => call (.builtin "list.append") [acc, x] >>= fun _ => pure ()) >>= fun _ =>
          again (.compLoop (.ListComp elt [⟨t0, i0, [], 0⟩, ⟨t1, i1, [], 0⟩] scope pos) 1 it acc env)) := by rfl

section
variable {prog : Program} {w : World} {A : Around} {R : Result → Shared → Prop} {s : Shared}

theorem loop_nest1 {elt t0 i0 t1 i1 : PySem.Expr} {scope : Scope} {pos : Pos} {it acc : Value} {env : Env} (I : Nat → Shared → Prop)
    (turn : ∀ n s, I n s → wpAny (model prog w) A (pyNext it) (fun r s₁ => match r with
      | none => R (.ok .next) s₁
      | some v => wpAny (model prog w) A (assign t1 env v) (fun _ s₂ => wpAny (model prog w) A (eval elt env) (fun x s₃ =>
          wpAny (model prog w) A (call (.builtin "list.append") [acc, x]) (fun _ s₄ => ∃ m, m < n ∧ I m s₄) (notedBy (model prog w) A env fun e s' => R (.error e) s') s₃)
          (notedBy (model prog w) A env fun e s' => R (.error e) s') s₂) (notedBy (model prog w) A env fun e s' => R (.error e) s') s₁) (notedBy (model prog w) A env fun e s' => R (.error e) s') s)
    (n : Nat) (h : I n s) (ht : ∀ v, letOwnedTupleGo t1 it v = pure () := by intro _; rfl) :
    codeAny (model prog w) A (.compLoop (.ListComp elt [⟨t0, i0, [], 0⟩, ⟨t1, i1, [], 0⟩] scope pos) 1 it acc env) R s := by
  refine codeAny_loop rfl I (fun n s hI => ?_) n h
  show wpAny _ _ ((compTurn (.ListComp elt [⟨t0, i0, [], 0⟩, ⟨t1, i1, [], 0⟩] scope pos) 1 it acc env).onRaise (fun x => do noteFrame x env; theTreesLotGoes x)) _ _ s
  refine wpAny_noted ?_
  rw [turn_nest1]
  refine wpAny_bind (wpAny_standAt (wpAny_bind (wpAny_mono (turn n s hI) (fun r s₁ h₁ => ?_) fun _ _ h' => h')))
  cases r with
  | none => exact wpAny_pure h₁
  | some v =>
    refine wpAny_bind (wpAny_of_eq (ht v) ?_)
    exact wpAny_bind (wpAny_mono h₁ (fun _ s₂ h₂ => wpAny_bind (wpAny_bind (wpAny_mono h₂ (fun x s₃ h₃ => wpAny_bind (wpAny_mono h₃
      (fun _ s₄ h₄ => wpAny_pure (wpAny_pure ⟨rfl, h₄⟩)) fun _ _ h' => h')) fun _ _ h' => h'))) fun _ _ h' => h')

theorem loop_nest0 {elt t0 i0 t1 i1 : PySem.Expr} {scope : Scope} {pos : Pos} {it acc : Value} {env : Env} (I : Nat → Shared → Prop)
    (turn : ∀ n s, I n s → wpAny (model prog w) A (pyNext it) (fun r s₁ => match r with
      | none => R (.ok .next) s₁
      | some v => wpAny (model prog w) A (assign t0 env v) (fun _ s₂ => wpAny (model prog w) A (eval i1 env) (fun x s₃ =>
          wpAny (model prog w) A (pyIter x) (fun it' s₄ =>
            codeAny (model prog w) (A.mark none) (.compStart (.ListComp elt [⟨t0, i0, [], 0⟩, ⟨t1, i1, [], 0⟩] scope pos) 1 it' acc env) (fun r s' => match r with | .ok _ => ∃ m, m < n ∧ I m s' | .error e => cameBackBy (model prog w) A env (notedBy (model prog w) A env fun e s' => R (.error e) s') e s') s₄)
            (notedBy (model prog w) A env fun e s' => R (.error e) s') s₃)
          (notedBy (model prog w) A env fun e s' => R (.error e) s') s₂) (notedBy (model prog w) A env fun e s' => R (.error e) s') s₁) (notedBy (model prog w) A env fun e s' => R (.error e) s') s)
    (n : Nat) (h : I n s) (hs : ∀ x, foldedSetIterable i1 env x = pure x := by intro _; rfl) (ht : ∀ v, letOwnedTupleGo t0 it v = pure () := by intro _; rfl) :
    codeAny (model prog w) A (.compLoop (.ListComp elt [⟨t0, i0, [], 0⟩, ⟨t1, i1, [], 0⟩] scope pos) 0 it acc env) R s := by
  refine codeAny_loop rfl I (fun n s hI => ?_) n h
  show wpAny _ _ ((compTurn (.ListComp elt [⟨t0, i0, [], 0⟩, ⟨t1, i1, [], 0⟩] scope pos) 0 it acc env).onRaise (fun x => do noteFrame x env; theTreesLotGoes x)) _ _ s
  refine wpAny_noted ?_
  rw [turn_nest0]
  refine wpAny_bind (wpAny_standAt (wpAny_bind (wpAny_mono (turn n s hI) (fun r s₁ h₁ => ?_) fun _ _ h' => h')))
  cases r with
  | none => exact wpAny_pure h₁
  | some v =>
    refine wpAny_bind (wpAny_of_eq (ht v) ?_)
    refine wpAny_bind (wpAny_mono h₁ (fun _ s₂ h₂ => wpAny_bind (wpAny_mono h₂ (fun x s₃ h₃ => ?_) fun _ _ h' => h')) fun _ _ h' => h')
    refine wpAny_bind (wpAny_standAt (wpAny_bind (wpAny_of_eq (hs x) (wpAny_bind (wpAny_holding (wpAny_mono h₃ (fun it' s₄ h₄ => ?_) fun _ _ h' => h'))))))
    refine wpAny_bind (wpAny_mono (wpAny_runOwn (h := none) (Q := fun _ s' => ∃ m, m < n ∧ I m s') (codeAny_mono h₄ fun r s' hr => ?_) (by intro x; cases x)) (fun _ s' hq => wpAny_pure ⟨rfl, hq⟩) fun _ _ e => e)
    cases r <;> exact hr

theorem start_nest1 {elt t0 i0 t1 i1 : PySem.Expr} {scope : Scope} {pos : Pos} {it acc : Value} {env : Env}
    (h0 : codeAny (model prog w) A (.compLoop (.ListComp elt [⟨t0, i0, [], 0⟩, ⟨t1, i1, [], 0⟩] scope pos) 1 it acc env) R s)
    (h : wpAny (model prog w) A (pyIter it) (fun it' s' => codeAny (model prog w) A (.compLoop (.ListComp elt [⟨t0, i0, [], 0⟩, ⟨t1, i1, [], 0⟩] scope pos) 1 it' acc env) R s')
      (notedBy (model prog w) A env fun x s' => R (.error x) s') s) :
    codeAny (model prog w) A (.compStart (.ListComp elt [⟨t0, i0, [], 0⟩, ⟨t1, i1, [], 0⟩] scope pos) 1 it acc env) R s := by
  refine codeAny_of_tree ?_
  show wpAny _ _ ((compStart (.ListComp elt [⟨t0, i0, [], 0⟩, ⟨t1, i1, [], 0⟩] scope pos) 1 it acc env).onRaise (fun x => do noteFrame x env; standAt theWindowsPlace)) _ _ s
  refine wpAny_notedAt ?_
  unfold compStart
  show wpAny _ _ (ask >>= _) _ _ s
  refine wpAny_bind (wpAny_askSetting (wpAny_ite ?_))
  split
  · first
      | exact wpAny_bind (wpAny_pure (wpAny_pure (And.intro rfl h0)))
      | exact wpAny_pure (And.intro rfl h0)
  · first
      | exact wpAny_bind (wpAny_rule (wpAny_bind (wpAny_standAt (wpAny_bind (wpAny_mono h (fun it' s' h' => wpAny_pure (And.intro rfl h')) fun _ _ x => x)))))
      | (refine wpAny_bind (wpAny_rule ?_); show wpAny _ _ (standAt i1.pos >>= _) _ _ s; exact wpAny_bind (wpAny_standAt (wpAny_bind (wpAny_mono h (fun it' s' h' => wpAny_pure (And.intro rfl h')) fun _ _ x => x))))
end
end Mine
end
noncomputable section
namespace Mine

theorem UpX.step {fs ex : List Addr} {a b c : Heap} {L : Addr} (x : UpX [] fs a b) (y : UpX ex (L :: fs) b c) (h : ∀ p ∈ ex, a.get? p = none) (hL : a.get? L = none) : UpX [] fs a c := by
  have ne : ∀ p o, a.get? p = some o → p ∉ ex := fun p o e m => by rw [h p m] at e; cases e
  refine ⟨fun p o _ h2 e => y.1 p o (ne p o e) (fun m => ?_) (x.1 p o (fun q => nomatch q) h2 e), fun p o _ e hn => ?_⟩
  · rcases List.mem_cons.mp m with r | r
    · rw [r, hL] at e; cases e
    · exact h2 r
  · obtain ⟨sl, e1⟩ := x.2 p o (fun q => nomatch q) e hn
    obtain ⟨sl2, e2⟩ := y.2 p _ (ne p o e) e1 hn
    exact ⟨sl2, e2⟩
theorem UpX.one {fs : List Addr} {a b c : Heap} {D : Addr} (x : UpX [] fs a b) (hs : Heap.SameBut D b c) (hD : a.get? D = none) : UpX [] fs a c := by
  have k : ∀ p o, p ∉ [D] → b.get? p = some o → c.get? p = some o := fun p o h e => hs.extBut p o (fun q => h (by rw [q]; exact List.mem_singleton.mpr rfl)) e
  have ne : ∀ p o, a.get? p = some o → p ∉ [D] := fun p o e m => by rw [List.mem_singleton.mp m, hD] at e; cases e
  refine ⟨fun p o _ h2 e => k p o (ne p o e) (x.1 p o (fun q => nomatch q) h2 e), fun p o _ e hn => ?_⟩
  obtain ⟨sl, e1⟩ := x.2 p o (fun q => nomatch q) e hn
  exact ⟨sl, k p _ (ne p o e) e1⟩
theorem UpX.stays {fs : List Addr} {a b c : Heap} (x : UpX [] fs a b) (k : b.StaysIn c) : UpX [] fs a c :=
  ⟨fun p o h1 h2 e => k p o (x.1 p o h1 h2 e), fun p o h1 e hn => let ⟨sl, e1⟩ := x.2 p o h1 e hn; ⟨sl, k p _ e1⟩⟩
theorem fr_upx {g h h' : Heap} {L : Addr} {m : Str → Option Value} {ex fs : List Addr} (F : Fr g L h m) (y : UpX ex (L :: fs) h h') (hex : ∀ p ∈ ex, g.get? p = none ∧ p ≠ L) (hfs : ∀ p ∈ fs, g.get? p = none) : Fr g L h' m := by
  have hL0 : g.get? L = none := Heap.get?_none_of_le F.above
  refine ⟨?_, fun b o e => ?_, F.above⟩
  · obtain ⟨o, es, ep, ho, hd, r⟩ := F.ns
    obtain ⟨sl, e⟩ := y.2 L o (fun m => (hex L m).2 rfl) ho (fun vs q => by rw [hd] at q; cases q)
    exact ⟨_, es, ep, e, hd, r⟩
  · refine y.1 b o (fun m => by rw [(hex b m).1] at e; cases e) (fun m => ?_) (F.keep b o e)
    rcases List.mem_cons.mp m with r | r
    · rw [r, hL0] at e; cases e
    · rw [hfs b r] at e; cases e

/-- the comprehension's state -/
structure CS (s0 g : Heap) (L : Addr) (m : Str → Option Value) (fs : List Addr) (nl I C D : Addr) (i : Nat) (ys : List Value) (mC : Str → Option Value) (h : Heap) : Prop where
  F : Fr g L h m
  hC : h.Ns C mC
  hD : h.get? D = some (LCg.lst ys)
  hI : h.IsListIter I nl i
  up : UpX [] fs s0 h

/-- the block's addresses stand apart -/
structure CA (s0 g : Heap) (L : Addr) (fs : List Addr) (I C D : Addr) : Prop where
  ic : I ≠ C
  id : I ≠ D
  cd : C ≠ D
  il : I ≠ L
  cl : C ≠ L
  dl : D ≠ L
  gi : g.get? I = none
  gc : g.get? C = none
  gd : g.get? D = none
  si : s0.get? I = none
  sc : s0.get? C = none
  sd : s0.get? D = none
  sl : s0.get? L = none
  fi : I ∉ fs
  fc : C ∉ fs
  fd : D ∉ fs
  gf : ∀ p ∈ fs, g.get? p = none

variable {s0 g h h' : Heap} {L : Addr} {m : Str → Option Value} {fs : List Addr} {nl I C D : Addr} {i : Nat} {ys : List Value} {mC mC' : Str → Option Value}

theorem CS.stays (c : CS s0 g L m fs nl I C D i ys mC h) (k : h.StaysIn h') : CS s0 g L m fs nl I C D i ys mC h' :=
  ⟨fr_up c.F k, c.hC.keeps k, k _ _ c.hD, c.hI.at fun o e => k _ _ e, c.up.stays k⟩
theorem CS.upx (a : CA s0 g L fs I C D) (c : CS s0 g L m fs nl I C D i ys mC h) {ex : List Addr} (y : UpX ex (L :: fs) h h') (hex : ∀ p ∈ ex, s0.get? p = none ∧ g.get? p = none ∧ p ≠ L ∧ p ≠ I ∧ p ≠ C ∧ p ≠ D) :
    CS s0 g L m fs nl I C D i ys mC h' := by
  have off : ∀ p, p ≠ L → p ∉ fs → p ∉ L :: fs := fun p h1 h2 m => by
    rcases List.mem_cons.mp m with r | r
    · exact h1 r
    · exact h2 r
  refine ⟨fr_upx c.F y (fun p hp => ⟨(hex p hp).2.1, (hex p hp).2.2.1⟩) a.gf, c.hC.at' fun o e => y.1 C o (fun m => (hex C m).2.2.2.2.1 rfl) (off C a.cl a.fc) e, y.1 D _ (fun m => (hex D m).2.2.2.2.2 rfl) (off D a.dl a.fd) c.hD,
    c.hI.at fun o e => y.1 I o (fun m => (hex I m).2.2.2.1 rfl) (off I a.il a.fi) e, c.up.step y (fun p hp => (hex p hp).1) a.sl⟩
theorem CS.setC (a : CA s0 g L fs I C D) (c : CS s0 g L m fs nl I C D i ys mC h) (hs : Heap.SameBut C h h') (hn : h'.Ns C mC') : CS s0 g L m fs nl I C D i ys mC' h' :=
  ⟨c.F.change hs a.cl a.gc, hn, hs.extBut _ _ (Ne.symm a.cd) c.hD, c.hI.at fun o e => hs.extBut _ _ a.ic e, c.up.one hs a.sc⟩
theorem CS.setD (a : CA s0 g L fs I C D) (c : CS s0 g L m fs nl I C D i ys mC h) {ys' : List Value} (hs : Heap.SameBut D h h') (hn : h'.get? D = some (LCg.lst ys')) : CS s0 g L m fs nl I C D i ys' mC h' :=
  ⟨c.F.change hs a.dl a.gd, c.hC.sameBut hs a.cd, hn, c.hI.at fun o e => hs.extBut _ _ a.id e, c.up.one hs a.sd⟩
end Mine
end
noncomputable section
namespace Mine
section
variable {prog : Program} {w : World} {A : Around} {s0 g : Heap} {L : Addr} {m : Str → Option Value} {fs : List Addr} {nl I C D : Addr}

theorem inner_loop {x : Addr} {fp ex : List Addr} {G : Array GenState → Array GenState → Prop} {n i : Nat} {P : Nat → Value → Prop} {St : Nat → Shared → Prop} (W : WalkU prog w A x fp ex (L :: fs) G n P St)
    (a : CA s0 g L fs I C D) (hex : ∀ p ∈ ex, s0.get? p = none ∧ g.get? p = none ∧ p ≠ L ∧ p ≠ I ∧ p ≠ C ∧ p ≠ D) (hCf : C ∉ fp) (hDf : D ∉ fp)
    {elt t0 i0 i1 : PySem.Expr} {v0 v1 : Str} {p1 : Pos} {scope : Scope} {pos : Pos} {cenv : Env} (hloc : cenv.locals = C) (hk : cenv.kindOf v1 = some .local) (hp : (cenv.scope.kind == .class || (cenv.scope.kind == .module && cenv.locals != cenv.globals)) = false)
    {its : List Str} (hn : its.length = n) (hP : ∀ j v, P j v → ∃ y t, its[j]? = some y ∧ v = .str y t) (gF : Str → Str)
    (Helt : ∀ (y : Str) (t : Tok) (s : Shared) (m1 : Str → Option Value) (Q : Value → Shared → Prop) (E : Value → Shared → Prop), y ∈ its → Fr g L s.heap m → s.heap.Ns C m1 → m1 v1 = some (.str y t) → (∀ t' tk', Q (.str (gF y) t') { s with toks := tk' }) → wpAny (model prog w) A (eval elt cenv) Q E s)
    {R : Result → Shared → Prop} {s : Shared} {ys0 : List Value} {bs : List Str} {mC : Str → Option Value} (hst : St 0 s) (c : CS s0 g L m fs nl I C D i ys0 mC s.heap) (hS : StrsAre ys0 bs) (hz : ys0.length + n ≤ 10000)
    (hR : ∀ h tk gs mC' ys', G s.gens gs → CS s0 g L m fs nl I C D i ys' mC' h → StrsAre ys' (bs ++ its.map gF) → R (.ok .next) { s with heap := h, toks := tk, gens := gs }) :
    codeAny (model prog w) A (.compLoop (.ListComp elt [⟨t0, i0, [], 0⟩, ⟨.Name v1 p1, i1, [], 0⟩] scope pos) 1 (.ref x) (.ref D) cenv) R s := by
  refine loop_nest1 (fun k s' => ∃ j h tk gs ys mC', s' = { s with heap := h, toks := tk, gens := gs } ∧ G s.gens gs ∧ j ≤ n ∧ k = n + 1 - j ∧ CS s0 g L m fs nl I C D i ys mC' h ∧ St j s' ∧ StrsAre ys (bs ++ (its.take j).map gF)) ?_ (n + 1)
    ⟨0, s.heap, s.toks, s.gens, ys0, mC, rfl, W.grefl _, Nat.zero_le _, rfl, c, hst, by simpa using hS⟩
  rintro k s' ⟨j, h, tk, gs, ys, mC', rfl, hG, hj, rfl, c', st, hS'⟩
  have hys : ys.length ≤ ys0.length + n := by
    have h1 := hS'.length
    have h2 := hS.length
    rw [List.length_append, List.length_map, List.length_take] at h1
    omega
  by_cases hlt : j < n
  · refine W.item j _ _ _ hlt st fun v h1 tk1 gs1 hv st1 hu1 hG1 => ?_
    obtain ⟨y, t, hy, rfl⟩ := hP j v hv
    have c1 := c'.upx a hu1 hex
    have hns : h1.Ns cenv.locals mC' := hloc ▸ c1.hC
    refine wpAny_assign_Name (wpAny_storeName_local hk hns (fun h2 hn2 hs2 => ?_) hp)
    rw [hloc] at hn2 hs2
    have c2 := c1.setC a hs2 hn2
    have st2 := W.frame (j + 1) _ h2 (tk1 + 1) st1 fun b hb o e => hs2.extBut b o (fun q => hCf (by rw [← q]; exact hb)) e
    refine Helt y t _ _ _ _ (List.mem_of_getElem? hy) c2.F c2.hC (by simp) fun t' tk' => ?_
    have hD2 := c2.hD
    refine append_at (hsz := by show ys.toArray.size ≤ sizeLine; rw [List.size_toArray, PySem.sizeLine_eq]; omega) hD2 fun h3 hs3 hD3 => ?_
    have c3 := c2.setD a hs3 (ys' := ys ++ [.str (gF y) t']) (hD3.trans (congrArg some (LCg.lst_snoc _ _)))
    have st3 := W.frame (j + 1) _ h3 tk' st2 fun b hb o e => hs3.extBut b o (fun q => hDf (by rw [← q]; exact hb)) e
    refine ⟨n + 1 - (j + 1), by omega, j + 1, h3, tk', gs1, _, _, rfl, W.gtrans _ _ _ hG hG1, hlt, rfl, c3, st3, ?_⟩
    rw [List.take_add_one, hy]
    simp only [Option.toList_some, List.map_append, List.map_cons, List.map_nil, ← List.append_assoc]
    exact PySem.W.kct_snoc hS'
  · have hjn : j = n := by omega
    subst hjn
    refine W.done _ _ _ st fun h1 tk1 gs1 hu1 hG1 => ?_
    rw [← hn, List.take_length] at hS'
    exact hR h1 tk1 gs1 mC' ys (W.gtrans _ _ _ hG hG1) (c'.upx a hu1 hex) hS'
end
end Mine
end
noncomputable section
namespace Mine

theorem outer_loop {w : World} {dp un Dd U : Nat} {envF : Env} {outer : List Env} {gd : Option (List Code)} {s0 g b0 : Heap} {L nl I C D : Addr} {m : Str → Option Value} {vn : Array Value} {ns : List Str}
    (hD : dp + 3 ≤ Dd) (hU : un + 10 ≤ U) (hroom : Dd < recursionLimit) (hcl : U < cLine) (G : Gd w b0) (hb0 : b0.StaysIn g) (hfb : ∀ b ∈ frs outer, b0.get? b = none) (hLb : b0.get? L = none)
    (hkind : envF.scope.kind ≠ .module) (hfr : envF.frame = some L) (hFF : FF s0 outer)
    (a : CA s0 g L (frs outer) I C D) (hnl : g.IsList nl vn) (hns : StrsAre vn.toList ns) (hnz : ns.length ≤ 13) (hsC : s0.objs.size ≤ C) (hbC : b0.objs.size ≤ C) (hbD : b0.objs.size ≤ D)
    {elt i0 i1 : PySem.Expr} {v0 v1 : Str} {p0 p1 : Pos} {scope : Scope} {pos : Pos} {cenv : Env} (hloc : cenv.locals = C) (hk0 : cenv.kindOf v0 = some .local) (hk : cenv.kindOf v1 = some .local) (hp : (cenv.scope.kind == .class || (cenv.scope.kind == .module && cenv.locals != cenv.globals)) = false)
    (itF : Str → List Str) (hitl : ∀ y ∈ ns, (itF y).length ≤ 100) (gF : Str → Str)
    (Hcall : ∀ (y : Str) (t : Tok) (s : Shared) (m1 : Str → Option Value) (Q : Value → Shared → Prop) (E : Value → Shared → Prop), y ∈ ns → Fr g L s.heap m → s.heap.Ns C m1 → m1 v0 = some (.str y t) →
      (∀ x dx ag Cg h' gs tk, s.heap.StaysIn h' → s.heap.objs.size ≤ Cg → Cg < ag → ag < dx → dx < x → x < h'.objs.size → IslA w Dd U x dx ag s.gens.size Cg b0 (itF y) 0 { s with heap := h', toks := tk, gens := s.gens.push gs } → Q (.ref x) { s with heap := h', toks := tk, gens := s.gens.push gs }) →
      wpAny (M w) (ar dp (some (envF :: outer)) gd un) (eval i1 cenv) Q E s)
    (Helt : ∀ (y : Str) (t : Tok) (s : Shared) (m1 : Str → Option Value) (Q : Value → Shared → Prop) (E : Value → Shared → Prop), (∃ z ∈ ns, y ∈ (itF z).drop 1) → Fr g L s.heap m → s.heap.Ns C m1 → m1 v1 = some (.str y t) → (∀ t' tk', Q (.str (gF y) t') { s with toks := tk' }) → wpAny (M w) (ar dp (some (envF :: outer)) gd un) (eval elt cenv) Q E s)
    {R : Result → Shared → Prop} {s : Shared} {mC : Str → Option Value} (c : CS s0 g L m (frs outer) nl I C D 0 [] mC s.heap)
    (hR : ∀ h tk gs mC' ys', AB s.gens gs → Fr g L h m → h.Ns C mC' → h.get? D = some (LCg.lst ys') → UpX [] (frs outer) s0 h → ys'.length ≤ 2000 → StrsAre ys' (ns.flatMap fun y => ((itF y).drop 1).map gF) → R (.ok .next) { s with heap := h, toks := tk, gens := gs })
    (hs : ∀ x, foldedSetIterable i1 cenv x = pure x) :
    codeAny (M w) (ar dp (some (envF :: outer)) gd un) (.compLoop (.ListComp elt [⟨.Name v0 p0, i0, [], 0⟩, ⟨.Name v1 p1, i1, [], 0⟩] scope pos) 0 (.ref I) (.ref D) cenv) R s := by
  have hvl : vn.size = ns.length := by have := hns.length; simpa using this
  refine loop_nest0 (fun k s' => ∃ i h tk gs ys mC', s' = { s with heap := h, toks := tk, gens := gs } ∧ AB s.gens gs ∧ i ≤ ns.length ∧ k = ns.length + 1 - i ∧ CS s0 g L m (frs outer) nl I C D i ys mC' h ∧ ys.length ≤ 100 * i ∧ StrsAre ys ((ns.take i).flatMap fun y => ((itF y).drop 1).map gF)) ?_ (ns.length + 1)
    ⟨0, s.heap, s.toks, s.gens, [], mC, rfl, AB.refl _, Nat.zero_le _, rfl, c, Nat.zero_le _, .nil⟩ hs
  rintro k s' ⟨i, h, tk, gs, ys, mC', rfl, hG, hi, rfl, c', hyz, hS⟩
  have hln : h.IsList nl vn := hnl.at fun o e => c'.F.keep _ o e
  by_cases hlt : i < ns.length
  · obtain ⟨y, hy⟩ : ∃ y, ns[i]? = some y := ⟨_, List.getElem?_eq_getElem hlt⟩
    obtain ⟨t, hvt⟩ := hns.at hy
    have hvt' : vn[i]? = some (.str y t) := by simpa using hvt
    refine wpAny_pyNext_list_item c'.hI hln (x := .str y t) (by simpa using hvt') fun h1 hit1 hs1 => ?_
    have c1 : CS s0 g L m (frs outer) nl I C D (i + 1) ys mC' h1 :=
      ⟨c'.F.change hs1 a.il a.gi, c'.hC.sameBut hs1 (Ne.symm a.ic), hs1.extBut _ _ (Ne.symm a.id) c'.hD, hit1, c'.up.one hs1 a.si⟩
    have hns1 : h1.Ns cenv.locals mC' := hloc ▸ c1.hC
    refine wpAny_assign_Name (wpAny_storeName_local hk0 hns1 (fun h2 hn2 hs2 => ?_) hp)
    rw [hloc] at hn2 hs2
    have c2 := c1.setC a hs2 hn2
    refine Hcall y t _ _ _ _ (List.mem_of_getElem? hy) c2.F c2.hC (by simp) fun x dx ag Cg h3 gs3 tk3 k3 hC3 hag hdx hx hxl hA => ?_
    have c3 := c2.stays k3
    dsimp only at hC3 k3 hA ⊢
    have hbr3 : gs3.bare = true := hA.bare
    have ltC : C < h2.objs.size := c2.hC.lt
    have ltL : L < h2.objs.size := c2.F.ns.lt
    have ltI : I < h2.objs.size := by obtain ⟨o, ho, _⟩ := c2.hI; exact Heap.lt_size ho
    have ltD : D < h2.objs.size := Heap.lt_size c2.hD
    have ff3 : FF h3 outer := c3.up.ff hFF (fun p _ q => nomatch q)
    have ff2 : FF h2 outer := c2.up.ff hFF (fun p _ q => nomatch q)
    have ltf : ∀ b ∈ frs outer, b < h2.objs.size := by
      intro b hb
      obtain ⟨env', he, hf⟩ := List.mem_filterMap.mp hb
      obtain ⟨L₁, o₁, hf₁, ho₁⟩ := funFrames_in ff2 env' he
      rw [hf₁] at hf; cases hf
      first | exact Heap.lt_size ho₁ | exact Heap.lt_size ho₁.1 | (obtain ⟨ho₁, _⟩ := ho₁; exact Heap.lt_size ho₁)
    have hfe : frs (envF :: outer) = L :: frs outer := by unfold frs; rw [List.filterMap_cons, hfr]
    have W := isl_walkU (w := w) (dp := dp) (un := un) (D := Dd) (U := U) (outer := envF :: outer) (gd := gd) (x := x) (dx := dx) (a := ag) (g := gs.size) (C := Cg) (b0 := b0) (items := itF y) hD hU hroom hcl G (Nat.le_trans hbC (Nat.le_of_lt (Nat.lt_of_lt_of_le ltC hC3))) hag hdx hx
      (fun b hb => by
        rw [hfe] at hb
        rcases List.mem_cons.mp hb with r | r
        · rw [r]; exact Nat.lt_of_lt_of_le ltL hC3
        · exact Nat.lt_of_lt_of_le (ltf b r) hC3)
      (fun b hb => by
        rw [hfe] at hb
        rcases List.mem_cons.mp hb with r | r
        · rw [r]; exact hLb
        · exact hfb b r)
    rw [hfe] at W
    have lx : Cg < x := Nat.lt_trans hag (Nat.lt_trans hdx hx)
    have st0 : IslS w Dd U (envF :: outer) x dx ag gs.size Cg b0 (itF y) 0 { s with heap := h3, toks := tk3, gens := gs.push gs3 } := ⟨hA, ff_cons hkind hfr c3.F.ns ff3⟩
    have far : ∀ q, Cg ≤ q → s0.get? q = none ∧ g.get? q = none ∧ q ≠ L ∧ q ≠ I ∧ q ≠ C ∧ q ≠ D := fun q hq =>
      ⟨Heap.get?_none_of_le (Nat.le_trans hsC (Nat.le_trans (Nat.le_of_lt (Nat.lt_of_lt_of_le ltC hC3)) hq)), Heap.get?_none_of_le (Nat.le_trans c3.F.above (Nat.le_trans (Nat.le_of_lt (Nat.lt_of_lt_of_le ltL hC3)) hq)),
        Nat.ne_of_gt (Nat.lt_of_lt_of_le (Nat.lt_of_lt_of_le ltL hC3) hq), Nat.ne_of_gt (Nat.lt_of_lt_of_le (Nat.lt_of_lt_of_le ltI hC3) hq), Nat.ne_of_gt (Nat.lt_of_lt_of_le (Nat.lt_of_lt_of_le ltC hC3) hq), Nat.ne_of_gt (Nat.lt_of_lt_of_le (Nat.lt_of_lt_of_le ltD hC3) hq)⟩
    have hex : ∀ p ∈ [x, Cg], s0.get? p = none ∧ g.get? p = none ∧ p ≠ L ∧ p ≠ I ∧ p ≠ C ∧ p ≠ D := by
      intro p hp
      rcases List.mem_cons.mp hp with r | r
      · rw [r]; exact far x (Nat.le_of_lt lx)
      · rw [List.mem_singleton.mp r]; exact far Cg (Nat.le_refl _)
    have hoff : ∀ q, q < h2.objs.size → b0.objs.size ≤ q → q ≠ L → q ∉ frs outer → q ∉ x :: dx :: ag :: Cg :: ((L :: frs outer) ++ List.range b0.objs.size) := by
      intro q hq hb h1 h2 hm
      have hqC : q < Cg := Nat.lt_of_lt_of_le hq hC3
      simp only [List.mem_cons, List.mem_append, List.mem_range] at hm
      rcases hm with r | r | r | r | (r | r) | r
      · rw [r] at hqC; exact absurd (Nat.lt_trans lx hqC) (Nat.lt_irrefl _)
      · rw [r] at hqC; exact absurd (Nat.lt_trans (Nat.lt_trans hag hdx) hqC) (Nat.lt_irrefl _)
      · rw [r] at hqC; exact absurd (Nat.lt_trans hag hqC) (Nat.lt_irrefl _)
      · rw [r] at hqC; exact absurd hqC (Nat.lt_irrefl _)
      · exact h1 r
      · exact h2 r
      · exact absurd (Nat.lt_of_lt_of_le r hb) (Nat.lt_irrefl _)
    have hlen : ((itF y).drop 1).length = (itF y).length - 1 := by rw [List.length_drop]
    have hiy := hitl y (List.mem_of_getElem? hy)
    have inner : ∀ (h4 : Heap) (tk4 : Nat), h3.StaysIn h4 → codeAny (M w) (ar dp (some (envF :: outer)) gd un) (.compLoop (.ListComp elt [⟨.Name v0 p0, i0, [], 0⟩, ⟨.Name v1 p1, i1, [], 0⟩] scope pos) 1 (.ref x) (.ref D) cenv)
        (fun r s' => match r with
          | .ok _ => (∃ m_1, m_1 < ns.length + 1 - i ∧ ∃ i h tk gs ys mC', s' = { s with heap := h, toks := tk, gens := gs } ∧ AB s.gens gs ∧ i ≤ ns.length ∧ m_1 = ns.length + 1 - i ∧ CS s0 g L m (frs outer) nl I C D i ys mC' h ∧ ys.length ≤ 100 * i ∧ StrsAre ys ((ns.take i).flatMap fun y => ((itF y).drop 1).map gF))
          | .error e => cameBackBy (M w) (ar dp (some (envF :: outer)) gd un) cenv (notedBy (M w) (ar dp (some (envF :: outer)) gd un) cenv fun e s' => R (.error e) s') e s') { s with heap := h4, toks := tk4, gens := gs.push gs3 } := by
      intro h4 tk4 k4
      have st4 := W.frame 0 _ h4 tk4 st0 fun b _ o e => k4 b o e
      refine inner_loop (v0 := v0) W a hex (hoff C ltC hbC a.cl a.fc) (hoff D ltD hbD a.dl a.fd) hloc hk hp (its := (itF y).drop 1) hlen (fun j v hv => ?_) gF (fun z tz s1 m1 Q1 E1 hz F1 n1 e1 q1 => Helt z tz s1 m1 Q1 E1 ⟨y, List.mem_of_getElem? hy, hz⟩ F1 n1 e1 q1) st4 (c3.stays k4) hS (by omega) ?_
      · obtain ⟨z, tz, hz, e⟩ := hv
        exact ⟨z, tz, by rw [List.getElem?_drop, Nat.add_comm]; exact hz, e⟩
      · intro h5 tk5 gs5 mC5 ys5 hG5 c5 hS5
        refine ⟨ns.length + 1 - (i + 1), by omega, i + 1, h5, tk5, gs5, ys5, mC5, rfl, hG.trans ((AB.push hbr3).trans hG5), hlt, rfl, c5, ?_, ?_⟩
        · have h1 := hS5.length
          have h2 := hS.length
          rw [List.length_append, List.length_map, hlen] at h1
          omega
        · rw [List.take_add_one, hy]
          simpa using hS5
    refine W.self 0 _ _ _ st0 fun h4 tk4 k4 => ?_
    rw [Around.mark_none]
    refine start_nest1 (inner h4 tk4 k4) (W.self 0 _ _ _ (W.frame 0 _ h4 tk4 st0 fun b _ o e => k4 b o e) fun h5 tk5 k5 => inner h5 tk5 fun b o e => k5 b o (k4 b o e))
  · have hin : i = ns.length := by omega
    subst hin
    rw [List.take_length] at hS
    refine wpAny_pyNext_list_end rfl c'.hI hln (by rw [Array.getElem?_eq_none]; omega) fun h1 he1 => ?_
    have hs1 : ∀ b o, b ≠ I → h.get? b = some o → h1.get? b = some o := fun b o q e => he1 b o q e
    refine hR h1 tk gs mC' ys hG (fr_but c'.F hs1 a.gi (Ne.symm a.il)) (c'.hC.at' fun o e => hs1 C o (Ne.symm a.ic) e) (hs1 D _ (Ne.symm a.id) c'.hD) ?_ (by omega) hS
    have ne : ∀ p o, s0.get? p = some o → p ≠ I := fun p o e q => by rw [q, a.si] at e; cases e
    exact ⟨fun p o h2 h3 e => hs1 p o (ne p o e) (c'.up.1 p o h2 h3 e), fun p o h2 e hn => let ⟨sl, e1⟩ := c'.up.2 p o h2 e hn; ⟨sl, hs1 p _ (ne p o e) e1⟩⟩
end Mine
end
noncomputable section
namespace Mine

theorem assign_nest {w : World} {dp un Dd U : Nat} {env : Env} {outer : List Env} {gd : Option (List Code)} {s0 g b0 : Heap} {L nl : Addr} {m : Str → Option Value} {vn : Array Value} {ns : List Str}
    (hD : dp + 3 ≤ Dd) (hU : un + 10 ≤ U) (hroom : Dd < recursionLimit) (hcl : U < cLine) (G : Gd w b0) (hb0 : b0.StaysIn g) (hfb : ∀ b ∈ frs outer, b0.get? b = none) (hLb : b0.objs.size ≤ L)
    (hkind : env.scope.kind ≠ .module) (hfr : env.frame = some L) (hLe : env.locals = L) (hFF : FF s0 outer) (hgf : ∀ p ∈ frs outer, g.get? p = none) (hsL : s0.objs.size ≤ L)
    (hnl : g.IsList nl vn) (hns : StrsAre vn.toList ns) (hnz : ns.length ≤ 13)
    {elt i0 i1 : PySem.Expr} {v0 v1 y : Str} {p0 p1 py : Pos} {scope : Scope} {pos spos : Pos}
    (hsw : swapsWith (.ListComp elt [⟨.Name v0 p0, i0, [], 0⟩, ⟨.Name v1 p1, i1, [], 0⟩] scope pos) (some (.Name y py)) spos.line env = pure true)
    (hclos : closureFor scope env = pure []) (hcell : ∀ z ∈ scope.names, z.2 ≠ .cell) (hsk : scope.kind = .function)
    (hnames : ∀ z ∈ scope.names, z.2 = .local → scope.names.lookup z.1 = some .local) (hx0 : scope.names.lookup v0 = some .local) (hx1 : scope.names.lookup v1 = some .local)
    (hy : env.kindOf y = some .local) (hp : (env.scope.kind == .class || (env.scope.kind == .module && env.locals != env.globals)) = false)
    (itF : Str → List Str) (hitl : ∀ y ∈ ns, (itF y).length ≤ 100) (gF : Str → Str)
    (Hcall : ∀ (C : Addr) (y : Str) (t : Tok) (s : Shared) (m1 : Str → Option Value) (Q : Value → Shared → Prop) (E : Value → Shared → Prop), y ∈ ns → C ≠ L → g.get? C = none → Fr g L s.heap m → s.heap.Ns C m1 → m1 v0 = some (.str y t) →
      (∀ x dx ag Cg h' gs tk, s.heap.StaysIn h' → s.heap.objs.size ≤ Cg → Cg < ag → ag < dx → dx < x → x < h'.objs.size → IslA w Dd U x dx ag s.gens.size Cg b0 (itF y) 0 { s with heap := h', toks := tk, gens := s.gens.push gs } → Q (.ref x) { s with heap := h', toks := tk, gens := s.gens.push gs }) →
      wpAny (M w) (ar dp (some (env :: outer)) gd un) (eval i1 (compEnvC scope [] C env)) Q E s)
    (Helt : ∀ (C : Addr) (y : Str) (t : Tok) (s : Shared) (m1 : Str → Option Value) (Q : Value → Shared → Prop) (E : Value → Shared → Prop), (∃ z ∈ ns, y ∈ (itF z).drop 1) → C ≠ L → g.get? C = none → Fr g L s.heap m → s.heap.Ns C m1 → m1 v1 = some (.str y t) → (∀ t' tk', Q (.str (gF y) t') { s with toks := tk' }) → wpAny (M w) (ar dp (some (env :: outer)) gd un) (eval elt (compEnvC scope [] C env)) Q E s)
    {s : Shared} {Q : Flow → Shared → Prop} {E : Value → Shared → Prop} (F₀ : Fr g L s.heap m) (up₀ : UpX [] (frs outer) s0 s.heap)
    (hev : ∀ (Q : Value → Shared → Prop), (∀ tk, Q (.ref nl) { s with toks := tk }) → wpAny (M w) (ar dp (some (env :: outer)) gd un) (eval i0 env) Q E s)
    (hs0 : ∀ x, foldedSetIterable i0 env x = pure x) (hs1 : ∀ C x, foldedSetIterable i1 (compEnvC scope [] C env) x = pure x)
    (hQ : ∀ D h' tk gs' ys, AB s.gens gs' → Fr g L h' (fun z => if z = y then some (.ref D) else m z) → h'.get? D = some (LCg.lst ys) → D ≠ L → g.get? D = none → s0.get? D = none → UpX [] (frs outer) s0 h' → StrsAre ys (ns.flatMap fun y => ((itF y).drop 1).map gF) → ys.length ≤ 2000 → Q .next { s with heap := h', toks := tk, gens := gs' }) :
    wpAny (M w) (ar dp (some (env :: outer)) gd un) (exec (.Assign [.Name y py] (.ListComp elt [⟨.Name v0 p0, i0, [], 0⟩, ⟨.Name v1 p1, i1, [], 0⟩] scope pos) spos) env) Q E s := by
  rw [exec_Assign_Name_used _ _ _ _ hsw]
  refine wpAny_bind (wpAny_standAt (wpAny_bind ?_))
  show wpAny _ _ (do let _ ← comprehension (.ListComp elt [⟨.Name v0 p0, i0, [], 0⟩, ⟨.Name v1 p1, i1, [], 0⟩] scope pos) scope env _ (newList []) false (eval i0 env) (some (assign (.Name y py) env))) _ _ s
  refine wpAny_bind (wpAny_mono (wpAny_comprehension_free (use := some (assign (.Name y py) env)) (Q := fun _ s' => Q .next s') rfl hs0 hclos hsk hnames ?_) (fun _ s' hq => wpAny_pure (wpAny_pure hq)) fun _ _ e => e)
  refine hev _ fun tk0 => ?_
  have hls : s.heap.IsList nl vn := hnl.at fun o e => F₀.keep _ o e
  obtain ⟨oln, holn, _⟩ := id hls
  refine wpAny_pyIter_list (s := { s with toks := tk0 }) hls ?_
  refine wpAny_newObj_type (wpAny_newFunctionEnv hcell (by intro y hy; simp at hy) (fun h₁ hns₁ hsb₁ => ?_) hsk)
  dsimp only at hns₁ hsb₁ ⊢
  generalize hH1 : s.heap.push { cls := .type "list_iterator", data := .fields #[.ref nl, .int 0 0] } = H1 at hns₁ hsb₁ ⊢
  generalize hH2 : H1.push { cls := .type "list", dict := none, data := .seq ([] : List Value).toArray } = H2 at hns₁ hsb₁ ⊢
  have z1 : H1.objs.size = s.heap.objs.size + 1 := by rw [← hH1, Heap.size_push]
  have z2 : H2.objs.size = s.heap.objs.size + 2 := by rw [← hH2, Heap.size_push, z1]
  have hI1 : H1.get? s.heap.objs.size = some { cls := .type "list_iterator", data := .fields #[.ref nl, .int 0 0] } := by rw [← hH1]; exact Heap.get?_push_size _ rfl
  have hD2 : H2.get? H1.objs.size = some { cls := .type "list", dict := none, data := .seq ([] : List Value).toArray } := by rw [← hH2]; exact Heap.get?_push_size _ rfl
  have k1 : s.heap.StaysIn H1 := fun b o e => by rw [← hH1]; exact Heap.get?_push_of_some _ e
  have k2 : H1.StaysIn H2 := fun b o e => by rw [← hH2]; exact Heap.get?_push_of_some _ e
  have k3 : H2.StaysIn h₁ := fun b o e => hsb₁.extBut b o (Nat.ne_of_lt (Heap.lt_size e)) (Heap.get?_push_of_some _ e)
  have k : s.heap.StaysIn h₁ := fun b o e => k3 b o (k2 b o (k1 b o e))
  generalize hIe : s.heap.objs.size = I at *
  generalize hDe : H1.objs.size = D at *
  generalize hCe : H2.objs.size = C at *
  have ltL : L < I := by rw [← hIe]; exact F₀.ns.lt
  have eD : D = I + 1 := z1
  have eC : C = I + 2 := z2
  have gn : ∀ q, I ≤ q → g.get? q = none ∧ s0.get? q = none := fun q hq => ⟨Heap.get?_none_of_le (Nat.le_trans F₀.above (Nat.le_trans (Nat.le_of_lt ltL) hq)), Heap.get?_none_of_le (Nat.le_trans hsL (Nat.le_trans (Nat.le_of_lt ltL) hq))⟩
  have ltf : ∀ b ∈ frs outer, b < I := by
    intro b hb
    have ff2 : FF s.heap outer := up₀.ff hFF (fun p _ q => nomatch q)
    obtain ⟨env', he, hf⟩ := List.mem_filterMap.mp hb
    obtain ⟨L₁, o₁, hf₁, ho₁⟩ := funFrames_in ff2 env' he
    rw [hf₁] at hf; cases hf
    rw [← hIe]
    first | exact Heap.lt_size ho₁ | exact Heap.lt_size ho₁.1
  have ID : I < D := by rw [eD]; exact Nat.lt_succ_self _
  have DC : D < C := by rw [eD, eC]; exact Nat.lt_succ_self _
  have IC : I < C := Nat.lt_trans ID DC
  have a : CA s0 g L (frs outer) I C D :=
    { ic := Nat.ne_of_lt IC, id := Nat.ne_of_lt ID, cd := Nat.ne_of_gt DC, il := Nat.ne_of_gt ltL, cl := Nat.ne_of_gt (Nat.lt_trans ltL IC), dl := Nat.ne_of_gt (Nat.lt_trans ltL ID)
      gi := (gn I (Nat.le_refl _)).1, gc := (gn C (Nat.le_of_lt IC)).1, gd := (gn D (Nat.le_of_lt ID)).1, si := (gn I (Nat.le_refl _)).2, sc := (gn C (Nat.le_of_lt IC)).2, sd := (gn D (Nat.le_of_lt ID)).2
      sl := Heap.get?_none_of_le hsL, fi := fun q => absurd (ltf I q) (Nat.lt_irrefl _), fc := fun q => absurd (Nat.lt_trans IC (ltf C q)) (Nat.lt_irrefl _), fd := fun q => absurd (Nat.lt_trans ID (ltf D q)) (Nat.lt_irrefl _), gf := hgf }
  have c : CS s0 g L m (frs outer) nl I C D 0 [] (fun x => ([] : List (Str × Value)).reverse.lookup x) h₁ :=
    ⟨fr_up F₀ k, hns₁, k3 _ _ hD2, ⟨_, k3 _ _ (k2 _ _ hI1), rfl, rfl⟩, up₀.stays k⟩
  have loop : ∀ tk, codeAny (M w) (ar dp (some (env :: outer)) gd un) (.compLoop (.ListComp elt [⟨.Name v0 p0, i0, [], 0⟩, ⟨.Name v1 p1, i1, [], 0⟩] scope pos) 0 (.ref I) (.ref D) (compEnvC scope [] C env))
      (compPost (M w) (ar dp (some (env :: outer)) gd un) E (some (assign (.Name y py) env)) (fun _ s' => Q .next s') (.ref D) C) { s with heap := h₁, toks := tk } := by
    intro tk
    refine outer_loop (cenv := compEnvC scope [] C env) (v0 := v0) (v1 := v1) (mC := fun x => ([] : List (Str × Value)).reverse.lookup x) hD hU hroom hcl G hb0 hfb (Heap.get?_none_of_le hLb) hkind hfr hFF a hnl hns hnz (Nat.le_trans hsL (Nat.le_of_lt (Nat.lt_trans ltL IC))) (Nat.le_trans hLb (Nat.le_of_lt (Nat.lt_trans ltL IC))) (Nat.le_trans hLb (Nat.le_of_lt (Nat.lt_trans ltL ID)))
      rfl (lookup_relabel_local hx0) (lookup_relabel_local hx1) (by simp [compEnvC, relabel, hsk]) itF hitl gF (fun y t s m1 Q E h1 h2 h3 h4 h5 => Hcall C y t s m1 Q E h1 a.cl a.gc h2 h3 h4 h5) (fun y t s m1 Q E h1 h2 h3 h4 h5 => Helt C y t s m1 Q E h1 a.cl a.gc h2 h3 h4 h5) c ?_ (hs1 C)
    intro h tk2 gs2 mC' ys' hG2 F' hC' hD' up' hyz hS'
    show wpAny _ _ (assign (.Name y py) env (.ref D)) _ _ _
    have hn' : h.Ns env.locals m := hLe ▸ F'.ns
    refine wpAny_assign_Name (wpAny_storeName_local hy hn' (fun h₂ hn₂ hs₂ => ?_) hp)
    rw [hLe] at hn₂ hs₂
    have F₂ : Fr g L h₂ (fun z => if z = y then some (.ref D) else m z) := F'.set hn₂ hs₂
    refine ⟨mC', hC'.sameBut hs₂ a.cl, fun h'' hs'' => ?_⟩
    refine hQ D h'' _ gs2 ys' hG2 (F₂.change hs'' a.cl a.gc) (hs''.extBut _ _ (Ne.symm a.cd) (hs₂.extBut _ _ a.dl hD')) a.dl a.gd a.sd ((up'.one hs₂ a.sl).one hs'' a.sc) hS' hyz
  exact codeAny_compStart_list (loop _) (wpAny_pyIter_listiter c.hI (loop _))
end Mine
end
noncomputable section
namespace Mine

local macro_rules | `(tactic| walk_at "exec For Name Name cons nil") => `(tactic| (k_here; (with_unfolding_all refine' for_G ?k1 ?k2 ?_; (case k1 => exact rfl); (case k2 => exact rfl))))
local macro_rules | `(tactic| walk_at "exec For Name Call cons nil") => `(tactic| (k_here; (with_unfolding_all refine' for_G ?k1 ?k2 ?_; (case k1 => exact rfl); (case k2 => exact rfl))))

def sgnF (x : Int) : Str := if x.fmod 9 = 8 then ⟨#[((x.fdiv 9).fmod 55296).toNat]⟩ else Txt.item (Str.ofString "//ab\"\\,") (x.fmod 9 - 1)
def nameStep (ns : List Str) (x : Int) : List Str := if x.fmod 9 = 0 then ns ++ [Str.ofString ""] else ns.dropLast ++ [lastS ns ++ sgnF x]
def namesF (xs : List Int) : List Str := xs.foldl nameStep [Str.ofString "/a//b/", Str.ofString "/ab", Str.ofString ""]
theorem namesF_take {xs : List Int} {i : Nat} {n : Int} (h : xs[i]? = some n) : namesF (xs.take (i + 1)) = nameStep (namesF (xs.take i)) n := by
  unfold namesF
  rw [List.take_add_one, h]; simp
theorem sgn_len (x : Int) : (sgnF x).length = 1 := by
  unfold sgnF; split <;> rfl
theorem sgn_ok (x : Int) (h : x.fmod 9 ≠ 0) : PyData.strOk (sgnF x) = true := by
  unfold sgnF
  have h0 : 0 ≤ x.fmod 9 := Int.fmod_nonneg_of_pos _ (by decide)
  have h1 : x.fmod 9 < 9 := Int.fmod_lt_of_pos _ (by decide)
  split
  · have a0 : 0 ≤ (x.fdiv 9).fmod 55296 := Int.fmod_nonneg_of_pos _ (by decide)
    have a1 : (x.fdiv 9).fmod 55296 < 55296 := Int.fmod_lt_of_pos _ (by decide)
    simp [PyData.strOk]; omega
  · have : x.fmod 9 - 1 = 0 ∨ x.fmod 9 - 1 = 1 ∨ x.fmod 9 - 1 = 2 ∨ x.fmod 9 - 1 = 3 ∨ x.fmod 9 - 1 = 4 ∨ x.fmod 9 - 1 = 5 ∨ x.fmod 9 - 1 = 6 := by omega
    rcases this with e | e | e | e | e | e | e <;> rw [e] <;> decide +kernel
theorem nameStep_8 {ns : List Str} {x : Int} (h : x.fmod 9 = 8) : nameStep ns x = ns.dropLast ++ [lastS ns ++ ⟨#[((x.fdiv 9).fmod 55296).toNat]⟩] := by
  unfold nameStep sgnF; rw [if_neg (by rw [h]; decide), if_pos h]
theorem nameStep_o {ns : List Str} {x : Int} (h0 : x.fmod 9 ≠ 0) (h : x.fmod 9 ≠ 8) : nameStep ns x = ns.dropLast ++ [lastS ns ++ Txt.item (Str.ofString "//ab\"\\,") (x.fmod 9 - 1)] := by
  unfold nameStep sgnF; rw [if_neg h0, if_neg h]
def NmOk (k : Nat) (ns : List Str) : Prop := ns ≠ [] ∧ ns.length ≤ 3 + k ∧ ∀ y ∈ ns, y.length ≤ 6 + k ∧ PyData.strOk y = true
theorem strOk_app {x y : Str} (hx : PyData.strOk x = true) (hy : PyData.strOk y = true) : PyData.strOk (x ++ y) = true := by
  simp only [PyData.strOk, Str.cps_append, Array.all_append, Bool.and_eq_true] at *; exact ⟨hx, hy⟩
theorem lastS_mem {ns : List Str} (h : ns ≠ []) : lastS ns ∈ ns := by
  unfold lastS
  have : 0 < ns.length := List.length_pos_iff.mpr h
  rw [List.getD_eq_getElem?_getD, List.getElem?_eq_getElem (by omega)]
  exact List.getElem_mem _
theorem NmOk.step {k : Nat} {ns : List Str} (x : Int) (h : NmOk k ns) : NmOk (k + 1) (nameStep ns x) := by
  obtain ⟨h1, h2, h3⟩ := h
  unfold nameStep
  split
  · refine ⟨by simp, by simp; omega, fun y hy => ?_⟩
    rcases List.mem_append.mp hy with q | q
    · have := h3 y q; exact ⟨by omega, this.2⟩
    · rw [List.mem_singleton.mp q]; exact ⟨by show 0 ≤ _; omega, by decide +kernel⟩
  · rename_i hx
    have hp : 0 < ns.length := List.length_pos_iff.mpr h1
    refine ⟨by simp, by simp; omega, fun y hy => ?_⟩
    rcases List.mem_append.mp hy with q | q
    · have := h3 y (List.dropLast_subset _ q); exact ⟨by omega, this.2⟩
    · rw [List.mem_singleton.mp q]
      have := h3 _ (lastS_mem h1)
      refine ⟨?_, strOk_app this.2 (sgn_ok x hx)⟩
      rw [← L_len, L_app, List.length_append, L_len, L_len, sgn_len]; omega
theorem NmOk.fold : ∀ (xs : List Int) (k : Nat) (ns : List Str), NmOk k ns → NmOk (k + xs.length) (xs.foldl nameStep ns)
  | [], k, ns, h => h
  | x :: r, k, ns, h => by
    have := NmOk.fold r (k + 1) _ (h.step x)
    rw [List.foldl_cons, List.length_cons, show k + (r.length + 1) = k + 1 + r.length by omega]; exact this
theorem namesF_ok (xs : List Int) : NmOk xs.length (namesF xs) := by
  have := NmOk.fold xs 0 [Str.ofString "/a//b/", Str.ofString "/ab", Str.ofString ""] ⟨by simp, by simp, by
    intro y hy
    simp only [List.mem_cons, List.mem_nil_iff, or_false] at hy
    rcases hy with e | e | e <;> rw [e] <;> decide +kernel⟩
  rwa [Nat.zero_add] at this

set_option maxHeartbeats 4000000 in
theorem names_spec {w : World} {dp un : Nat} {fr : Option (List Env)} {gd : Option (List Code)} {s : Shared} {lx : Addr} {vs : Array Value} {xs : List Int} {Q E : Value → Shared → Prop} (hD : dp + 5 < recursionLimit) (hU : un + 40 < cLine)
    (G : Gd w s.heap) (hl : s.heap.IsList lx vs) (hi : IntsAre vs.toList xs) (hz : xs.length ≤ 10)
    (ret : ∀ l vs' c h' tk, s.heap.StaysIn h' → s.heap.get? l = none → h'.get? l = some { cls := .type "list", data := .seq vs' c } → StrsAre vs'.toList (namesF xs) → Q (.ref l) { s with heap := h', toks := tk }) :
    wpAny (M w) (ar dp fr gd un) (call (.ref 217) [.ref lx]) Q E s := by
  have G0 := G
  unfold M; revert G; unfold Gd; k_fill; intro G
  obtain ⟨X, mean, mg, mb, T⟩ := G
  refine wpAny_call ?_
  k_dflt (refine' enter (binds := [(Str.ofString "script", .ref lx)]) X T.nolimit ?k6 ?k7 ?k8 ?k9 ?kB ?_ ?c2 ?c3 ?c4 ?c5; (case k6 => k_is); (case k7 => k_is); (case k8 => (dsimp only; omega)); (case k9 => exact BindsTo.of_eq rfl); (case c5 => decide); (case kB => exact locs rfl); (case c2 => exact rfl); (case c3 => exact rfl); (case c4 => exact rfl))
  intro g L' h' hg F' N' X'
  subst hg
  (try dsimp only)
  (try k_fold)
  k_steps
  rename Fr _ _ _ _ => F1
  rename News _ _ _ _ => N1
  obtain ⟨nl, rfl⟩ := first_addr N1
  refine iter_listB (g := s.heap) (Inv := fun i gs m nx => gs = s.gens ∧ ∃ vs' c, nx = [(nl, { cls := .type "list", data := .seq vs' c })] ∧ StrsAre vs'.toList (namesF (xs.take i)) ∧ m (Str.ofString "names") = some (.ref nl)) rfl F1 N1 hl ⟨rfl, _, _, rfl, ?_, rfl⟩ ⟨?_, ?_⟩
  · exact .cons _ _ (.cons _ _ (.cons _ _ .nil))
  · rintro i v gs m nx h2 tk2 I oI hlt hv ⟨rfl, vs', c, rfl, hS, hm⟩ F2 N2 hI
    have hlenS : vs'.size = (namesF (xs.take i)).length := by have := hS.length; simpa using this
    have hxl : vs.size = xs.length := by have := hi.length; simpa using this
    obtain ⟨n, t, hn, rfl⟩ : ∃ n t, xs[i]? = some n ∧ v = .int n t := by
      obtain ⟨t, hx⟩ := hi.get i xs[i] (by simp [← hxl, hlt])
      refine ⟨_, t, List.getElem?_eq_getElem (by omega), ?_⟩
      have hP' : vs.toList[i]? = some v := by simpa using hv
      rw [hx] at hP'; exact (Option.some.inj hP').symm
    obtain ⟨hne, hlen, hbd⟩ := namesF_ok (xs.take i)
    rw [List.length_take, Nat.min_eq_left (by omega)] at hlen hbd
    have hbl : (lastS (namesF (xs.take i))).length ≤ 100 := Nat.le_trans (hbd _ (lastS_mem hne)).1 (by omega)
    have hpos : 0 < (namesF (xs.take i)).length := List.length_pos_iff.mpr hne
    have hlast : (namesF (xs.take i)).getD (-1 + ((namesF (xs.take i)).length : Int)).toNat Str.empty = lastS (namesF (xs.take i)) := by unfold lastS; congr 1; omega
    have hnI : nl ≠ I := hI _ (List.mem_singleton.mpr rfl)
    clear F1 N1
    replace F2 := Fr.known F2 hm
    k_steps
    · rename Fr _ _ _ _ => F3
      rename News _ _ _ _ => N3
      rename n.fmod 9 = 0 => hc
      refine append_second F3 N3 (Ne.symm hnI) (fun _ h => nomatch h) (fun h5 F4 N4 => ?_) (by rw [hlenS]; exact Nat.le_trans hlen (by rw [PySem.sizeLine_eq]; omega))
      clear F2 N2 F3 N3
      k_steps
      refine TurnP.next F4 N4 (fun p hp => by rw [List.mem_singleton.mp hp]; exact hnI) ⟨rfl, _, _, rfl, ?_, rfl⟩
      rw [namesF_take hn]; unfold nameStep; rw [if_pos hc]
      exact strsAre_push hS
    · rename Fr _ _ _ _ => F3
      rename News _ _ _ _ => N3
      refine add_str ?_ (by show (_ : Str).length + 1 ≤ _; rw [hlast]; exact Nat.le_trans (Nat.add_le_add_right hbl 1) (by decide))
      intro ta tka
      rw [hlast]
      k_steps
      refine set_last (N3.get (.tail _ (.head _))) (by omega) (fun h5 n5 ho5 hsb => ?_)
      have F4 := F3.change hsb (N3 _ (.tail _ (.head _))).2.1 (N3 _ (.tail _ (.head _))).2.2
      have N4 := N3.setSecond (Ne.symm hnI) (fun _ h => nomatch h) hsb ho5
      clear F2 N2 F3 N3
      (try dsimp only at F4 N4 ⊢)
      k_steps
      refine TurnP.next F4 N4 (fun p hp => by rw [List.mem_singleton.mp hp]; exact hnI) ⟨rfl, _, _, rfl, ?_, rfl⟩
      rw [namesF_take hn]; (first | rw [nameStep_8 (by assumption)] | rw [nameStep_o (by assumption) (by assumption)])
      exact strs_setLast hS hne
    · rename Fr _ _ _ _ => F3
      rename News _ _ _ _ => N3
      refine add_str ?_ (by show (_ : Str).length + 1 ≤ _; rw [hlast]; exact Nat.le_trans (Nat.add_le_add_right hbl 1) (by decide))
      intro ta tka
      rw [hlast]
      k_steps
      refine set_last (N3.get (.tail _ (.head _))) (by omega) (fun h5 n5 ho5 hsb => ?_)
      have F4 := F3.change hsb (N3 _ (.tail _ (.head _))).2.1 (N3 _ (.tail _ (.head _))).2.2
      have N4 := N3.setSecond (Ne.symm hnI) (fun _ h => nomatch h) hsb ho5
      clear F2 N2 F3 N3
      (try dsimp only at F4 N4 ⊢)
      k_steps
      refine TurnP.next F4 N4 (fun p hp => by rw [List.mem_singleton.mp hp]; exact hnI) ⟨rfl, _, _, rfl, ?_, rfl⟩
      rw [namesF_take hn]; (first | rw [nameStep_8 (by assumption)] | rw [nameStep_o (by assumption) (by assumption)])
      exact strs_setLast hS hne
  · rintro gs m nx h2 tk2 ⟨rfl, vs', c, rfl, hS, hm⟩ F2 N2
    have hxl : vs.size = xs.length := by have := hi.length; simpa using this
    rw [hxl, List.take_length] at hS
    clear F1 N1
    replace F2 := Fr.known0 F2 hm
    (try dsimp only at F2 N2 ⊢)
    k_steps
    rename Fr _ _ _ _ => F9
    rename News _ _ _ _ => N9
    exact ret nl vs' c _ _ F9.keep (N9 _ (.head _)).2.2 (N9.get (.head _)) hS
end Mine
end
namespace Mine

/-- the beginnings that end with a piece that isn't empty; the text comes from behind -/
noncomputable def ancR : Bool → List Nat → List (List Nat)
  | _, [] => []
  | true, c :: r => if c = 47 then ancR true r else (c :: r).reverse :: ancR false r
  | false, c :: r => if c = 47 then ancR true r else ancR false r

theorem ancR_nil (b : Bool) : ancR b [] = [] := by cases b <;> rfl
theorem ancR_slash (b : Bool) (r : List Nat) : ancR b (47 :: r) = ancR true r := by cases b <;> simp [ancR]
theorem ancR_t {c : Nat} (h : c ≠ 47) (r : List Nat) : ancR true (c :: r) = (c :: r).reverse :: ancR false r := by simp [ancR, h]
theorem ancR_f {c : Nat} (h : c ≠ 47) (r : List Nat) : ancR false (c :: r) = ancR false r := by simp [ancR, h]
theorem ancR_allS : ∀ (b : Bool) (r : List Nat), (∀ c ∈ r, c = 47) → ancR b r = []
  | b, [], _ => ancR_nil b
  | b, c :: r, h => by
    rw [h c (List.mem_cons_self ..), ancR_slash]
    exact ancR_allS true r fun d hd => h d (List.mem_cons_of_mem _ hd)
theorem ancR_dropS : ∀ (r : List Nat), ancR true (r.dropWhile (· == 47)) = ancR true r
  | [] => rfl
  | c :: r => by
    by_cases h : c = 47
    · subst h
      rw [List.dropWhile_cons_of_pos (by rfl), ancR_slash]; exact ancR_dropS r
    · rw [List.dropWhile_cons_of_neg (by simpa using h)]
theorem ancR_dropN : ∀ (r : List Nat), ancR true (r.dropWhile (· != 47)) = ancR false r
  | [] => rfl
  | c :: r => by
    by_cases h : c = 47
    · subst h
      rw [List.dropWhile_cons_of_neg (by simp), ancR_slash, ancR_slash]
    · rw [List.dropWhile_cons_of_pos (by simpa using h), ancR_f h]; exact ancR_dropN r

def spStep (xs : List (List Nat)) (c : Nat) : List (List Nat) := if c = 47 then xs ++ [[]] else xs.dropLast ++ [xs.getLastD [] ++ [c]]
def sp (l : List Nat) : List (List Nat) := l.foldl spStep [[]]
theorem sp_snoc (l : List Nat) (c : Nat) : sp (l ++ [c]) = spStep (sp l) c := by simp [sp]
theorem spStep_ne (xs : List (List Nat)) (c : Nat) : spStep xs c ≠ [] := by unfold spStep; split <;> simp
theorem rev_ind {P : List Nat → Prop} (h0 : P []) (hs : ∀ l c, P l → P (l ++ [c])) (l : List Nat) : P l := by
  have key : ∀ r : List Nat, P r.reverse := by
    intro r
    induction r with
    | nil => exact h0
    | cons c r ih => rw [List.reverse_cons]; exact hs _ _ ih
  have := key l.reverse
  rwa [List.reverse_reverse] at this
theorem sp_ne (l : List Nat) : sp l ≠ [] := by
  refine rev_ind (P := fun l => sp l ≠ []) (by simp [sp]) (fun l c _ => ?_) l
  rw [sp_snoc]; exact spStep_ne _ _
theorem sp_last (l : List Nat) : sp l = (sp l).dropLast ++ [(sp l).getLastD []] := by
  have h := sp_ne l
  rw [List.getLastD_eq_getLast?, List.getLast?_eq_some_getLast h, Option.getD_some]
  exact (List.dropLast_concat_getLast h).symm
theorem sp_free (l : List Nat) : ∀ p ∈ sp l, 47 ∉ p := by
  refine rev_ind (P := fun l => ∀ p ∈ sp l, 47 ∉ p) (by simp [sp]) (fun l c ih => ?_) l
  rw [sp_snoc]
  unfold spStep
  intro p hp
  split at hp
  · rcases List.mem_append.mp hp with q | q
    · exact ih p q
    · rw [List.mem_singleton.mp q]; simp
  · rename_i hc
    rcases List.mem_append.mp hp with q | q
    · exact ih p (List.dropLast_subset _ q)
    · rw [List.mem_singleton.mp q]
      have := ih ((sp l).getLastD []) (by rw [sp_last l]; simp)
      intro m
      rcases List.mem_append.mp m with m | m
      · exact this m
      · exact hc (List.mem_singleton.mp m).symm

noncomputable def jn : List (List Nat) → List Nat
  | [] => []
  | [x] => x
  | x :: y :: r => x ++ [47] ++ jn (y :: r)
theorem jn_snoc : ∀ (xs : List (List Nat)) (x : List Nat), xs ≠ [] → jn (xs ++ [x]) = jn xs ++ [47] ++ x
  | [], _, h => absurd rfl h
  | [y], x, _ => by simp [jn]
  | y :: z :: r, x, _ => by
    have ih := jn_snoc (z :: r) x (by simp)
    show y ++ [47] ++ jn (z :: (r ++ [x])) = y ++ [47] ++ jn (z :: r) ++ [47] ++ x
    rw [show z :: (r ++ [x]) = (z :: r) ++ [x] from rfl, ih]
    simp [List.append_assoc]
theorem jn_last (xs : List (List Nat)) (x y : List Nat) : jn (xs ++ [x ++ y]) = jn (xs ++ [x]) ++ y := by
  cases xs with
  | nil => simp [jn]
  | cons z r => rw [jn_snoc _ _ (by simp), jn_snoc _ _ (by simp)]; simp [List.append_assoc]
theorem jn_sp (l : List Nat) : jn (sp l) = l := by
  refine rev_ind (P := fun l => jn (sp l) = l) (by simp [sp, jn]) (fun l c ih => ?_) l
  rw [sp_snoc]
  unfold spStep
  split
  · rename_i h
    rw [jn_snoc _ _ (sp_ne l), ih, h]; simp
  · rw [jn_last, ← sp_last, ih]

noncomputable def dnR : Nat → List Nat
  | 0 => []
  | n + 1 => (n + 1) :: dnR n
theorem dnR_eq : ∀ n, (List.range n).map (n - ·) = dnR n
  | 0 => rfl
  | n + 1 => by
    rw [List.range_succ_eq_map, List.map_cons, List.map_map]
    show _ = (n + 1) :: dnR n
    rw [← dnR_eq n]
    congr 1
    refine List.map_congr_left fun k _ => ?_
    simp
theorem dnR_mem : ∀ {n k : Nat}, k ∈ dnR n → 1 ≤ k ∧ k ≤ n
  | 0, _, h => by cases h
  | n + 1, k, h => by
    rcases List.mem_cons.mp h with e | h
    · omega
    · have := dnR_mem h; omega

noncomputable def waysL (xs : List (List Nat)) : List (List Nat) := ((dnR xs.length).filter fun k => decide (xs.getD (k - 1) [] ≠ [])).map fun k => jn (xs.take k)
theorem waysL_snoc (xs : List (List Nat)) (x : List Nat) : waysL (xs ++ [x]) = if x = [] then waysL xs else jn (xs ++ [x]) :: waysL xs := by
  unfold waysL
  rw [List.length_append, List.length_singleton]
  show List.map _ (List.filter _ ((xs.length + 1) :: dnR xs.length)) = _
  have h1 : (xs ++ [x]).getD (xs.length + 1 - 1) [] = x := by simp [List.getD_eq_getElem?_getD]
  have h2 : List.filter (fun k => decide ((xs ++ [x]).getD (k - 1) [] ≠ [])) (dnR xs.length) = List.filter (fun k => decide (xs.getD (k - 1) [] ≠ [])) (dnR xs.length) := by
    refine List.filter_congr fun k hk => ?_
    have := dnR_mem hk
    rw [List.getD_eq_getElem?_getD, List.getElem?_append_left (by omega), ← List.getD_eq_getElem?_getD]
  have h3 : ∀ l : List Nat, (∀ k ∈ l, k ≤ xs.length) → List.map (fun k => jn ((xs ++ [x]).take k)) l = List.map (fun k => jn (xs.take k)) l := fun l hl => by
    refine List.map_congr_left fun k hk => ?_
    rw [List.take_append_of_le_length (hl k hk)]
  have h4 : ∀ k ∈ List.filter (fun k => decide (xs.getD (k - 1) [] ≠ [])) (dnR xs.length), k ≤ xs.length := fun k hk => (dnR_mem (List.mem_filter.mp hk).1).2
  rw [List.filter_cons, h1]
  by_cases hx : x = []
  · rw [if_neg (by simpa using hx), if_pos hx, h2, h3 _ h4]
  · rw [if_pos (by simpa using hx), if_neg hx, h2, List.map_cons, h3 _ h4]
    congr 1
    rw [List.take_of_length_le (by simp)]

theorem anc_ways (l : List Nat) : ancR true l.reverse = waysL (sp l) ∧ ancR false l.reverse = waysL (sp l).dropLast := by
  refine rev_ind (P := fun l => ancR true l.reverse = waysL (sp l) ∧ ancR false l.reverse = waysL (sp l).dropLast) ⟨by rfl, by rfl⟩ (fun l c ih => ?_) l
  obtain ⟨ih1, ih2⟩ := ih
  rw [sp_snoc, List.reverse_append, List.reverse_singleton, List.singleton_append]
  unfold spStep
  by_cases h : c = 47
  · subst h
    rw [ancR_slash, ancR_slash, if_pos rfl, List.dropLast_concat, waysL_snoc, if_pos rfl]
    exact ⟨ih1, ih1⟩
  · rw [ancR_t h, ancR_f h, if_neg h, List.dropLast_concat, waysL_snoc, if_neg (by simp)]
    refine ⟨?_, ih2⟩
    rw [ih2, jn_last, ← sp_last, jn_sp]
    simp

/-- what stands in them -/
theorem anc_mem (r : List Nat) : (∀ x, x ∈ ancR true r ↔ x ≠ [] ∧ x.getLast? ≠ some 47 ∧ (x = r.reverse ∨ x ++ [47] <+: r.reverse)) ∧
    (∀ x, x ∈ ancR false r ↔ x ≠ [] ∧ x.getLast? ≠ some 47 ∧ x ++ [47] <+: r.reverse) := by
  induction r with
  | nil =>
    refine ⟨fun x => ?_, fun x => ?_⟩
    · rw [ancR_nil]
      exact ⟨fun h => (nomatch h), fun ⟨a, _, d⟩ => by rcases d with d | d; exact absurd d a; simp at d⟩
    · rw [ancR_nil]
      exact ⟨fun h => (nomatch h), fun ⟨a, _, d⟩ => by simp at d⟩
  | cons c r ih =>
    obtain ⟨ih1, ih2⟩ := ih
    have pre : ∀ x : List Nat, x ++ [47] <+: (c :: r).reverse ↔ (x ++ [47] <+: r.reverse) ∨ (c = 47 ∧ x = r.reverse) := by
      intro x
      rw [List.reverse_cons, List.prefix_concat_iff]
      constructor
      · rintro (h | h)
        · have := List.append_inj' h rfl
          exact .inr ⟨by simpa using this.2.symm, this.1⟩
        · exact .inl h
      · rintro (h | ⟨h, e⟩)
        · exact .inr h
        · exact .inl (by rw [h, e])
    by_cases h : c = 47
    · subst h
      rw [ancR_slash, ancR_slash]
      have key : ∀ x : List Nat, x ≠ [] → x.getLast? ≠ some 47 → x ≠ (47 :: r).reverse := fun x _ hl e => hl (by rw [e]; simp)
      refine ⟨fun x => ?_, fun x => ?_⟩
      · rw [ih1, pre]
        constructor
        · rintro ⟨a, b, d⟩
          refine ⟨a, b, .inr ?_⟩
          rcases d with d | d
          · exact .inr ⟨rfl, d⟩
          · exact .inl d
        · rintro ⟨a, b, d⟩
          refine ⟨a, b, ?_⟩
          rcases d with d | d | ⟨_, d⟩
          · exact absurd d (key x a b)
          · exact .inr d
          · exact .inl d
      · rw [ih1, pre]
        constructor
        · rintro ⟨a, b, d⟩
          refine ⟨a, b, ?_⟩
          rcases d with d | d
          · exact .inr ⟨rfl, d⟩
          · exact .inl d
        · rintro ⟨a, b, d⟩
          refine ⟨a, b, ?_⟩
          rcases d with d | ⟨_, d⟩
          · exact .inr d
          · exact .inl d
    · rw [ancR_t h, ancR_f h]
      refine ⟨fun x => ?_, fun x => ?_⟩
      · rw [List.mem_cons, ih2, pre]
        constructor
        · rintro (e | ⟨a, b, d⟩)
          · refine ⟨by rw [e]; simp, by rw [e]; simpa using h, .inl e⟩
          · exact ⟨a, b, .inr (.inl d)⟩
        · rintro ⟨a, b, d⟩
          rcases d with d | d | ⟨d, _⟩
          · exact .inl d
          · exact .inr ⟨a, b, d⟩
          · exact absurd d h
      · rw [ih2, pre]
        constructor
        · rintro ⟨a, b, d⟩; exact ⟨a, b, .inl d⟩
        · rintro ⟨a, b, d⟩
          rcases d with d | ⟨d, _⟩
          · exact ⟨a, b, d⟩
          · exact absurd d h

theorem anc_len (r : List Nat) : ∀ b, (∀ x ∈ ancR b r, x.length ≤ r.length) ∧ (ancR b r).Pairwise (fun x y => y.length < x.length) ∧ (b = false → ∀ x ∈ ancR b r, x.length < r.length) ∧ (ancR b r).length ≤ r.length := by
  induction r with
  | nil => intro b; rw [ancR_nil]; exact ⟨by simp, List.Pairwise.nil, by simp, by simp⟩
  | cons c r ih =>
    intro b
    by_cases h : c = 47
    · subst h
      rw [ancR_slash]
      have := ih true
      refine ⟨fun x hx => Nat.le_succ_of_le (this.1 x hx), this.2.1, fun _ x hx => Nat.lt_succ_of_le (this.1 x hx), Nat.le_succ_of_le this.2.2.2⟩
    · have := ih false
      cases b with
      | true =>
        rw [ancR_t h]
        refine ⟨fun x hx => ?_, List.Pairwise.cons (fun x hx => ?_) this.2.1, (fun e => nomatch e), ?_⟩
        · rcases List.mem_cons.mp hx with e | hx
          · rw [e]; simp
          · exact Nat.le_succ_of_le (this.1 x hx)
        · have := this.1 x hx; simp; omega
        · simp; exact this.2.2.2
      | false =>
        rw [ancR_f h]
        exact ⟨fun x hx => Nat.le_succ_of_le (this.1 x hx), this.2.1, fun _ x hx => Nat.lt_succ_of_lt (this.2.2.1 rfl x hx), Nat.le_succ_of_le this.2.2.2⟩

/-- two falling lists of the same things are one -/
theorem same_fall {α : Type} {f : α → Nat} : ∀ (a b : List α), a.Pairwise (fun x y => f y < f x) → b.Pairwise (fun x y => f y < f x) → (∀ x, x ∈ a ↔ x ∈ b) → a = b
  | [], [], _, _, _ => rfl
  | [], y :: b, _, _, h => absurd ((h y).mpr (List.mem_cons_self ..)) (by simp)
  | x :: a, [], _, _, h => absurd ((h x).mp (List.mem_cons_self ..)) (by simp)
  | x :: a, y :: b, ha, hb, h => by
    have ha' := List.pairwise_cons.mp ha
    have hb' := List.pairwise_cons.mp hb
    have e : x = y := by
      rcases List.mem_cons.mp ((h x).mp (List.mem_cons_self ..)) with e | m
      · exact e
      · rcases List.mem_cons.mp ((h y).mpr (List.mem_cons_self ..)) with e | m2
        · exact e.symm
        · have h1 := ha'.1 y m2
          have h2 := hb'.1 x m
          omega
    subst e
    rw [same_fall a b ha'.2 hb'.2]
    intro z
    constructor
    · intro hz
      rcases List.mem_cons.mp ((h z).mp (List.mem_cons_of_mem _ hz)) with e | m
      · have := ha'.1 z hz; rw [e] at this; omega
      · exact m
    · intro hz
      rcases List.mem_cons.mp ((h z).mpr (List.mem_cons_of_mem _ hz)) with e | m
      · have := hb'.1 z hz; rw [e] at this; omega
      · exact m

/-- each piece with a z ahead -/
def mrk (l : List Nat) : List Nat := 122 :: l.flatMap (fun d => if d = 47 then [47, 122] else [d])
theorem mrk_snoc (l : List Nat) (c : Nat) : mrk (l ++ [c]) = mrk l ++ (if c = 47 then [47, 122] else [c]) := by
  simp [mrk]
theorem mrk_inj : ∀ (a b : List Nat), mrk a = mrk b → a = b := by
  have key : ∀ (a b : List Nat), a.flatMap (fun d => if d = 47 then [47, 122] else [d]) = b.flatMap (fun d => if d = 47 then [47, 122] else [d]) → a = b := by
    intro a
    induction a with
    | nil =>
      intro b h
      cases b with
      | nil => rfl
      | cons d b => simp only [List.flatMap_nil, List.flatMap_cons] at h; split at h <;> simp at h
    | cons c a ih =>
      intro b h
      cases b with
      | nil => simp only [List.flatMap_nil, List.flatMap_cons] at h; split at h <;> simp at h
      | cons d b =>
        simp only [List.flatMap_cons] at h
        by_cases hc : c = 47 <;> by_cases hd : d = 47
        · simp only [hc, hd, if_true, List.cons_append, List.nil_append, List.cons.injEq, true_and] at h ⊢
          exact ih b h
        · simp only [hc, hd, if_true, if_false, List.cons_append, List.nil_append, List.cons.injEq] at h
          exact absurd h.1.symm hd
        · simp only [hc, hd, if_true, if_false, List.cons_append, List.nil_append, List.cons.injEq] at h
          exact absurd h.1 (by simpa using hc)
        · simp only [hc, hd, if_false, List.cons_append, List.nil_append, List.cons.injEq] at h ⊢
          exact ⟨h.1, ih b h.2⟩
  intro a b h
  exact key a b (List.cons.inj h).2
theorem mrk_last (l : List Nat) : ∃ c r, (mrk l).reverse = c :: r ∧ c ≠ 47 := by
  refine rev_ind (P := fun l => ∃ c r, (mrk l).reverse = c :: r ∧ c ≠ 47) ⟨122, [], by rfl, by decide⟩ (fun l c _ => ?_) l
  rw [mrk_snoc]
  by_cases h : c = 47
  · rw [if_pos h]; exact ⟨122, 47 :: (mrk l).reverse, by simp, by decide⟩
  · rw [if_neg h]; exact ⟨c, (mrk l).reverse, by simp, h⟩
theorem anc_mrk (l : List Nat) : ∀ x, x ∈ ancR false (mrk l).reverse ↔ ∃ q, x = mrk q ∧ q ++ [47] <+: l := by
  refine rev_ind (P := fun l => ∀ x, x ∈ ancR false (mrk l).reverse ↔ ∃ q, x = mrk q ∧ q ++ [47] <+: l) (fun x => ?_) (fun l c ih x => ?_) l
  · constructor
    · intro h
      have : ancR false (mrk []).reverse = [] := rfl
      rw [this] at h; cases h
    · rintro ⟨q, _, h⟩
      simp at h
  · rw [mrk_snoc]
    by_cases h : c = 47
    · subst h
      rw [if_pos rfl]
      have e : (mrk l ++ [47, 122]).reverse = 122 :: 47 :: (mrk l).reverse := by simp
      rw [e, ancR_f (by decide), ancR_slash]
      obtain ⟨c, r, hr, hc⟩ := mrk_last l
      have ih' := ih x
      rw [hr, ancR_f hc] at ih'
      rw [hr, ancR_t hc, List.mem_cons, ih']
      rw [← hr, List.reverse_reverse]
      constructor
      · rintro (e | ⟨q, e, p⟩)
        · exact ⟨l, e, List.prefix_rfl⟩
        · exact ⟨q, e, p.trans (List.prefix_append _ _)⟩
      · rintro ⟨q, e, p⟩
        rcases List.prefix_concat_iff.mp p with p | p
        · have := (List.append_inj' p rfl).1
          rw [this] at e; exact .inl e
        · exact .inr ⟨q, e, p⟩
    · rw [if_neg h]
      have e : (mrk l ++ [c]).reverse = c :: (mrk l).reverse := by simp
      rw [e, ancR_f h, ih x]
      constructor
      · rintro ⟨q, e, p⟩; exact ⟨q, e, p.trans (List.prefix_append _ _)⟩
      · rintro ⟨q, e, p⟩
        rcases List.prefix_concat_iff.mp p with p | p
        · have := (List.append_inj' p rfl).2
          exact absurd (by simpa using this.symm) h
        · exact ⟨q, e, p⟩
/-- the beginnings but the longest -/
theorem anc_drop (r : List Nat) : (ancR true r).drop 1 = ancR false (r.dropWhile (· == 47)) := by
  rw [← ancR_dropS r]
  cases h : r.dropWhile (· == 47) with
  | nil => rfl
  | cons c q =>
    have hc : c ≠ 47 := by
      have := List.head?_dropWhile_not (· == 47) r
      rw [h] at this; simpa using this
    rw [ancR_t hc, ancR_f hc]; rfl
end Mine
noncomputable section
open PySem.Builtin PySem.Builtin.Str
namespace Mine

abbrev mkS (l : List Nat) : Str := ⟨l.toArray⟩
theorem L_mkS (l : List Nat) : L (mkS l) = l := by simp [L, mkS]
theorem mkS_L (x : Str) : mkS (L x) = x := L_inj (L_mkS _)
def ancS (y : Str) : List Str := (ancR true (L y).reverse).map mkS

def hdL (r : List Nat) : List Nat := if (r.dropWhile (· != 47)).all (· == 47) then r.dropWhile (· != 47) else (r.dropWhile (· != 47)).dropWhile (· == 47)

theorem dropW_nil {p : Nat → Bool} : ∀ {l : List Nat}, l.dropWhile p = [] ↔ ∀ x ∈ l, p x = true
  | [] => by simp
  | a :: l => by
    by_cases h : p a = true
    · rw [List.dropWhile_cons_of_pos h, dropW_nil (l := l)]; simp [h]
    · rw [List.dropWhile_cons_of_neg h]; simp [h]
theorem take_last_slash (l : List Nat) : (∀ i : Nat, l[i]? ≠ some 47) → (l.reverse.dropWhile (· != 47)) = [] := by
  intro h
  rw [dropW_nil]
  intro x hx
  have hx' : x ∈ l := List.mem_reverse.mp hx
  obtain ⟨i, hi⟩ := List.mem_iff_getElem?.mp hx'
  simp only [bne_iff_ne]
  intro e
  exact h i (by rw [hi, e])
theorem take_last_slash2 (l : List Nat) (i : Nat) (h1 : l[i]? = some 47) (h2 : ∀ k, i < k → l[k]? ≠ some 47) : (l.reverse.dropWhile (· != 47)).reverse = l.take (i + 1) := by
  have hi : i < l.length := (List.getElem?_eq_some_iff.mp h1).1
  have e : l = l.take i ++ [47] ++ l.drop (i + 1) := by
    have h3 : l.take (i + 1) = l.take i ++ [47] := by rw [List.take_add_one, h1]; rfl
    rw [← h3, List.take_append_drop]
  have h4 : ∀ x ∈ (l.drop (i + 1)).reverse, (x != 47) = true := by
    intro x hx
    obtain ⟨k, hk⟩ := List.mem_iff_getElem?.mp (List.mem_reverse.mp hx)
    rw [List.getElem?_drop] at hk
    simp only [bne_iff_ne]
    intro e'
    exact h2 (i + 1 + k) (by omega) (by rw [hk, e'])
  have h5 : l.reverse = (l.drop (i + 1)).reverse ++ 47 :: (l.take i).reverse := by
    conv => lhs; rw [e]
    simp
  rw [h5, List.dropWhile_append_of_pos h4, List.dropWhile_cons_of_neg (by simp), List.take_add_one, h1]
  simp

theorem at_slash (x : Str) (i : Nat) : StrLaws.At x slash x.length i ↔ (L x)[i]? = some 47 := by
  rw [slash_is]; exact StrLaws.subAt_one x 47 i

theorem head_take (x : Str) : L (Txt.slice x none (some (Txt.rfind x slash + 1))) = ((L x).reverse.dropWhile (· != 47)).reverse := by
  rw [slice_L]
  rcases rfind_whole x slash with ⟨h0, hn⟩ | ⟨i, h0, hi, hn⟩
  · rw [h0, take_last_slash (L x) (fun i e => hn i ((at_slash x i).mpr e))]
    have e1 : hiI (some (-1 + 1)) x.length = 0 := by
      show clipI _ _ = _
      unfold clipI; rw [if_neg (by omega)]; omega
    rw [e1]; simp [loI]
  · have h1 := (at_slash x i).mp hi
    rw [h0, take_last_slash2 (L x) i h1 (fun k hk e => hn k hk ((at_slash x k).mpr e))]
    have hlt : i < x.length := by rw [← L_len]; exact (List.getElem?_eq_some_iff.mp h1).1
    have e1 : hiI (some ((i : Int) + 1)) x.length = i + 1 := by
      show clipI _ _ = _
      unfold clipI; rw [if_neg (by omega)]; omega
    rw [e1]; simp [loI]

theorem foldl_app (c : Nat) : ∀ (n : Nat) (acc : Array Nat), ((List.replicate n (#[c] : Array Nat)).foldl (· ++ ·) acc).toList = acc.toList ++ List.replicate n c
  | 0, acc => by simp
  | n + 1, acc => by
    rw [List.replicate_succ, List.foldl_cons, foldl_app c n]
    simp [List.replicate_succ]
theorem mul_L (n : Nat) : L (Txt.mul slash (n : Int)) = List.replicate n 47 := by
  unfold Txt.mul
  by_cases h : (n : Int) < 1
  · rw [if_pos h]
    have : n = 0 := by omega
    subst this; rfl
  · rw [if_neg h]
    by_cases h1 : n = 1
    · subst h1; rfl
    · rw [if_neg (by rw [slash_is]; simp [Str.length]; omega)]
      show (List.foldl (· ++ ·) #[] (List.replicate (n : Int).toNat slash.cps)).toList = _
      rw [slash_is, Int.toNat_natCast, foldl_app]; rfl

theorem all_rep (l : List Nat) : l = List.replicate l.length 47 ↔ ∀ c ∈ l, c = 47 := by
  rw [List.eq_replicate_iff]; simp
theorem headF_L (x : Str) : (L (headF x)).reverse = hdL (L x).reverse := by
  have hT := head_take x
  unfold headF hdL
  dsimp only
  generalize hq : Txt.slice x none (some (Txt.rfind x slash + 1)) = h at *
  have hl : ((L x).reverse.dropWhile (· != 47)) = (L h).reverse := by rw [hT, List.reverse_reverse]
  rw [hl]
  by_cases h0 : h.length = 0
  · rw [if_pos h0]
    have : L h = [] := List.eq_nil_of_length_eq_zero (by rw [L_len]; exact h0)
    rw [this]; rfl
  · rw [if_neg h0]
    have key : (h != Txt.mul slash (h.length : Int)) = true ↔ ¬ ∀ c ∈ L h, c = 47 := by
      rw [bne_iff_ne, ← all_rep, L_len, ← mul_L h.length]
      constructor
      · intro a b; exact a (L_inj b)
      · intro a b; exact a (congrArg L b)
    by_cases ha : ∀ c ∈ L h, c = 47
    · rw [if_neg (fun e => key.mp e ha), if_pos (by rw [List.all_eq_true]; intro c hc; rw [ha c (List.mem_reverse.mp hc)]; rfl)]
    · rw [if_pos (key.mpr ha), if_neg, slash_is, rstrip_L]
      · unfold rsL; rw [List.reverse_reverse]
      · intro e
        rw [List.all_eq_true] at e
        exact ha fun c hc => by simpa using e c (List.mem_reverse.mpr hc)

theorem rstrip_slash (x : Str) : (L (Txt.rstripChars x slash)).reverse = (L x).reverse.dropWhile (· == 47) := by
  rw [slash_is, rstrip_L]; unfold rsL; rw [List.reverse_reverse]
theorem rstrip_len0 (x : Str) : (Txt.rstripChars x slash).length = 0 ↔ ∀ c ∈ L x, c = 47 := by
  rw [← L_len, ← List.length_reverse, rstrip_slash, List.length_eq_zero_iff, dropW_nil]
  constructor
  · intro h c hc; simpa using h c (List.mem_reverse.mpr hc)
  · intro h c hc; simpa using h c (List.mem_reverse.mp hc)

theorem hdL_anc (r : List Nat) : ancR true (hdL r) = ancR false r := by
  unfold hdL
  split
  · rw [ancR_dropN]
  · rw [ancR_dropS, ancR_dropN]
theorem drop_len_le (p : Nat → Bool) (r : List Nat) : (r.dropWhile p).length ≤ r.length := (List.dropWhile_sublist p).length_le
theorem hdL_len (r : List Nat) : (hdL r).length ≤ r.length := by
  unfold hdL
  split
  · exact drop_len_le _ _
  · exact Nat.le_trans (drop_len_le _ _) (drop_len_le _ _)
theorem hdL_lt {c : Nat} (h : c ≠ 47) (r : List Nat) : hdL (c :: r) = hdL r := by
  unfold hdL; rw [List.dropWhile_cons_of_pos (by simpa using h)]
/-- at its end no slash, or nothing but slashes -/
def Endy (r : List Nat) : Prop := (∀ c ∈ r, c = 47) ∨ ∃ c q, r = c :: q ∧ c ≠ 47
theorem hdL_endy (r : List Nat) : Endy (hdL r) := by
  unfold hdL
  split
  · rename_i h
    exact .inl fun c hc => by simpa using List.all_eq_true.mp h c hc
  · cases h : (r.dropWhile (· != 47)).dropWhile (· == 47) with
    | nil => exact .inl fun c hc => by cases hc
    | cons c q =>
      refine .inr ⟨c, q, rfl, ?_⟩
      have := List.head?_dropWhile_not (· == 47) (r.dropWhile (· != 47))
      rw [h] at this; simpa using this

theorem anc_of : ∀ (n : Nat) (p : Str), p.length ≤ n → p.length ≤ 100 → Endy (L p).reverse → Anc p (ancS p)
  | n, p, hn, hp, he => by
    by_cases ha : ∀ c ∈ L p, c = 47
    · have e : ancS p = [] := by unfold ancS; rw [ancR_allS true _ fun c hc => ha c (List.mem_reverse.mp hc)]; rfl
      rw [e]; exact .stop hp ((rstrip_len0 p).mpr ha)
    · rcases he with he | ⟨c, q, hr, hc⟩
      · exact absurd (fun c hc => he c (List.mem_reverse.mpr hc)) ha
      · have hlen : p.length = q.length + 1 := by
          have := congrArg List.length hr
          rw [List.length_reverse, L_len] at this; simpa using this
        have e : ancS p = p :: ancS (headF p) := by
          unfold ancS
          rw [headF_L, hdL_anc, hr, ancR_t hc, ancR_f hc, List.map_cons]
          congr 1
          rw [← hr, List.reverse_reverse, mkS_L]
        have hl : (headF p).length ≤ q.length := by
          rw [← L_len, ← List.length_reverse, headF_L, hr, hdL_lt hc]; exact hdL_len q
        rw [e]
        match n with
        | 0 => omega
        | n + 1 => exact .step (fun e => ha ((rstrip_len0 p).mp e)) hp (anc_of n _ (by omega) (by omega) (by rw [headF_L]; exact hdL_endy _))

theorem ancS_rstrip (y : Str) : ancS (Txt.rstripChars y slash) = ancS y := by
  unfold ancS; rw [rstrip_slash, ancR_dropS]
theorem rstrip_endy (y : Str) : Endy (L (Txt.rstripChars y slash)).reverse := by
  rw [rstrip_slash]
  cases h : (L y).reverse.dropWhile (· == 47) with
  | nil => exact .inl fun c hc => by cases hc
  | cons c q =>
    refine .inr ⟨c, q, rfl, ?_⟩
    have := List.head?_dropWhile_not (· == 47) (L y).reverse
    rw [h] at this; simpa using this
theorem rstrip_le (y : Str) : (Txt.rstripChars y slash).length ≤ y.length := by
  rw [← L_len, ← List.length_reverse, rstrip_slash, ← L_len y, ← List.length_reverse (as := L y)]; exact drop_len_le _ _
theorem ancS_anc {y : Str} (h : y.length ≤ 100) : Anc (Txt.rstripChars y slash) (ancS y) := by
  have := anc_of _ (Txt.rstripChars y slash) (Nat.le_refl _) (Nat.le_trans (rstrip_le y) h) (rstrip_endy y)
  rwa [ancS_rstrip] at this
theorem ancS_len (y : Str) : (ancS y).length ≤ y.length := by
  unfold ancS
  rw [List.length_map]
  have := (anc_len (L y).reverse true).2.2.2
  rwa [List.length_reverse, L_len] at this
theorem ancS_mem {y z : Str} (h : z ∈ ancS y) : z.length ≤ y.length := by
  obtain ⟨l, hl, rfl⟩ := List.mem_map.mp h
  have := (anc_len (L y).reverse true).1 l hl
  rw [List.length_reverse, L_len] at this
  rw [← L_len, L_mkS]; exact this
end Mine
end
noncomputable section
namespace Mine

def ddS (σ : List Str) (v : Str) : List Str := if (σ.any (· == v)) = true then σ else σ ++ [v]
def fmS (ss : List Str) (i : Nat) : List Str := (ss.take i).foldl ddS []
theorem fmS_succ {ss : List Str} {i : Nat} {x : Str} (h : ss[i]? = some x) : fmS ss (i + 1) = ddS (fmS ss i) x := by
  unfold fmS; rw [List.take_add_one, h]; simp
theorem dd_len (σ : List Str) (v : Str) : (ddS σ v).length = if (σ.any (· == v)) = true then σ.length else σ.length + 1 := by
  unfold ddS; split <;> simp
theorem dd_any (σ : List Str) (v k : Str) : (ddS σ v).any (· == k) = (σ.any (· == k) || decide (k = v)) := by
  unfold ddS
  by_cases h : (σ.any (· == v)) = true
  · rw [if_pos h]
    by_cases e : k = v
    · subst e; rw [h]; simp
    · simp [e]
  · rw [if_neg h, List.any_append]
    by_cases e : k = v
    · subst e; simp
    · have hb : (v == k) = false := by simpa [beq_iff_eq] using (fun h' : v = k => e h'.symm)
      simp [hb, e]
theorem fmS_len (ss : List Str) : ∀ i, (fmS ss i).length ≤ i
  | 0 => by simp [fmS]
  | i + 1 => by
    have ih := fmS_len ss i
    cases h : ss[i]? with
    | none => 
      have hl : ss.length ≤ i := by simpa using h
      unfold fmS at ih ⊢
      rw [List.take_of_length_le hl] at ih
      rw [List.take_of_length_le (Nat.le_succ_of_le hl)]; omega
    | some x => rw [fmS_succ h, dd_len]; split <;> omega
theorem fmS_any (ss : List Str) (k : Str) : ∀ i, (fmS ss i).any (· == k) = (ss.take i).any (· == k)
  | 0 => by simp [fmS]
  | i + 1 => by
    have ih := fmS_any ss k i
    cases h : ss[i]? with
    | none =>
      have hl : ss.length ≤ i := by simpa using h
      have e1 : ss.take (i + 1) = ss.take i := by rw [List.take_of_length_le hl, List.take_of_length_le (Nat.le_succ_of_le hl)]
      unfold fmS at ih ⊢
      rw [e1]; exact ih
    | some x =>
      rw [fmS_succ h, dd_any, ih, List.take_add_one, h]
      by_cases e : k = x
      · subst e; simp
      · have hb : (x == k) = false := by simpa [beq_iff_eq] using (fun h' : x = k => e h'.symm)
        simp [hb, e]

abbrev SSet (prog : Program) (w : World) (h : Heap) (S : Addr) (l : List Str) : Prop := h.SetOf (PySem.strKind prog w) S (fun k' => l.any (· == k')) l.length
theorem isS (prog : Program) (w : World) (k : Str) (t : Tok) : (PySem.strKind prog w).is k (.str k t) = true := by
  show Value.isStrOf k (.str k t) = true
  simp [Value.isStrOf]

section
variable {prog : Program} {w : World} {A : Around} {R : Result → Shared → Prop} {I : Addr} {fp wr : List Addr} {G : Array GenState → Array GenState → Prop} {n : Nat} {P : Nat → Value → Prop} {St : Nat → Shared → Prop}

theorem set_loopS (W : WalksS prog w A.in1 I fp wr G n P St) (S : Addr) (hSf : S ∉ fp) {ss : List Str} (hl : ss.length = n)
    (hval : ∀ i v, P i v → ∃ x t, ss[i]? = some x ∧ v = .str x t) (hb : n + 1 < scanBound) :
    ∀ (k i : Nat) (s : Shared), n - i = k → i ≤ n → St i s → SSet prog w s.heap S (fmS ss i) →
      (∀ s', Moved (S :: wr) G s s' → SSet prog w s'.heap S (fmS ss n) → R (.ok (.ret .none)) s') →
      codeAny (model prog w) A (.builtin "set.update.loop" ⟨[.ref S, .ref I], []⟩) R s := by
  have hSw : S ∉ wr := fun h => hSf (W.sub _ h)
  have hsub : ∀ b ∈ wr, b ∈ S :: wr := fun b hb => List.mem_cons_of_mem _ hb
  intro k
  induction k with
  | zero =>
    intro i s hk hi hst hS hR
    have hin : i = n := by omega
    subst hin
    refine codeAny_builtin F.entry_set_update_loop ?_
    rw [Around.under_plainId F.plain_set_update_loop _]
    show wpAny _ A.in1 (pyNext (.ref I) >>= _) _ _ s
    refine wpAny_bind (W.done s _ _ hst fun s' hm => ?_)
    show wpAny _ A.in1 (ret Value.none) _ _ s'
    exact wpAny_pure (hR s' (hm.mono hsub) (by
      obtain ⟨o, es, ep, t, ho, rest⟩ := hS
      exact ⟨o, es, ep, t, hm.heap S _ hSw ho, rest⟩))
  | succ k ih =>
    intro i s hk hi hst hS hR
    have hlt : i < n := by omega
    refine codeAny_builtin F.entry_set_update_loop ?_
    rw [Around.under_plainId F.plain_set_update_loop _]
    show wpAny _ A.in1 (pyNext (.ref I) >>= _) _ _ s
    refine wpAny_bind (W.item i s _ _ hlt hst fun v s' hP hst' hm => ?_)
    obtain ⟨x, t, hx, rfl⟩ := hval i v hP
    have hS' : SSet prog w s'.heap S (fmS ss i) := by
      obtain ⟨o, es, ep, tb, ho, rest⟩ := hS
      exact ⟨o, es, ep, tb, hm.heap S _ hSw ho, rest⟩
    show wpAny _ A.in1 (holding [Value.str x t] (setAdd S (.str x t)) >>= _) _ _ s'
    refine wpAny_bind (wpAny_holding ?_)
    unfold setAdd
    refine wpAny_holding ?_
    refine wpAny_bind ((PySem.strKind prog w).pyHash (k := x) (isS _ _ _ _) ?_)
    have hroom : (fmS ss i).length + 1 < scanBound := by have := fmS_len ss i; omega
    refine wpAny_setAddHashed_of (knd := PySem.strKind prog w) (s := { s' with toks := s'.toks + 1 }) (isS _ _ _ _) rfl hS' hroom fun h' hsb hS2 => ?_
    have hSi : SSet prog w h' S (fmS ss (i + 1)) :=
      SetOf_congr hS2 (fun k' => by rw [fmS_succ hx, dd_any]) (by rw [fmS_succ hx, dd_len])
    refine wpAny_pure ⟨plainId_quiet F.plain_set_update_loop _, ih (i + 1) _ (by omega) hlt (W.frame _ s' _ _ hst' (Nat.le_succ _) fun b hb o e => ?_) hSi fun s'' hm'' hS'' => ?_⟩
    · rw [hsb.2 b (fun h : b = S => hSf (by rw [← h]; exact hb))]; exact e
    · refine hR s'' (Moved.trans W.gtrans ((hm.mono hsub).then_heap (Nat.le_succ _) fun b o hb e => ?_) hm'') hS''
      rw [hsb.2 b (fun h : b = S => hb (by rw [h]; exact List.mem_cons_self))]; exact e
end
end Mine
end
noncomputable section
namespace Mine
open PySem.F in
set_option maxHeartbeats 3200000 in
theorem call_set_strs {prog : Program} {w : World} {A : Around} {E : Value → Shared → Prop} {s : Shared} {l : Addr} {items : Array Value} {ss : List Str} {Q : Value → Shared → Prop}
    (hh : A.handled = none) (hl : s.heap.IsList l items) (hi : StrsAre items.toList ss) (hb : items.size + 1 < scanBound)
    (h : ∀ (h' : Heap) (tk : Nat), SSet prog w h' s.heap.objs.size (fmS ss items.size) →
      (∀ b o, b < s.heap.objs.size → s.heap.get? b = some o → h'.get? b = some o) → Q (.ref s.heap.objs.size) { s with heap := h', toks := tk }) :
    wpAny (model prog w) A (call (.type "set") [.ref l]) Q E s := by
  have hsl : ss.length = items.size := by have := hi.length; simpa using this.symm
  obtain ⟨c, tl, hmro⟩ := PySem.F.called_set.mro
  have hmade := PySem.F.called_set.made
  have hsub := PySem.F.called_set.sub
  refine wpAny_call (codeAny_of_tree ?_)
  show wpAny _ _ (callAny (.type "set") _) _ _ _
  refine wpAny_pure ⟨Code.quiet_builtin _ (by decide +kernel), codeAny_builtin PySem.F.entry_type_call ?_⟩
  rw [Around.under_plain (weight_type_call_type "set" [.ref l] []) rfl]
  have h1 := PySem.F.called_set.notType
  have h2 := PySem.F.called_set.canCreate
  have hct := PySem.F.typeCall_set_1 (.ref l)
  repeat (any_goals (first | assumption | wp_step))
  refine codeAny_mono (code_set_new_1 (.ref l) (E := E) (Q₁ := fun obj s₁ => ∃ led : Bool, obj = .ref s.heap.objs.size ∧ s₁ = { s with heap := s.heap.push { cls := .type "set", dict := none, data := .set #[] 0 (.fresh 0 0 led) } }) fun led => ⟨led, rfl, rfl⟩) fun r s₁ hr => ?_
  cases r with
  | error e => exact hr
  | ok fl =>
    cases fl with
    | ret obj =>
      obtain ⟨led, rfl, rfl⟩ := hr
      have hS : (s.heap.push { cls := .type "set", dict := none, data := .set #[] 0 (.fresh 0 0 led) }).get? s.heap.objs.size = some { cls := .type "set", dict := none, data := .set #[] 0 (.fresh 0 0 led) } := Heap.get?_push_size _ rfl
      have hT : Shared.TypeIs { s with heap := s.heap.push { cls := .type "set", dict := none, data := .set #[] 0 (.fresh 0 0 led) } } (.ref s.heap.objs.size) "set" := ⟨_, hS, rfl⟩
      have hli := PySem.F.called_set.init.lookup
      have hbi := PySem.F.called_set.init.bind (.ref s.heap.objs.size)
      repeat (any_goals (first | assumption | wp_step))
      refine codeAny_mono (codeAny_call_builtin (R := wants (fun r s₂ => r = .none ∧ ∃ h' tk, s₂ = { s with heap := h', toks := tk } ∧
          SSet prog w h' s.heap.objs.size (fmS ss items.size) ∧
          (∀ b o, b < s.heap.objs.size → s.heap.get? b = some o → h'.get? b = some o)) E) PySem.F.called_set.init.plain PySem.F.entry_set_init (check_set_init_1 hT ?_)) fun r₂ s₂ hr₂ => ?_
      · obtain ⟨ol, hol, hcl, nl, hdl⟩ := hl
        obtain ⟨ocls, odict, odata, oslots⟩ := ol
        simp only at hcl hdl
        subst hcl; subst hdl
        have hol' : (s.heap.push { cls := .type "set", dict := none, data := .set #[] 0 (.fresh 0 0 led) }).get? l = some { cls := .type "list", dict := odict, data := .seq items nl, slots := oslots } := Heap.get?_push_of_some _ hol
        have hsls := PySem.F.sub_list_set
        have hslf := PySem.F.sub_list_frozenset
        have hne : (Value.type "list" == Value.type "dict") = false := by decide
        have hl1 : (s.heap.push { cls := .type "set", dict := none, data := .set #[] 0 (.fresh 0 0 led) }).IsList l items := ⟨_, hol', rfl, nl, rfl⟩
        unfold Builtin.«set.__init__» noKeywords Builtin.Frozenset.updateFrom
        generalize hPI : pyIter = PI
        wp_walk
        subst hPI
        refine wpAny_pyIter_list hl1 ?_
        refine wpAny_bind (wpAny_runValue ?_)
        have hlS : l < s.heap.objs.size := Heap.lt_size hol
        have hh3 : A.in1.in1.in1.handled = none := by simp [hh]
        have hneI : l ≠ (s.heap.push { cls := .type "set", dict := none, data := .set #[] 0 (.fresh 0 0 led) }).objs.size := by
          rw [Heap.size_push]; exact Nat.ne_of_lt (Nat.lt_succ_of_lt hlS)
        have hSf : s.heap.objs.size ∉ [(s.heap.push { cls := .type "set", dict := none, data := .set #[] 0 (.fresh 0 0 led) }).objs.size, l] := by
          rw [Heap.size_push]; simp only [List.mem_cons, List.mem_singleton, List.not_mem_nil, or_false, not_or]
          exact ⟨Nat.ne_of_lt (Nat.lt_succ_self _), Nat.ne_of_gt hlS⟩
        have hval : ∀ (i : Nat) (v : Value), items[i]? = some v → ∃ x t, ss[i]? = some x ∧ v = .str x t := fun i v hv => by
          obtain ⟨x, hx, t, e⟩ := strs_items hi i v (Array.getElem?_eq_some_iff.mp hv).1 hv
          exact ⟨x, t, hx, e⟩
        refine set_loopS ((Walks.list hh3 _ l hneI items).toS) s.heap.objs.size
          hSf hsl hval hb (items.size - 0) 0 _ (by omega) (Nat.zero_le _)
          ⟨⟨_, Heap.get?_push_size _ rfl, rfl, rfl⟩, (hl1.push _)⟩ ?hS0 ?hR
        case hS0 =>
          have hget : ((s.heap.push { cls := .type "set", dict := none, data := .set #[] 0 (.fresh 0 0 led) }).push { cls := .type "list_iterator", data := .fields #[.ref l, .int 0 0] }).get? s.heap.objs.size
              = some { cls := .type "set", dict := none, data := .set #[] 0 (.fresh 0 0 led) } := Heap.get?_push_of_some _ hS
          exact SetOf_congr ((setObjOf_fresh (knd := PySem.strKind prog w) led).setOf hget (by unfold scanBound; omega)) (fun _ => rfl) rfl
        case hR =>
          intro s' hm hS'
          obtain ⟨h', g', d', tk', os'⟩ := s'
          have eg : g' = s.gens := hm.gens
          have ed : d' = s.drawn := hm.drawn
          have eo : os' = s.os := hm.os
          subst eg; subst ed; subst eo
          show wpAny _ _ _ _ _ _
          refine wpAny_pure ?_
          show wpAny _ _ (ret Value.none) _ _ _
          refine wpAny_pure ⟨rfl, h', tk', rfl, hS', fun b o hb e => ?_⟩
          have hb1 : b ≠ s.heap.objs.size := Nat.ne_of_lt hb
          have hb2 : b ≠ (s.heap.push { cls := .type "set", dict := none, data := .set #[] 0 (.fresh 0 0 led) }).objs.size := by
            rw [Heap.size_push]; exact Nat.ne_of_lt (Nat.lt_succ_of_lt hb)
          exact hm.heap b o (by simp only [List.mem_cons, List.mem_singleton, List.not_mem_nil, or_false, not_or]; exact ⟨hb1, hb2⟩) (Heap.get?_push_of_some _ (Heap.get?_push_of_some _ e))
      · cases r₂ with
        | error e => exact hr₂
        | ok fl₂ =>
          cases fl₂ with
          | ret r =>
            obtain ⟨rfl, h', tk, rfl, hS', hk'⟩ := hr₂
            repeat (any_goals (first | assumption | wp_step))
            exact h _ _ hS' hk'
          | _ => exact hr₂.elim
    | _ => exact hr.elim
end Mine
end
noncomputable section
namespace Mine
abbrev fkO : Obj := { cls := .type "builtin_function_or_method", data := .fields #[.builtin "dict.fromkeys", .type "dict"] }
theorem fk_type : isType (.type "dict") = pure true := by first | rfl | kernel_rfl
theorem fk_entry : entryFor table "dict.fromkeys" = some Builtin.«dict.fromkeys» := entryFor_of_tree (by kernel_rfl)
theorem fk_entry_loop : entryFor table "dict.fromkeys.loop" = some Builtin.«dict.fromkeys.loop» := entryFor_of_tree (by kernel_rfl)
theorem fk_plain : plainId "dict.fromkeys" = true := by decide +kernel
theorem fk_plain_loop : plainId "dict.fromkeys.loop" = true := by decide +kernel
theorem fk_check (x : Addr) : checkBoundCall "dict.fromkeys" ⟨[.type "dict", .ref x], []⟩ = pure () := by first | kernel_rfl | rfl
theorem fk_new0 : checkBuiltinCall "dict.__new__" ⟨[.type "dict"], []⟩ = pure () := by kernel_rfl
theorem fk_call0 : checkTypeCall "dict" ⟨[], []⟩ = pure () := by kernel_rfl
set_option maxHeartbeats 4000000 in
theorem fk_code_new {prog : Program} {w : World} {A : Around} {E : Value → Shared → Prop} {s : Shared} {Q₁ : Value → Shared → Prop} (h : Q₁ (.ref s.heap.objs.size) { s with heap := s.heap.push { cls := .type "dict", data := .dict #[] } }) :
    codeAny (model prog w) A (.call (.builtin "dict.__new__") ⟨[.type "dict"], []⟩) (wants Q₁ E) s := by
  refine codeAny_call_builtin PySem.F.kt_plain_dict_new PySem.F.kt_entry_dict_new (wpAny_of_eq fk_new0 ?_)
  have hsub := PySem.F.kt_sub_dict
  have hmro := PySem.F.kt_mro_dict
  obtain ⟨hp, g, d, tk, os⟩ := s
  unfold Builtin.«dict.__new__»
  wp_walk
  exact h
set_option maxHeartbeats 4000000 in
theorem call_dict0 {prog : Program} {w : World} {A : Around} {E : Value → Shared → Prop} {s : Shared} {Q : Value → Shared → Prop} (h : Q (.ref s.heap.objs.size) { s with heap := s.heap.push { cls := .type "dict", data := .dict #[] } }) :
    wpAny (model prog w) A (call (.type "dict") []) Q E s := by
  refine callType_codes (Q₁ := fun obj s₁ => obj = .ref s.heap.objs.size ∧ s₁ = { s with heap := s.heap.push { cls := .type "dict", data := .dict #[] } }) PySem.F.kt_called_dict fk_call0 PySem.F.entry_dict_init (fk_code_new ⟨rfl, rfl⟩) ?_
  rintro obj s₁ ⟨rfl, rfl⟩
  have hnew : (s.heap.push { cls := .type "dict", data := .dict #[] }).DictOf (PySem.strKind prog w) s.heap.objs.size [] := Heap.DictOf.new s.heap
  refine ⟨hnew.typeIs, PySem.F.args_dict_init_1 _, ?_⟩
  unfold Builtin.«dict.__init__»
  refine wpAny_bind ?_
  unfold Builtin.Dict.selfAndRest
  refine wpAny_bind (wpAny_notOrdered_dict hnew.typeIs ?_)
  show wpAny _ _ (pure (s.heap.objs.size, [])) _ _ _
  refine wpAny_pure ?_
  show wpAny _ _ (Builtin.Dict.updateCommon "dict.__init__" "dict" s.heap.objs.size [] []) _ _ _
  unfold Builtin.Dict.updateCommon
  show wpAny _ _ (Builtin.Dict.addKeywords s.heap.objs.size [] >>= _) _ _ _
  exact wpAny_bind (wpAny_pure (wpAny_pure ⟨rfl, h⟩))
theorem stored_keys (kvs : List (Str × Value)) (k : Str) (v : Value) : (stored kvs k v).map (·.1) = ddS (kvs.map (·.1)) k := by
  unfold stored ddS
  have e : (kvs.any fun kv => decide (kv.1 = k)) = (kvs.map (·.1)).any (· == k) := by
    rw [List.any_map]
    congr 1
  by_cases h : ((kvs.map (·.1)).any (· == k)) = true
  · rw [if_pos (e.trans h), if_pos h, keys_map_store]
  · rw [if_neg (by rw [e]; exact h), if_neg h, List.map_append]; rfl
end Mine
end
noncomputable section
namespace Mine

abbrev mgrD (w : World) (t : Tok) (d : Addr) : Obj := dictOf [{ hash := PyData.keyHash w.params (Str.ofString "passwd"), key := Value.str (Str.ofString "passwd") t, val := Value.ref d }] 1

set_option maxHeartbeats 8000000 in
theorem mgr_spec {w : World} {dp un : Nat} {fr : Option (List Env)} {gd : Option (List Code)} {s : Shared} {Q E : Value → Shared → Prop} {b0 : Heap} (hD : dp + 10 < recursionLimit) (hU : un + 30 < cLine)
    (G : Gd w b0) (k0 : b0.StaysIn s.heap)
    (ret : ∀ x dx t d h' tk, s.heap.StaysIn h' → s.heap.objs.size ≤ dx → dx < x → h'.get? x = some (instObj 201 dx) → h'.get? dx = some (mgrD w t d) → Q (.ref x) { s with heap := h', toks := tk }) :
    wpAny (M w) (ar dp fr gd un) (call (.ref 201) []) Q E s := by
  have G0 := G
  unfold M; revert G; unfold Gd; k_fill; intro G
  obtain ⟨X, mean, mg, mb, T⟩ := G
  refine wpAny_call ?_
  k_dflt (refine' make_raw (X.keeps k0) ?m1 ?m2 ?m3 ?_; (case m1 => k_is); (case m2 => k_is); (case m3 => k_is))
  have kp : s.heap.StaysIn ((s.heap.push emptyDict).push (instObj 201 s.heap.objs.size)) := fun b o e => Heap.get?_push_of_some _ (Heap.get?_push_of_some _ e)
  have hX : ((s.heap.push emptyDict).push (instObj 201 s.heap.objs.size)).get? (s.heap.objs.size + 1) = some (instObj 201 s.heap.objs.size) := by heap_get
  have hDx : ((s.heap.push emptyDict).push (instObj 201 s.heap.objs.size)).get? s.heap.objs.size = some emptyDict := by heap_get
  generalize hH : (s.heap.push emptyDict).push (instObj 201 s.heap.objs.size) = H at *
  have hxn : s.heap.get? (s.heap.objs.size + 1) = none := Heap.get?_none_of_le (Nat.le_succ _)
  have hdn : s.heap.get? s.heap.objs.size = none := Heap.get?_none_of_le (Nat.le_refl _)
  have hle : s.heap.objs.size ≤ s.heap.objs.size := Nat.le_refl _
  generalize hdx : s.heap.objs.size = dx at *
  generalize hx : dx + 1 = x at *
  have dxx : dx < x := by rw [← hx]; exact Nat.lt_succ_self _
  have kH : b0.StaysIn H := fun b o e => kp b o (k0 b o e)
  k_dflt (refine' enterH [x, dx] [(x, instObj 201 dx), (dx, emptyDict)] (binds := [(Str.ofString "self", .ref x)]) (X.keeps kH) (T.nolimit.keeps kH) ?hn ?k6 ?k7 ?k8 ?k9 ?kB ?_ ?c2 ?c3 ?c4 ?c5; (case k6 => k_is); (case k7 => k_is); (case k8 => (show dp + 1 < _; omega)); (case k9 => exact BindsTo.of_eq rfl); (case c5 => decide); (case kB => exact locs rfl); (case c2 => exact rfl); (case c3 => exact rfl); (case c4 => exact rfl))
  case hn =>
    intro p hp
    rcases List.mem_cons.mp hp with e | hp
    · subst e; exact ⟨hX, List.mem_cons_self ..⟩
    · rw [List.mem_singleton.mp hp]; exact ⟨hDx, by simp⟩
  intro gb L' h' hgb F' N' kk hLn
  have hb0 : ∀ q ∈ [x, dx], b0.get? q = none := by
    intro q hq
    cases e : b0.get? q with
    | none => rfl
    | some o =>
      have := k0 q o e
      rcases List.mem_cons.mp hq with r | r
      · rw [r, hxn] at this; cases this
      · rw [List.mem_singleton.mp r, hdn] at this; cases this
  have kg : b0.StaysIn gb := by rw [hgb]; exact stays_hid kH hb0
  have X' := X.keeps kg
  have T' := T.keeps kg
  have kend : ∀ h2, gb.StaysIn h2 → s.heap.StaysIn h2 := by
    intro h2 k2 b o e
    refine k2 b o ?_
    rw [hgb]
    refine hideAll_get _ (kp b o e) ?_
    intro hm
    rcases List.mem_cons.mp hm with r | r
    · rw [r, hxn] at e; cases e
    · rw [List.mem_singleton.mp r, hdn] at e; cases e
  replace hle : s.heap.objs.size ≤ dx := by rw [hdx]; exact Nat.le_refl _
  clear hgb kk hX hDx hH kH k0 hx X T hdx
  (try dsimp only)
  (try k_fold)
  k_steps
  rename Fr _ _ _ _ => F9
  rename News _ _ _ _ => N9
  exact ⟨rfl, ret _ _ _ _ _ _ (kend _ F9.keep) (Nat.le_refl _) dxx (N9.get (.tail _ (.head _))) (N9.get (.tail _ (.tail _ (.head _))))⟩
end Mine
end
noncomputable section
namespace Mine
abbrev ffO (dx f I : Addr) : Obj := { cls := .ref 108, dict := some dx, slots := #[some (.ref f), some (.ref I)] }
abbrev litO (l : Addr) (i : Nat) : Obj := { cls := .type "list_iterator", data := .fields #[.ref l, .int i 0] }
theorem iter_lst {prog : Program} {w : World} {A : Around} {E : Value → Shared → Prop} {s : Shared} {l : Addr} {vl : Array Value} {Q : Value → Shared → Prop} (hl : s.heap.IsList l vl) (h : Q (.ref s.heap.objs.size) { s with heap := s.heap.push (litO l 0) }) : wpAny (model prog w) A (call (.builtin "iter") [.ref l]) Q E s := by
  refine call_function_entry (by decide +kernel) (by decide +kernel) kdk_entry_iter (kdk_args_iter _) ?_
  unfold Builtin.«iter»
  refine wpAny_bind (m := someArgs "iter" 1 2 _) (wpAny_of_eq (a := [Value.ref l]) (by first | rfl | kernel_rfl!) ?_)
  show wpAny _ _ (pyIter (.ref l) >>= _) _ _ _
  refine wpAny_bind (wpAny_pyIter_list hl ?_)
  exact wpAny_pure ⟨_, rfl, h⟩
set_option maxHeartbeats 8000000 in
theorem ff_spec {w : World} {dp un : Nat} {fr : Option (List Env)} {gd : Option (List Code)} {s : Shared} {Q E : Value → Shared → Prop} {b0 : Heap} {f l : Addr} {vl : Array Value} (hD : dp + 10 < recursionLimit) (hU : un + 30 < cLine)
    (G : Gd w b0) (k0 : b0.StaysIn s.heap) (hl : s.heap.IsList l vl)
    (ret : ∀ x dx I h' tk, s.heap.StaysIn h' → s.heap.objs.size ≤ dx → dx < x → x < I → h'.get? x = some (ffO dx f I) → h'.get? dx = some emptyDict → h'.get? I = some (litO l 0) → Q (.ref x) { s with heap := h', toks := tk }) :
    wpAny (M w) (ar dp fr gd un) (call (.ref 108) [.ref f, .ref l]) Q E s := by
  have G0 := G
  unfold M; revert G; unfold Gd; k_fill; intro G
  obtain ⟨X, mean, mg, mb, T⟩ := G
  refine wpAny_call ?_
  k_dflt (refine' make_raw (X.keeps k0) ?m1 ?m2 ?m3 ?_; (case m1 => k_is); (case m2 => k_is); (case m3 => k_is))
  have kp : s.heap.StaysIn ((s.heap.push emptyDict).push (instObj 108 s.heap.objs.size)) := fun b o e => Heap.get?_push_of_some _ (Heap.get?_push_of_some _ e)
  have hX : ((s.heap.push emptyDict).push (instObj 108 s.heap.objs.size)).get? (s.heap.objs.size + 1) = some (instObj 108 s.heap.objs.size) := by heap_get
  have hDx : ((s.heap.push emptyDict).push (instObj 108 s.heap.objs.size)).get? s.heap.objs.size = some emptyDict := by heap_get
  generalize hH : (s.heap.push emptyDict).push (instObj 108 s.heap.objs.size) = H at *
  have hxn : s.heap.get? (s.heap.objs.size + 1) = none := Heap.get?_none_of_le (Nat.le_succ _)
  have hdn : s.heap.get? s.heap.objs.size = none := Heap.get?_none_of_le (Nat.le_refl _)
  have hle : s.heap.objs.size ≤ s.heap.objs.size := Nat.le_refl _
  generalize hdx : s.heap.objs.size = dx at *
  generalize hx : dx + 1 = x at *
  have dxx : dx < x := by rw [← hx]; exact Nat.lt_succ_self _
  have kH : b0.StaysIn H := fun b o e => kp b o (k0 b o e)
  k_dflt (refine' enterH [x, dx] [(x, instObj 108 dx), (dx, emptyDict)] (binds := [(Str.ofString "self", .ref x), (Str.ofString "function", .ref f), (Str.ofString "iterable", .ref l)]) (X.keeps kH) (T.nolimit.keeps kH) ?hn ?k6 ?k7 ?k8 ?k9 ?kB ?_ ?c2 ?c3 ?c4 ?c5; (case k6 => k_is); (case k7 => k_is); (case k8 => (show dp + 1 < _; omega)); (case k9 => exact BindsTo.of_eq rfl); (case c5 => decide); (case kB => exact locs rfl); (case c2 => exact rfl); (case c3 => exact rfl); (case c4 => exact rfl))
  case hn =>
    intro p hp
    rcases List.mem_cons.mp hp with e | hp
    · subst e; exact ⟨hX, List.mem_cons_self ..⟩
    · rw [List.mem_singleton.mp hp]; exact ⟨hDx, by simp⟩
  intro gb L' h' hgb F' N' kk hLn
  have hb0 : ∀ q ∈ [x, dx], b0.get? q = none := by
    intro q hq
    cases e : b0.get? q with
    | none => rfl
    | some o =>
      have := k0 q o e
      rcases List.mem_cons.mp hq with r | r
      · rw [r, hxn] at this; cases this
      · rw [List.mem_singleton.mp r, hdn] at this; cases this
  have kg : b0.StaysIn gb := by rw [hgb]; exact stays_hid kH hb0
  have X' := X.keeps kg
  have T' := T.keeps kg
  have kend : ∀ h2, gb.StaysIn h2 → s.heap.StaysIn h2 := by
    intro h2 k2 b o e
    refine k2 b o ?_
    rw [hgb]
    refine hideAll_get _ (kp b o e) ?_
    intro hm
    rcases List.mem_cons.mp hm with r | r
    · rw [r, hxn] at e; cases e
    · rw [List.mem_singleton.mp r, hdn] at e; cases e
  replace hle : s.heap.objs.size ≤ dx := by rw [hdx]; exact Nat.le_refl _
  have hlg : gb.IsList l vl := by
    obtain ⟨o, ho, r⟩ := hl
    refine ⟨o, ?_, r⟩
    rw [hgb]
    refine hideAll_get _ (kp l o ho) ?_
    intro hm
    rcases List.mem_cons.mp hm with e | e
    · rw [e, hxn] at ho; cases ho
    · rw [List.mem_singleton.mp e, hdn] at ho; cases ho
  clear hgb kk hX hDx hH kH k0 hx X T hdx
  (try dsimp only)
  (try k_fold)
  k_steps
  refine iter_lst (hlg.at fun o e => F'.keep _ o e) ?_
  have F2 := F'.push (litO l 0)
  have N2 := N'.push F' (litO l 0)
  have hiv : h'.objs.size = h'.objs.size := rfl
  have hix : x < h'.objs.size := Heap.lt_size (N' _ (.head _)).1
  have hid' : dx < h'.objs.size := Heap.lt_size (N' _ (.tail _ (.head _))).1
  generalize hI : h'.objs.size = I at *
  generalize hH2 : h'.push (litO l 0) = h2 at *
  clear F' N'
  k_steps
  rename Fr _ _ _ _ => F9
  rename News _ _ _ _ => N9
  exact ⟨rfl, ret _ _ _ _ _ (kend _ F9.keep) (by first | exact hle | exact Nat.le_refl _) dxx hix (N9.get (.tail _ (.head _))) (N9.get (.tail _ (.tail _ (.head _)))) (N9.get (.head _))⟩
end Mine
end
noncomputable section
namespace Mine
theorem set_getattr_none : typeLookup (.type "set") "__getattr__" = pure none := by rw [typeLookup_type, builtinLookup_eq_fast]; kernel_rfl
theorem entry_set_getattribute : entryFor table "set.__getattribute__" = some Builtin.«object.__getattribute__» :=
  entryFor_alias (id' := "object.__getattribute__") (by kernel_rfl) (by decide +kernel) (by decide +kernel) (by kernel_rfl)
theorem kind_sc : builtinKind "set.__contains__" = some Manifest.AttrKind.method := by decide +kernel
theorem look_md : typeLookup (.type "method_descriptor") (Str.ofString "__get__") = pure (some (.builtin "method_descriptor.__get__")) := by rw [typeLookup_type, builtinLookup_eq_fast]; kernel_rfl
theorem look_mds : typeLookup (.type "method_descriptor") (Str.ofString "__set__") = pure none := by rw [typeLookup_type, builtinLookup_eq_fast]; kernel_rfl
theorem look_mdd : typeLookup (.type "method_descriptor") (Str.ofString "__delete__") = pure none := by rw [typeLookup_type, builtinLookup_eq_fast]; kernel_rfl
theorem slot_md_get : Slot "method_descriptor" (Str.ofString "__get__") "method_descriptor.__get__" :=
  .of (owner := "method_descriptor") (n := "__get__") look_md (by decide +kernel) (by decide +kernel) (by decide +kernel)
    (by first | exact .inl (by decide +kernel) | exact .inr (by decide +kernel)) (by rw [isSubtype_type]; kernel_rfl)
theorem entry_md_get : entryFor table "method_descriptor.__get__" = some Builtin.«method_descriptor.__get__» := entryFor_of_tree (by kernel_rfl)
theorem args_md_get (a b c : Value) : argsOk "method_descriptor.__get__" ⟨[a, b, c], []⟩ := by unfold argsOk; kernel_rfl
theorem cut_sc : ".".intercalate ("set.__contains__".cutAt '.').dropLast = "set" := by decide +kernel
theorem told_sc : Manifest.toldItsClass.contains "set.__contains__" = false := by decide +kernel
set_option maxHeartbeats 8000000 in
theorem meets_md_get (a : Addr) (es : Array (Int × Value)) (ep : Nat) (t : SetTable) (sl : Array (Option Value)) :
    Meets (Builtin.«method_descriptor.__get__» ⟨[.builtin "set.__contains__", .ref a, .type "set"], []⟩) (fun A R s => s.heap.get? a = some { cls := .type "set", dict := none, data := .set es ep t, slots := sl } ∧ 
      ∀ tk, R (.ok (.ret (.ref s.heap.objs.size))) { s with heap := s.heap.push { cls := .type "builtin_function_or_method", data := .fields #[.builtin "set.__contains__", .ref a] }, toks := tk }) :=
  Meets.of_wp fun prog w A R s hs => by
    obtain ⟨hp, g, d, tk, os⟩ := s
    obtain ⟨hx, hs⟩ := hs
    have hT : (⟨hp, g, d, tk, os⟩ : Shared).TypeIs (.ref a) "set" := ⟨_, hx, rfl⟩
    have f1 := told_sc
    have f3 := sub_set_self
    unfold Builtin.«method_descriptor.__get__»
    repeat (any_goals (first | assumption | wp_step | simp only [cut_sc]))
    exact ⟨_, rfl, hs _⟩
end Mine
end
noncomputable section
namespace Mine
set_option maxHeartbeats 8000000 in
theorem meets_get_contains (a : Addr) (es : Array (Int × Value)) (ep : Nat) (t : SetTable) (sl : Array (Option Value)) (u : Tok) :
    Meets (Builtin.«object.__getattribute__» ⟨[.ref a, .str (Str.ofString "__contains__") u], []⟩) (fun A R s => s.heap.get? a = some { cls := .type "set", dict := none, data := .set es ep t, slots := sl } ∧ 
      ∀ tk, R (.ok (.ret (.ref s.heap.objs.size))) { s with heap := s.heap.push { cls := .type "builtin_function_or_method", data := .fields #[.builtin "set.__contains__", .ref a] }, toks := tk }) :=
  Meets.of_wp fun prog w A R s hs => by
    obtain ⟨hp, g, d, tk, os⟩ := s
    obtain ⟨hx, hs⟩ := hs
    have hT : (⟨hp, g, d, tk, os⟩ : Shared).TypeIs (.ref a) "set" := ⟨_, hx, rfl⟩
    have f1 := PySem.F.slot_set_contains.lookup
    unfold Builtin.«object.__getattribute__»
    have f2 := look_md
    have f3 := look_mds
    have f4 := look_mdd
    repeat (any_goals (first | assumption | wp_step | simp only [kind_sc]))
    have key := meets_md_get a es ep t sl prog w A.in1 (fun r s' => match r with
      | .ok (.ret v) => wpAny (model prog w) A.in1 (ret v) (fun fin s' => ∃ v, fin = Fin.done (Flow.ret v) ∧ R (Except.ok (Flow.ret v)) s') (fun e s' => R (Except.error e) s') s'
      | .ok _ => False
      | .error e => R (.error e) s') ⟨hp, g, d, tk, os⟩ ⟨hx, fun tk' => wpAny_pure ⟨_, rfl, hs tk'⟩⟩
    exact codeAny_call_builtin slot_md_get.plain entry_md_get (slot_md_get.check _ _ _ _ _ _ _ _ (show typeOf _ = _ from PySem.F.type_set_contains) (args_md_get _ _ _) key)
end Mine
end
noncomputable section
namespace Mine
abbrev bmO (a : Addr) : Obj := { cls := .type "builtin_function_or_method", data := .fields #[.builtin "set.__contains__", .ref a] }

set_option maxHeartbeats 4000000 in
theorem get_contains {prog : Program} {w : World} {A : Around} {E : Value → Shared → Prop} {s : Shared} {a : Addr} {o : Obj} {Q : Value → Shared → Prop}
    (hx : s.heap.get? a = some o) (hc : o.cls = .type "set") (hd : o.dict = none) (hdat : ∃ es ep t, o.data = .set es ep t)
    (h : ∀ tk, Q (.ref s.heap.objs.size) { s with heap := s.heap.push (bmO a), toks := tk }) :
    wpAny (model prog w) A (getAttr (.ref a) (Str.ofString "__contains__") true) Q E s := by
  obtain ⟨c, dct, dat, sl⟩ := o
  simp only at hc hd
  subst hc hd
  obtain ⟨es, ep, t, hdat⟩ := hdat
  simp only at hdat
  subst hdat
  obtain ⟨hp, g, d, tk, os⟩ := s
  have hT : ∀ tk', (⟨hp, g, d, tk', os⟩ : Shared).TypeIs (.ref a) "set" := fun _ => ⟨_, hx, rfl⟩
  have f3 := PySem.F.slot_set_getattribute.lookup
  have f4 := PySem.F.slot_set_getattribute.bind (.ref a)
  have f5 := set_getattr_none
  unfold getAttr getAttrBy
  repeat (any_goals (first | assumption | exact hT _ | ((with_reducible show wpAny _ _ (call (Value.builtin "set.__getattribute__") _) _ _ _); refine call_meets PySem.F.slot_set_getattribute (hT _) entry_set_getattribute (PySem.F.args_set_getattribute_2 _ _) (meets_get_contains a es ep t sl _) ⟨hx, fun tk' => ?_⟩) | wp_step))
  exact wpAny_pure (h _)
end Mine
end
noncomputable section
namespace Mine

theorem sub_set_mod : isSubtype (.type "set") (.type "module") = pure false := by rw [isSubtype_type]; kernel_rfl
theorem sub_set_ty : isSubtype (.type "set") (.type "type") = pure false := by rw [isSubtype_type]; kernel_rfl
theorem va_sc : Manifest.varargsMethods.contains "set.__contains__" = false := by decide +kernel
set_option maxHeartbeats 4000000 in
theorem call_bm {prog : Program} {w : World} {A : Around} {E : Value → Shared → Prop} {s : Shared} {a S : Addr} {l : List Str} {x : Str} {t : Tok} {Q : Value → Shared → Prop}
    (hx : s.heap.get? a = some (bmO S)) (hS : SSet prog w s.heap S l)
    (h : ∀ tk, Q (.bool (l.any (· == x))) { s with toks := tk }) :
    wpAny (model prog w) A (call (.ref a) [.str x t]) Q E s := by
  have hT : s.TypeIs (.ref S) "set" := hS.typeIs
  obtain ⟨oS, es, ep, tb, hoS, hcS, _⟩ := id hS
  have hdS : oS.data = .set es ep tb := by first | exact hcS.2.2 | exact hcS.2.1 | exact hcS.2 | (simp_all; done)
  refine wpAny_call (codeAny_of_tree ?_)
  show wpAny _ _ (callAny (.ref a) ⟨[.str x t], []⟩) _ _ _
  unfold callAny
  refine wpAny_bind (wpAny_load hx ?_)
  have e1 : ((bmO S).cls == Value.type "method" || (bmO S).cls == Value.type "builtin_function_or_method" || (bmO S).cls == Value.type "method-wrapper") = true := rfl
  have e2 : ((bmO S).cls != Value.type "method") = true := rfl
  show wpAny _ _ (if ((bmO S).cls == Value.type "method" || (bmO S).cls == Value.type "builtin_function_or_method" || (bmO S).cls == Value.type "method-wrapper") = true then _ else _) _ _ _
  rw [if_pos e1]
  show wpAny _ _ (if ((bmO S).cls != Value.type "method") = true then (checkBoundCall "set.__contains__" ⟨[.ref S, .str x t], []⟩ >>= fun _ => again (.builtin "set.__contains__" ⟨[.ref S, .str x t], []⟩)) else _) _ _ _
  rw [if_pos e2]
  refine wpAny_bind ?_
  have f1 := sub_set_mod
  have f2 := sub_set_ty
  unfold checkBoundCall
  repeat (any_goals (first | assumption | wp_step | simp only [va_sc, Bool.or_false, Bool.false_eq_true, if_false]))
  refine ⟨plainId_quiet PySem.F.slot_set_contains.plain _, codeAny_builtin entry_set_contains ?_⟩
  rw [Around.under_plainId PySem.F.slot_set_contains.plain _]
  unfold Builtin.«frozenset.__contains__» Builtin.Frozenset.oneOther
  simp only [List.isEmpty_nil, bind_assoc]
  unfold Builtin.Frozenset.addrOf Builtin.Frozenset.withSetAsKey setContains
  refine wpAny_bind (wpAny_pure ?_)
  try dsimp only
  refine wpAny_bind (wpAny_pure ?_)
  try dsimp only
  refine wpAny_bind (wpAny_tryCatch ?_)
  refine wpAny_holding ?_
  refine wpAny_bind ((PySem.strKind prog w).pyHash (isS prog w x t) ?_)
  refine wpAny_bind (wpAny_setFind_of (s := { s with toks := s.toks + 1 }) (isS prog w x t) rfl hS fun r hr => ?_)
  refine wpAny_pure ?_
  show wpAny _ _ (ret (Value.bool r.isSome)) _ _ _
  rw [hr]
  exact wpAny_pure (h _)
end Mine
end
noncomputable section
namespace Mine

theorem sset_up {prog : Program} {w : World} {h h' : Heap} {S : Addr} {l : List Str} (x : SSet prog w h S l) (k : ∀ o, h.get? S = some o → h'.get? S = some o) : SSet prog w h' S l := by
  obtain ⟨o, es, ep, t, ho, r⟩ := x
  exact ⟨o, es, ep, t, k o ho, r⟩

set_option maxHeartbeats 4000000 in
theorem diff_spec {w : World} {dp un : Nat} {fr : Option (List Env)} {gd : Option (List Code)} {s : Shared} {ml sl : Addr} {vm vs : Array Value} {ss : List Str} {Q E : Value → Shared → Prop} (hD : dp + 20 < recursionLimit) (hU : un + 60 < cLine)
    (G : Gd w s.heap) (hm : s.heap.IsList ml vm) (hs : s.heap.IsList sl vs) (hsS : StrsAre vs.toList ss) (hz : ss.length ≤ 13)
    (ret : ∀ x dx I S bm h' tk, s.heap.StaysIn h' → s.heap.objs.size ≤ S → S < bm → bm < dx → dx < x → x < I → h'.get? x = some (ffO dx bm I) → h'.get? dx = some emptyDict → h'.get? I = some (litO ml 0) → h'.get? bm = some (bmO S) → SSet PySem.Challenge.rw_il0008_01.row.prog w h' S (fmS ss ss.length) → Q (.ref x) { s with heap := h', toks := tk }) :
    wpAny (M w) (ar dp fr gd un) (call (.ref 155) [.ref ml, .ref sl]) Q E s := by
  have G0 := G
  unfold M; revert G; unfold Gd; k_fill; intro G
  obtain ⟨X, mean, mg, mb, T⟩ := G
  refine wpAny_call ?_
  k_dflt (refine' enter (binds := [(Str.ofString "minuend", .ref ml), (Str.ofString "subtrahend", .ref sl)]) X T.nolimit ?k6 ?k7 ?k8 ?k9 ?kB ?_ ?c2 ?c3 ?c4 ?c5; (case k6 => k_is); (case k7 => k_is); (case k8 => (dsimp only; omega)); (case k9 => exact BindsTo.of_eq rfl); (case c5 => decide); (case kB => exact locs rfl); (case c2 => exact rfl); (case c3 => exact rfl); (case c4 => exact rfl))
  intro g L' h' hg F' N' X'
  subst hg
  (try dsimp only)
  (try k_fold)
  have hvl : vs.size = ss.length := by have := hsS.length; simpa using this
  have zF : s.heap.objs.size ≤ h'.objs.size := Nat.le_of_lt (Nat.lt_of_le_of_lt F'.above F'.ns.lt)
  k_steps
  refine call_set_strs rfl (hs.at fun o e => F'.keep _ o e) hsS (by rw [hvl]; unfold scanBound; omega) ?_
  intro h2 tk2 hS2 hk2
  have k2 : h'.StaysIn h2 := fun b o e => hk2 b o (Heap.lt_size e) e
  obtain ⟨oS, es, ep, tb, hoS, hcS, hdS, _⟩ := id hS2
  have F2 := fr_up F' k2
  have N2 := news_new F' (news_up N' k2) (Heap.get?_none_of_le (Nat.le_refl _)) hoS
  generalize hSz : h'.objs.size = S at *
  have ltS : S < h2.objs.size := Heap.lt_size hoS
  clear F' N'
  (try dsimp only at F2 N2 ⊢)
  k_steps
  rename Fr _ _ _ _ => F3
  rename News _ _ _ _ => N3
  refine get_contains (N3.get (.head _)) hcS.1 hcS.2.1 ⟨es, ep, tb, hdS⟩ ?_
  intro tk3
  have F4 := F3.push (bmO S)
  have N4 := N3.push F3 (bmO S)
  have k4 := F4.keep
  have ltB : S < h2.objs.size := ltS
  generalize hBz : h2.objs.size = bm at *
  clear F3 N3
  have hbmS : bm < (h2.push (bmO S)).objs.size := by rw [Heap.size_push, hBz]; exact Nat.lt_succ_self _
  have k24 : h2.StaysIn (h2.push (bmO S)) := fun b o e => Heap.get?_push_of_some _ e
  have hbm4 := (N4 _ (.head _)).1
  generalize hH4 : h2.push (bmO S) = h4 at *
  k_steps
  refine ff_spec (w := w) (b0 := s.heap) (by dsimp only; omega) (by dsimp only; omega) G0 k4 (hm.at fun o e => k4 _ o e) ?_
  intro x dx I h5 tk5 k5 hle dxx hxI hxo hdo hIo
  refine ret x dx I S bm h5 tk5 (fun b o e => k5 b o (k4 b o e)) zF ltS (Nat.lt_of_lt_of_le hbmS hle) dxx hxI hxo hdo hIo (k5 _ _ hbm4) ?_
  rw [← hvl]
  exact sset_up hS2 fun o e => k5 _ _ (k24 _ _ e)
end Mine
end
noncomputable section
namespace Mine
abbrev litO' (l : Addr) (i : Nat) : Obj := { cls := .type "list_iterator", data := .fields #[.ref l, .int i 0] }

theorem nextL_call {prog : Program} {w : World} {A : Around} {E : Value → Shared → Prop} {s : Shared} {it l : Addr} {i : Nat} {Q : Value → Shared → Prop} (hit : s.heap.IsListIter it l i)
    (h : wpAny (model prog w) A.in1 (callSpecial? (.ref it) "__next__") (fun r s' => ∃ v, r = some v ∧ Q v s') E s) : wpAny (model prog w) A (call (.builtin "next") [.ref it]) Q E s := by
  refine call_function_entry (by decide +kernel) (by decide +kernel) entry_next (kdk_args_next _) ?_
  unfold Builtin.«next»
  refine wpAny_bind (m := someArgs "next" 1 2 _) (wpAny_of_eq (a := [Value.ref it]) (by first | rfl | kernel_rfl!) ?_)
  dsimp only
  refine wpAny_bind (wpAny_specialOf (name := Str.ofString "__next__") hit.typeIs slot_listiter_next.lookup ?_)
  refine wpAny_ite_split (fun hab => absurd hab (by decide)) (fun _ => ?_)
  refine wpAny_bind (wpAny_mono h (fun r s' hr => ?_) fun _ _ x => x)
  obtain ⟨v, rfl, hq⟩ := hr
  exact wpAny_pure ⟨_, rfl, hq⟩

theorem nextL_item {prog : Program} {w : World} {A : Around} {E : Value → Shared → Prop} {s : Shared} {it l : Addr} {i : Nat} {items : Array Value} {x : Value} {Q : Value → Shared → Prop} (ho : s.heap.get? it = some (litO' l i))
    (hl : s.heap.IsList l items) (hx : items[i]? = some x)
    (hQ : ∀ h', h'.get? it = some (litO' l (i + 1)) → Heap.SameBut it s.heap h' → Q x { s with heap := h' }) :
    wpAny (model prog w) A (call (.builtin "next") [.ref it]) Q E s := by
  have hit : s.heap.IsListIter it l i := ⟨_, ho, rfl, rfl⟩
  obtain ⟨ol, hol, _, nl, hdl⟩ := hl
  refine nextL_call hit ?_
  refine wpAny_callSpecial?_slot (name := Str.ofString "__next__") hit.typeIs slot_listiter_next
    (wpAny_call_entry slot_listiter_next hit.typeIs entry_listiter_next ?_ (args_listiter_next _))
  show wpAny _ _ (field (.ref it) 0 >>= _) _ _ s
  refine wpAny_bind (wpAny_field ho rfl (x := .ref l) rfl ?_)
  show wpAny _ _ (if (Value.ref l == Value.none) = true then _ else _) _ _ s
  rw [if_neg (show ¬ ((Value.ref l == Value.none) = true) from Bool.false_ne_true)]
  show wpAny _ _ (field (.ref it) 1 >>= _) _ _ s
  refine wpAny_bind (wpAny_field ho rfl (x := .int i 0) rfl ?_)
  show wpAny _ _ (seqItems? (.ref l) >>= _) _ _ s
  refine wpAny_bind (wpAny_seqItems hol hdl ?_)
  simp only [Int.toNat_natCast, hx]
  refine wpAny_bind (wpAny_setField ho rfl (by simp) (wpAny_pure ⟨x, rfl, _, rfl, hQ _ ?_ (Heap.SameBut.update ..)⟩))
  rw [Heap.get?_update_self _ ho (by rfl)]
  simp [Obj.mapFields, rawInt]

theorem nextL_end {prog : Program} {w : World} {A : Around} {E : Value → Shared → Prop} {s : Shared} {it l : Addr} {i : Nat} {items : Array Value} {Q : Value → Shared → Prop} (hh : A.handled = none) (ho : s.heap.get? it = some (litO' l i))
    (hl : s.heap.IsList l items) (hx : items[i]? = none)
    (hE : ∀ h1 h2 e, Heap.SameBut it s.heap h1 → Heap.NewExc h1 h2 e "StopIteration" → E (.ref e) { s with heap := h2 }) :
    wpAny (model prog w) A (call (.builtin "next") [.ref it]) Q E s := by
  have hit : s.heap.IsListIter it l i := ⟨_, ho, rfl, rfl⟩
  obtain ⟨ol, hol, _, nl, hdl⟩ := hl
  refine nextL_call hit ?_
  refine wpAny_callSpecial?_slot (name := Str.ofString "__next__") hit.typeIs slot_listiter_next
    (wpAny_call_entry slot_listiter_next hit.typeIs entry_listiter_next ?_ (args_listiter_next _))
  show wpAny _ _ (field (.ref it) 0 >>= _) _ _ s
  refine wpAny_bind (wpAny_field ho rfl (x := .ref l) rfl ?_)
  show wpAny _ _ (if (Value.ref l == Value.none) = true then _ else _) _ _ s
  rw [if_neg (show ¬ ((Value.ref l == Value.none) = true) from Bool.false_ne_true)]
  show wpAny _ _ (field (.ref it) 1 >>= _) _ _ s
  refine wpAny_bind (wpAny_field ho rfl (x := .int i 0) rfl ?_)
  show wpAny _ _ (seqItems? (.ref l) >>= _) _ _ s
  refine wpAny_bind (wpAny_seqItems hol hdl ?_)
  simp only [Int.toNat_natCast, hx]
  refine wpAny_bind (wpAny_rule (wpAny_bind (wpAny_setField ho rfl (by simp) ?_)))
  show wpAny _ _ (newExc (.type "StopIteration") [] >>= _) _ _ _
  refine wpAny_bind ?_
  simp only [newExc, newTuple]
  refine wpAny_bind (wpAny_newObj_type ?_ (by size_fits))
  refine wpAny_bind (m := firstArgMember _ _) (wpAny_of_eq (a := Value.none) (by first | rfl | (simp only [firstArgMember]; rfl)) ?_)
  refine wpAny_newObj_type ?_ (by size_fits)
  simp only [raiseNew]
  refine wpAny_bind (wpAny_handled ?_)
  rw [show A.in1.in1.handled = none from hh]
  refine wpAny_bind (wpAny_pure (wpAny_throw ?_))
  refine hE (s.heap.update it (Obj.mapFields (·.setIfInBounds 0 Value.none))) _ _ (Heap.SameBut.update ..) ⟨fun b o hb => Heap.get?_push_of_some _ (Heap.get?_push_of_some _ hb), ?_, _, Value.ref (s.heap.update it (Obj.mapFields (·.setIfInBounds 0 Value.none))).objs.size, Heap.get?_push_size _ rfl, rfl, ?_⟩
  · exact Heap.get?_none_of_le (by rw [Heap.size_push]; exact Nat.le_succ _)
  · first | rfl | (show Data.fields _ = Data.fields _; congr 1)
end Mine
end
noncomputable section
namespace Mine
/-- a bound built-in method, a value of its own, is called -/
theorem callWith_bm {M : Model} {A : Around} {E : Value → Shared → Prop} {s : Shared} {pos : Pos} {u : Addr} {o : Obj} {ds : Array Value} {first : List Value} {env : Env} {e : PySem.Expr} {rest : List PySem.Expr} {Q : Value → Shared → Prop}
    (hc : o.cls = .type "builtin_function_or_method") (hd : o.data = .fields ds)
    (h : wpAny M A (spliced (backTo pos (starEach (e :: rest) env))) (fun vs s₁ => s₁.heap.get? u = some o ∧ wpAny M A (call (.ref u) (first ++ vs)) Q E s₁) E s)
    (he : starEach (e :: rest) env = (false, eval e env) :: starEach rest env := by rfl) (hplain : (backTo pos (starEach rest env)).any (·.1) = false := by rfl) :
    wpAny M A (callWith pos (.ref u) first (backTo pos (starEach (e :: rest) env)) []) Q E s := by
  rw [he] at h ⊢
  have hpl : (backTo pos ((false, eval e env) :: starEach rest env)).any (·.1) = false := by
    show (false || (backTo pos (starEach rest env)).any (·.1)) = false
    rw [hplain]; rfl
  have h' : wpAny M A (evalArgs (.ref u) true (backTo pos ((false, eval e env) :: starEach rest env)) []) (fun x s₁ => s₁.heap.get? u = some o ∧ wpAny M A (call (.ref u) (first ++ x.pos) x.kw) Q E s₁) E s := evalArgs_plain h
  unfold callWith
  refine wpAny_bind (wpAny_holding (wpAny_mono h' (fun x s₁ h₁ => wpAny_bind (wpAny_standAt ?_)) fun _ _ x => x))
  obtain ⟨ho, hcall⟩ := h₁
  simp only [hpl, List.any_nil, Bool.or_false]
  refine wpAny_bind (m := keeperOf (.ref u)) ?_
  unfold keeperOf
  refine wpAny_bind (wpAny_load ho ?_)
  simp only [hc, hd, show (Value.type "builtin_function_or_method" != Value.type "method") = true by decide, show (Value.type "builtin_function_or_method" == Value.type "builtin_function_or_method" || Value.type "builtin_function_or_method" == Value.type "method-wrapper") = true by decide, if_true]
  refine wpAny_pure ?_
  exact wpAny_bind (wpAny_mono hcall (fun r s₂ hr => wpAny_bind (wpAny_holding (wpAny_point (wpAny_pure hr)))) fun _ _ x => x)
end Mine
end
noncomputable section
namespace Mine

theorem ne_cls {g h : Heap} {L : Addr} {news : List (Addr × Obj)} {a b : Addr} {o o' : Obj} (N : News g L h news) (hp : (a, o) ∈ news) (hq : (b, o') ∈ news) (hc : (o.cls == o'.cls) = false) : a ≠ b := by
  intro e
  have h1 := (N _ hp).1
  have h2 := (N _ hq).1
  dsimp only at h1 h2
  rw [e, h2] at h1
  cases h1
  simp at hc
def TurnW (I : Nat → Shared → Prop) (n : Nat) (R : Result → Shared → Prop) (f : Flow) (s₃ : Shared) : Prop :=
  match f with
  | .ret v => R (.ok (.ret v)) s₃
  | .brk => R (.ok .next) s₃
  | _ => ∃ m, m < n ∧ I m s₃
theorem while_T {prog : Program} {w : World} {A : Around} {R : Result → Shared → Prop} {s : Shared} {test : PySem.Expr} {body orelse : List Stmt} {env : Env} (I : Nat → Shared → Prop)
    (turn : ∀ n s, I n s →
      wpAny (model prog w) A (isTrue test env (eval test env)) (fun b s₂ =>
        if b = true then wpAny (model prog w) A (execs body env) (TurnW I n R) (notedBy (model prog w) A env fun e s' => R (.error e) s') s₂
        else wpAny (model prog w) A (execs orelse env) (fun f s₃ => R (.ok f) s₃) (notedBy (model prog w) A env fun e s' => R (.error e) s') s₂)
        (notedBy (model prog w) A env fun e s' => R (.error e) s') s)
    (n : Nat) (h : I n s) : codeAny (model prog w) A (.whileLoop test body orelse env) R s :=
  codeAny_whileLoop I (fun n s hI => wpAny_mono (turn n s hI) (fun b s₂ h => by
    cases b with
    | false => exact h
    | true => exact wpAny_mono (show wpAny _ _ _ (TurnW I n R) _ _ from h) (fun f s₃ h => by cases f <;> exact h) fun _ _ e => e) fun _ _ e => e) n h
def StopHere (p : Prop) : Prop := p
theorem StopHere.intro {p : Prop} (h : StopHere p) : p := h
local macro_rules | `(tactic| walk_at "exec While") => `(tactic| (with_reducible refine StopHere.intro ?_))
set_option maxHeartbeats 8000000 in
theorem ffn_item {w : World} {dp un : Nat} {outer : List Env} {gd : Option (List Code)} {s : Shared} {Q E : Value → Shared → Prop} {b0 : Heap} {x dx bm I ml S : Addr} {vm : Array Value} {ms l : List Str} {i : Nat} (hD : dp + 10 < recursionLimit) (hU : un + 40 < cLine)
    (G : Gd w b0) (k0 : b0.StaysIn s.heap) (hb0 : ∀ q ∈ [x, dx, I, bm, S], b0.get? q = none) (hx : s.heap.get? x = some (ffO dx bm I)) (hdo : s.heap.get? dx = some emptyDict) (hI : s.heap.get? I = some (litO ml i)) (hbm : s.heap.get? bm = some (bmO S))
    (hm : s.heap.IsList ml vm) (hmS : StrsAre vm.toList ms) (hil : i ≤ ms.length) (hS : SSet PySem.Challenge.rw_il0008_01.row.prog w s.heap S l)
    (hFF : FF s.heap outer) (hfr : ∀ b ∈ frs outer, b ∉ [x, dx, I, bm, S])
    (ret : ∀ j y t h' tk, i ≤ j → ms[j]? = some y → l.any (· == y) = false → (∀ q, i ≤ q → q < j → ∀ y, ms[q]? = some y → l.any (· == y) = true) → (∀ b o, b ≠ I → s.heap.get? b = some o → h'.get? b = some o) → h'.get? I = some (litO ml (j + 1)) → Q (.str y t) { s with heap := h', toks := tk })
    (retE : ∀ e h' tk, (∀ q, i ≤ q → ∀ y, ms[q]? = some y → l.any (· == y) = true) → UpX [I] (frs outer) s.heap h' → (∃ o, h'.get? e = some o ∧ o.cls = .type "StopIteration") → E (.ref e) { s with heap := h', toks := tk }) :
    wpAny (M w) (ar dp (some outer) gd un) (call (.ref 104) [.ref x]) Q E s := by
  have G0 := G
  unfold M; revert G; unfold Gd; k_fill; intro G
  obtain ⟨X, mean, mg, mb, T⟩ := G
  obtain ⟨oS, es, ep, tb, hoS, hcS, hdS, _⟩ := id hS
  refine wpAny_call ?_
  k_dflt (refine' enterH [x, dx, I, bm, S] [(x, ffO dx bm I), (dx, emptyDict), (I, litO ml i), (bm, bmO S), (S, oS)] (binds := [(Str.ofString "self", .ref x)]) (X.keeps k0) (T.nolimit.keeps k0) ?hn ?k6 ?k7 ?k8 ?k9 ?kB ?_ ?c2 ?c3 ?c4 ?c5; (case k6 => k_is); (case k7 => k_is); (case k8 => (dsimp only; omega)); (case k9 => exact BindsTo.of_eq rfl); (case c5 => decide); (case kB => exact locs rfl); (case c2 => exact rfl); (case c3 => exact rfl); (case c4 => exact rfl))
  case hn =>
    intro p hp
    simp only [List.mem_cons, List.mem_nil_iff, or_false] at hp
    rcases hp with e | e | e | e | e <;> subst e
    · exact ⟨hx, by simp⟩
    · exact ⟨hdo, by simp⟩
    · exact ⟨hI, by simp⟩
    · exact ⟨hbm, by simp⟩
    · exact ⟨hoS, by simp⟩
  intro gb L' h' hgb F' N' kk hLn
  have kg : b0.StaysIn gb := by rw [hgb]; exact stays_hid k0 hb0
  have X' := X.keeps kg
  have T' := T.keeps kg
  have hml : ml ∉ [x, dx, I, bm, S] := by
    intro hm'
    obtain ⟨o, ho, hc, c, hd⟩ := hm
    simp only [List.mem_cons, List.mem_nil_iff, or_false] at hm'
    rcases hm' with r | r | r | r | r <;> rw [r] at ho
    · rw [hx] at ho; cases ho; cases hd
    · rw [hdo] at ho; cases ho; cases hd
    · rw [hI] at ho; cases ho; cases hd
    · rw [hbm] at ho; cases ho; cases hd
    · rw [hoS] at ho; cases ho; rw [hdS] at hd; cases hd
  have hgm : gb.IsList ml vm := by obtain ⟨o, ho, r⟩ := hm; exact ⟨o, by rw [hgb]; exact hideAll_get _ ho hml, r⟩
  have hvl : vm.size = ms.length := by have := hmS.length; simpa using this
  have kend : ∀ (j : Nat) (h2 : Heap), gb.StaysIn h2 → News gb L' h2 [(x, ffO dx bm I), (dx, emptyDict), (I, litO ml j), (bm, bmO S), (S, oS)] → ∀ b o, b ≠ I → s.heap.get? b = some o → h2.get? b = some o := by
    intro j h2 k2 N2 b o hbI e
    by_cases b1 : b = x
    · rw [b1] at e ⊢; rw [hx] at e; cases e; exact (N2 _ (.head _)).1
    by_cases b2 : b = dx
    · rw [b2] at e ⊢; rw [hdo] at e; cases e; exact (N2 _ (.tail _ (.head _))).1
    by_cases b3 : b = bm
    · rw [b3] at e ⊢; rw [hbm] at e; cases e; exact (N2 _ (.tail _ (.tail _ (.tail _ (.head _))))).1
    by_cases b4 : b = S
    · rw [b4] at e ⊢; rw [hoS] at e; cases e; exact (N2 _ (.tail _ (.tail _ (.tail _ (.tail _ (.head _)))))).1
    refine k2 b o ?_
    rw [hgb]
    refine hideAll_get _ e (fun hm => ?_)
    simp only [List.mem_cons, List.mem_nil_iff, or_false] at hm
    rcases hm with r | r | r | r | r
    · exact b1 r
    · exact b2 r
    · exact hbI r
    · exact b3 r
    · exact b4 r
  (try dsimp only)
  (try k_fold)
  k_steps
  unfold StopHere
  rename Fr _ _ _ _ => F1
  rename News _ _ _ _ => N1
  refine wpAny_While (while_T (fun k s' => ∃ h tk m' j, s' = { s with heap := h, toks := tk } ∧ i ≤ j ∧ j ≤ ms.length ∧ k = ms.length + 1 - j ∧ (∀ q, i ≤ q → q < j → ∀ y, ms[q]? = some y → l.any (· == y) = true) ∧ Fr gb L' h m' ∧ m' (Str.ofString "func") = some (.ref bm) ∧ m' (Str.ofString "self") = some (.ref x) ∧ News gb L' h [(x, ffO dx bm I), (dx, emptyDict), (I, litO ml j), (bm, bmO S), (S, oS)]) ?_ (ms.length + 1 - i) ⟨_, _, _, i, rfl, Nat.le_refl _, hil, rfl, (fun q h1 h2 => absurd (Nat.lt_of_le_of_lt h1 h2) (Nat.lt_irrefl _)), F1, rfl, rfl, N1⟩)
  clear F1 N1
  rintro k s' ⟨h1, tk1, m', j, rfl, hij, hjl, rfl, hmem, F2, hm1, hm2, N2⟩
  replace F2 := know2 F2 hm1 hm2
  have nIx : x ≠ I := ne_cls N2 (.head _) (.tail _ (.tail _ (.head _))) rfl
  have nId : dx ≠ I := ne_cls N2 (.tail _ (.head _)) (.tail _ (.tail _ (.head _))) rfl
  have nIb : bm ≠ I := ne_cls N2 (.tail _ (.tail _ (.tail _ (.head _)))) (.tail _ (.tail _ (.head _))) rfl
  have nIS : S ≠ I := ne_cls N2 (.tail _ (.tail _ (.tail _ (.tail _ (.head _))))) (.tail _ (.tail _ (.head _))) (by rw [hcS.1]; rfl)
  k_steps
  by_cases hlt : j < ms.length
  · obtain ⟨y, hy, ty, hvy⟩ := strs_items hmS j vm[j] (by omega) (Array.getElem?_eq_getElem (by omega))
    refine nextL_item (l := ml) (i := j) (items := vm) (x := .str y ty) (N2.get (.tail _ (.tail _ (.head _)))) (hgm.at fun o e => F2.keep _ o e) (by rw [← hvy]; exact Array.getElem?_eq_getElem (by omega)) ?_
    intro h2 hI2 hsb
    have F3 := F2.change hsb (N2 _ (.tail _ (.tail _ (.head _)))).2.1 (N2 _ (.tail _ (.tail _ (.head _)))).2.2
    have N3 : News gb L' h2 [(x, ffO dx bm I), (dx, emptyDict), (I, litO ml (j + 1)), (bm, bmO S), (S, oS)] := by
      intro p hp
      simp only [List.mem_cons, List.mem_nil_iff, or_false] at hp
      rcases hp with r | r | r | r | r <;> subst r
      · have z := N2 _ (.head _); exact ⟨hsb.extBut _ _ nIx z.1, z.2⟩
      · have z := N2 _ (.tail _ (.head _)); exact ⟨hsb.extBut _ _ nId z.1, z.2⟩
      · have z := N2 _ (.tail _ (.tail _ (.head _))); exact ⟨hI2, z.2⟩
      · have z := N2 _ (.tail _ (.tail _ (.tail _ (.head _)))); exact ⟨hsb.extBut _ _ nIb z.1, z.2⟩
      · have z := N2 _ (.tail _ (.tail _ (.tail _ (.tail _ (.head _))))); exact ⟨hsb.extBut _ _ nIS z.1, z.2⟩
    clear F2 N2
    (try dsimp only at F3 N3 ⊢)
    k_steps
    rename Fr _ _ _ _ => F4
    rename News _ _ _ _ => N4
    refine callWith_bm (u := bm) (o := bmO S) rfl rfl ?_
    k_steps
    · exact N4.get (.tail _ (.tail _ (.tail _ (.head _))))
    refine call_bm (N4.get (.tail _ (.tail _ (.tail _ (.head _))))) (sset_up hS fun o e => by rw [hoS] at e; cases e; exact N4.get (.tail _ (.tail _ (.tail _ (.tail _ (.head _)))))) ?_
    intro tk9
    cases hany : l.any (· == y) with
    | true =>
      k_steps
      refine ⟨ms.length + 1 - (j + 1), by omega, _, _, _, j + 1, rfl, by omega, hlt, rfl, fun q q1 q2 y' hy' => ?_, F4, rfl, rfl, N4⟩
      by_cases hq : q = j
      · subst hq; rw [hy] at hy'; cases hy'; exact hany
      · exact hmem q q1 (by omega) y' hy'
    | false =>
      k_steps
      (try dsimp only)
      exact ret j y ty _ _ hij hy hany hmem (kend _ _ F4.keep N4) (N4.get (.tail _ (.tail _ (.head _))))
  · refine nextL_end (l := ml) (i := j) (items := vm) rfl (N2.get (.tail _ (.tail _ (.head _)))) (hgm.at fun o e => F2.keep _ o e) (by rw [Array.getElem?_eq_none]; omega) ?_
    intro h3 h4 e hsb hxe
    have F3 := F2.change hsb (N2 _ (.tail _ (.tail _ (.head _)))).2.1 (N2 _ (.tail _ (.tail _ (.head _)))).2.2
    have hjm : j = ms.length := by omega
    have kk3 : ∀ b o, b ≠ I → s.heap.get? b = some o → h3.get? b = some o := fun b o q e => hsb.extBut _ _ q (kend _ _ F2.keep N2 b o q e)
    refine PassesOwn.leaving _ _ ?_
    refine left_new (h := h3) (L := L') (outer := outer) rfl rfl (ff_cons (fun q => nomatch q) rfl F3.ns (ff_sub hFF fun b hb o q => kk3 b o (fun r => hfr b hb (by rw [r]; simp)) q)) hxe ?_
    intro h5 hU ho
    replace hU : UpTo (L' :: frs outer) h3 h5 := hU
    refine retE e h5 _ (fun q q1 y' hy' => hmem q q1 (by rw [hjm]; exact (List.getElem?_eq_some_iff.mp hy').1) y' hy') ⟨fun b o q1 q2 q3 => ?_, fun b o q1 q3 hnf => ?_⟩ ho
    · refine hU.1 b o (fun m => ?_) (kk3 b o (fun r => q1 (by rw [r]; exact List.mem_singleton.mpr rfl)) q3)
      rcases List.mem_cons.mp m with r | r
      · rw [r, hLn] at q3; cases q3
      · exact q2 r
    · exact hU.2 b o (kk3 b o (fun r => q1 (by rw [r]; exact List.mem_singleton.mpr rfl)) q3) hnf
end Mine
end
noncomputable section
namespace Mine
theorem filt_same {ms : List Str} {p : Str → Bool} {i : Nat} : ∀ (d : Nat), (∀ q, i ≤ q → q < i + d → ∀ y, ms[q]? = some y → p y = false) → (ms.take (i + d)).filter p = (ms.take i).filter p
  | 0, _ => rfl
  | d + 1, h => by
    have ih := filt_same (ms := ms) (p := p) (i := i) d fun q h1 h2 => h q h1 (by omega)
    rw [show i + (d + 1) = i + d + 1 by omega, List.take_add_one, List.filter_append, ih]
    cases hy : ms[i + d]? with
    | none => simp
    | some y => simp [h (i + d) (by omega) (by omega) y hy]
theorem filt_same' {ms : List Str} {p : Str → Bool} {i j : Nat} (hij : i ≤ j) (h : ∀ q, i ≤ q → q < j → ∀ y, ms[q]? = some y → p y = false) : (ms.take j).filter p = (ms.take i).filter p := by
  have := filt_same (ms := ms) (p := p) (i := i) (j - i) fun q h1 h2 => h q h1 (by omega)
  rwa [show i + (j - i) = j by omega] at this

def FFS (w : World) (outer : List Env) (x dx bm I ml S : Addr) (vm : Array Value) (ms l : List Str) (b0 : Heap) (k : Nat) (s : Shared) : Prop :=
  (∃ j, j ≤ ms.length ∧ ((ms.take j).filter fun y => !(l.any (· == y))).length = k ∧ s.heap.get? I = some (litO ml j)) ∧ s.heap.get? x = some (ffO dx bm I) ∧ s.heap.get? dx = some emptyDict ∧ s.heap.get? bm = some (bmO S) ∧
    s.heap.IsList ml vm ∧ SSet PySem.Challenge.rw_il0008_01.row.prog w s.heap S l ∧ FF s.heap outer ∧ b0.StaysIn s.heap

set_option maxHeartbeats 4000000 in
theorem ff_iter {w : World} {dp un : Nat} {fr : Option (List Env)} {gd : Option (List Code)} {s : Shared} {x : Addr} {Q E : Value → Shared → Prop} (hD : dp + 1 < recursionLimit) (hU : un + 6 < cLine)
    (G : Gd w s.heap) 
    (ret : ∀ h' tk, s.heap.StaysIn h' → Q (.ref x) { s with heap := h', toks := tk }) :
    wpAny (M w) (ar dp fr gd un) (call (.ref 97) [.ref x]) Q E s := by
  have G0 := G
  unfold M; revert G; unfold Gd; k_fill; intro G
  obtain ⟨X, mean, mg, mb, T⟩ := G
  refine wpAny_call ?_
  k_dflt (refine' enter (binds := [(Str.ofString "self", .ref x)]) X T.nolimit ?k6 ?k7 ?k8 ?k9 ?kB ?_ ?c2 ?c3 ?c4 ?c5; (case k6 => k_is); (case k7 => k_is); (case k8 => (dsimp only; omega)); (case k9 => exact BindsTo.of_eq rfl); (case c5 => decide); (case kB => exact locs rfl); (case c2 => exact rfl); (case c3 => exact rfl); (case c4 => exact rfl))
  intro g L' h' hg F' N' X'
  subst hg
  (try dsimp only)
  (try k_fold)
  k_steps
  exact ret _ _ (Fr.keep (by assumption))

theorem ff_inst {h : Heap} {x dx bm I : Addr} (hx : h.get? x = some (ffO dx bm I)) (hd : h.get? dx = some emptyDict) : W.InstAt h x (ffO dx bm I) 108 (some emptyDict) :=
  ⟨hx, rfl, rfl, hd⟩

set_option maxHeartbeats 4000000 in
theorem ff_find (w : World) : findIn (hd.heap_39 w.params) (.ref 108) "__next__" = some (some (.ref 104)) ∧ isFn (hd.heap_39 w.params) (.ref 104) = true ∧ findIn (hd.heap_39 w.params) (.ref 108) "__iter__" = some (some (.ref 97)) ∧ isFn (hd.heap_39 w.params) (.ref 97) = true ∧ findIn (hd.heap_39 w.params) (.ref 108) "__len__" = some none ∧ findIn (hd.heap_39 w.params) (.ref 108) "__length_hint__" = some none := by
  k_fill
  refine ⟨?_, ?_, ?_, ?_, ?_, ?_⟩ <;> k_is
end Mine
end
noncomputable section
namespace Mine
abbrev outP (ms l : List Str) : List Str := ms.filter fun y => !(l.any (· == y))

theorem ff_frame {w : World} {outer : List Env} {x dx bm I ml S : Addr} {vm : Array Value} {ms l : List Str} {b0 : Heap} {k : Nat} {s : Shared} {h' : Heap} {tk : Nat} (st : FFS w outer x dx bm I ml S vm ms l b0 k s)
    (hk : ∀ b ∈ x :: dx :: bm :: I :: ml :: S :: (frs outer ++ List.range b0.objs.size), ∀ o, s.heap.get? b = some o → h'.get? b = some o) : FFS w outer x dx bm I ml S vm ms l b0 k { s with heap := h', toks := tk } := by
  obtain ⟨⟨j, hj, hjk, hI⟩, hx, hdd, hbm, hm, hS, hff, hb⟩ := st
  refine ⟨⟨j, hj, hjk, hk I (by simp) _ hI⟩, hk x (by simp) _ hx, hk dx (by simp) _ hdd, hk bm (by simp) _ hbm, hm.at fun o e => hk ml (by simp) o e, sset_up hS fun o e => hk S (by simp) o e, ff_sub hff fun b hb o e => hk b (by simp [hb]) o e, fun b o e => hk b (by simp [Heap.lt_size e]) o (hb b o e)⟩

theorem ff_walkU {w : World} {dp un : Nat} {outer : List Env} {gd : Option (List Code)} {x dx bm I ml S : Addr} {vm : Array Value} {ms l : List Str} {b0 : Heap} (hD : dp + 10 < recursionLimit) (hU : un + 40 < cLine)
    (G : Gd w b0) (hb0 : ∀ q ∈ [x, dx, I, bm, S], b0.get? q = none) (hfr : ∀ b ∈ frs outer, b ∉ [x, dx, I, bm, S]) (hmS : StrsAre vm.toList ms) (hne : I ∉ [x, dx, bm, ml, S]) (hzd : b0.objs.size ≤ dx) :
    WalkU PySem.Challenge.rw_il0008_01.row.prog w (ar dp (some outer) gd un) x (x :: dx :: bm :: I :: ml :: S :: (frs outer ++ List.range b0.objs.size)) [I] (frs outer) AB (outP ms l).length (ancP (outP ms l) 0) (FFS w outer x dx bm I ml S vm ms l b0) := by
  have K1 := ff_find w
  have nIn : ∀ b, b ∈ [x, dx, bm, ml, S] → b ≠ I := fun b hb e => hne (e ▸ hb)
  refine ⟨?_, ?_, List.mem_cons_self .., (fun _ => AB.refl _), (fun _ _ _ x y => x.trans y), (fun i s h' tk st hk => ff_frame st hk), ?_, ?_, ?_, ?_, ?_⟩
  · intro b hb; rw [List.mem_singleton.mp hb]; simp
  · intro b hb; simp [hb]
  · intro k s Q E hk st hQ
    obtain ⟨⟨j, hj, hjk, hI⟩, hx, hdd, hbm, hm, hS, hff, hb⟩ := st
    have X : (hd.heap_39 w.params).In s.heap := G.1.keeps hb
    unfold pyNext
    refine wpAny_bind (wpAny_attempt (special_fn (name := "__next__") (args := []) X (ff_inst hx hdd) K1.1 (beq_iff_eq.mp K1.2.1) ?_))
    refine ffn_item (b0 := b0) (ml := ml) (S := S) (vm := vm) (ms := ms) (l := l) (i := j) hD hU G hb hb0 hx hdd hI hbm hm hmS hj hS hff hfr (fun j' y t h' tk q1 q2 q3 q4 q5 q6 => ?_) (fun e h' tk q1 _ _ => ?_)
    · have hlt : j' < ms.length := (List.getElem?_eq_some_iff.mp q2).1
      have e1 : (ms.take (j' + 1)).filter (fun y => !(l.any (· == y))) = (ms.take j).filter (fun y => !(l.any (· == y))) ++ [y] := by
        rw [List.take_add_one, List.filter_append, q2, filt_same' q1 fun q h1 h2 y hy => by rw [q4 q h1 h2 y hy]; rfl]
        simp [q3]
      have e2 : (outP ms l)[k]? = some y := by
        have h0 : outP ms l = (ms.take (j' + 1)).filter (fun y => !(l.any (· == y))) ++ (ms.drop (j' + 1)).filter (fun y => !(l.any (· == y))) := by
          rw [← List.filter_append, List.take_append_drop]
        rw [h0, e1, List.append_assoc, List.getElem?_append_right (by omega), hjk]; simp
      refine wpAny_pure (hQ _ h' tk s.gens ⟨y, t, e2, rfl⟩ ⟨⟨j' + 1, hlt, by rw [e1, List.length_append, hjk]; rfl, q6⟩, q5 _ _ (nIn x (by simp)) hx, q5 _ _ (nIn dx (by simp)) hdd, q5 _ _ (nIn bm (by simp)) hbm, hm.at fun o e => q5 _ _ (nIn ml (by simp)) e, sset_up hS fun o e => q5 _ _ (nIn S (by simp)) e,
        ff_sub hff fun b hbf o e => q5 _ _ (fun r => hfr b hbf (by rw [r]; simp)) e, fun b o e => q5 _ _ (fun r => by rw [r, hb0 I (by simp)] at e; cases e) (hb b o e)⟩ (UpX.of fun b o hn e => q5 b o (fun r => hn (by rw [r]; exact List.mem_singleton.mpr rfl)) e) (AB.refl _))
    · have : outP ms l = (ms.take j).filter (fun y => !(l.any (· == y))) := by
        have := filt_same' (ms := ms) (p := fun y => !(l.any (· == y))) hj fun q h1 _ y hy => by rw [q1 q h1 y hy]; rfl
        rwa [List.take_length] at this
      rw [this, hjk] at hk
      exact absurd hk (Nat.lt_irrefl _)
  · intro s Q E st hQ
    obtain ⟨⟨j, hj, hjk, hI⟩, hx, hdd, hbm, hm, hS, hff, hb⟩ := st
    have X : (hd.heap_39 w.params).In s.heap := G.1.keeps hb
    unfold pyNext
    refine wpAny_bind (wpAny_attempt (special_fn (name := "__next__") (args := []) X (ff_inst hx hdd) K1.1 (beq_iff_eq.mp K1.2.1) ?_))
    refine ffn_item (b0 := b0) (ml := ml) (S := S) (vm := vm) (ms := ms) (l := l) (i := j) hD hU G hb hb0 hx hdd hI hbm hm hmS hj hS hff hfr (fun j' y t h' tk q1 q2 q3 q4 q5 q6 => ?_) (fun e h' tk q1 hu ho => ?_)
    · have e1 : (ms.take (j' + 1)).filter (fun y => !(l.any (· == y))) = (ms.take j).filter (fun y => !(l.any (· == y))) ++ [y] := by
        rw [List.take_add_one, List.filter_append, q2, filt_same' q1 fun q h1 h2 y hy => by rw [q4 q h1 h2 y hy]; rfl]
        simp [q3]
      have h0 : outP ms l = (ms.take (j' + 1)).filter (fun y => !(l.any (· == y))) ++ (ms.drop (j' + 1)).filter (fun y => !(l.any (· == y))) := by
        rw [← List.filter_append, List.take_append_drop]
      have h1 := congrArg List.length h0
      rw [e1, List.length_append, List.length_append, hjk] at h1
      simp at h1
      omega
    · refine wpAny_bind (wpAny_isInstance (T := "StopIteration") (b := true) ho (by rw [isSubtype_type]; kernel_rfl) ?_)
      rw [if_pos rfl]
      exact wpAny_pure (hQ h' tk s.gens hu (AB.refl _))
  · intro k s Q E st hQ
    obtain ⟨_, hx, hdd, hbm, hm, hS, hff, hb⟩ := st
    have X : (hd.heap_39 w.params).In s.heap := G.1.keeps hb
    refine owit_iter (⟨ns_empty hdd, hb, hzd⟩ : Fr b0 dx s.heap _) G.1 (ff_inst hx hdd) K1.2.2.1 K1.2.2.2.1 ?_
    refine ff_iter (by omega) (by omega) (G.keeps hb) fun h' tk k => ?_
    unfold OwitIt
    exact wpAny_bind ((ff_inst (k _ _ hx) (k _ _ hdd)).type.here ((looks_findIn (X.keeps k) K1.1).here (hQ h' tk k)))
  · intro k s Q E st hQ
    obtain ⟨_, hx, hdd, _⟩ := st
    exact (ff_inst hx hdd).type.here (hQ _ (by decide) (by decide))
  · intro k s Q E st hQ
    obtain ⟨_, hx, hdd, hbm, hm, hS, hff, hb⟩ := st
    have X : (hd.heap_39 w.params).In s.heap := G.1.keeps hb
    unfold Builtin.List.listLengthHint
    refine wpAny_bind (wpAny_bind ((ff_inst hx hdd).type.here ((looks_findIn X K1.2.2.2.2.1).here ?_)))
    refine wpAny_bind (wpAny_bind ((ff_inst hx hdd).type.here ((looks_findIn X K1.2.2.2.2.2).here ?_)))
    exact wpAny_pure hQ
end Mine
end
noncomputable section
namespace Mine
section
variable {prog : Program} {w : World} {A : Around} {R : Result → Shared → Prop} {I : Addr} {fp ex fs : List Addr} {G : Array GenState → Array GenState → Prop} {n : Nat} {P : Nat → Value → Prop} {St : Nat → Shared → Prop}

theorem dictOf_up {ex fs : List Addr} {h h' : Heap} {D : Addr} {kvs : List (Str × Value)} (x : h.DictOf (PySem.strKind prog w) D kvs) (u : UpX ex fs h h') (h1 : D ∉ ex) (h2 : D ∉ fs) : h'.DictOf (PySem.strKind prog w) D kvs := by
  obtain ⟨o, es, ep, ho, r⟩ := x
  exact ⟨o, es, ep, u.1 D o h1 h2 ho, r⟩

theorem fk_loop (W : WalkU prog w A.in1 I fp ex fs G n P St) (D : Addr) (hDf : D ∉ fp) {ss : List Str} (hl : ss.length = n)
    (hval : ∀ i v, P i v → ∃ x t, ss[i]? = some x ∧ v = .str x t) (hb : n ≤ 16777216) :
    ∀ (k i : Nat) (s : Shared) (kvs : List (Str × Value)), n - i = k → i ≤ n → St i s → s.heap.DictOf (PySem.strKind prog w) D kvs → kvs.map (·.1) = fmS ss i →
      (∀ h' tk gs' kvs', G s.gens gs' → UpX (D :: ex) fs s.heap h' → h'.DictOf (PySem.strKind prog w) D kvs' → kvs'.map (·.1) = fmS ss n → R (.ok (.ret (.ref D))) { s with heap := h', toks := tk, gens := gs' }) →
      codeAny (model prog w) A (.builtin "dict.fromkeys.loop" ⟨[.ref D, .ref I, .none], []⟩) R s := by
  have hDe : D ∉ ex := fun h => hDf (W.sub _ h)
  have hDs : D ∉ fs := fun h => hDf (W.subf _ h)
  have hsub : ∀ b ∈ ex, b ∈ D :: ex := fun b hb => List.mem_cons_of_mem _ hb
  intro k
  induction k with
  | zero =>
    intro i s kvs hk hi hst hD hkv hR
    have hin : i = n := by omega
    subst hin
    refine codeAny_builtin fk_entry_loop ?_
    rw [Around.under_plainId fk_plain_loop _]
    show wpAny _ A.in1 (pyNext (.ref I) >>= _) _ _ s
    refine wpAny_bind (W.done s _ _ hst fun h' tk gs' hm hg => ?_)
    show wpAny _ A.in1 (ret (Value.ref D)) _ _ _
    exact wpAny_pure (hR h' tk gs' kvs hg (hm.mono hsub) (dictOf_up hD hm hDe hDs) hkv)
  | succ k ih =>
    intro i s kvs hk hi hst hD hkv hR
    have hlt : i < n := by omega
    refine codeAny_builtin fk_entry_loop ?_
    rw [Around.under_plainId fk_plain_loop _]
    show wpAny _ A.in1 (pyNext (.ref I) >>= _) _ _ s
    refine wpAny_bind (W.item i s _ _ hlt hst fun v h' tk gs' hP hst' hm hg => ?_)
    obtain ⟨x, t, hx, rfl⟩ := hval i v hP
    have hD' := dictOf_up hD hm hDe hDs
    show wpAny _ A.in1 (typeOf (.ref D) >>= _) _ _ _
    refine wpAny_bind (wpAny_typeOf hD'.typeIs ?_)
    rw [if_pos (by decide)]
    refine wpAny_bind (m := Builtin.Dict.addrOf (.ref D)) (wpAny_pure ?_)
    refine wpAny_bind (wpAny_holding ?_)
    have hkl : kvs.length ≤ sizeLine := by
      have := fmS_len ss i
      have e : kvs.length = (fmS ss i).length := by rw [← hkv, List.length_map]
      rw [PySem.sizeLine_eq]; omega
    refine wpAny_dictSet_pairs (hsz := hkl) (isS prog w x t) hD' fun h2 hD2 hsb => ?_
    refine wpAny_pure ⟨plainId_quiet fk_plain_loop _, ih (i + 1) _ _ (by omega) hlt (W.frame _ _ _ _ hst' fun b hb o e => ?_) hD2 (by rw [stored_keys, hkv, fmS_succ hx]) fun h3 tk3 gs3 kvs3 hg3 hm3 hD3 hk3 => ?_⟩
    · rw [hsb.2 b (fun h : b = D => hDf (by rw [← h]; exact hb))]; exact e
    · refine hR h3 tk3 gs3 kvs3 (W.gtrans _ _ _ hg hg3) ((hm.mono hsub).trans ((UpX.of fun b o hb e => ?_).trans hm3)) hD3 hk3
      rw [hsb.2 b (fun h : b = D => hb (by rw [h]; exact List.mem_cons_self))]; exact e
end

theorem call_fk {prog : Program} {w : World} {A : Around} {E : Value → Shared → Prop} {s : Shared} {a I : Addr} {fp ex fs : List Addr} {G : Array GenState → Array GenState → Prop} {n : Nat} {P : Nat → Value → Prop} {St : Nat → Shared → Prop} {Q : Value → Shared → Prop} (ho : s.heap.get? a = some fkO)
    (W : WalkU prog w A.in1 I fp ex fs G n P St) (hst : St 0 s) (hfp : ∀ b ∈ fp, b < s.heap.objs.size) {ss : List Str} (hl : ss.length = n) (hval : ∀ i v, P i v → ∃ x t, ss[i]? = some x ∧ v = .str x t) (hb : n ≤ 16777216)
    {T : Value} (hT : (T == Value.type "dict") = false ∧ (T == Value.type "set") = false ∧ (T == Value.type "frozenset") = false)
    (hty : ∀ i (s : Shared) (Q : Value → Shared → Prop) (E : Value → Shared → Prop), St i s → Q T s → wpAny (model prog w) A.in1 (typeOf (.ref I)) Q E s)
    (hQ : ∀ D h' tk gs' kvs', s.heap.get? D = none → s.heap.objs.size ≤ D → G s.gens gs' → UpX ex fs s.heap h' → h'.DictOf (PySem.strKind prog w) D kvs' → kvs'.map (·.1) = fmS ss n → Q (.ref D) { s with heap := h', toks := tk, gens := gs' }) :
    wpAny (model prog w) A (call (.ref a) [.ref I]) Q E s := by
  refine wpAny_call (codeAny_of_tree ?_)
  show wpAny _ _ (callAny (.ref a) ⟨[.ref I], []⟩) _ _ _
  unfold callAny
  refine wpAny_bind (wpAny_load ho ?_)
  have e1 : (fkO.cls == Value.type "method" || fkO.cls == Value.type "builtin_function_or_method" || fkO.cls == Value.type "method-wrapper") = true := rfl
  have e2 : (fkO.cls != Value.type "method") = true := rfl
  show wpAny _ _ (if (fkO.cls == Value.type "method" || fkO.cls == Value.type "builtin_function_or_method" || fkO.cls == Value.type "method-wrapper") = true then _ else _) _ _ _
  rw [if_pos e1]
  show wpAny _ _ (if (fkO.cls != Value.type "method") = true then (checkBoundCall "dict.fromkeys" ⟨[.type "dict", .ref I], []⟩ >>= fun _ => again (.builtin "dict.fromkeys" ⟨[.type "dict", .ref I], []⟩)) else _) _ _ _
  rw [if_pos e2]
  refine wpAny_bind (wpAny_of_eq (a := ()) (fk_check I) ?_)
  refine wpAny_pure ⟨plainId_quiet fk_plain _, codeAny_builtin fk_entry ?_⟩
  rw [Around.under_plainId fk_plain _]
  unfold Builtin.«dict.fromkeys»
  refine wpAny_bind (wpAny_of_eq (a := true) fk_type ?_)
  refine KFB.if_not rfl ?_
  refine wpAny_bind (wpAny_of_eq (a := true) PySem.F.kt_sub_dict ?_)
  refine KFB.if_not rfl ?_
  refine KFB.if_not rfl ?_
  refine wpAny_bind (wpAny_rule (wpAny_bind (wpAny_pure ?_)))
  dsimp only
  refine wpAny_bind (call_dict0 ?_)
  have kp : s.heap.StaysIn (s.heap.push { cls := .type "dict", data := .dict #[] }) := fun b o e => Heap.get?_push_of_some _ e
  have hD0 : (s.heap.push { cls := .type "dict", data := .dict #[] }).DictOf (PySem.strKind prog w) s.heap.objs.size [] := Heap.DictOf.new s.heap
  have hn : s.heap.get? s.heap.objs.size = none := Heap.get?_none_of_le (Nat.le_refl _)
  have hDf : s.heap.objs.size ∉ fp := fun hm => Nat.lt_irrefl _ (hfp _ hm)
  have hle : s.heap.objs.size ≤ s.heap.objs.size := Nat.le_refl _
  have hst1 := W.frame 0 s _ s.toks hst fun b _ o e => kp b o e
  generalize hDe : s.heap.objs.size = D at *
  generalize s.heap.push { cls := .type "dict", data := .dict #[] } = h1 at *
  refine wpAny_holding ?_
  refine wpAny_bind (hty 0 _ _ _ hst1 ?_)
  refine wpAny_bind (wpAny_typeOf (s := { s with heap := h1 }) hD0.typeIs ?_)
  rw [hT.1, Bool.and_false]
  refine KFB.if_not rfl ?_
  refine wpAny_bind (wpAny_typeOf (s := { s with heap := h1 }) hD0.typeIs ?_)
  rw [hT.2.1, hT.2.2, Bool.or_false, Bool.and_false]
  refine KFB.if_not rfl ?_
  refine wpAny_bind (W.self 0 _ _ _ hst1 fun h2 tk2 k2 => ?_)
  have hst2 := W.frame 0 _ h2 tk2 hst1 fun b _ o e => k2 b o e
  refine wpAny_pure ⟨plainId_quiet fk_plain_loop _, fk_loop W D hDf hl hval hb n 0 _ [] rfl (Nat.zero_le _) hst2 (let ⟨o, es, ep, ho, r⟩ := hD0; ⟨o, es, ep, k2 _ _ ho, r⟩) rfl fun h3 tk3 gs3 kvs3 hg3 hm3 hD3 hk3 => ?_⟩
  refine hQ D h3 tk3 gs3 kvs3 hn (Nat.le_refl _) hg3 ?_ hD3 hk3
  have kk : s.heap.StaysIn h2 := fun b o e => k2 b o (kp b o e)
  refine ⟨fun b o h1 h2 e => ?_, fun b o h1 e hnf => ?_⟩
  · refine hm3.1 b o (fun m => ?_) h2 (kk b o e)
    rcases List.mem_cons.mp m with r | r
    · rw [r, hn] at e; cases e
    · exact h1 r
  · refine hm3.2 b o (fun m => ?_) (kk b o e) hnf
    rcases List.mem_cons.mp m with r | r
    · rw [r, hn] at e; cases e
    · exact h1 r
end Mine
end
noncomputable section
namespace Mine
theorem strs_of_at : ∀ (vs : List Value) (ks : List Str), vs.length = ks.length → (∀ (j : Nat) (v : Value), vs[j]? = some v → ∃ k t, ks[j]? = some k ∧ v = .str k t) → StrsAre vs ks
  | [], [], _, _ => .nil
  | v :: vs, k :: ks, hl, h => by
    obtain ⟨k', t, e, rfl⟩ := h 0 v rfl
    simp only [List.getElem?_cons_zero, Option.some.injEq] at e
    subst e
    exact .cons _ _ (strs_of_at vs ks (by simpa using hl) fun j u hu => by simpa using h (j + 1) u (by simpa using hu))
  | [], _ :: _, hl, _ => by simp at hl
  | _ :: _, [], hl, _ => by simp at hl
theorem list_dict {prog : Program} {w : World} {A : Around} {E : Value → Shared → Prop} {s : Shared} {D : Addr} {kvs : List (Str × Value)} {Q : Value → Shared → Prop} (hD : s.heap.DictOf (PySem.strKind prog w) D kvs) (lo : (D == sysModules) = false) (hh : A.handled = none) (hn : kvs.length ≤ 16777216)
    (hQ : ∀ h' tk acc c, s.heap.StaysIn h' → h'.get? s.heap.objs.size = some (lstO acc c) → StrsAre acc.toList (kvs.map (·.1)) → Q (.ref s.heap.objs.size) { s with heap := h', toks := tk }) :
    wpAny (model prog w) A (call (.type "list") [.ref D]) Q E s := by
  obtain ⟨ep, hat⟩ := hD.dictAt
  refine kdl_call (kdl_dict (knd := PySem.strKind prog w) (kvs := kvs) (ep := ep) lo) hh hat (by rw [PySem.sizeLine_eq]; exact hn) fun h' tk acc c hk hD' hacc => ?_
  refine hQ h' tk acc c hk hD' (strs_of_at _ _ (by rw [Array.length_toList, List.length_map]; exact hacc.1) fun j v hv => ?_)
  obtain ⟨k, x, hx, hi⟩ := hacc.2 j v (by rw [← Array.getElem?_toList]; exact hv)
  obtain ⟨t, rfl⟩ := Value.isStrOf_shape hi
  exact ⟨k, t, by rw [List.getElem?_map, hx]; rfl, rfl⟩
end Mine
end
noncomputable section
namespace Mine

local macro_rules | `(tactic| walk_at "exec For Name Name cons nil") => `(tactic| (k_here; (with_unfolding_all refine' for_G ?k1 ?k2 ?_; (case k1 => exact rfl); (case k2 => exact rfl))))
local macro_rules | `(tactic| walk_at "exec For Name Call cons nil") => `(tactic| (k_here; (with_unfolding_all refine' for_G ?k1 ?k2 ?_; (case k1 => exact rfl); (case k2 => exact rfl))))

theorem itF_anc {y : Str} (h : y.length ≤ 16) : Anc (Txt.rstripChars y slash) (ancS y) ∧ (ancS y).length ≤ 100 ∧ ∀ z ∈ ancS y, z.length ≤ 16 :=
  ⟨ancS_anc (Nat.le_trans h (by decide)), Nat.le_trans (ancS_len y) (Nat.le_trans h (by decide)), fun _ hz => Nat.le_trans (ancS_mem hz) h⟩
def impliedF (ns : List Str) : List Str := (outP (ns.flatMap fun y => ((ancS y).drop 1).map (· ++ Str.ofString "/")) (fmS ns ns.length)).foldl ddS []
theorem fmS_all (ss : List Str) : fmS ss ss.length = ss.foldl ddS [] := by unfold fmS; rw [List.take_length]

set_option maxHeartbeats 8000000 in
theorem implied_spec {w : World} {dp un : Nat} {outer : List Env} {gd : Option (List Code)} {s : Shared} {Q E : Value → Shared → Prop} {b0 : Heap} {nl : Addr} {vn : Array Value} {ns : List Str} (hD : dp + 60 < recursionLimit) (hU : un + 200 < cLine)
    (G : Gd w b0) (k0 : b0.StaysIn s.heap) (z0 : b0.objs.size ≤ s.heap.objs.size) (hFF : FF s.heap outer) (hfb : ∀ b ∈ frs outer, b0.get? b = none) (hnf : nl ∉ frs outer)
    (hn : s.heap.IsList nl vn) (hnS : StrsAre vn.toList ns) (hok : NmOk 10 ns)
    (ret : ∀ r acc c h' tk gs', AB s.gens gs' → UpX [] (frs outer) s.heap h' → s.heap.get? r = none → h'.get? r = some (lstO acc c) → StrsAre acc.toList (impliedF ns) → Q (.ref r) { s with heap := h', toks := tk, gens := gs' }) :
    wpAny (M w) (ar dp (some outer) gd un) (call (.ref 253) [.ref nl]) Q E s := by
  have G0 := G
  unfold M; revert G; unfold Gd; k_fill; intro G
  obtain ⟨X, mean, mg, mb, T⟩ := G
  refine wpAny_call ?_
  k_dflt (refine' enterH (frs outer) [] (binds := [(Str.ofString "names", .ref nl)]) (X.keeps k0) (T.nolimit.keeps k0) ?hq ?k6 ?k7 ?k8 ?k9 ?kB ?_ ?c2 ?c3 ?c4 ?c5; (case k6 => k_is); (case k7 => k_is); (case k8 => (dsimp only; omega)); (case k9 => exact BindsTo.of_eq rfl); (case c5 => decide); (case kB => exact locs rfl); (case c2 => exact rfl); (case c3 => exact rfl); (case c4 => exact rfl))
  case hq => exact fun _ h => nomatch h
  intro gb L' h' hgb F' N' kk hLn
  have kg : b0.StaysIn gb := by rw [hgb]; exact stays_hid k0 hfb
  have X' := X.keeps kg
  have T' := T.keeps kg
  have hgn : gb.IsList nl vn := by obtain ⟨o, ho, r⟩ := hn; exact ⟨o, by rw [hgb]; exact hideAll_get _ ho hnf, r⟩
  have hgf : ∀ p ∈ frs outer, gb.get? p = none := fun p hp => by rw [hgb]; exact hideAll_none _ hp
  have hsL : s.heap.objs.size ≤ L' := by have := F'.above; rw [hgb, hideAll_size] at this; exact this
  have up1 : UpX [] (frs outer) s.heap h' := (UpX.refl _ _ _).stays kk
  (try dsimp only)
  (try k_fold)
  k_steps
  refine assign_nest (w := w) (dp := dp + 1) (un := un + 3) (Dd := dp + 30) (U := un + 100) (env := envOf _ _ L' _ _) (outer := outer) (s0 := s.heap) (g := gb) (b0 := b0) (nl := nl) (vn := vn) (ns := ns) (by omega) (by omega) (by omega) (by omega) G0 kg hfb (Nat.le_trans z0 hsL) (by exact (by decide : ScopeKind.function ≠ ScopeKind.module)) rfl rfl hFF hgf hsL hgn hnS hok.2.1
    (by with_unfolding_all rfl) (by rfl) (by decide) (by rfl) (by decide) (by rfl) (by rfl) (by rfl) (by rfl) ancS (fun y hy => (itF_anc (hok.2.2 y hy).1).2.1) (fun y => y ++ Str.ofString "/") ?_ ?_ F' up1 ?_ (by intro _; rfl) (by intro _ _; rfl) ?_
  · intro C y t s1 m1 Q1 E1 hy hCL hgC F1 hC1 hm1 q1
    obtain ⟨oC, hoC, hNs⟩ := LCg.ns_obj hC1
    have N1 : News gb L' s1.heap [(C, oC)] := by intro p hp; rw [List.mem_singleton.mp hp]; exact ⟨hoC, hCL, hgC⟩
    have hyl := (hok.2.2 y hy).1
    have kF := F1.keep
    clear F' N' up1
    k_steps
    exact parents_spec (w := w) (D := dp + 30) (U := un + 100) (b0 := b0) (by omega) (by omega) (by omega) (by omega) G0 (fun b o e => kF b o (kg b o e)) (Nat.le_trans z0 (Nat.le_trans hsL (Nat.le_of_lt F1.ns.lt))) (by omega) (itF_anc hyl).1 (fun x dx ag Cg h' gs tk p1 p2 p3 p4 p5 p6 _ p7 => q1 x dx ag Cg h' gs tk p1 p2 p3 p4 p5 p6 p7)
  · intro C y t s1 m1 Q1 E1 hy hCL hgC F1 hC1 hm1 q1
    obtain ⟨oC, hoC, hNs⟩ := LCg.ns_obj hC1
    have N1 : News gb L' s1.heap [(C, oC)] := by intro p hp; rw [List.mem_singleton.mp hp]; exact ⟨hoC, hCL, hgC⟩
    obtain ⟨z, hz, hyz⟩ := hy
    have hyl := (itF_anc (hok.2.2 z hz).1).2.2 y (List.mem_of_mem_drop hyz)
    clear F' N' up1
    k_steps
    exact q1 _ _
  · intro Q2 q2
    k_steps
    exact q2 _
  · intro D h2 tk2 gs2 ys hG2 F2 hD2 hDL hgD hsD up2 hS2 hyz
    clear F' N' up1
    k_steps
    have N2 : News gb L' h2 [(D, LCg.lst ys)] := by intro p hp; rw [List.mem_singleton.mp hp]; exact ⟨hD2, hDL, hgD⟩
    have h148 : gb.get? 148 = some fkO := X' _ _ (by k_is)
    have hl2 : h2.IsList D ys.toArray := ⟨_, hD2, rfl, _, rfl⟩
    have hyA : StrsAre ys.toArray.toList (ns.flatMap fun y => ((ancS y).drop 1).map (· ++ Str.ofString "/")) := by simpa using hS2
    generalize hms : (ns.flatMap fun y => ((ancS y).drop 1).map (· ++ Str.ofString "/")) = ms at *
    refine callWith_bm (u := 148) (o := fkO) rfl rfl ?_
    k_steps
    have kb2 : b0.StaysIn h2 := fun b o e => F2.keep b o (kg b o e)
    refine diff_spec (w := w) (ml := D) (sl := nl) (vs := vn) (ss := ns) (by show dp + 1 + 20 < _; omega) (by show un + 3 + 60 < _; omega) (G0.keeps kb2) hl2 (hgn.at fun o e => F2.keep _ o e) hnS hok.2.1 ?_
    intro x dx I S bm h3 tk3 k3 hS1 hS2 hS3 hS4 hS5 hxo hdo hIo hbo hSS
    have F3 := fr_up F2 k3
    have N3 := news_up N2 k3
    (try dsimp only at hS1 k3)
    k_steps
    have hxs : ∀ (q : Addr) (o : Obj), h3.get? q = some o → q < h3.objs.size := fun q o e => Heap.lt_size e
    have ltL : L' < h2.objs.size := F2.ns.lt
    have ff3 : FF h3 outer := (up2.stays k3).ff hFF (fun p _ q => nomatch q)
    have ff2 : FF h2 outer := up2.ff hFF (fun p _ q => nomatch q)
    have ltf : ∀ b ∈ frs outer, b < h2.objs.size := by
      intro b hb
      obtain ⟨env', he, hf⟩ := List.mem_filterMap.mp hb
      obtain ⟨L₁, o₁, hf₁, ho₁⟩ := funFrames_in ff2 env' he
      rw [hf₁] at hf; cases hf
      first | exact Heap.lt_size ho₁ | exact Heap.lt_size ho₁.1 | (obtain ⟨ho₁, _⟩ := ho₁; exact Heap.lt_size ho₁)
    have hzb : b0.objs.size ≤ h2.objs.size := Nat.le_trans z0 (Nat.le_trans hsL (Nat.le_of_lt ltL))
    have ltD : D < h2.objs.size := Heap.lt_size hD2
    have new : ∀ q, h2.objs.size ≤ q → b0.get? q = none ∧ gb.get? q = none ∧ q ≠ L' ∧ q ≠ D ∧ q ∉ frs outer ∧ s.heap.get? q = none := fun q hq =>
      ⟨Heap.get?_none_of_le (Nat.le_trans hzb hq), Heap.get?_none_of_le (Nat.le_trans F2.above (Nat.le_trans (Nat.le_of_lt ltL) hq)), Nat.ne_of_gt (Nat.lt_of_lt_of_le ltL hq), Nat.ne_of_gt (Nat.lt_of_lt_of_le ltD hq), fun m => absurd (Nat.lt_of_lt_of_le (ltf q m) hq) (Nat.lt_irrefl _), Heap.get?_none_of_le (Nat.le_trans hsL (Nat.le_trans (Nat.le_of_lt ltL) hq))⟩
    have gB : h2.objs.size ≤ bm := Nat.le_trans hS1 (Nat.le_of_lt hS2)
    have gd' : h2.objs.size ≤ dx := Nat.le_trans gB (Nat.le_of_lt hS3)
    have gx : h2.objs.size ≤ x := Nat.le_trans gd' (Nat.le_of_lt hS4)
    have gI : h2.objs.size ≤ I := Nat.le_trans gx (Nat.le_of_lt hS5)
    have all5 : ∀ q ∈ [x, dx, I, bm, S], h2.objs.size ≤ q := by
      intro q hq
      simp only [List.mem_cons, List.mem_nil_iff, or_false] at hq
      rcases hq with r | r | r | r | r <;> rw [r] <;> assumption
    have hIn : I ∉ [x, dx, bm, D, S] := by
      simp only [List.mem_cons, List.mem_nil_iff, or_false, not_or]
      exact ⟨Nat.ne_of_gt hS5, Nat.ne_of_gt (Nat.lt_trans hS4 hS5), Nat.ne_of_gt (Nat.lt_trans hS3 (Nat.lt_trans hS4 hS5)), (new I gI).2.2.2.1, Nat.ne_of_gt (Nat.lt_trans hS2 (Nat.lt_trans hS3 (Nat.lt_trans hS4 hS5)))⟩
    have kb3 : b0.StaysIn h3 := fun b o e => k3 b o (kb2 b o e)
    have hmz : ms.length ≤ 2000 := by have := hyA.length; simp at this; omega
    have hoz : (outP ms (fmS ns ns.length)).length ≤ 16777216 := Nat.le_trans (List.length_filter_le _ _) (Nat.le_trans hmz (by decide))
    refine call_fk (ss := outP ms (fmS ns ns.length)) (T := .ref 108) (F3.keep _ _ h148) (ff_walkU (w := w) (dp := dp + 1) (un := un + 4) (outer := envOf _ _ L' _ _ :: outer) (gd := gd) (x := x) (dx := dx) (bm := bm) (I := I) (ml := D) (S := S) (vm := ys.toArray) (ms := ms) (l := fmS ns ns.length) (b0 := b0) (by omega) (by omega) G0 (fun q hq => (new q (all5 q hq)).1) ?hfr hyA hIn (Nat.le_trans hzb gd')) ?hst ?hfp rfl ?hval hoz ⟨rfl, rfl, rfl⟩ ?hty ?hQ
    case hfr =>
      intro b hb hm
      have h5 := new b (all5 b hm)
      rcases List.mem_cons.mp hb with r | r
      · exact h5.2.2.1 r
      · exact h5.2.2.2.2.1 r
    case hst =>
      exact ⟨⟨0, Nat.zero_le _, by simp, hIo⟩, hxo, hdo, hbo, hl2.at fun o e => k3 _ _ e, hSS, ff_cons (fun q => nomatch q) rfl F3.ns ff3, kb3⟩
    case hfp =>
      intro b hb
      simp only [List.mem_cons, List.mem_append, List.mem_range] at hb
      have sz : h2.objs.size ≤ h3.objs.size := by
        have := hxs x _ hxo
        exact Nat.le_of_lt (Nat.lt_of_le_of_lt gx this)
      rcases hb with r | r | r | r | r | r | r | r
      · rw [r]; exact hxs _ _ hxo
      · rw [r]; exact hxs _ _ hdo
      · rw [r]; exact hxs _ _ hbo
      · rw [r]; exact hxs _ _ hIo
      · rw [r]; exact Nat.lt_of_lt_of_le ltD sz
      · rw [r]; obtain ⟨oS, _, _, _, hoS, _⟩ := hSS; exact hxs _ _ hoS
      · rcases List.mem_cons.mp r with q | q
        · rw [q]; exact Nat.lt_of_lt_of_le ltL sz
        · exact Nat.lt_of_lt_of_le (ltf b q) sz
      · exact Nat.lt_of_lt_of_le r (Nat.le_trans hzb sz)
    case hval => exact fun i v hv => by obtain ⟨y, t, hy, e⟩ := hv; exact ⟨y, t, hy, e⟩
    case hty => exact fun i s Q E st hq => (ff_inst st.2.1 st.2.2.1).type.here hq
    case hQ =>
      intro Dk h4 tk4 gs4 kvs hDn hDle hG4 hu hDk hkv
      replace hu : UpX [I] (L' :: frs outer) h3 h4 := hu
      have F4 := fr_upx F3 hu (fun p hp => by rw [List.mem_singleton.mp hp]; exact ⟨(new I gI).2.1, (new I gI).2.2.1⟩) hgf
      have up4 : UpX [] (frs outer) s.heap h4 := (up2.stays k3).step hu (fun p hp => by rw [List.mem_singleton.mp hp]; exact (new I gI).2.2.2.2.2) (Heap.get?_none_of_le hsL)
      have N4 : News gb L' h4 [] := fun p hp => nomatch hp
      have hlo : (Dk == sysModules) = false := by
        have h9 : 148 < h3.objs.size := hxs _ _ (F3.keep _ _ h148)
        have h10 : 148 < Dk := Nat.lt_of_lt_of_le h9 hDle
        rw [beq_eq_false_iff_ne]
        exact Nat.ne_of_gt (Nat.lt_trans (by decide : (1 : Nat) < 148) h10)
      have hkl : kvs.length ≤ 16777216 := by
        have e : kvs.length = (fmS (outP ms (fmS ns ns.length)) (outP ms (fmS ns ns.length)).length).length := by rw [← hkv, List.length_map]
        rw [e]; exact Nat.le_trans (fmS_len _ _) hoz
      clear F3 N3 N2 F2
      k_steps
      refine list_dict hDk hlo rfl hkl ?_
      intro h5 tk5 acc c5 k5 hls hS5'
      have F5 := fr_up F4 k5
      have N5 := news_up N4 k5
      have hrn : s.heap.get? h4.objs.size = none := Heap.get?_none_of_le (Nat.le_trans hsL (Nat.le_of_lt F4.ns.lt))
      have up5 := up4.stays k5
      generalize h4.objs.size = r5 at *
      clear F4 N4
      (try dsimp only at F5 N5 ⊢)
      k_steps
      refine ret r5 acc c5 h5 _ _ (hG2.trans hG4) up5 hrn hls ?_
      rw [hkv, fmS_all] at hS5'
      unfold impliedF
      rw [hms]
      exact hS5'
end Mine
end
noncomputable section
namespace Mine

local macro_rules | `(tactic| walk_at "exec For Name Name cons nil") => `(tactic| (k_here; (with_unfolding_all refine' for_G ?k1 ?k2 ?_; (case k1 => exact rfl); (case k2 => exact rfl))))
local macro_rules | `(tactic| walk_at "exec For Name Call cons nil") => `(tactic| (k_here; (with_unfolding_all refine' for_G ?k1 ?k2 ?_; (case k1 => exact rfl); (case k2 => exact rfl))))
local macro_rules | `(tactic| walk_at "exec Assign cons ListComp") => `(tactic| (k_here; k_dflt (refine LCt.Assign_ListComp_T (F₀ := by k_asm) (by rfl) (by with_unfolding_all rfl) (by with_unfolding_all rfl) (by decide) (by rfl) (by decide) (by rfl) (by rfl) (by rfl) ?_)))

def endP (ns : List Str) (h : Str) : Bool := (Txt.slice h (some (-1)) none == Str.ofString "/") && !([Str.ofString "", Str.ofString "/"].any fun x => x == Txt.slice h (some (-2)) (some (-1))) && !(ns.any fun x => x == h)
theorem endP_0 {ns : List Str} {h : Str} (a : (Txt.slice h (some (-1)) none == Str.ofString "/") = false) : endP ns h = false := by unfold endP; rw [a]; rfl
theorem endP_1 {ns : List Str} {h : Str} (a : ([Str.ofString "", Str.ofString "/"].any fun x => x == Txt.slice h (some (-2)) (some (-1))) = true) : endP ns h = false := by unfold endP; rw [a]; simp
theorem endP_2 {ns : List Str} {h : Str} (a : (ns.any fun x => x == h) = true) : endP ns h = false := by unfold endP; rw [a]; simp
theorem endP_3 {ns : List Str} {h : Str} (a : (Txt.slice h (some (-1)) none == Str.ofString "/") = true) (b : ([Str.ofString "", Str.ofString "/"].any fun x => x == Txt.slice h (some (-2)) (some (-1))) = false) (c : (ns.any fun x => x == h) = false) : endP ns h = true := by unfold endP; rw [a, b, c]; rfl
def subF (a b x y : Str) : Bool := if (a == b && x == y) = true then true else if (a != b) = true then false else Txt.startswith y (prefixF x)
def fStep (whole : Str) (fs : List Str) (h : Str) : List Str := if (fs.any fun x => x == h) = true then fs else if subF (Str.ofString "h") (Str.ofString "h") h whole = true then fs ++ [h] else fs
def fRow (ends : List Str) (fs : List Str) (name : Str) : List Str := ends.foldl (fStep (Txt.rstripChars name (Str.ofString "/"))) fs
def foldersF (ns hs : List Str) : List Str := ns.foldl (fRow (hs.filter (endP ns))) []
set_option maxHeartbeats 8000000 in
theorem folders_spec {w : World} {dp un : Nat} {fr : Option (List Env)} {gd : Option (List Code)} {s : Shared} {Q E : Value → Shared → Prop} {b0 : Heap} {x dx d nl hl : Addr} {t : Tok} {vn vh : Array Value} {ns hs : List Str} (hD : dp + 10 < recursionLimit) (hU : un + 60 < cLine)
    (G : Gd w b0) (k0 : b0.StaysIn s.heap) (hx0 : b0.get? x = none) (hdx0 : b0.get? dx = none) (hx : s.heap.get? x = some (instObj 201 dx)) (hdo : s.heap.get? dx = some (mgrD w t d))
    (hn : s.heap.IsList nl vn) (hnS : StrsAre vn.toList ns) (hok : NmOk 10 ns) (hh : s.heap.IsList hl vh) (hhS : StrsAre vh.toList hs) (hhz : hs.length ≤ 1000) (hhb : ∀ y ∈ hs, y.length ≤ 100)
    (ret : ∀ l vs' c h' tk, s.heap.StaysIn h' → h'.get? l = some { cls := .type "list", data := .seq vs' c } → StrsAre vs'.toList (foldersF ns hs) → Q (.ref l) { s with heap := h', toks := tk }) :
    wpAny (M w) (ar dp fr gd un) (call (.ref 258) [.ref x, .ref nl, .ref hl]) Q E s := by
  have G0 := G
  unfold M; revert G; unfold Gd; k_fill; intro G
  obtain ⟨X, mean, mg, mb, T⟩ := G
  have hb0 : ∀ q ∈ [x, dx], b0.get? q = none := by
    intro q hq
    rcases List.mem_cons.mp hq with r | r
    · rw [r]; exact hx0
    · rw [List.mem_singleton.mp r]; exact hdx0
  have hnx : nl ∉ [x, dx] := by
    intro hm
    obtain ⟨o, ho, hc, c, hd⟩ := hn
    rcases List.mem_cons.mp hm with r | r
    · rw [r, hx] at ho; cases ho; cases hd
    · rw [List.mem_singleton.mp r, hdo] at ho; cases ho; cases hd
  have hhx : hl ∉ [x, dx] := by
    intro hm
    obtain ⟨o, ho, hc, c, hd⟩ := hh
    rcases List.mem_cons.mp hm with r | r
    · rw [r, hx] at ho; cases ho; cases hd
    · rw [List.mem_singleton.mp r, hdo] at ho; cases ho; cases hd
  refine wpAny_call ?_
  k_dflt (refine' enterCH [x, dx] [(x, instObj 201 dx), (dx, mgrD w t d)] (binds := [(Str.ofString "manager", .ref x), (Str.ofString "names", .ref nl), (Str.ofString "heads", .ref hl)]) (X.keeps k0) (T.nolimit.keeps k0) ?hq ?k6 ?k7 ?k8 ?k9 ?kB ?kC ?_ ?c2 ?c3 ?c4; (case k6 => k_is); (case k7 => k_is); (case k8 => (dsimp only; omega)); (case k9 => exact BindsTo.of_eq rfl); (case kC => decide +kernel); (case c2 => exact rfl); (case c3 => exact rfl); (case c4 => exact rfl))
  case hq =>
    intro p hp
    rcases List.mem_cons.mp hp with e | hp
    · subst e; exact ⟨hx, List.mem_cons_self ..⟩
    · rw [List.mem_singleton.mp hp]; exact ⟨hdo, by simp⟩
  case kB =>
    intro n y hy
    simp only [List.mem_cons, List.mem_nil_iff, or_false] at hy
    rcases hy with r | r | r <;> rw [r]
    · exact .inl rfl
    · exact .inr ⟨rfl, rfl⟩
    · exact .inl rfl
  intro gb L' h' tk0 cells hgb F' N' Y kk hnlt
  obtain ⟨oc, hcl, hoc⟩ := CellsAre.one Y
  subst hcl
  clear Y
  have kg : b0.StaysIn gb := by rw [hgb]; exact stays_hid k0 hb0
  have X' := X.keeps kg
  have T' := T.keeps kg
  have TR := topRead_of T'
  replace hoc : oc.data = .cell (some (.ref nl)) := hoc
  replace F' : Fr gb L' h' (fun y => if y = Str.ofString "heads" then some (.ref hl) else if y = Str.ofString "manager" then some (.ref x) else none) := F'
  have hgn : gb.IsList nl vn := by obtain ⟨o, ho, r⟩ := hn; exact ⟨o, by rw [hgb]; exact hideAll_get _ ho hnx, r⟩
  have hgh : gb.IsList hl vh := by obtain ⟨o, ho, r⟩ := hh; exact ⟨o, by rw [hgb]; exact hideAll_get _ ho hhx, r⟩
  have kend : ∀ h2, gb.StaysIn h2 → h2.get? x = some (instObj 201 dx) → h2.get? dx = some (mgrD w t d) → s.heap.StaysIn h2 := by
    intro h2 k2 e1 e2 b o e
    by_cases hbx : b = x
    · rw [hbx] at e ⊢; rw [hx] at e; cases e; exact e1
    · by_cases hbd : b = dx
      · rw [hbd] at e ⊢; rw [hdo] at e; cases e; exact e2
      · refine k2 b o ?_
        rw [hgb]
        refine hideAll_get _ e (fun hm => ?_)
        rcases List.mem_cons.mp hm with r | r
        · exact hbx r
        · exact hbd (List.mem_singleton.mp r)
  have hhl : vh.size = hs.length := by have := hhS.length; simpa using this
  have hnl : vn.size = ns.length := by have := hnS.length; simpa using this
  (try dsimp only [List.cons_append, List.nil_append] at N')
  clear hgb kk X T hn hh
  (try dsimp only)
  (try k_fold)
  k_steps
  rename Fr _ _ _ _ => F1
  rename News _ _ _ _ => N1
  have hi0 : True ∧ StrsAre vn.toList ns := ⟨trivial, hnS⟩
  refine LCt.CompSrcT.base rfl F1 N1 hgh (by rw [PySem.sizeLine_eq]; omega) (fun gg => ?_)
  refine restT_gen (items := hs) hhl.symm (fun a v => ∃ t, v = .str a t) (strs_items hhS) (endP ns) id (fun b v => ∃ t, v = .str b t) StrsAre .nil acc_strs ?_ ?_
  · rintro a v I oI C oC D m₂ ys h tk E' hy ⟨t, rfl⟩ hC hx F N off ne
    have hyl := hhb a hy
    clear F1 N1
    k_steps
    all_goals (
      rename Fr _ _ _ _ => F8
      rename News _ _ _ _ => N8
      refine LCg.CompEnd.intro F8 N8 _ (fun _ h => by first | exact h | exact List.mem_cons_of_mem _ h) off (.inl hgh) ⟨rfl, ?_⟩
      first | exact endP_1 (by assumption) | exact endP_2 (by assumption) | exact ⟨endP_3 (by assumption) (by assumption) (by assumption), _, rfl⟩ | exact endP_0 (by assumption))
  · intro ys hys D h tk F N off
    rw [List.map_id] at hys
    have hyl : ys.length = (hs.filter (endP ns)).length := hys.length
    have hel : (hs.filter (endP ns)).length ≤ 1000 := Nat.le_trans (List.length_filter_le _ _) hhz
    have heb : ∀ y ∈ hs.filter (endP ns), y.length ≤ 100 := fun y hy => hhb y (List.mem_filter.mp hy).1
    generalize hends : hs.filter (endP ns) = ends at *
    clear F1 N1
    k_steps
    rename Fr _ _ _ _ => F2
    rename News _ _ _ _ => N2
    obtain ⟨lf, rfl⟩ := first_addr N2
    have hofl : ∀ p ∈ [(D, LCg.lst ys), (L' + 1, oc), (x, instObj 201 dx), (dx, mgrD w t d)], p.1 ≠ lf := by
      have h4 : D < lf ∧ L' + 1 < lf ∧ x < lf ∧ dx < lf := by assumption
      intro p hp
      simp only [List.mem_cons, List.mem_nil_iff, or_false] at hp
      rcases hp with r | r | r | r <;> rw [r]
      · exact Nat.ne_of_lt h4.1
      · exact Nat.ne_of_lt h4.2.1
      · exact Nat.ne_of_lt h4.2.2.1
      · exact Nat.ne_of_lt h4.2.2.2
    refine iter_listB (g := gb) (Inv := fun i gs m nx => gs = s.gens ∧ ∃ vs' c, nx = [(lf, { cls := .type "list", data := .seq vs' c }), (D, LCg.lst ys), (L' + 1, oc), (x, instObj 201 dx), (dx, mgrD w t d)] ∧ vs'.size ≤ 1000 * i ∧ StrsAre vs'.toList ((ns.take i).foldl (fRow ends) []) ∧ m (Str.ofString "folders") = some (.ref lf) ∧ m (Str.ofString "ends") = some (.ref D) ∧ m (Str.ofString "manager") = some (.ref x)) rfl F2 N2 hgn ⟨rfl, _, _, rfl, Nat.zero_le _, .nil, rfl, rfl, rfl⟩ ⟨?_, ?_⟩
    · rintro i v gs m nx h2 tk2 I oI hlt hv ⟨rfl, vs', c, rfl, hzs, hS, hm, hm2, hm3⟩ F3 N3 hI
      obtain ⟨a, ha, tt, rfl⟩ := strs_items hi0.2 i v hlt hv
      have hT : (ns.take (i + 1)).foldl (fRow ends) [] = fRow ends ((ns.take i).foldl (fRow ends) []) a := by
        rw [List.take_add_one, ha]; simp
      have hal := (hok.2.2 a (List.mem_of_getElem? ha)).1
      have hal1 : a.length ≤ 16 := hal
      have hi16 : i < 13 := by have := hok.2.1; omega
      generalize (ns.take i).foldl (fRow ends) [] = fs0 at *
      clear F2 N2
      replace F3 := known3 F3 hm hm2 hm3
      have hlI : lf ≠ I := hI _ (.head _)
      k_steps
      rename Fr _ _ _ _ => F4
      rename News _ _ _ _ => N4
      have hwl : (Txt.rstripChars a (Str.ofString "/")).length ≤ 100 := by omega
      generalize hwh : Txt.rstripChars a (Str.ofString "/") = whole at *
      have hmD : (D, ({ cls := .type "list", data := .seq ys.toArray ys.length } : Obj)) ∈ [(I, oI), (lf, { cls := .type "list", data := .seq vs' c }), (D, LCg.lst ys), (L' + 1, oc), (x, instObj 201 dx), (dx, mgrD w t d)] := .tail _ (.tail _ (.head _))
      refine iter_listN (g := gb) (Inv := fun j gs m nx => gs = s.gens ∧ ∃ vs' c t1, nx = [(I, oI), (lf, { cls := .type "list", data := .seq vs' c }), (D, LCg.lst ys), (L' + 1, oc), (x, instObj 201 dx), (dx, mgrD w t d)] ∧ vs'.size ≤ 1000 * i + j ∧ StrsAre vs'.toList ((ends.take j).foldl (fStep whole) fs0) ∧ m (Str.ofString "folders") = some (.ref lf) ∧ m (Str.ofString "ends") = some (.ref D) ∧ m (Str.ofString "manager") = some (.ref x) ∧ m (Str.ofString "whole") = some (.str whole t1)) rfl F4 N4 hmD ?_ ⟨rfl, _, _, _, rfl, by omega, hS, rfl, rfl, rfl, rfl⟩ ⟨?_, ?_⟩
      · rintro j gs m nx ⟨_, vs', c, t1, rfl, _⟩
        exact .tail _ (.tail _ (.head _))
      · rintro j v gs m nx h2 tk2 I2 oI2 hlt2 hv2 ⟨rfl, vs', c, t3, rfl, hzs2, hS2, hm, hm2, hm3, hm4⟩ F5 N5 hI2
        obtain ⟨e, he, te, rfl⟩ := strs_items (vs := ys.toArray) (ss := ends) (by simpa using hys) j v hlt2 hv2
        have hjl : j < 1000 := by rw [List.size_toArray] at hlt2; omega
        have hT2 : (ends.take (j + 1)).foldl (fStep whole) fs0 = fStep whole ((ends.take j).foldl (fStep whole) fs0) e := by
          rw [List.take_add_one, he]; simp
        have hel2 := heb e (List.mem_of_getElem? he)
        generalize (ends.take j).foldl (fStep whole) fs0 = fs1 at *
        clear F4 N4
        replace F5 := known4 F5 hm hm2 hm3 hm4
        have hlI2 : lf ≠ I2 := hI2 _ (.tail _ (.head _))
        have hz20 : vs'.size ≤ 20000 := by omega
        have hoff : ∀ p ∈ [(D, LCg.lst ys), (L' + 1, oc), (x, instObj 201 dx), (dx, mgrD w t d)], p.1 ≠ lf := hofl
        have hI2' : ∀ (o : Obj), ∀ p ∈ [(I, oI), (lf, o), (D, LCg.lst ys), (L' + 1, oc), (x, instObj 201 dx), (dx, mgrD w t d)], p.1 ≠ I2 := fun o p hp => by
          rcases List.mem_cons.mp hp with r | hp
          · rw [r]; exact hI2 _ (.head _)
          · rcases List.mem_cons.mp hp with r | hp
            · rw [r]; exact hlI2
            · exact hI2 p (.tail _ (.tail _ hp))
        k_steps
        · rename Fr _ _ _ _ => F6
          rename News _ _ _ _ => N6
          refine TurnP.next F6 N6 (hI2' _) ⟨rfl, _, _, _, rfl, by omega, ?_, rfl, rfl, rfl, rfl⟩
          rw [hT2]; unfold fStep; rw [if_pos (by assumption)]
          exact hS2
        · rename Fr _ _ _ _ => F6
          rename News _ _ _ _ => N6
          have hany : True ∧ (fs1.any fun x => x == e) = false := ⟨trivial, by assumption⟩
          refine suburi_spec (w := w) (by dsimp only; omega) (by dsimp only; omega) (G0.keeps fun b o q => F6.keep b o (kg b o q)) hel2 hwl ⟨_, N6.get (.tail _ (.head _)), rfl, _, rfl⟩ ⟨_, N6.get (.head _), rfl, _, rfl⟩ ?_
          intro h7 tk7 k7
          have F7 := fr_up F6 k7
          have N7 := news_up N6 k7
          clear F6 N6
          (try dsimp only at F7 N7 ⊢)
          generalize hsub : (if (Str.ofString "h" == Str.ofString "h" && e == whole) = true then true else if (Str.ofString "h" != Str.ofString "h") = true then false else Txt.startswith whole (prefixF e)) = bsub
          have hsub' : subF (Str.ofString "h") (Str.ofString "h") e whole = bsub := hsub
          clear hsub
          cases bsub with
          | true =>
            k_steps
            rename Fr _ _ _ _ => F8
            rename News _ _ _ _ => N8
            refine append_K F8 N8 (Upd.tail (ne_cls N8 (.head _) (.tail _ (.tail _ (.tail _ (.tail _ (.head _))))) rfl) (Upd.tail (ne_cls N8 (.tail _ (.head _)) (.tail _ (.tail _ (.tail _ (.tail _ (.head _))))) rfl) (Upd.tail (Ne.symm hlI2) (Upd.tail (Ne.symm hlI) (Upd.head hoff))))) (fun h5 F9 N9 => ?_) (by rw [PySem.sizeLine_eq]; omega)
            clear F8 N8
            k_steps
            rename Fr _ _ _ _ => F8
            rename News _ _ _ _ => N8
            refine TurnP.next (news' := [(I, oI), (lf, { cls := .type "list", data := .seq (vs'.push (.str e te)) (c + 1) }), (D, LCg.lst ys), (L' + 1, oc), (x, instObj 201 dx), (dx, mgrD w t d)]) F8 (fun p hp => N8 p (by first | exact hp | exact .tail _ hp | exact .tail _ (.tail _ hp))) (hI2' _) ⟨rfl, _, _, _, rfl, by rw [Array.size_push]; omega, ?_, rfl, rfl, rfl, rfl⟩
            rw [hT2]; unfold fStep; rw [if_neg (by rw [hany.2]; decide), if_pos hsub']
            exact strsAre_push hS2
          | false =>
            k_steps
            rename Fr _ _ _ _ => F8
            rename News _ _ _ _ => N8
            refine TurnP.next (news' := [(I, oI), (lf, { cls := .type "list", data := .seq vs' c }), (D, LCg.lst ys), (L' + 1, oc), (x, instObj 201 dx), (dx, mgrD w t d)]) F8 (fun p hp => N8 p (by first | exact hp | exact .tail _ hp | exact .tail _ (.tail _ hp))) (hI2' _) ⟨rfl, _, _, _, rfl, by omega, ?_, rfl, rfl, rfl, rfl⟩
            rw [hT2]; unfold fStep; rw [if_neg (by rw [hany.2]; decide), if_neg (by rw [hsub']; decide)]
            exact hS2
      · rintro gs m nx h2 tk2 ⟨rfl, vs', c, t3, rfl, hzs2, hS2, hm, hm2, hm3, hm4⟩ F5 N5
        rw [List.size_toArray, hyl, List.take_length] at hS2
        rw [show ys.toArray.size = ends.length by rw [List.size_toArray, hyl]] at hzs2
        clear F4 N4
        replace F5 := know3 F5 hm hm2 hm3
        k_steps
        rename Fr _ _ _ _ => F6
        rename News _ _ _ _ => N6
        refine TurnP.next F6 N6 (fun p hp => ?_) ⟨rfl, _, _, rfl, by omega, ?_, rfl, rfl, rfl⟩
        · rcases List.mem_cons.mp hp with r | hp
          · rw [r]; exact hlI
          · exact hI p (.tail _ hp)
        · rw [hT]; unfold fRow; rw [hwh]; exact hS2
    · rintro gs m nx h2 tk2 ⟨rfl, vs', c, rfl, hzs, hS, hm, hm2, hm3⟩ F3 N3
      rw [hnl, List.take_length] at hS
      clear F2 N2
      replace F3 := know3 F3 hm hm2 hm3
      k_steps
      rename Fr _ _ _ _ => F9
      rename News _ _ _ _ => N9
      exact ret lf vs' c _ _ (kend _ F9.keep (N9.get (.tail _ (.tail _ (.tail _ (.head _))))) (N9.get (.tail _ (.tail _ (.tail _ (.tail _ (.head _))))))) (N9.get (.head _)) (by unfold foldersF; rw [hends]; exact hS)
end Mine
end
noncomputable section
namespace Mine

local macro_rules | `(tactic| walk_at "exec For Name Name cons nil") => `(tactic| (k_here; (with_unfolding_all refine' for_G ?k1 ?k2 ?_; (case k1 => exact rfl); (case k2 => exact rfl))))
local macro_rules | `(tactic| walk_at "exec For Name Call cons nil") => `(tactic| (k_here; (with_unfolding_all refine' for_G ?k1 ?k2 ?_; (case k1 => exact rfl); (case k2 => exact rfl))))
local macro_rules | `(tactic| walk_at "eval ListComp") => `(tactic| (k_here; k_dflt (refine LCg.ListComp_U (F₀ := by k_asm) (by rfl) (by decide) (by rfl) (by decide) (by rfl) ?_)))

structure PSt where
  res : List Str
  part : Str
  esc : Bool
  quo : Bool
def pStep (st : PSt) (x : Str) : PSt :=
  if st.esc = true then { st with part := st.part ++ x, esc := false }
  else if st.quo = true then
    if (x == Str.ofString "\\") = true then { st with esc := true } else if (x == Str.ofString "\"") = true then { st with quo := false, part := st.part ++ x } else { st with part := st.part ++ x }
  else if (x == Str.ofString ",") = true then { st with res := st.res ++ [st.part], part := Str.ofString "" }
  else if (x == Str.ofString "\"") = true then { st with quo := true, part := st.part ++ x } else { st with part := st.part ++ x }
abbrev sg (c : Nat) : Str := { cps := #[c] }
def pFold (cs : List Nat) : PSt := cs.foldl (fun st c => pStep st (sg c)) ⟨[], Str.ofString "", false, false⟩
theorem pFold_take {cs : List Nat} {i c : Nat} (h : cs[i]? = some c) : pFold (cs.take (i + 1)) = pStep (pFold (cs.take i)) (sg c) := by
  unfold pFold; rw [List.take_add_one, h]; simp
def parseF (x : Str) : List Str := (if (pFold x.cps.toList).part.length = 0 then (pFold x.cps.toList).res else (pFold x.cps.toList).res ++ [(pFold x.cps.toList).part]).map Txt.strip
def PInv (s : Shared) (lh : Addr) (st : PSt) (i : Nat) (gs : Array GenState) (m : Str → Option Value) (nx : List (Addr × Obj)) : Prop :=
  gs = s.gens ∧ ∃ vs' c t, nx = [(lh, { cls := .type "list", data := .seq vs' c })] ∧ vs'.size ≤ i ∧ st.part.length ≤ i ∧ StrsAre vs'.toList st.res ∧ (∀ y ∈ st.res, y.length ≤ i) ∧ m (Str.ofString "res") = some (.ref lh) ∧ m (Str.ofString "part") = some (.str st.part t) ∧ m (Str.ofString "escape") = some (.bool st.esc) ∧ m (Str.ofString "quote") = some (.bool st.quo)
theorem app1_len (x : Str) (c : Nat) : (x ++ sg c).length = x.length + 1 := by
  rw [← L_len, L_app, List.length_append, L_len]; rfl

set_option maxHeartbeats 4000000 in
theorem parse_spec {w : World} {dp un : Nat} {fr : Option (List Env)} {gd : Option (List Code)} {s : Shared} {x : Str} {t : Tok} {Q E : Value → Shared → Prop} (hD : dp + 5 < recursionLimit) (hU : un + 40 < cLine)
    (G : Gd w s.heap) (hx : x.length ≤ 200)
    (ret : ∀ D ys h' tk, s.heap.StaysIn h' → s.heap.get? D = none → h'.get? D = some (LCg.lst ys) → StrsAre ys (parseF x) → (parseF x).length ≤ 201 → (∀ y ∈ parseF x, y.length ≤ 200) → Q (.ref D) { s with heap := h', toks := tk }) :
    wpAny (M w) (ar dp fr gd un) (call (.ref 210) [.str x t]) Q E s := by
  have G0 := G
  unfold M; revert G; unfold Gd; k_fill; intro G
  obtain ⟨X, mean, mg, mb, T⟩ := G
  refine wpAny_call ?_
  k_dflt (refine' enter (binds := [(Str.ofString "s", .str x t)]) X T.nolimit ?k6 ?k7 ?k8 ?k9 ?kB ?_ ?c2 ?c3 ?c4 ?c5; (case k6 => k_is); (case k7 => k_is); (case k8 => (dsimp only; omega)); (case k9 => exact BindsTo.of_eq rfl); (case c5 => decide); (case kB => exact locs rfl); (case c2 => exact rfl); (case c3 => exact rfl); (case c4 => exact rfl))
  intro g L' h' hg F' N' X'
  subst hg
  (try dsimp only)
  (try k_fold)
  k_steps
  rename Fr _ _ _ _ => F1
  rename News _ _ _ _ => N1
  obtain ⟨lh, rfl⟩ := first_addr N1
  refine iter_strS (g := s.heap) (Inv := fun i gs m nx => PInv s lh (pFold (x.cps.toList.take i)) i gs m nx) rfl F1 N1 ⟨rfl, _, _, _, rfl, Nat.zero_le _, Nat.zero_le _, .nil, (fun _ h => nomatch h), rfl, rfl, rfl, rfl⟩ ⟨?_, ?_⟩
  · rintro i v gs m nx h2 tk2 I oI hlt ⟨c, u, hc, rfl⟩ ⟨rfl, vs', c', t1, rfl, hzs, hpl, hS, hb, hm, hm2, hm3, hm4⟩ F2 N2 hI
    have hlI : lh ≠ I := hI _ (List.mem_singleton.mpr rfl)
    have hlt200 : i < 200 := Nat.lt_of_lt_of_le hlt hx
    have hT := pFold_take (show x.cps.toList[i]? = some c by simpa using hc)
    generalize pFold (x.cps.toList.take i) = st at *
    obtain ⟨res, part, esc, quo⟩ := st
    dsimp only at hpl hS hb hm2 hm3 hm4
    clear F1 N1
    replace F2 := known4 F2 hm hm2 hm3 hm4
    have hsz1 : part.length + (sg c).length ≤ sizeLine := by
      have : (sg c).length = 1 := rfl
      rw [this, PySem.sizeLine_eq]; omega
    have hb1 : ∀ y ∈ res, y.length ≤ i + 1 := fun y hy => Nat.le_succ_of_le (hb y hy)
    have hb2 : ∀ y ∈ res ++ [part], y.length ≤ i + 1 := fun y hy => by
      rcases List.mem_append.mp hy with q | q
      · exact hb1 y q
      · rw [List.mem_singleton.mp q]; omega
    have hI3 : ∀ (o : Obj), ∀ p ∈ [(lh, o)], p.1 ≠ I := fun o p hp => by rw [List.mem_singleton.mp hp]; exact hlI
    cases esc with
    | true =>
      k_steps
      (try dsimp only)
      rename Fr _ _ _ _ => F6
      rename News _ _ _ _ => N6
      have hT' := hT.trans (show pStep ⟨res, part, true, quo⟩ (sg c) = ⟨res, part ++ sg c, false, quo⟩ from by simp [pStep, *])
      refine TurnP.cont F6 N6 (hI3 _) ?_
      show PInv _ _ (pFold _) _ _ _ _
      rw [hT']
      exact ⟨rfl, _, _, _, rfl, (by first | omega | (rw [Array.size_push]; omega)), (by first | (rw [app1_len]; omega) | (show part.length ≤ _; omega) | exact Nat.zero_le _), (by first | exact hS | exact strsAre_push hS), (by first | exact hb1 | exact hb2), rfl, rfl, rfl, rfl⟩
    | false =>
      cases quo with
      | true =>
        k_steps
        · (try dsimp only)
          rename Fr _ _ _ _ => F6
          rename News _ _ _ _ => N6
          have hT' := hT.trans (show pStep ⟨res, part, false, true⟩ (sg c) = ⟨res, part, true, true⟩ from by simp [pStep, *])
          refine TurnP.cont F6 N6 (hI3 _) ?_
          show PInv _ _ (pFold _) _ _ _ _
          rw [hT']
          exact ⟨rfl, _, _, _, rfl, (by first | omega | (rw [Array.size_push]; omega)), (by first | (rw [app1_len]; omega) | (show part.length ≤ _; omega) | exact Nat.zero_le _), (by first | exact hS | exact strsAre_push hS), (by first | exact hb1 | exact hb2), rfl, rfl, rfl, rfl⟩
        · (try dsimp only)
          rename Fr _ _ _ _ => F6
          rename News _ _ _ _ => N6
          have hT' := hT.trans (show pStep ⟨res, part, false, true⟩ (sg c) = ⟨res, part ++ sg c, false, false⟩ from by simp [pStep, *])
          refine TurnP.cont F6 N6 (hI3 _) ?_
          show PInv _ _ (pFold _) _ _ _ _
          rw [hT']
          exact ⟨rfl, _, _, _, rfl, (by first | omega | (rw [Array.size_push]; omega)), (by first | (rw [app1_len]; omega) | (show part.length ≤ _; omega) | exact Nat.zero_le _), (by first | exact hS | exact strsAre_push hS), (by first | exact hb1 | exact hb2), rfl, rfl, rfl, rfl⟩
        · (try dsimp only)
          rename Fr _ _ _ _ => F6
          rename News _ _ _ _ => N6
          have hT' := hT.trans (show pStep ⟨res, part, false, true⟩ (sg c) = ⟨res, part ++ sg c, false, true⟩ from by simp [pStep, *])
          refine TurnP.cont F6 N6 (hI3 _) ?_
          show PInv _ _ (pFold _) _ _ _ _
          rw [hT']
          exact ⟨rfl, _, _, _, rfl, (by first | omega | (rw [Array.size_push]; omega)), (by first | (rw [app1_len]; omega) | (show part.length ≤ _; omega) | exact Nat.zero_le _), (by first | exact hS | exact strsAre_push hS), (by first | exact hb1 | exact hb2), rfl, rfl, rfl, rfl⟩
      | false =>
        k_steps
        · rename Fr _ _ _ _ => F5
          rename News _ _ _ _ => N5
          refine append_second F5 N5 (Ne.symm hlI) (fun _ h => nomatch h) (fun h5 F6 N6 => ?_) (by rw [PySem.sizeLine_eq]; omega)
          clear F5 N5
          k_steps
          (try dsimp only)
          rename Fr _ _ _ _ => F6
          rename News _ _ _ _ => N6
          have hT' := hT.trans (show pStep ⟨res, part, false, false⟩ (sg c) = ⟨res ++ [part], Str.ofString "", false, false⟩ from by simp [pStep, *])
          refine TurnP.cont F6 N6 (hI3 _) ?_
          show PInv _ _ (pFold _) _ _ _ _
          rw [hT']
          exact ⟨rfl, _, _, _, rfl, (by first | omega | (rw [Array.size_push]; omega)), (by first | (rw [app1_len]; omega) | (show part.length ≤ _; omega) | exact Nat.zero_le _), (by first | exact hS | exact strsAre_push hS), (by first | exact hb1 | exact hb2), rfl, rfl, rfl, rfl⟩
        · (try dsimp only)
          rename Fr _ _ _ _ => F6
          rename News _ _ _ _ => N6
          have hT' := hT.trans (show pStep ⟨res, part, false, false⟩ (sg c) = ⟨res, part ++ sg c, false, true⟩ from by simp [pStep, *])
          refine TurnP.next F6 N6 (hI3 _) ?_
          show PInv _ _ (pFold _) _ _ _ _
          rw [hT']
          exact ⟨rfl, _, _, _, rfl, (by first | omega | (rw [Array.size_push]; omega)), (by first | (rw [app1_len]; omega) | (show part.length ≤ _; omega) | exact Nat.zero_le _), (by first | exact hS | exact strsAre_push hS), (by first | exact hb1 | exact hb2), rfl, rfl, rfl, rfl⟩
        · (try dsimp only)
          rename Fr _ _ _ _ => F6
          rename News _ _ _ _ => N6
          have hT' := hT.trans (show pStep ⟨res, part, false, false⟩ (sg c) = ⟨res, part ++ sg c, false, false⟩ from by simp [pStep, *])
          refine TurnP.next F6 N6 (hI3 _) ?_
          show PInv _ _ (pFold _) _ _ _ _
          rw [hT']
          exact ⟨rfl, _, _, _, rfl, (by first | omega | (rw [Array.size_push]; omega)), (by first | (rw [app1_len]; omega) | (show part.length ≤ _; omega) | exact Nat.zero_le _), (by first | exact hS | exact strsAre_push hS), (by first | exact hb1 | exact hb2), rfl, rfl, rfl, rfl⟩
  · rintro gs m nx h2 tk2 ⟨rfl, vs', c', t1, rfl, hzs, hpl, hS, hb, hm, hm2, hm3, hm4⟩ F2 N2
    rw [show x.cps.size = x.cps.toList.length by simp, List.take_length] at hpl hS hb hm2 hm3 hm4
    have hz200 : vs'.size ≤ 200 := Nat.le_trans hzs hx
    generalize hst : pFold x.cps.toList = st at *
    obtain ⟨res, part, esc, quo⟩ := st
    dsimp only at hpl hS hb hm2 hm3 hm4
    clear F1 N1
    replace F2 := know4 F2 hm hm2 hm3 hm4
    have hpl2 : part.length ≤ 200 := Nat.le_trans hpl (by rw [Array.length_toList]; exact hx)
    k_steps
    · rename Fr _ _ _ _ => F7
      rename News _ _ _ _ => N7
      have hbb : ∀ y ∈ res ++ [part], y.length ≤ 200 := fun y hy => by
        rcases List.mem_append.mp hy with q | q
        · exact Nat.le_trans (hb y q) (by rw [Array.length_toList]; exact hx)
        · rw [List.mem_singleton.mp q]; exact hpl2
      have hSS : StrsAre (vs'.push (.str part t1)).toList (res ++ [part]) := strsAre_push hS
      have hlr : (res : List Str).length ≤ 200 := by have := hS.length; simp at this; omega
      have hpp : parseF x = (res ++ [part]).map Txt.strip := by unfold parseF; rw [hst]; simp_all
      refine LCg.CompSrc.ledger rfl F7 N7 (.head _) (by have := hSS.length; rw [PySem.sizeLine_eq]; simp at this ⊢; omega) (fun gg => ?_)
      refine rest_gen (items := res ++ [part]) (by have := hSS.length; simp at this ⊢; omega) (fun a v => ∃ t, v = .str a t) (strs_items hSS) (fun y => Txt.strip y) (fun b v => ∃ t, v = .str b t) StrsAre .nil acc_strs ?_ ?_
      · rintro y v I oI C oC D m₂ ys h tk E' hy ⟨t, rfl⟩ hC hx F N off ne
        have hyl := hbb y hy
        clear F7 N7
        k_steps
        rename Fr _ _ _ _ => F8
        rename News _ _ _ _ => N8
        exact LCg.CompEnd.intro F8 N8 _ (fun _ h => h) off (.inr ⟨_, .head _, rfl, _, rfl⟩) ⟨rfl, _, rfl⟩
      · intro ys hys D h tk F N off
        clear F7 N7
        (try dsimp only)
        refine ret D ys _ _ F.keep (N _ (.head _)).2.2 (N.get (.head _)) (by rw [hpp]; exact hys) (by rw [hpp]; simp; omega) (fun y hy => ?_)
        rw [hpp] at hy
        obtain ⟨z, hz, rfl⟩ := List.mem_map.mp hy
        exact Nat.le_trans (fact_strip z) (hbb z hz)
    · rename Fr _ _ _ _ => F7
      rename News _ _ _ _ => N7
      have hbb : ∀ y ∈ res, y.length ≤ 200 := fun y hy => Nat.le_trans (hb y hy) (by rw [Array.length_toList]; exact hx)
      have hSS : StrsAre (vs').toList (res) := hS
      have hlr : (res : List Str).length ≤ 200 := by have := hS.length; simp at this; omega
      have hpp : parseF x = (res).map Txt.strip := by unfold parseF; rw [hst]; simp_all
      refine LCg.CompSrc.ledger rfl F7 N7 (.head _) (by have := hSS.length; rw [PySem.sizeLine_eq]; simp at this ⊢; omega) (fun gg => ?_)
      refine rest_gen (items := res) (by have := hSS.length; simp at this ⊢; omega) (fun a v => ∃ t, v = .str a t) (strs_items hSS) (fun y => Txt.strip y) (fun b v => ∃ t, v = .str b t) StrsAre .nil acc_strs ?_ ?_
      · rintro y v I oI C oC D m₂ ys h tk E' hy ⟨t, rfl⟩ hC hx F N off ne
        have hyl := hbb y hy
        clear F7 N7
        k_steps
        rename Fr _ _ _ _ => F8
        rename News _ _ _ _ => N8
        exact LCg.CompEnd.intro F8 N8 _ (fun _ h => h) off (.inr ⟨_, .head _, rfl, _, rfl⟩) ⟨rfl, _, rfl⟩
      · intro ys hys D h tk F N off
        clear F7 N7
        (try dsimp only)
        refine ret D ys _ _ F.keep (N _ (.head _)).2.2 (N.get (.head _)) (by rw [hpp]; exact hys) (by rw [hpp]; simp; omega) (fun y hy => ?_)
        rw [hpp] at hy
        obtain ⟨z, hz, rfl⟩ := List.mem_map.mp hy
        exact Nat.le_trans (fact_strip z) (hbb z hz)
end Mine
end
noncomputable section
namespace Mine

local macro_rules | `(tactic| walk_at "exec For Name Name cons nil") => `(tactic| (k_here; (with_unfolding_all refine' for_G ?k1 ?k2 ?_; (case k1 => exact rfl); (case k2 => exact rfl))))
local macro_rules | `(tactic| walk_at "exec For Name Call cons nil") => `(tactic| (k_here; (with_unfolding_all refine' for_G ?k1 ?k2 ?_; (case k1 => exact rfl); (case k2 => exact rfl))))
local macro_rules | `(tactic| walk_at "eval ListComp") => `(tactic| (k_here; k_dflt (refine LCg.ListComp_U (F₀ := by k_asm) (by rfl) (by decide) (by rfl) (by decide) (by rfl) ?_)))

theorem replaceT {prog : Program} {w : World} {A : Around} {E : Value → Shared → Prop} {s : Shared} {x y z : Str} {t u v : Tok} {Q : Value → Shared → Prop} (hu : @Ne Nat u 0) (hv : @Ne Nat v 0) (huv : @Ne Nat u v) (hyz : (y == z) = false) (hx : x.length ≤ 1048576) (hz : z.length ≤ 14)
    (hq : ∀ t' k, s.toks ≤ k → Q (.str (Txt.replace x y z) t') { s with toks := k }) : wpAny (model prog w) A (call (.builtin "str.replace") [.str x t, .str y u, .str z v]) Q E s :=
  wpAny_with_toks (Nat.le_refl _) (SC.replaceW hu hv huv hyz hx hz fun t' k hk => hq t' k hk)
local macro_rules | `(tactic| walk_at "call builtin:str.replace") => `(tactic| (k_dflt (refine' replaceT ?ra ?rb ?rc ?rd ?re ?rf ?_; (case ra => ((try simp only [List.length_cons, List.length_nil]); omega)); (case rb => ((try simp only [List.length_cons, List.length_nil]); omega)); (case rc => ((try simp only [List.length_cons, List.length_nil]); omega)); (case rd => decide +kernel); (case re => omega); (case rf => decide +kernel)); intro tR kR hkR; (try simp only [List.length_cons, List.length_nil] at hkR)))

def HoldT (n : Nat) (P : Prop) (k : Nat) : Prop := n ≤ k → P
theorem execs_toks {M : Model} {A : Around} {E : Value → Shared → Prop} {s : Shared} {st : Stmt} {rest : List Stmt} {env : Env} {Q : Flow → Shared → Prop} {n : Nat} (hn : n ≤ s.toks)
    (h : wpAny M A (exec st env) (fun f s' => HoldT n (match f with | .next => wpAny M A (execs rest env) Q E s' | f => Q f s') s'.toks) (fun e s' => n ≤ s'.toks → E e s') s) : wpAny M A (execs (st :: rest) env) Q E s :=
  wpAny_execs_cons (wpAny_with_toks hn h)
abbrev heldF (x : Str) : Str := Txt.replace (Txt.replace x (Str.ofString "\\") (Str.ofString "\\\\")) (Str.ofString "\"") (Str.ofString "\\\"")
abbrev quotF (x : Str) : Str := Str.ofString "\"" ++ Txt.replace (heldF x) (Str.ofString "/") (Str.ofString "\",\"") ++ Str.ofString "\""
def piecesF (x : Str) : List Str := (parseF (quotF x)).map fun p => Txt.slice p (some 1) (some (-1))
theorem slice_len (x : Str) (l u : Option Int) : (Txt.slice x l u).length ≤ x.length := by
  rw [← L_len, slice_L, ← L_len]; simp only [List.length_take, List.length_drop]; omega
theorem lit_bs : Str.ofString "\\" = ⟨#[92]⟩ := by decide +kernel
theorem lit_qt : Str.ofString "\"" = ⟨#[34]⟩ := by decide +kernel
theorem held1_len {x : Str} (hx : x.length ≤ 16) : (Txt.replace x (Str.ofString "\\") (Str.ofString "\\\\")).length ≤ 32 := by
  rw [lit_bs]; exact Nat.le_trans (replace_len x _ 92 2 (by decide +kernel) (by decide)) (by omega)
theorem held_len {x : Str} (hx : x.length ≤ 16) : (heldF x).length ≤ 64 := by
  have h1 := held1_len hx
  unfold heldF
  rw [lit_qt]; exact Nat.le_trans (replace_len _ _ 34 2 (by decide +kernel) (by decide)) (by omega)
theorem held3_len {x : Str} (hx : x.length ≤ 16) : (Txt.replace (heldF x) (Str.ofString "/") (Str.ofString "\",\"")).length ≤ 192 := by
  have h1 := held_len hx
  rw [lit_slash]; exact Nat.le_trans (replace_len _ _ 47 3 (by decide +kernel) (by decide)) (by omega)
theorem quot_len {x : Str} (hx : x.length ≤ 16) : (quotF x).length ≤ 200 := by
  have h1 := held3_len hx
  unfold quotF
  rw [← L_len, L_app, L_app, List.length_append, List.length_append, L_len, L_len]
  have : (Str.ofString "\"").length = 1 := by decide +kernel
  omega

set_option maxHeartbeats 4000000 in
theorem pieces_spec {w : World} {dp un : Nat} {fr : Option (List Env)} {gd : Option (List Code)} {s : Shared} {x : Str} {t : Tok} {Q E : Value → Shared → Prop} (hD : dp + 10 < recursionLimit) (hU : un + 60 < cLine)
    (G : Gd w s.heap) (hx : x.length ≤ 16)
    (ret : ∀ D ys h' tk, s.heap.StaysIn h' → s.heap.get? D = none → h'.get? D = some (LCg.lst ys) → StrsAre ys (piecesF x) → (piecesF x).length ≤ 201 → (∀ y ∈ piecesF x, y.length ≤ 200) → Q (.ref D) { s with heap := h', toks := tk }) :
    wpAny (M w) (ar dp fr gd un) (call (.ref 229) [.str x t]) Q E s := by
  have G0 := G
  unfold M; revert G; unfold Gd; k_fill; intro G
  obtain ⟨X, mean, mg, mb, T⟩ := G
  refine wpAny_call ?_
  k_dflt (refine' enter (binds := [(Str.ofString "name", .str x t)]) X T.nolimit ?k6 ?k7 ?k8 ?k9 ?kB ?_ ?c2 ?c3 ?c4 ?c5; (case k6 => k_is); (case k7 => k_is); (case k8 => (dsimp only; omega)); (case k9 => exact BindsTo.of_eq rfl); (case c5 => decide); (case kB => exact locs rfl); (case c2 => exact rfl); (case c3 => exact rfl); (case c4 => exact rfl))
  intro g L' h' hg F' N' X'
  subst hg
  (try dsimp only)
  (try k_fold)
  have rX : x.length ≤ 1048576 := by omega
  have r1 := held1_len hx
  have r2 := held_len hx
  have r3 := held3_len hx
  unfold heldF at r2 r3
  refine execs_toks (n := 1) (by show 1 ≤ s.toks + 1; omega) ?_
  k_steps
  unfold HoldT
  intro htk
  dsimp only
  refine execs_toks (n := 1) htk ?_
  generalize hgt : Shared.toks _ = tks at htk ⊢
  clear hgt
  k_steps
  rename Fr _ _ _ _ => F'
  rename News _ _ _ _ => N'
  refine parse_spec (w := w) (by dsimp only; omega) (by dsimp only; omega) (G0.keeps (Fr.keep (by assumption))) (quot_len hx) ?_
  intro rr ys h5 tk5 k5 hn5 ho5 hS5 hl5 hb5
  have N5 := news_new F' (news_up N' k5) hn5 ho5
  have F5 := fr_up F' k5
  clear F' N'
  (try dsimp only at F5 N5 ⊢)
  k_steps
  unfold HoldT
  intro _
  dsimp only
  k_steps
  rename Fr _ _ _ _ => F7
  rename News _ _ _ _ => N7
  refine LCg.CompSrc.ledger rfl F7 N7 (.head _) (by have := hS5.length; rw [PySem.sizeLine_eq, List.size_toArray]; omega) (fun gg => ?_)
  refine rest_gen (items := parseF (quotF x)) (by rw [List.size_toArray]; exact hS5.length.symm) (fun a v => ∃ t, v = .str a t) (strs_items (by simpa using hS5)) (fun p => Txt.slice p (some 1) (some (-1))) (fun b v => ∃ t, v = .str b t) StrsAre .nil acc_strs ?_ ?_
  · rintro y v I oI C oC D m₂ ys h tk E' hy ⟨t, rfl⟩ hC hx F N off ne
    have hyl := hb5 y hy
    clear F7 N7
    k_steps
    rename Fr _ _ _ _ => F8
    rename News _ _ _ _ => N8
    exact LCg.CompEnd.intro F8 N8 _ (fun _ h => h) off (.inr ⟨_, .head _, rfl, _, rfl⟩) ⟨rfl, _, rfl⟩
  · intro ys hys D h tk F N off
    clear F7 N7
    (try dsimp only)
    refine ret D ys _ _ F.keep (N _ (.head _)).2.2 (N.get (.head _)) hys (by unfold piecesF; simpa using hl5) (fun y hy => ?_)
    obtain ⟨z, hz, rfl⟩ := List.mem_map.mp hy
    exact Nat.le_trans (slice_len z _ _) (hb5 z hz)
end Mine
end
noncomputable section
namespace Mine

local macro_rules | `(tactic| walk_at "exec For Name Name cons nil") => `(tactic| (k_here; (with_unfolding_all refine' for_G ?k1 ?k2 ?_; (case k1 => exact rfl); (case k2 => exact rfl))))
local macro_rules | `(tactic| walk_at "exec For Name Call cons nil") => `(tactic| (k_here; (with_unfolding_all refine' for_G ?k1 ?k2 ?_; (case k1 => exact rfl); (case k2 => exact rfl))))
local macro_rules | `(tactic| walk_at "exec Assign cons ListComp") => `(tactic| (k_here; k_dflt (refine Assign_LC_W (by k_asm) (by rfl) (by with_unfolding_all rfl) (by with_unfolding_all rfl) (by decide) (by rfl) (by decide) (by rfl) (by rfl) (by rfl) ?_)))
local macro_rules | `(tactic| walk_at "eval ListComp") => `(tactic| (k_here; k_dflt (refine LCg.ListComp_U (F₀ := by k_asm) (by with_unfolding_all rfl) (by decide) (by rfl) (by decide) (by rfl) ?_)))

theorem small_down {n : Nat} (h : n ≤ 201) : Builtin.Range.small (n : Int) 0 (-1) = true ∧ Builtin.Range.rangeSize (n : Int) 0 (-1) = (n : Int) := by
  have : (List.range 202).all (fun n => Builtin.Range.small (n : Int) 0 (-1) && (Builtin.Range.rangeSize (n : Int) 0 (-1) == (n : Int))) = true := by decide +kernel
  have := List.all_eq_true.mp this n (List.mem_range.mpr (by omega))
  simpa using this
abbrev downL (n : Nat) : List Nat := (List.range n).map (n - ·)
theorem downL_at {n i : Nat} (h : i < n) : (downL n)[i]? = some (n - i) := by
  rw [List.getElem?_map, List.getElem?_range h]; rfl
def fullP (xs : List Str) (k : Nat) : Bool := xs.getD ((k : Int) - 1).toNat Str.empty != Str.ofString ""
def waysF (xs : List Str) : List Str := (((List.range xs.length).map (xs.length - ·)).filter (fullP xs)).map fun k => Txt.join (Str.ofString "/") (xs.take k)
abbrev IntL (l : List Nat) : List Int := l.map Int.ofNat
theorem ints_snoc1 {y : Int} {t : Tok} : ∀ {vs : List Value} {ys : List Int}, IntsAre vs ys → IntsAre (vs ++ [.int y t]) (ys ++ [y])
  | _, _, .nil => .cons y t .nil
  | _, _, .cons z u r => .cons z u (ints_snoc1 r)
theorem strs_take1 : ∀ {vs : List Value} {ys : List Str} (k : Nat), StrsAre vs ys → StrsAre (vs.take k) (ys.take k)
  | _, _, 0, _ => by simp only [List.take_zero]; exact .nil
  | _, _, k + 1, .nil => .nil
  | _, _, k + 1, .cons z u r => .cons z u (strs_take1 k r)
theorem strs_upto {vs : Array Value} {ys : List Str} {a : Nat} (h : StrsAre vs.toList ys) : StrsAre (slicePick vs none (some (a : Int)) none).toList (ys.take a) := by
  have e : sliceBounds none (some (a : Int)) none vs.size = (((0 : Nat) : Int), ((min a vs.size : Nat) : Int), 1) := by
    simp only [sliceBounds, Option.getD_none, show (1 : Int) > 0 by decide, if_true, if_neg (show ¬ ((a : Int) < 0) by omega)]
    congr 1
    congr 1
    omega
  rw [W.kmk_pick_nat _ e]
  show StrsAre ((vs.toList.drop 0).take (min a vs.size - 0)) _
  rw [List.drop_zero, Nat.sub_zero, show vs.size = vs.toList.length by simp, W.kmk_take_min]
  exact strs_take1 a h
theorem sum_len : ∀ (l : List Str), (∀ y ∈ l, y.length ≤ 200) → (l.map (·.length)).sum ≤ l.length * 200
  | [], _ => by simp
  | y :: r, h => by
    have h1 := h y (List.mem_cons_self ..)
    have h2 := sum_len r fun z hz => h z (List.mem_cons_of_mem _ hz)
    simp only [List.map_cons, List.sum_cons, List.length_cons]
    omega
theorem acc_ints : ∀ (ys : List Value) (bs : List Nat) (y : Value) (b : Nat), IntsAre ys (IntL bs) → (∃ t, y = .int (b : Int) t) → IntsAre (ys ++ [y]) (IntL (bs ++ [b])) := by
  rintro ys bs y b h ⟨t, rfl⟩
  unfold IntL; rw [List.map_append]
  exact ints_snoc1 h

set_option maxHeartbeats 4000000 in
theorem ways_spec {w : World} {dp un : Nat} {fr : Option (List Env)} {gd : Option (List Code)} {s : Shared} {lx : Addr} {vs : Array Value} {xs : List Str} {Q E : Value → Shared → Prop} (hD : dp + 10 < recursionLimit) (hU : un + 60 < cLine)
    (G : Gd w s.heap) (hl : s.heap.IsList lx vs) (hi : StrsAre vs.toList xs) (hz : xs.length ≤ 201) (hb : ∀ y ∈ xs, y.length ≤ 200)
    (ret : ∀ D ys h' tk, s.heap.StaysIn h' → s.heap.get? D = none → h'.get? D = some (LCg.lst ys) → StrsAre ys (waysF xs) → Q (.ref D) { s with heap := h', toks := tk }) :
    wpAny (M w) (ar dp fr gd un) (call (.ref 234) [.ref lx]) Q E s := by
  have G0 := G
  unfold M; revert G; unfold Gd; k_fill; intro G
  obtain ⟨X, mean, mg, mb, T⟩ := G
  refine wpAny_call ?_
  k_dflt (refine' enterC (binds := [(Str.ofString "pieces", .ref lx)]) X T.nolimit ?k6 ?k7 ?k8 ?k9 ?kB ?kC ?_ ?c2 ?c3 ?c4; (case k6 => k_is); (case k7 => k_is); (case k8 => (dsimp only; omega)); (case k9 => exact BindsTo.of_eq rfl); (case kC => decide +kernel); (case c2 => exact rfl); (case c3 => exact rfl); (case c4 => exact rfl))
  case kB => (intro n y hy; rw [List.mem_singleton.mp hy]; exact .inr ⟨rfl, rfl⟩)
  intro g L' h' tk0 cells hg F' N' Y X'
  subst hg
  obtain ⟨oc, hcl, hoc⟩ := CellsAre.one Y
  subst hcl
  clear Y
  have TR := topRead_of T
  replace hoc : oc.data = .cell (some (.ref lx)) := hoc
  replace F' : Fr s.heap L' h' (fun _ => none) := F'
  (try dsimp only)
  (try k_fold)
  have hi0 : True ∧ StrsAre vs.toList xs := ⟨trivial, hi⟩
  k_steps
  rename Fr _ _ _ _ => F1
  rename News _ _ _ _ => N1
  rename IsRange _ _ _ _ _ _ _ _ => R1
  refine SrcW.range (n := xs.length) rfl F1 N1 R1 (small_down hz).1 (small_down hz).2 (by rw [PySem.sizeLine_eq]; omega) (fun gg => ?_)
  refine restT_gen (items := downL xs.length) (by simp) (fun a v => ∃ t, v = .int (a : Int) t) ?_ (fullP xs) id (fun b v => ∃ t, v = .int (b : Int) t) (fun ys bs => IntsAre ys (IntL bs)) .nil acc_ints ?_ ?_
  · rintro i v hlt ⟨t, rfl⟩
    refine ⟨xs.length - i, downL_at hlt, t, ?_⟩
    congr 1; omega
  · rintro a v I oI C oC D m₂ ys h tk E' hy ⟨t, rfl⟩ hC hx F N off ne
    have ha : 1 ≤ a ∧ a ≤ xs.length := by
      obtain ⟨j, hj, rfl⟩ := List.mem_map.mp hy
      have := List.mem_range.mp hj
      omega
    clear F1 N1 R1
    k_steps
    · rename Fr _ _ _ _ => F8
      rename News _ _ _ _ => N8
      exact LCg.CompEnd.intro F8 N8 _ (fun _ h => h) off trivial ⟨rfl, by assumption, _, rfl⟩
    · rename Fr _ _ _ _ => F8
      rename News _ _ _ _ => N8
      exact LCg.CompEnd.intro F8 N8 _ (fun _ h => h) off trivial ⟨rfl, by assumption⟩
  · intro ys hys D h tk F N off
    clear F1 N1 R1
    k_steps
    rename Fr _ _ _ _ => F7
    rename News _ _ _ _ => N7
    have hyl : ys.length = ((downL xs.length).filter (fullP xs)).length := by have := hys.length; simpa [IntL] using this
    have hdl : ((downL xs.length).filter (fullP xs)).length ≤ 201 := Nat.le_trans (List.length_filter_le _ _) (by simpa using hz)
    refine LCg.CompSrc.ledger rfl F7 N7 (.head _) (by rw [PySem.sizeLine_eq, List.size_toArray]; omega) (fun g2 => ?_)
    refine rest_gen (items := (downL xs.length).filter (fullP xs)) (by rw [List.size_toArray]; exact hyl.symm) (fun a v => ∃ t, v = .int (a : Int) t) ?_ (fun k => Txt.join (Str.ofString "/") (xs.take k)) (fun b v => ∃ t, v = .str b t) StrsAre .nil acc_strs ?_ ?_
    · intro i v hlt hv
      obtain ⟨k, t, e, hk⟩ := IntsAre.at hys i v (by simpa using hv)
      unfold IntL at hk
      rw [List.getElem?_map, List.map_id] at hk
      cases hq : ((downL xs.length).filter (fullP xs))[i]? with
      | none => rw [hq] at hk; cases hk
      | some b => rw [hq] at hk; cases hk; exact ⟨b, rfl, t, e⟩
    · rintro a v I oI C oC D2 m₂ ys2 h tk E' hy ⟨t, rfl⟩ hC hx F N off ne
      clear F7 N7
      have hup : True ∧ StrsAre (slicePick vs none (some (a : Int)) none).toList (xs.take a) := ⟨trivial, strs_upto hi0.2⟩
      k_steps
      rename Fr _ _ _ _ => F8
      rename News _ _ _ _ => N8
      refine join_list ⟨_, (N8 _ (.head _)).1, rfl, _, rfl⟩ hup.2 ?_ ?_
      · have := sum_len (xs.take a) fun y hy => hb y (List.mem_of_mem_take hy)
        have h3 : (xs.take a).length ≤ 201 := by rw [List.length_take]; omega
        have h4 : (Str.ofString "/").length = 1 := by decide +kernel
        rw [h4]; omega
      · intro t7 k7
        exact LCg.CompEnd.intro F8 N8 _ (fun _ h => List.mem_cons_of_mem _ h) off (.inr ⟨_, .head _, rfl, _, rfl⟩) ⟨rfl, _, rfl⟩
    · intro ys hys D h tk F N off
      clear F7 N7
      (try dsimp only)
      exact ret D ys _ _ F.keep (N _ (.head _)).2.2 (N.get (.head _)) hys
end Mine
end
noncomputable section
namespace Mine

local macro_rules | `(tactic| walk_at "exec For Name Name cons nil") => `(tactic| (k_here; (with_unfolding_all refine' for_G ?k1 ?k2 ?_; (case k1 => exact rfl); (case k2 => exact rfl))))
local macro_rules | `(tactic| walk_at "exec For Name Call cons nil") => `(tactic| (k_here; (with_unfolding_all refine' for_G ?k1 ?k2 ?_; (case k1 => exact rfl); (case k2 => exact rfl))))

def headStep (sz : Nat) (hs : List Str) (x : Str) : List Str := if x.length < sz then hs else if (hs.any (· == Txt.slice x none (some (sz : Int)))) = true then hs else hs ++ [Txt.slice x none (some (sz : Int))]
def headRow (ns : List Str) (hs : List Str) (sz : Nat) : List Str := ns.foldl (headStep sz) hs
def headsF (ns : List Str) : List Str := ((List.range 11).map (10 - ·)).foldl (headRow ns) []
theorem headsF_take {ns : List Str} {i : Nat} (h : i < 11) : (((List.range 11).map (10 - ·)).take (i + 1)).foldl (headRow ns) [] = headRow ns ((((List.range 11).map (10 - ·)).take i).foldl (headRow ns) []) (10 - i) := by
  rw [List.take_add_one, List.getElem?_map, List.getElem?_range h]; simp
theorem headRow_take {ns hs : List Str} {sz i : Nat} {x : Str} (h : ns[i]? = some x) : (ns.take (i + 1)).foldl (headStep sz) hs = headStep sz ((ns.take i).foldl (headStep sz) hs) x := by
  rw [List.take_add_one, h]; simp
theorem headStep_in {sz : Nat} {hs : List Str} {x : Str} (h : sz ≤ x.length) (h2 : (hs.any (· == Txt.slice x none (some (sz : Int)))) = true) : headStep sz hs x = hs := by
  unfold headStep; rw [if_neg (by omega), if_pos h2]
theorem headStep_new {sz : Nat} {hs : List Str} {x : Str} (h : sz ≤ x.length) (h2 : (hs.any (· == Txt.slice x none (some (sz : Int)))) = false) : headStep sz hs x = hs ++ [Txt.slice x none (some (sz : Int))] := by
  unfold headStep; rw [if_neg (by omega), if_neg (by rw [h2]; decide)]
theorem headStep_short {sz : Nat} {hs : List Str} {x : Str} (h : x.length < sz) : headStep sz hs x = hs := by
  unfold headStep; rw [if_pos h]

set_option maxHeartbeats 4000000 in
theorem heads_spec {w : World} {dp un : Nat} {fr : Option (List Env)} {gd : Option (List Code)} {s : Shared} {lx : Addr} {vs : Array Value} {xs : List Str} {Q E : Value → Shared → Prop} (hD : dp + 5 < recursionLimit) (hU : un + 40 < cLine)
    (G : Gd w s.heap) (hl : s.heap.IsList lx vs) (hi : StrsAre vs.toList xs) (hz : NmOk 10 xs)
    (ret : ∀ l vs' c h' tk, s.heap.StaysIn h' → s.heap.get? l = none → h'.get? l = some { cls := .type "list", data := .seq vs' c } → StrsAre vs'.toList (headsF xs) → Q (.ref l) { s with heap := h', toks := tk }) :
    wpAny (M w) (ar dp fr gd un) (call (.ref 224) [.ref lx]) Q E s := by
  have G0 := G
  unfold M; revert G; unfold Gd; k_fill; intro G
  obtain ⟨X, mean, mg, mb, T⟩ := G
  refine wpAny_call ?_
  k_dflt (refine' enter (binds := [(Str.ofString "names", .ref lx)]) X T.nolimit ?k6 ?k7 ?k8 ?k9 ?kB ?_ ?c2 ?c3 ?c4 ?c5; (case k6 => k_is); (case k7 => k_is); (case k8 => (dsimp only; omega)); (case k9 => exact BindsTo.of_eq rfl); (case c5 => decide); (case kB => exact locs rfl); (case c2 => exact rfl); (case c3 => exact rfl); (case c4 => exact rfl))
  intro g L' h' hg F' N' X'
  subst hg
  (try dsimp only)
  (try k_fold)
  k_steps
  rename Fr _ _ _ _ => F1
  rename News _ _ _ _ => N1
  rename IsRange _ _ _ _ _ _ _ _ => R1
  obtain ⟨lh, rfl⟩ := first_addr N1
  revert F1
  revert N1
  revert R1
  (try (rename Fr _ _ _ _ => FA; clear FA))
  (try (rename News _ _ _ _ => NA; clear NA))
  intro R1 N1 F1
  refine iter_range (g := s.heap) (n := 11) (Inv := fun i gs m nx => gs = s.gens ∧ ∃ vs' c, nx = [(lh, { cls := .type "list", data := .seq vs' c })] ∧ vs'.size ≤ 100 * i ∧ StrsAre vs'.toList ((((List.range 11).map (10 - ·)).take i).foldl (headRow xs) []) ∧ m (Str.ofString "heads") = some (.ref lh) ∧ m (Str.ofString "names") = some (.ref lx)) rfl R1 (by decide) (by decide) F1 N1 ⟨rfl, _, _, rfl, Nat.zero_le _, .nil, rfl, rfl⟩ ⟨?_, ?_⟩
  · rintro i v gs m nx h2 tk2 I oI hlt ⟨t, rfl⟩ ⟨rfl, vs', c, rfl, hzs, hS, hm, hm2⟩ F2 N2 hI
    have hlI : lh ≠ I := hI _ (List.mem_singleton.mpr rfl)
    rw [show (10 : Int) + (i : Int) * -1 = ((10 - i : Nat) : Int) by omega] at F2
    have hT := headsF_take (ns := xs) hlt
    have hszl : 10 - i ≤ 10 := Nat.sub_le _ _
    generalize 10 - i = sz at *
    generalize (((List.range 11).map (10 - ·)).take i).foldl (headRow xs) [] = hs0 at *
    clear F1 N1 R1
    replace F2 := known2 F2 hm hm2
    k_steps
    rename Fr _ _ _ _ => F3
    rename News _ _ _ _ => N3
    refine iter_listB (g := s.heap) (Inv := fun j gs m nx => gs = s.gens ∧ ∃ vs' c t, nx = [(I, oI), (lh, { cls := .type "list", data := .seq vs' c })] ∧ vs'.size ≤ 100 * i + j ∧ StrsAre vs'.toList ((xs.take j).foldl (headStep sz) hs0) ∧ m (Str.ofString "heads") = some (.ref lh) ∧ m (Str.ofString "names") = some (.ref lx) ∧ m (Str.ofString "size") = some (.int (sz : Nat) t)) rfl F3 N3 hl ⟨rfl, _, _, _, rfl, by omega, hS, rfl, rfl, rfl⟩ ⟨?_, ?_⟩
    · rintro j v gs m nx h2 tk2 I2 oI2 hlt2 hv ⟨rfl, vs', c, t3, rfl, hzs2, hS2, hm, hm2, hm3⟩ F4 N4 hI2
      clear F3 N3 hS
      have hlenS : vs'.size = ((xs.take j).foldl (headStep sz) hs0).length := by have := hS2.length; simpa using this
      have hxl : vs.size = xs.length := by have := hi.length; simpa using this
      obtain ⟨y, t4, hy, rfl⟩ : ∃ y t, xs[j]? = some y ∧ v = .str y t := by
        obtain ⟨t, hx⟩ := hi.at (show xs[j]? = some xs[j] from List.getElem?_eq_getElem (by omega))
        refine ⟨_, t, List.getElem?_eq_getElem (by omega), ?_⟩
        have hP' : vs.toList[j]? = some v := by simpa using hv
        rw [hx] at hP'; exact (Option.some.inj hP').symm
      have hyl := hz.2.2 y (List.mem_of_getElem? hy)
      have hxs13 := hz.2.1
      have hyl1 : y.length ≤ 16 := hyl.1
      replace F4 := known3 F4 hm hm2 hm3
      have nI2 : lh ≠ I2 := hI2 _ (.tail _ (.head _))
      k_steps
      · rename Fr _ _ _ _ => F5
        rename News _ _ _ _ => N5
        refine TurnP.next F5 N5 hI2 ⟨rfl, _, _, _, rfl, by omega, ?_, rfl, rfl, rfl⟩
        rw [headRow_take hy, headStep_in (by omega) (by assumption)]
        exact hS2
      · rename Fr _ _ _ _ => F5
        rename News _ _ _ _ => N5
        refine append_K F5 N5 (Upd.tail (Ne.symm nI2) (Upd.tail (Ne.symm hlI) (Upd.head fun _ h => nomatch h))) (fun h5 F6 N6 => ?_) (by rw [PySem.sizeLine_eq]; omega)
        clear F5 N5
        k_steps
        refine TurnP.next F6 N6 (fun p hp => ?_) ⟨rfl, _, _, _, rfl, by rw [Array.size_push]; omega, ?_, rfl, rfl, rfl⟩
        · simp only [List.mem_cons, List.mem_nil_iff, or_false] at hp
          rcases hp with e | e
          · rw [e]; exact hI2 _ (.head _)
          · rw [e]; exact nI2
        · rw [headRow_take hy, headStep_new (by omega) (by assumption)]
          exact strsAre_push hS2
      · rename Fr _ _ _ _ => F5
        rename News _ _ _ _ => N5
        refine TurnP.next F5 N5 hI2 ⟨rfl, _, _, _, rfl, by omega, ?_, rfl, rfl, rfl⟩
        rw [headRow_take hy, headStep_short (by omega)]
        exact hS2
    · rintro gs m nx h2 tk2 ⟨rfl, vs', c, t3, rfl, hzs2, hS2, hm, hm2, hm3⟩ F4 N4
      have hxl : vs.size = xs.length := by have := hi.length; simpa using this
      rw [hxl, List.take_length] at hS2
      clear F3 N3 
      replace F4 := know3 F4 hm hm2 hm3
      k_steps
      rename Fr _ _ _ _ => F5
      rename News _ _ _ _ => N5
      refine TurnP.next F5 N5 (fun p hp => by rw [List.mem_singleton.mp hp]; exact hlI) ⟨rfl, _, _, rfl, ?_, ?_, rfl, rfl⟩
      · have := hz.2.1; omega
      · rw [hT]; exact hS2
  · rintro gs m nx h2 tk2 ⟨rfl, vs', c, rfl, hzs, hS, hm, hm2⟩ F2 N2
    clear F1 N1
    replace F2 := know2 F2 hm hm2
    k_steps
    rename Fr _ _ _ _ => F9
    rename News _ _ _ _ => N9
    exact ret lh vs' c _ _ F9.keep (N9 _ (.head _)).2.2 (N9.get (.head _)) hS
end Mine
end
noncomputable section
namespace Mine

theorem items_strs {P : Nat → Value → Prop} {acc : Array Value} {n : Nat} {ks : List Str} (h : ItemsOf P acc n) (hl : ks.length = n) (hp : ∀ j v, P j v → ∃ k t, ks[j]? = some k ∧ v = .str k t) : StrsAre acc.toList ks :=
  strs_of_at _ _ (by rw [Array.length_toList, hl]; exact h.1) fun j v hv => hp j v (h.2 j v (by rw [← Array.getElem?_toList]; exact hv))

theorem list_anc {w : World} {dp un D U : Nat} {fr : Option (List Env)} {gd : Option (List Code)} {a g C : Nat} {b0 : Heap} {items : List Str} {s : Shared} {Q E : Value → Shared → Prop} (hd : dp ≤ D) (hu : un + 2 ≤ U) (hroom : D < recursionLimit)
    (hCa : C < a) (ha : a < s.heap.objs.size) (hbC : b0.objs.size ≤ C) (hl : b0.NoLimit) (hil : items.length ≤ 100) (st : GenA w D U a g C b0 items 0 s)
    (ret : ∀ S acc c h' tk gs', s.heap.get? S = none → AB s.gens gs' → (∀ b o, b ≠ C → s.heap.get? b = some o → h'.get? b = some o) → h'.get? S = some (lstO acc c) → StrsAre acc.toList items → Q (.ref S) { s with heap := h', toks := tk, gens := gs' }) :
    wpAny (M w) (ar dp fr gd un) (call (.type "list") [.ref a]) Q E s := by
  refine call_listU (gen_walkU (w := w) (dp := dp) (un := un + 2) (fr := fr) (gd := gd) (a := a) (g := g) (C := C) (b0 := b0) (items := items) [] hd hu hroom (Nat.ne_of_gt hCa) (Heap.get?_none_of_le hbC) hl) st (fun b hb => ?_) (by rw [PySem.sizeLine_eq]; omega) ?_
  · simp only [List.mem_cons, List.mem_range] at hb
    rcases hb with r | r | r
    · rw [r]; exact ha
    · rw [r]; exact Nat.lt_trans hCa ha
    · exact Nat.lt_of_lt_of_le r (Nat.le_trans hbC (Nat.le_of_lt (Nat.lt_trans hCa ha)))
  · intro S h' tk gs' acc c hS _ hu hG hS' hacc
    exact ret S acc c h' tk gs' hS hG (fun b o hb e => hu.1 b o (fun m => hb (List.mem_singleton.mp m)) (fun m => nomatch m) e) hS' (items_strs hacc rfl fun j v hv => hv)

theorem list_isl {w : World} {dp un D U : Nat} {fo : List Env} {gd : Option (List Code)} {x dx a g C : Nat} {b0 : Heap} {items : List Str} {s : Shared} {Q E : Value → Shared → Prop} (hD : dp + 3 ≤ D) (hU : un + 12 ≤ U) (hroom : D < recursionLimit) (hcl : U < cLine)
    (G : Gd w b0) (hNC : b0.objs.size ≤ C) (hCa : C < a) (had : a < dx) (hdx : dx < x) (hx : x < s.heap.objs.size) (hfrs : ∀ b ∈ frs fo, b < C) (hfb : ∀ b ∈ frs fo, b0.get? b = none) (hil : items.length ≤ 100)
    (st : IslA w D U x dx a g C b0 items 0 s) (hff : FF s.heap fo)
    (ret : ∀ S acc c h' tk gs', s.heap.get? S = none → AB s.gens gs' → UpX [x, C] (frs fo) s.heap h' → h'.get? S = some (lstO acc c) → StrsAre acc.toList (items.drop 1) → Q (.ref S) { s with heap := h', toks := tk, gens := gs' }) :
    wpAny (M w) (ar dp (some fo) gd un) (call (.type "list") [.ref x]) Q E s := by
  have hCx : C < x := Nat.lt_trans hCa (Nat.lt_trans had hdx)
  refine call_listU (isl_walkU (w := w) (dp := dp) (un := un + 2) (outer := fo) (gd := gd) (x := x) (dx := dx) (a := a) (g := g) (C := C) (b0 := b0) (items := items) hD (by omega) hroom hcl G hNC hCa had hdx hfrs hfb) ⟨st, hff⟩ (fun b hb => ?_) (by rw [PySem.sizeLine_eq]; omega) ?_
  · simp only [List.mem_cons, List.mem_append, List.mem_range] at hb
    rcases hb with r | r | r | r | r | r
    · rw [r]; exact hx
    · rw [r]; exact Nat.lt_trans hdx hx
    · rw [r]; exact Nat.lt_trans (Nat.lt_trans had hdx) hx
    · rw [r]; exact Nat.lt_trans hCx hx
    · exact Nat.lt_trans (Nat.lt_trans (hfrs b r) hCx) hx
    · exact Nat.lt_trans (Nat.lt_of_lt_of_le r hNC) (Nat.lt_trans hCx hx)
  · intro S h' tk gs' acc c hS _ hu hG hS' hacc
    refine ret S acc c h' tk gs' hS hG hu hS' (items_strs hacc (by rw [List.length_drop]) fun j v hv => ?_)
    obtain ⟨y, t, hy, e⟩ := hv
    exact ⟨y, t, by rw [List.getElem?_drop, Nat.add_comm]; exact hy, e⟩

theorem news_but {g h h' : Heap} {L C : Addr} {news : List (Addr × Obj)} (N : News g L h news) (hk : ∀ b o, b ≠ C → h.get? b = some o → h'.get? b = some o) (hn : ∀ p ∈ news, p.1 ≠ C) : News g L h' news :=
  fun p hp => ⟨hk _ _ (hn p hp) (N p hp).1, (N p hp).2⟩
theorem news_upx {g h h' : Heap} {L : Addr} {news : List (Addr × Obj)} {ex fs : List Addr} (N : News g L h news) (y : UpX ex fs h h') (hn : ∀ p ∈ news, p.1 ∉ ex ∧ p.1 ∉ fs) : News g L h' news :=
  fun p hp => ⟨y.1 _ _ (hn p hp).1 (hn p hp).2 (N p hp).1, (N p hp).2⟩
theorem News.get' {g h : Heap} {L : Addr} {news : List (Addr × Obj)} (N : News g L h news) : ∀ p ∈ news, h.get? p.1 = some p.2 ∧ p.1 ≠ L ∧ g.get? p.1 = none := N
theorem news_lt {g h : Heap} {L : Addr} {news : List (Addr × Obj)} (N : News g L h news) : ∀ p ∈ news, p.1 < h.objs.size := fun p hp => Heap.lt_size (N p hp).1
theorem news_off {g h : Heap} {L q : Addr} {news : List (Addr × Obj)} (N : News g L h news) (hq : h.objs.size ≤ q) : ∀ p ∈ news, p.1 ≠ q := fun p hp => Nat.ne_of_lt (Nat.lt_of_lt_of_le (news_lt N p hp) hq)
theorem news_put {g h h' : Heap} {L r : Addr} {o : Obj} {news : List (Addr × Obj)} {m : Str → Option Value} (F : Fr g L h m) (N : News g L h' news) (hn : h.get? r = none) (ho : h'.get? r = some o) : News g L h' ((r, o) :: news) := news_new F N hn ho
theorem up_isl {g h2 h3 : Heap} {L x C : Addr} {m : Str → Option Value} {news : List (Addr × Obj)} (F : Fr g L h2 m) (N : News g L h2 news) (hu : UpX [x, C] [L] h2 h3) (hC : ∀ p ∈ news, p.1 ≠ C) (hx : ∀ p ∈ news, p.1 ≠ x) (gC : g.get? C = none) (gx : g.get? x = none) (LC : L ≠ C) (Lx : L ≠ x) :
    Fr g L h3 m ∧ News g L h3 news := by
  refine ⟨fr_upx (fs := []) F hu (fun p hp => ?_) (fun p hp => nomatch hp), news_upx N hu fun p hp => ⟨fun q => ?_, fun q => ?_⟩⟩
  · rcases List.mem_cons.mp hp with r | r
    · rw [r]; exact ⟨gx, Ne.symm Lx⟩
    · rw [List.mem_singleton.mp r]; exact ⟨gC, Ne.symm LC⟩
  · rcases List.mem_cons.mp q with r | r
    · exact hx p hp r
    · exact hC p hp (List.mem_singleton.mp r)
  · exact (N p hp).2.1 (List.mem_singleton.mp q)
theorem anc_in : ∀ (r : List Nat) (b : Bool), ∀ x ∈ ancR b r, ∀ c ∈ x, c ∈ r
  | [], b, x, hx, _, _ => by rw [ancR_nil] at hx; cases hx
  | d :: r, b, x, hx, c, hc => by
    by_cases h : d = 47
    · subst h
      rw [ancR_slash] at hx
      exact List.mem_cons_of_mem _ (anc_in r true x hx c hc)
    · cases b with
      | true =>
        rw [ancR_t h] at hx
        rcases List.mem_cons.mp hx with e | hx
        · rw [e] at hc; exact List.mem_reverse.mp hc
        · exact List.mem_cons_of_mem _ (anc_in r false x hx c hc)
      | false =>
        rw [ancR_f h] at hx
        exact List.mem_cons_of_mem _ (anc_in r false x hx c hc)
theorem strOk_sub {x y : Str} (h : PyData.strOk y = true) (hs : ∀ c ∈ L x, c ∈ L y) : PyData.strOk x = true := by
  unfold PyData.strOk at *
  rw [← Array.all_toList, List.all_eq_true] at *
  exact fun c hc => h c (hs c hc)
theorem ancS_ok {y : Str} (h : PyData.strOk y = true) : AllOk (ancS y) := by
  intro z hz
  obtain ⟨l, hl, rfl⟩ := List.mem_map.mp hz
  refine strOk_sub h fun c hc => ?_
  rw [L_mkS] at hc
  exact List.mem_reverse.mp (anc_in _ _ l hl c hc)
theorem strs_drop1 : ∀ {vs : List Value} {ys : List Str}, StrsAre vs ys → StrsAre (vs.drop 1) (ys.drop 1)
  | _, _, .nil => .nil
  | _, _, .cons _ _ r => r
theorem strs_from1 {vs : Array Value} {ys : List Str} (h : StrsAre vs.toList ys) : StrsAre (slicePick vs (some 1) none none).toList (ys.drop 1) := by
  have e : sliceBounds (some 1) none none vs.size = (((min 1 vs.size : Nat) : Int), ((vs.size : Nat) : Int), 1) := by
    simp only [sliceBounds, Option.getD_none, show (1 : Int) > 0 by decide, if_true, if_neg (show ¬ ((1 : Int) < 0) by omega)]
    congr 1
    omega
  rw [W.kmk_pick_nat _ e]
  show StrsAre ((vs.toList.drop (min 1 vs.size)).take (vs.size - min 1 vs.size)) _
  have e2 : (vs.toList.drop (min 1 vs.size)).take (vs.size - min 1 vs.size) = vs.toList.drop 1 := by
    rw [List.take_of_length_le (by simp)]
    by_cases hz : vs.size = 0
    · have : vs.toList = [] := List.eq_nil_of_length_eq_zero (by simpa using hz)
      rw [this]; simp
    · rw [show min 1 vs.size = 1 by omega]
  rw [e2]
  exact strs_drop1 h
theorem mark_len {y : Str} (h : y.length ≤ 16) : (markF y).length ≤ 100 := by
  have h1 := replace_len y (Str.ofString "/z") 47 2 (by decide +kernel) (by decide)
  have e1 : Str.ofString "/" = ⟨#[47]⟩ := by decide +kernel
  have e2 : (Str.ofString "z").length = 1 := by decide +kernel
  unfold markF
  rw [← L_len, L_app, List.length_append, L_len, L_len, e1, e2]
  omega
theorem sub_gh (x y : Str) : (if (Str.ofString "g" == Str.ofString "h" && x == y) = true then true else if (Str.ofString "g" != Str.ofString "h") = true then false else Txt.startswith y (prefixF x)) = false := by
  have e : (Str.ofString "g" == Str.ofString "h") = false := by decide +kernel
  have e2 : (Str.ofString "g" != Str.ofString "h") = true := by decide +kernel
  rw [e, e2]; rfl
end Mine
end
noncomputable section
namespace Mine

local macro_rules | `(tactic| walk_at "exec For Name Name cons nil") => `(tactic| (k_here; (with_unfolding_all refine' for_G ?k1 ?k2 ?_; (case k1 => exact rfl); (case k2 => exact rfl))))
local macro_rules | `(tactic| walk_at "exec For Name Call cons nil") => `(tactic| (k_here; (with_unfolding_all refine' for_G ?k1 ?k2 ?_; (case k1 => exact rfl); (case k2 => exact rfl))))

local macro_rules | `(tactic| walk_at "compareOp NotEq ref ref") => `(tactic| (with_reducible refine StopHere.intro ?_))
local macro_rules | `(tactic| walk_at "compareOp Eq ref ref") => `(tactic| (with_reducible refine StopHere.intro ?_))
local macro_rules | `(tactic| walk_at "compareOp NotEq bool bool") => `(tactic| (with_reducible refine StopHere.intro ?_))
theorem headRow_inv (sz : Nat) : ∀ (l : List Str) (hs : List Str), (l.foldl (headStep sz) hs).length ≤ hs.length + l.length ∧ ∀ z ∈ l.foldl (headStep sz) hs, z ∈ hs ∨ ∃ y ∈ l, z = Txt.slice y none (some (sz : Int))
  | [], hs => ⟨Nat.le_refl _, fun z hz => .inl hz⟩
  | y :: l, hs => by
    obtain ⟨i1, i2⟩ := headRow_inv sz l (headStep sz hs y)
    have e : (headStep sz hs y).length ≤ hs.length + 1 ∧ ∀ z ∈ headStep sz hs y, z ∈ hs ∨ z = Txt.slice y none (some (sz : Int)) := by
      unfold headStep
      split
      · exact ⟨Nat.le_succ _, fun z hz => .inl hz⟩
      · split
        · exact ⟨Nat.le_succ _, fun z hz => .inl hz⟩
        · refine ⟨by simp, fun z hz => ?_⟩
          rcases List.mem_append.mp hz with q | q
          · exact .inl q
          · exact .inr (List.mem_singleton.mp q)
    refine ⟨by rw [List.foldl_cons, List.length_cons]; have := e.1; omega, fun z hz => ?_⟩
    rcases i2 z hz with q | ⟨y', hy, q⟩
    · rcases e.2 z q with q | q
      · exact .inl q
      · exact .inr ⟨y, List.mem_cons_self .., q⟩
    · exact .inr ⟨y', List.mem_cons_of_mem _ hy, q⟩
theorem heads_inv (ns : List Str) : ∀ (ks : List Nat) (hs : List Str), (ks.foldl (headRow ns) hs).length ≤ hs.length + ks.length * ns.length ∧ ∀ z ∈ ks.foldl (headRow ns) hs, z ∈ hs ∨ ∃ y ∈ ns, ∃ k : Nat, z = Txt.slice y none (some (k : Int))
  | [], hs => ⟨by simp, fun z hz => .inl hz⟩
  | k :: ks, hs => by
    obtain ⟨i1, i2⟩ := heads_inv ns ks (headRow ns hs k)
    obtain ⟨j1, j2⟩ := headRow_inv k ns hs
    refine ⟨?_, fun z hz => ?_⟩
    · rw [List.foldl_cons, List.length_cons, Nat.add_mul]
      have : (headRow ns hs k).length ≤ hs.length + ns.length := j1
      omega
    · rcases i2 z hz with q | q
      · rcases j2 z q with q | ⟨y, hy, q⟩
        · exact .inl q
        · exact .inr ⟨y, hy, k, q⟩
      · exact .inr q
theorem headsF_len (ns : List Str) : (headsF ns).length ≤ 11 * ns.length := by
  have := (heads_inv ns ((List.range 11).map (10 - ·)) []).1
  simpa [headsF] using this
theorem headsF_mem (ns : List Str) : ∀ z ∈ headsF ns, ∃ y ∈ ns, ∃ k : Nat, z = Txt.slice y none (some (k : Int)) := fun z hz => by
  rcases (heads_inv ns ((List.range 11).map (10 - ·)) []).2 z hz with q | q
  · cases q
  · exact q

theorem fRow_mem (whole : Str) : ∀ (l fs : List Str), ∀ z ∈ l.foldl (fStep whole) fs, z ∈ fs ∨ z ∈ l
  | [], fs, z, hz => .inl hz
  | h :: l, fs, z, hz => by
    rcases fRow_mem whole l _ z hz with q | q
    · unfold fStep at q
      split at q
      · exact .inl q
      · split at q
        · rcases List.mem_append.mp q with q | q
          · exact .inl q
          · rw [List.mem_singleton.mp q]; exact .inr (List.mem_cons_self ..)
        · exact .inl q
    · exact .inr (List.mem_cons_of_mem _ q)
theorem folders_mem (ends : List Str) : ∀ (l fs : List Str), ∀ z ∈ l.foldl (fRow ends) fs, z ∈ fs ∨ z ∈ ends
  | [], fs, z, hz => .inl hz
  | y :: l, fs, z, hz => by
    rcases folders_mem ends l _ z hz with q | q
    · exact fRow_mem _ _ _ z q
    · exact .inr q
theorem foldersF_mem {ns hs : List Str} : ∀ z ∈ foldersF ns hs, z ∈ hs := fun z hz => by
  rcases folders_mem _ ns [] z hz with q | q
  · cases q
  · exact (List.mem_filter.mp q).1
theorem slice_ok {y : Str} {l u : Option Int} (h : PyData.strOk y = true) : PyData.strOk (Txt.slice y l u) = true :=
  strOk_sub h fun c hc => by rw [slice_L] at hc; exact List.mem_of_mem_drop (List.mem_of_mem_take hc)

set_option maxHeartbeats 8000000 in
theorem law_body {w : World} {dp un : Nat} {gd : Option (List Code)} {s : Shared} {lx : Addr} {vs : List Value} {xs : List Int} {Q E : Value → Shared → Prop} (hD : dp + 100 < recursionLimit) (hU : un + 300 < cLine)
    (p1 : ∀ y : Str, y.length ≤ 16 → waysF (piecesF y) = ancS y) (p2 : ∀ x y : Str, subF (Str.ofString "h") (Str.ofString "h") x y = coverF x y ((ancS (markF y)).drop 1)) (p3 : impliedF (namesF (xs.take 10)) = foldersF (namesF (xs.take 10)) (headsF (namesF (xs.take 10))))
    (G : Gd w s.heap) (hl : s.heap.IsList lx vs.toArray) (hi : IntsAre vs xs) (hzl : xs.length ≤ 16777216)
    (hg0 : AllBare s.gens) (ret : ∀ h' tk gs', AllBare gs' → s.heap.StaysIn h' → Q (.bool true) { s with heap := h', toks := tk, gens := gs' }) :
    wpAny (M w) (ar dp (some []) gd un) (call (.ref 265) [.ref lx]) Q E s := by
  have G0 := G
  unfold M; revert G; unfold Gd; k_fill; intro G
  obtain ⟨X, mean, mg, mb, T⟩ := G
  refine wpAny_call ?_
  k_dflt (refine' enter (binds := [(Str.ofString "script", .ref lx)]) X T.nolimit ?k6 ?k7 ?k8 ?k9 ?kB ?_ ?c2 ?c3 ?c4 ?c5; (case k6 => k_is); (case k7 => k_is); (case k8 => (dsimp only; omega)); (case k9 => exact BindsTo.of_eq rfl); (case c5 => decide); (case kB => exact locs rfl); (case c2 => exact rfl); (case c3 => exact rfl); (case c4 => exact rfl))
  intro g L' h' hg F' N' X'
  subst hg
  (try dsimp only)
  (try k_fold)
  have hzz : vs.toArray.size ≤ sizeLine := by rw [PySem.sizeLine_eq, List.size_toArray, hi.length]; exact hzl
  have hzy : vs.length ≤ 16777216 := by rw [hi.length]; exact hzl
  k_steps
  rename IntsAre _ _ => hI10
  rename Fr _ _ _ _ => F1
  rename News _ _ _ _ => N1
  refine names_spec (w := w) (xs := xs.take 10) (by dsimp only; omega) (by dsimp only; omega) (G0.keeps F1.keep) ⟨_, N1.get (.head _), rfl, _, rfl⟩ (by simpa using hI10) (by rw [List.length_take]; omega) ?_
  intro nl vn cn h2 tk2 k2 hn2 ho2 hS2
  have hok0 := namesF_ok (xs.take 10)
  have hok : NmOk 10 (namesF (xs.take 10)) := ⟨hok0.1, Nat.le_trans hok0.2.1 (by rw [List.length_take]; omega), fun y hy => ⟨Nat.le_trans (hok0.2.2 y hy).1 (by rw [List.length_take]; omega), (hok0.2.2 y hy).2⟩⟩
  generalize namesF (xs.take 10) = ns at hS2 hok p3
  clear hok0
  have N2 := news_new F1 (news_up N1 k2) hn2 ho2
  have F2 := fr_up F1 k2
  clear F1 N1
  (try dsimp only at F2 N2 ⊢)
  k_steps
  rename Fr _ _ _ _ => F3
  rename News _ _ _ _ => N3
  refine heads_spec (w := w) (xs := ns) (vs := vn) (by dsimp only; omega) (by dsimp only; omega) (G0.keeps F3.keep) ⟨_, N3.get (.head _), rfl, _, rfl⟩ hS2 hok ?_
  intro hl2 vh ch h4 tk4 k4 hn4 ho4 hS4
  have N4 := news_new F3 (news_up N3 k4) hn4 ho4
  have F4 := fr_up F3 k4
  clear F3 N3
  (try dsimp only at F4 N4 ⊢)
  k_steps
  rename Fr _ _ _ _ => F5
  rename News _ _ _ _ => N5
  refine mgr_spec (w := w) (b0 := s.heap) (by show dp + 1 + 10 < _; omega) (by show un + 3 + 30 < _; omega) G0 F5.keep ?_
  intro mx mdx mt md h6 tk6 k6 hmd hmx hox hod
  dsimp only at hmd k6
  have zL : L' < h6.objs.size := (fr_up F5 k6).ns.lt
  have N6 := news_new F5 (news_new F5 (news_up N5 k6) (Heap.get?_none_of_le hmd) hod) (Heap.get?_none_of_le (Nat.le_trans hmd (Nat.le_of_lt hmx))) hox
  have F6 := fr_up F5 k6
  clear F5 N5
  (try dsimp only at F6 N6 ⊢)
  have hns : vn.size = ns.length := by have := hS2.length; simpa using this
  have hhs : vh.size = (headsF ns).length := by have := hS4.length; simpa using this
  have hHl := headsF_len ns
  have hHb := headsF_mem ns
  generalize headsF ns = hs at hS4 p3 hhs hHl hHb
  k_steps
  rename Fr _ _ _ _ => F7
  rename News _ _ _ _ => N7
  have N8 : News s.heap L' _ [(mx, instObj 201 mdx), (mdx, mgrD w mt md), (hl2, { cls := .type "list", data := .seq vh ch }), (nl, { cls := .type "list", data := .seq vn cn })] := fun p hp => N7 p (by
    simp only [List.mem_cons, List.mem_nil_iff, or_false] at hp ⊢
    rcases hp with r | r | r | r <;> simp [r])
  clear N7
  refine iter_listN (g := s.heap) (l := nl) (vs := vn) (c := cn) (Inv := fun i gs m nx => AllBare gs ∧ nx = [(mx, instObj 201 mdx), (mdx, mgrD w mt md), (hl2, { cls := .type "list", data := .seq vh ch }), (nl, { cls := .type "list", data := .seq vn cn })] ∧ m (Str.ofString "names") = some (.ref nl) ∧ m (Str.ofString "heads") = some (.ref hl2) ∧ m (Str.ofString "manager") = some (.ref mx)) rfl F7 N8 (by simp) (fun i gs m nx h => by rw [h.2.1]; simp) ⟨hg0, rfl, rfl, rfl, rfl⟩ ⟨?_, ?_⟩
  · rintro i v gs m nx h9 tk9 I oI hlt hv ⟨hgb, rfl, hm1, hm2, hm3⟩ F9 N9 hI
    obtain ⟨y, hy, ty, rfl⟩ := strs_items hS2 i v hlt hv
    have hym := List.mem_of_getElem? hy
    have hyl : y.length ≤ 16 := (hok.2.2 y hym).1
    have hyo := (hok.2.2 y hym).2
    clear F7 N8
    replace F9 := known3 F9 hm1 hm2 hm3
    k_steps
    rename Fr _ _ _ _ => FA
    rename News _ _ _ _ => NA
    refine pieces_spec (w := w) (by dsimp only; omega) (by dsimp only; omega) (G0.keeps FA.keep) hyl ?_
    intro D1 ys1 hA tkA kA hnA hoA hSA hlA hbA
    have FB := fr_up FA kA
    have NB := news_put FA (news_up NA kA) hnA hoA
    clear FA NA
    (try dsimp only at FB NB ⊢)
    k_steps
    rename Fr _ _ _ _ => FC
    rename News _ _ _ _ => NC
    refine ways_spec (w := w) (vs := ys1.toArray) (xs := piecesF y) (by dsimp only; omega) (by dsimp only; omega) (G0.keeps FC.keep) ⟨_, NC.get (.head _), rfl, _, rfl⟩ (by simpa using hSA) hlA hbA ?_
    rw [p1 y hyl]
    intro D2 ys2 hD tkD kD hnD hoD hSD
    have FE := fr_up FC kD
    have NE := news_put FC (news_up NC kD) hnD hoD
    clear FC NC
    (try dsimp only at FE NE ⊢)
    k_steps
    rename Fr _ _ _ _ => FA
    rename News _ _ _ _ => NA
    have hsz : s.heap.objs.size ≤ L' := FA.above
    have hAy : Anc (Txt.rstripChars y slash) (ancS y) := ancS_anc (by omega)
    have hil : (ancS y).length ≤ 100 := Nat.le_trans (ancS_len y) (by omega)
    refine ancestry_spec (w := w) (D := dp + 30) (U := un + 100) (b0 := s.heap) (by show dp + 1 < _; omega) (by omega) (by omega) G0 FA.keep (Nat.le_trans hsz (Nat.le_of_lt FA.ns.lt)) (by omega) hAy ?_
    intro ga gC hB gsB tkB kB hB1 hB2 hB3 hGA
    have hCn := news_off NA hB1
    have hbB : AllBare (gs.push gsB) := hgb.push hGA.bare
    have hCL : L' ≠ gC := Nat.ne_of_lt (Nat.lt_of_lt_of_le FA.ns.lt hB1)
    have hCb : s.heap.objs.size ≤ gC := Nat.le_trans (Nat.le_trans hsz (Nat.le_of_lt FA.ns.lt)) hB1
    have FB := fr_up FA kB
    have NB := news_up NA kB
    clear FA NA
    (try dsimp only at FB NB ⊢)
    k_steps
    rename Fr _ _ _ _ => FB
    rename News _ _ _ _ => NB
    refine list_anc (w := w) (dp := dp + 1) (un := un + 3) (D := dp + 30) (U := un + 100) (C := gC) (b0 := s.heap) (by omega) (by omega) (by omega) hB2 hB3 hCb T.nolimit hil hGA ?_
    intro S1 ac1 c1 hE tkE gsE hnE hGE hkE hoE hSE
    have FC := fr_but FB hkE (Heap.get?_none_of_le hCb) hCL
    have NC := news_put FB (news_but NB hkE hCn) hnE hoE
    clear FB NB
    (try dsimp only at FC NC ⊢)
    k_steps
    unfold StopHere
    rename Fr _ _ _ _ => FC
    rename News _ _ _ _ => NC
    refine ne_strs (xs := ac1.toList) (ys := ys2) ⟨_, NC.get (.head _), rfl, c1, by rw [Array.toArray_toList]⟩ ⟨_, NC.get (.tail _ (.head _)), rfl, _, rfl⟩ hSE hSD (ancS_ok hyo) (ancS_ok hyo) (by show un + 3 + 64 < _; omega) ?_
    rw [decide_eq_true rfl]
    k_steps
    rename Fr _ _ _ _ => FA
    rename News _ _ _ _ => NA
    refine parents_spec (w := w) (D := dp + 30) (U := un + 100) (b0 := s.heap) (by show dp + 1 + 20 < _; omega) (by show un + 3 + 60 < _; omega) (by omega) (by omega) G0 FA.keep (Nat.le_trans hsz (Nat.le_of_lt FA.ns.lt)) (by omega) hAy ?_
    intro px pdx pa pC hF gsF tkF kF hF1 hF2 hF3 hF4 hF5 hF6 hIA
    have hPC := news_off NA hF1
    have hbF : AllBare (gsE.push gsF) := (hGE hbB).push hIA.bare
    have hPx := news_off NA (Nat.le_trans hF1 (Nat.le_of_lt (Nat.lt_trans hF2 (Nat.lt_trans hF3 hF4))))
    have lPC : L' < pC := Nat.lt_of_lt_of_le FA.ns.lt hF1
    have lPx : L' < px := Nat.lt_trans lPC (Nat.lt_trans hF2 (Nat.lt_trans hF3 hF4))
    have FB := fr_up FA kF
    have NB := news_up NA kF
    clear FA NA
    (try dsimp only at FB NB ⊢)
    k_steps
    rename Fr _ _ _ _ => FB
    rename News _ _ _ _ => NB
    refine list_isl (w := w) (dp := dp + 1) (un := un + 3) (D := dp + 30) (U := un + 100) (fo := [envOf _ _ L' _ _]) (C := pC) (b0 := s.heap) (by omega) (by omega) (by omega) (by omega) G0 (Nat.le_trans hsz (Nat.le_of_lt lPC)) hF2 hF3 hF4 hF5 (fun b hb => by rw [List.mem_singleton.mp hb]; exact lPC) (fun b hb => by rw [List.mem_singleton.mp hb]; exact Heap.get?_none_of_le hsz) hil hIA (ff_cons (fun q => nomatch q) rfl FB.ns trivial) ?_
    intro S2 ac2 c2 hG tkG gsG hnG hGG huG hoG hSG
    obtain ⟨FC, NC0⟩ := up_isl FB NB huG hPC hPx (Heap.get?_none_of_le (Nat.le_trans hsz (Nat.le_of_lt lPC))) (Heap.get?_none_of_le (Nat.le_trans hsz (Nat.le_of_lt lPx))) (Nat.ne_of_lt lPC) (Nat.ne_of_lt lPx)
    have NC := news_put FB NC0 hnG hoG
    clear FB NB NC0
    (try dsimp only at FC NC ⊢)
    k_steps
    unfold StopHere
    rename Fr _ _ _ _ => FA
    rename News _ _ _ _ => NA
    refine ne_strs (xs := ac2.toList) (ys := (slicePick ys2.toArray (some 1) none none).toList) ⟨_, NA.get (.tail _ (.head _)), rfl, c2, by rw [Array.toArray_toList]⟩ ⟨_, NA.get (.head _), rfl, _, by rw [Array.toArray_toList]⟩ hSG (strs_from1 (by simpa using hSD)) (fun z hz => ancS_ok hyo z (List.mem_of_mem_drop hz)) (fun z hz => ancS_ok hyo z (List.mem_of_mem_drop hz)) (by show un + 3 + 64 < _; omega) ?_
    rw [decide_eq_true rfl]
    clear FC NC
    k_steps
    rename Fr _ _ _ _ => FA
    rename News _ _ _ _ => NA
    refine marked_spec (w := w) (by dsimp only; omega) (by dsimp only; omega) (G0.keeps FA.keep) (by omega) ?_
    intro hH tkH tH kH
    have FB := fr_up FA kH
    have NB := news_up NA kH
    clear FA NA
    (try dsimp only at FB NB ⊢)
    k_steps
    rename Fr _ _ _ _ => FA
    rename News _ _ _ _ => NA
    have hAm : Anc (Txt.rstripChars (markF y) slash) (ancS (markF y)) := ancS_anc (mark_len hyl)
    have hilm : (ancS (markF y)).length ≤ 100 := Nat.le_trans (ancS_len _) (mark_len hyl)
    refine parents_spec (w := w) (D := dp + 30) (U := un + 100) (b0 := s.heap) (by show dp + 1 + 20 < _; omega) (by show un + 3 + 60 < _; omega) (by omega) (by omega) G0 FA.keep (Nat.le_trans hsz (Nat.le_of_lt FA.ns.lt)) (mark_len hyl) hAm ?_
    intro qx qdx qa qC hJ gsJ tkJ kJ hJ1 hJ2 hJ3 hJ4 hJ5 hJ6 hJA
    have hQC := news_off NA hJ1
    have hbJ : AllBare (gsG.push gsJ) := (hGG hbF).push hJA.bare
    have hQx := news_off NA (Nat.le_trans hJ1 (Nat.le_of_lt (Nat.lt_trans hJ2 (Nat.lt_trans hJ3 hJ4))))
    have lQC : L' < qC := Nat.lt_of_lt_of_le FA.ns.lt hJ1
    have lQx : L' < qx := Nat.lt_trans lQC (Nat.lt_trans hJ2 (Nat.lt_trans hJ3 hJ4))
    have FB := fr_up FA kJ
    have NB := news_up NA kJ
    clear FA NA
    (try dsimp only at FB NB ⊢)
    k_steps
    rename Fr _ _ _ _ => FB
    rename News _ _ _ _ => NB
    refine list_isl (w := w) (dp := dp + 1) (un := un + 3) (D := dp + 30) (U := un + 100) (fo := [envOf _ _ L' _ _]) (C := qC) (b0 := s.heap) (by omega) (by omega) (by omega) (by omega) G0 (Nat.le_trans hsz (Nat.le_of_lt lQC)) hJ2 hJ3 hJ4 hJ5 (fun b hb => by rw [List.mem_singleton.mp hb]; exact lQC) (fun b hb => by rw [List.mem_singleton.mp hb]; exact Heap.get?_none_of_le hsz) hilm hJA (ff_cons (fun q => nomatch q) rfl FB.ns trivial) ?_
    intro S3 ac3 c3 hK tkK gsK hnK hGK huK hoK hSK
    obtain ⟨FC, NC0⟩ := up_isl FB NB huK hQC hQx (Heap.get?_none_of_le (Nat.le_trans hsz (Nat.le_of_lt lQC))) (Heap.get?_none_of_le (Nat.le_trans hsz (Nat.le_of_lt lQx))) (Nat.ne_of_lt lQC) (Nat.ne_of_lt lQx)
    have NC := news_put FB NC0 hnK hoK
    clear FB NB NC0
    (try dsimp only at FC NC ⊢)
    k_steps
    rename Fr _ _ _ _ => FA
    rename News _ _ _ _ => NA
    have NB : News s.heap L' _ [(S3, lstO ac3 c3), (I, oI), (mx, instObj 201 mdx), (mdx, mgrD w mt md), (hl2, { cls := .type "list", data := .seq vh ch }), (nl, { cls := .type "list", data := .seq vn cn })] := fun p hp => NA p (by
      simp only [List.mem_cons, List.mem_nil_iff, or_false] at hp ⊢
      rcases hp with r | r | r | r | r | r <;> simp [r])
    clear NA
    refine iter_listN (g := s.heap) (l := hl2) (vs := vh) (c := ch) (Inv := fun j gs m nx => AllBare gs ∧ (∃ t5, m (Str.ofString "name") = some (.str y t5)) ∧ nx = [(S3, lstO ac3 c3), (I, oI), (mx, instObj 201 mdx), (mdx, mgrD w mt md), (hl2, { cls := .type "list", data := .seq vh ch }), (nl, { cls := .type "list", data := .seq vn cn })] ∧ m (Str.ofString "names") = some (.ref nl) ∧ m (Str.ofString "heads") = some (.ref hl2) ∧ m (Str.ofString "manager") = some (.ref mx) ∧ m (Str.ofString "above") = some (.ref S3)) rfl FA NB (by simp) (fun i gs m nx h => by rw [h.2.2.1]; simp) ⟨hGK hbJ, ⟨_, rfl⟩, rfl, rfl, rfl, rfl, rfl⟩ ⟨?_, ?_⟩
    · rintro j v gs2 m2 nx h12 tk12 I2 oI2 hlt2 hv2 ⟨hgb2, ⟨t5, hm5⟩, rfl, hm1, hm2, hm3, hm4⟩ FD ND hI2
      obtain ⟨z, hz, tz, rfl⟩ := strs_items hS4 j v hlt2 hv2
      have hzl : z.length ≤ 16 := by
        obtain ⟨y', hy', k, e⟩ := hHb z (List.mem_of_getElem? hz)
        rw [e]; exact Nat.le_trans (slice_len _ _ _) (hok.2.2 y' hy').1
      have hz100 : z.length ≤ 100 := by omega
      have hy100 : y.length ≤ 100 := by omega
      clear FA NB
      replace FD := known5 FD hm1 hm2 hm3 hm4 hm5
      k_steps
      rename Fr _ _ _ _ => FE
      rename News _ _ _ _ => NE
      refine suburi_spec (w := w) (by dsimp only; omega) (by dsimp only; omega) (G0.keeps FE.keep) hz100 hy100 ⟨_, NE.get (.tail _ (.head _)), rfl, _, rfl⟩ ⟨_, NE.get (.head _), rfl, _, rfl⟩ ?_
      intro h13 tk13 k13
      have FG := fr_up FE k13
      have NG := news_up NE k13
      clear FE NE
      (try dsimp only at FG NG ⊢)
      generalize hsub : (if (Str.ofString "h" == Str.ofString "h" && z == y) = true then true else if (Str.ofString "h" != Str.ofString "h") = true then false else Txt.startswith y (prefixF z)) = bsub
      have hsub' : coverF z y ((ancS (markF y)).drop 1) = bsub := (p2 z y).symm.trans hsub
      clear hsub
      k_steps
      rename Fr _ _ _ _ => FE
      rename News _ _ _ _ => NE
      refine covers_spec (w := w) (vs := ac3.toList) (by dsimp only; omega) (by dsimp only; omega) (G0.keeps FE.keep) hz100 hy100 ⟨_, NE.get (.tail _ (.tail _ (.tail _ (.head _)))), rfl, c3, by rw [Array.toArray_toList]⟩ hSK ?_
      rw [hsub']
      intro h14 tk14 k14
      have FG := fr_up FE k14
      have NG := news_up NE k14
      clear FE NE
      (try dsimp only at FG NG ⊢)
      k_steps
      unfold StopHere
      refine ne_bool ?_
      rw [bne_self_eq_false]
      k_steps
      rename Fr _ _ _ _ => FE
      rename News _ _ _ _ => NE
      refine suburi_spec (w := w) (by dsimp only; omega) (by dsimp only; omega) (G0.keeps FE.keep) hz100 hy100 ⟨_, NE.get (.tail _ (.head _)), rfl, _, rfl⟩ ⟨_, NE.get (.head _), rfl, _, rfl⟩ ?_
      rw [sub_gh]
      intro h15 tk15 k15
      have FG := fr_up FE k15
      have NG := news_up NE k15
      clear FE NE
      (try dsimp only at FG NG ⊢)
      k_steps
      refine TurnP.next (news' := [(S3, lstO ac3 c3), (I, oI), (mx, instObj 201 mdx), (mdx, mgrD w mt md), (hl2, { cls := .type "list", data := .seq vh ch }), (nl, { cls := .type "list", data := .seq vn cn })]) (by assumption) (fun p hp => News.get' (by assumption) p (by
        simp only [List.mem_cons, List.mem_nil_iff, or_false] at hp ⊢
        rcases hp with r | r | r | r | r | r | r <;> simp [r])) hI2 ⟨hgb2, ⟨_, rfl⟩, rfl, rfl, rfl, rfl, rfl⟩
    · rintro gs2 m2 nx h12 tk12 ⟨hgb2, ⟨t5, hm5⟩, rfl, hm1, hm2, hm3, hm4⟩ FD ND
      clear FA NB
      replace FD := know3 FD hm1 hm2 hm3
      k_steps
      refine TurnP.next (news' := [(mx, instObj 201 mdx), (mdx, mgrD w mt md), (hl2, { cls := .type "list", data := .seq vh ch }), (nl, { cls := .type "list", data := .seq vn cn })]) FD (fun p hp => ND p (.tail _ hp)) (fun p hp => hI p hp) ⟨hgb2, rfl, rfl, rfl, rfl⟩
  · rintro gs m nx h9 tk9 ⟨hgb, rfl, hm1, hm2, hm3⟩ F9 N9
    clear F7 N8
    replace F9 := know3 F9 hm1 hm2 hm3
    k_steps
    rename Fr _ _ _ _ => FA
    rename News _ _ _ _ => NA
    have hsz : s.heap.objs.size ≤ L' := FA.above
    refine implied_spec (w := w) (dp := dp + 1) (un := un + 3) (outer := [envOf _ _ L' _ _]) (b0 := s.heap) (vn := vn) (ns := ns) (by omega) (by omega) G0 FA.keep (Nat.le_trans hsz (Nat.le_of_lt FA.ns.lt)) (ff_cons (fun q => nomatch q) rfl FA.ns trivial) (fun b hb => by rw [List.mem_singleton.mp hb]; exact Heap.get?_none_of_le hsz) (fun q => (NA _ (.tail _ (.tail _ (.tail _ (.head _))))).2.1 (List.mem_singleton.mp q)) ⟨_, NA.get (.tail _ (.tail _ (.tail _ (.head _)))), rfl, _, rfl⟩ hS2 hok ?_
    intro r1 ac c hR tkR gsR hGR huR hnR hoR hSR
    replace huR : UpX [] [L'] _ hR := huR
    have FB := fr_upx (fs := []) FA huR (fun p hp => nomatch hp) (fun p hp => nomatch hp)
    have NB := news_put FA (news_upx NA huR fun p hp => ⟨(fun q => nomatch q), fun q => (NA p hp).2.1 (List.mem_singleton.mp q)⟩) hnR hoR
    clear FA NA
    (try dsimp only at FB NB ⊢)
    k_steps
    rename Fr _ _ _ _ => FA
    rename News _ _ _ _ => NA
    have hh16 : ∀ z ∈ hs, z.length ≤ 16 ∧ PyData.strOk z = true := fun z hz => by
      obtain ⟨y', hy', k, e⟩ := hHb z hz
      rw [e]; exact ⟨Nat.le_trans (slice_len _ _ _) (hok.2.2 y' hy').1, slice_ok (hok.2.2 y' hy').2⟩
    refine folders_spec (w := w) (b0 := s.heap) (ns := ns) (hs := hs) (by dsimp only; omega) (by dsimp only; omega) G0 FA.keep (NA _ (.tail _ (.head _))).2.2 (NA _ (.tail _ (.tail _ (.head _)))).2.2 (NA.get (.tail _ (.head _))) (NA.get (.tail _ (.tail _ (.head _)))) ⟨_, NA.get (.tail _ (.tail _ (.tail _ (.tail _ (.head _))))), rfl, _, rfl⟩ hS2 hok ⟨_, NA.get (.tail _ (.tail _ (.tail _ (.head _)))), rfl, _, rfl⟩ hS4 (by have := hok.2.1; omega) (fun z hz => Nat.le_trans (hh16 z hz).1 (by decide)) ?_
    intro r2 vs2 cS hT tkT kT hoT hST
    have FB := fr_up FA kT
    have NB := news_up NA kT
    clear FA NA
    (try dsimp only at FB NB hoT ⊢)
    k_steps
    unfold StopHere
    rw [← p3] at hST
    have hokI : AllOk (impliedF ns) := fun z hz => by rw [p3] at hz; exact (hh16 z (foldersF_mem z hz)).2
    refine eq_strs (xs := ac.toList) (ys := vs2.toList) ⟨_, NB.get (.head _), rfl, c, by rw [Array.toArray_toList]⟩ ⟨_, hoT, rfl, cS, by rw [Array.toArray_toList]⟩ hSR hST hokI hokI (by show un + 3 + 64 < _; omega) ?_
    rw [decide_eq_true rfl]
    have kend := FB.keep
    k_steps
    exact ret _ _ _ (hGR hgb) kend
end Mine
end
noncomputable section
open PySem.Builtin PySem.Builtin.Str
namespace Mine

/-! the pieces -/
theorem lit_cm : Str.ofString "," = ⟨#[44]⟩ := by decide +kernel
theorem lit_bb : Str.ofString "\\\\" = ⟨#[92, 92]⟩ := by decide +kernel
theorem lit_bq : Str.ofString "\\\"" = ⟨#[92, 34]⟩ := by decide +kernel
theorem lit_qcq : Str.ofString "\",\"" = ⟨#[34, 44, 34]⟩ := by decide +kernel
theorem lit_nil : Str.ofString "" = ⟨#[]⟩ := by decide +kernel
def encN (d : Nat) : List Nat := if d = 47 then [34, 44, 34] else if d = 92 then [92, 92] else if d = 34 then [92, 34] else [d]
def encL (l : List Nat) : List Nat := l.flatMap encN
theorem enc_three (l : List Nat) : ((l.flatMap fun d => if d = 92 then [92, 92] else [d]).flatMap fun d => if d = 34 then [92, 34] else [d]).flatMap (fun d => if d = 47 then [34, 44, 34] else [d]) = encL l := by
  induction l with
  | nil => rfl
  | cons d l ih =>
    unfold encL at ih ⊢
    rw [List.flatMap_cons, List.flatMap_append, List.flatMap_append, ih, List.flatMap_cons]
    congr 1
    unfold encN
    by_cases h1 : d = 92
    · subst h1; rfl
    · by_cases h2 : d = 34
      · subst h2; rfl
      · by_cases h3 : d = 47
        · subst h3; rfl
        · simp [h1, h2, h3]
theorem quot_L (x : Str) : L (quotF x) = 34 :: (encL (L x) ++ [34]) := by
  unfold quotF heldF
  rw [L_app, L_app, lit_qt, lit_bs, lit_bb, lit_bq, lit_slash, lit_qcq, replace_L, replace_L, replace_L]
  show [34] ++ _ ++ [34] = _
  rw [← enc_three]
  simp

def qS (p : List Nat) : Str := mkS (34 :: (p ++ [34]))
theorem app_mk (a b : List Nat) : mkS a ++ mkS b = mkS (a ++ b) := L_inj (by rw [L_app, L_mkS, L_mkS, L_mkS])
theorem sg_mk (c : Nat) : sg c = mkS [c] := rfl
theorem sg_eq (c d : Nat) : (sg c == (⟨#[d]⟩ : Str)) = decide (c = d) := by
  by_cases h : c = d
  · subst h; simp
  · rw [decide_eq_false h, beq_eq_false_iff_ne]
    intro e
    have := congrArg L e
    simp [L] at this
    exact h this
theorem pStep_esc (res : List Str) (part : Str) (q : Bool) (c : Nat) : pStep ⟨res, part, true, q⟩ (sg c) = ⟨res, part ++ sg c, false, q⟩ := by simp [pStep]
theorem pStep_q (res : List Str) (part : Str) (c : Nat) : pStep ⟨res, part, false, true⟩ (sg c) = if c = 92 then ⟨res, part, true, true⟩ else if c = 34 then ⟨res, part ++ sg c, false, false⟩ else ⟨res, part ++ sg c, false, true⟩ := by
  simp only [pStep, Bool.false_eq_true, if_false, if_true, lit_bs, lit_qt, sg_eq, decide_eq_true_eq]
theorem pStep_o (res : List Str) (part : Str) (c : Nat) : pStep ⟨res, part, false, false⟩ (sg c) = if c = 44 then ⟨res ++ [part], ⟨#[]⟩, false, false⟩ else if c = 34 then ⟨res, part ++ sg c, false, true⟩ else ⟨res, part ++ sg c, false, false⟩ := by
  simp only [pStep, Bool.false_eq_true, if_false, if_true, lit_cm, lit_qt, lit_nil, sg_eq, decide_eq_true_eq]

theorem parse_fold (l : List Nat) : (34 :: encL l).foldl (fun st c => pStep st (sg c)) ⟨[], Str.ofString "", false, false⟩ = ⟨(sp l).dropLast.map qS, mkS (34 :: (sp l).getLastD []), false, true⟩ := by
  refine rev_ind (P := fun l => (34 :: encL l).foldl (fun st c => pStep st (sg c)) ⟨[], Str.ofString "", false, false⟩ = ⟨(sp l).dropLast.map qS, mkS (34 :: (sp l).getLastD []), false, true⟩) ?_ (fun l c ih => ?_) l
  · show pStep ⟨[], Str.ofString "", false, false⟩ (sg 34) = _
    rw [pStep_o, if_neg (by decide), if_pos rfl, lit_nil]
    rfl
  · have e : encL (l ++ [c]) = encL l ++ encN c := by simp [encL]
    rw [e, ← List.cons_append, List.foldl_append, ih, sp_snoc]
    unfold spStep encN
    by_cases h1 : c = 47
    · rw [if_pos h1, if_pos h1, List.dropLast_concat]
      simp only [List.foldl_cons, List.foldl_nil]
      rw [pStep_q, if_neg (by decide), if_pos rfl, pStep_o, if_pos rfl, pStep_o, if_neg (by decide), if_pos rfl]
      have h2 : (sp l ++ [[]]).getLastD [] = [] := by simp
      rw [h2]
      have h6 : mkS (34 :: (sp l).getLastD []) ++ sg 34 = qS ((sp l).getLastD []) := by rw [sg_mk, app_mk]; rfl
      have h7 : (⟨#[]⟩ : Str) ++ sg 34 = mkS [34] := by rw [sg_mk]; exact app_mk [] [34]
      rw [h6, h7]
      conv => rhs; rw [sp_last l]
      rw [List.map_append]
      rfl
    · rw [if_neg h1, if_neg h1, List.dropLast_concat]
      have h2 : ((sp l).dropLast ++ [(sp l).getLastD [] ++ [c]]).getLastD [] = (sp l).getLastD [] ++ [c] := by simp
      rw [h2]
      have h3 : mkS (34 :: (sp l).getLastD []) ++ sg c = mkS (34 :: ((sp l).getLastD [] ++ [c])) := by rw [sg_mk, app_mk]; rfl
      by_cases h4 : c = 92
      · subst h4
        rw [if_pos rfl]
        simp only [List.foldl_cons, List.foldl_nil]
        rw [pStep_q, if_pos rfl, pStep_esc, h3]
      · by_cases h5 : c = 34
        · subst h5
          rw [if_neg (by decide), if_pos rfl]
          simp only [List.foldl_cons, List.foldl_nil]
          rw [pStep_q, if_pos rfl, pStep_esc, h3]
        · rw [if_neg h4, if_neg h5]
          simp only [List.foldl_cons, List.foldl_nil]
          rw [pStep_q, if_neg h4, if_neg h5, h3]

theorem strip_q (p : List Nat) : Txt.strip (qS p) = qS p := by
  have hs : Unicode.isSpace 34 = false := by decide +kernel
  unfold Txt.strip Txt.stripBy
  rw [if_pos]
  have h1 : stripLo Unicode.isSpace true (qS p) = 0 := by
    show ((34 :: (p ++ [34])).takeWhile Unicode.isSpace).length = 0
    rw [List.takeWhile_cons_of_neg (by rw [hs]; decide)]; rfl
  unfold stripSame
  rw [h1]
  have h2 : stripHi Unicode.isSpace true (qS p) 0 = (qS p).length := by
    show (qS p).length - (((34 :: (p ++ [34])).drop 0).reverse.takeWhile Unicode.isSpace).length = _
    have : ((34 :: (p ++ [34])).drop 0).reverse = 34 :: (34 :: p).reverse := by simp
    rw [this, List.takeWhile_cons_of_neg (by rw [hs]; decide)]; rfl
  rw [h2]; simp

theorem parse_pieces (x : Str) : parseF (quotF x) = (sp (L x)).map qS := by
  have hq : (quotF x).cps.toList = (34 :: encL (L x)) ++ [34] := quot_L x
  have hf : pFold (quotF x).cps.toList = ⟨(sp (L x)).dropLast.map qS, qS ((sp (L x)).getLastD []), false, false⟩ := by
    rw [hq]
    unfold pFold
    rw [List.foldl_append, parse_fold]
    simp only [List.foldl_cons, List.foldl_nil]
    rw [pStep_q, if_neg (by decide), if_pos rfl, sg_mk, app_mk]
    rfl
  unfold parseF
  rw [hf]
  have hl : (qS ((sp (L x)).getLastD [])).length ≠ 0 := by
    rw [← L_len]; unfold qS; rw [L_mkS]; simp
  rw [if_neg hl]
  have e : (sp (L x)).dropLast.map qS ++ [qS ((sp (L x)).getLastD [])] = (sp (L x)).map qS := by
    conv => rhs; rw [sp_last (L x)]
    rw [List.map_append]; rfl
  show List.map Txt.strip ((sp (L x)).dropLast.map qS ++ [qS ((sp (L x)).getLastD [])]) = _
  rw [e, List.map_map]
  refine List.map_congr_left fun p _ => ?_
  exact strip_q p
theorem slice_q (p : List Nat) : Txt.slice (qS p) (some 1) (some (-1)) = mkS p := by
  apply L_inj
  rw [slice_L, L_mkS]
  have hl : (qS p).length = p.length + 2 := by rw [← L_len]; unfold qS; rw [L_mkS]; simp
  have h1 : loI (some 1) (p.length + 2) = 1 := by show clipI _ _ = _; unfold clipI; rw [if_neg (by decide)]; omega
  have h2 : hiI (some (-1)) (p.length + 2) = p.length + 1 := by show clipI _ _ = _; unfold clipI; rw [if_pos (by decide)]; omega
  rw [hl, h1, h2]
  show ((34 :: (p ++ [34])).drop 1).take _ = p
  simp
theorem pieces_L (x : Str) : piecesF x = (sp (L x)).map mkS := by
  unfold piecesF
  rw [parse_pieces, List.map_map]
  exact List.map_congr_left fun p _ => slice_q p

theorem join_Ls : ∀ xs : List (List Nat), L (Str.join (Str.ofString "/") (xs.map mkS)) = jn xs
  | [] => rfl
  | [x] => L_mkS x
  | x :: y :: r => by
    have ih := join_Ls (y :: r)
    show L (mkS x ++ Str.ofString "/" ++ Str.join (Str.ofString "/") ((y :: r).map mkS)) = x ++ [47] ++ jn (y :: r)
    rw [L_app, L_app, ih, L_mkS, lit_slash]
theorem join_L (xs : List (List Nat)) : L (Txt.join (Str.ofString "/") (xs.map mkS)) = jn xs := by
  unfold Txt.join
  rw [StrLaws.glued_eq_join, join_Ls]
theorem mk_inj {a b : List Nat} (h : mkS a = mkS b) : a = b := by have := congrArg L h; rwa [L_mkS, L_mkS] at this
theorem ways_L (x : Str) : waysF ((sp (L x)).map mkS) = (waysL (sp (L x))).map mkS := by
  unfold waysF waysL
  rw [List.length_map, dnR_eq, List.map_map]
  have e : (dnR (sp (L x)).length).filter (fullP ((sp (L x)).map mkS)) = (dnR (sp (L x)).length).filter fun k => decide ((sp (L x)).getD (k - 1) [] ≠ []) := by
    refine List.filter_congr fun k hk => ?_
    have hk' := dnR_mem hk
    unfold fullP
    have e1 : ((k : Int) - 1).toNat = k - 1 := by omega
    rw [e1, List.getD_eq_getElem?_getD, List.getD_eq_getElem?_getD, List.getElem?_map, List.getElem?_eq_getElem (by omega), Option.map_some, Option.getD_some, Option.getD_some, lit_nil]
    generalize (sp (L x))[k - 1] = q
    by_cases h : q = []
    · subst h; rfl
    · rw [decide_eq_true h, bne_iff_ne]
      intro e; exact h (mk_inj e)
  rw [e]
  refine List.map_congr_left fun k _ => ?_
  show Txt.join (Str.ofString "/") (((sp (L x)).map mkS).take k) = mkS (jn ((sp (L x)).take k))
  rw [← List.map_take]
  exact L_inj (by rw [join_L, L_mkS])
theorem plain1 (x : Str) : waysF (piecesF x) = ancS x := by
  rw [pieces_L, ways_L]
  unfold ancS
  rw [(anc_ways (L x)).1]
end Mine
end
noncomputable section
open PySem.Builtin PySem.Builtin.Str
namespace Mine

theorem snoc_cases (l : List Nat) : l = [] ∨ ∃ q c, l = q ++ [c] := by
  rcases List.eq_nil_or_concat l with h | ⟨q, c, h⟩
  · exact .inl h
  · exact .inr ⟨q, c, by rw [h]; simp⟩
theorem sl_last {z : Str} {q : List Nat} {c : Nat} (h : L z = q ++ [c]) : L (Txt.slice z (some (-1)) none) = [c] := by
  have hl : z.length = q.length + 1 := by rw [← L_len, h]; simp
  rw [slice_L, hl, h]
  have h1 : loI (some (-1)) (q.length + 1) = q.length := by show clipI _ _ = _; unfold clipI; rw [if_pos (by decide)]; omega
  rw [h1]; simp [hiI]
theorem sl_front {z : Str} {q : List Nat} {c : Nat} (h : L z = q ++ [c]) : L (Txt.slice z none (some (-1))) = q := by
  have hl : z.length = q.length + 1 := by rw [← L_len, h]; simp
  rw [slice_L, hl, h]
  have h1 : hiI (some (-1)) (q.length + 1) = q.length := by show clipI _ _ = _; unfold clipI; rw [if_pos (by decide)]; omega
  rw [h1]; simp [loI]
theorem sl_two {z : Str} {q : List Nat} {c d : Nat} (h : L z = q ++ [d] ++ [c]) : L (Txt.slice z (some (-2)) (some (-1))) = [d] := by
  have hl : z.length = q.length + 2 := by rw [← L_len, h]; simp
  rw [slice_L, hl, h]
  have h1 : hiI (some (-1)) (q.length + 2) = q.length + 1 := by show clipI _ _ = _; unfold clipI; rw [if_pos (by decide)]; omega
  have h2 : loI (some (-2)) (q.length + 2) = q.length := by show clipI _ _ = _; unfold clipI; rw [if_pos (by decide)]; omega
  rw [h1, h2, show q.length + 1 - q.length = 1 by omega]; simp
theorem sl_two1 {z : Str} {c : Nat} (h : L z = [c]) : L (Txt.slice z (some (-2)) (some (-1))) = [] := by
  have hl : z.length = 1 := by rw [← L_len, h]; rfl
  rw [slice_L, hl, h]
  have h1 : hiI (some (-1)) 1 = 0 := by show clipI _ _ = _; unfold clipI; rw [if_pos (by decide)]; omega
  rw [h1]; simp
theorem sl_last0 {z : Str} (h : L z = []) : L (Txt.slice z (some (-1)) none) = [] := by
  rw [slice_L, h]; simp
theorem eq_L {x y : Str} : x = y ↔ L x = L y := ⟨fun e => congrArg L e, L_inj⟩
theorem L_slash1 : L (Str.ofString "/") = [47] := L_slash
theorem ends_iff (z : Str) : (Txt.slice z (some (-1)) none == Str.ofString "/") = true ↔ ∃ q, L z = q ++ [47] := by
  rw [beq_iff_eq, eq_L, L_slash1]
  rcases snoc_cases (L z) with h | ⟨q, c, h⟩
  · rw [sl_last0 h, h]; simp
  · rw [sl_last h, h]
    constructor
    · intro e
      have e' : c = 47 := by simpa using e
      exact ⟨q, by rw [e']⟩
    · rintro ⟨q', e⟩
      have := (List.append_inj' e rfl).2
      exact this
theorem base_pre (x : Str) : L (prefixF x) = L (baseF x) ++ [47] := by
  unfold prefixF baseF
  by_cases h : (Txt.slice x (some (-1)) none == Str.ofString "/") = true
  · obtain ⟨q, hq⟩ := (ends_iff x).mp h
    rw [if_pos h, if_neg (by rw [bne, h]; decide), sl_front hq, hq]
  · rw [if_neg h, if_pos (by rw [bne]; simpa using h), L_app, L_slash1]
theorem starts_L (y p : Str) : Txt.startswith y p = true ↔ L p <+: L y := by
  unfold Txt.startswith
  rw [StrLaws.subAt_eq, Bool.and_eq_true, decide_eq_true_eq, beq_iff_eq, Nat.zero_add, List.drop_zero]
  constructor
  · rintro ⟨_, h⟩
    rw [← show L p = p.cps.toList from rfl] at h
    rw [← h]; exact List.take_prefix _ _
  · intro h
    have := List.prefix_iff_eq_take.mp h
    refine ⟨by rw [← L_len, ← L_len]; exact h.length_le, ?_⟩
    rw [← L_len]
    exact this.symm
theorem mark_L (x : Str) : L (markF x) = mrk (L x) := by
  have e : Str.ofString "/z" = ⟨#[47, 122]⟩ := by decide +kernel
  have e2 : Str.ofString "z" = ⟨#[122]⟩ := by decide +kernel
  unfold markF
  rw [L_app, lit_slash, replace_L, e, e2]
  rfl
theorem anc_mark_drop (y : Str) : (ancS (markF y)).drop 1 = (ancR false (mrk (L y)).reverse).map mkS := by
  unfold ancS
  rw [mark_L, ← List.map_drop]
  obtain ⟨c, r, h, hc⟩ := mrk_last (L y)
  rw [h, ancR_t hc, ancR_f hc]; rfl
theorem sub_iff (x y : Str) : subF (Str.ofString "h") (Str.ofString "h") x y = true ↔ x = y ∨ L (baseF x) ++ [47] <+: L y := by
  unfold subF
  by_cases h : x = y
  · simp [h]
  · have h2 : (Str.ofString "h" == Str.ofString "h" && x == y) = false := by simp [h]
    rw [if_neg (by rw [h2]; decide), if_neg (by simp), starts_L, base_pre]
    simp [h]
theorem plain2 (x y : Str) : subF (Str.ofString "h") (Str.ofString "h") x y = coverF x y ((ancS (markF y)).drop 1) := by
  rw [Bool.eq_iff_iff, sub_iff]
  unfold coverF
  rw [Bool.or_eq_true, beq_iff_eq, List.any_eq_true, anc_mark_drop]
  constructor
  · rintro (h | h)
    · exact .inl h
    · refine .inr ⟨markF (baseF x), List.mem_map.mpr ⟨mrk (L (baseF x)), (anc_mrk _ _).mpr ⟨_, rfl, h⟩, ?_⟩, by simp⟩
      rw [← mark_L, mkS_L]
  · rintro (h | ⟨z, hz, e⟩)
    · exact .inl h
    · rw [beq_iff_eq] at e
      obtain ⟨l, hl, rfl⟩ := List.mem_map.mp hz
      obtain ⟨q, hq, hp⟩ := (anc_mrk _ _).mp hl
      have e2 : l = mrk (L (baseF x)) := by rw [← mark_L, ← e, L_mkS]
      rw [mrk_inj _ _ (e2.symm.trans hq)]
      exact .inr hp
end Mine
end
noncomputable section
open PySem.Builtin PySem.Builtin.Str
namespace Mine

/-! names are short -/
theorem lastS_snoc (ns : List Str) (z : Str) : lastS (ns ++ [z]) = z := by
  unfold lastS; simp [List.getD_eq_getElem?_getD]
theorem names_step {k : Nat} {ns : List Str} (x : Int) (h1 : ns ≠ []) (h2 : (lastS ns).length ≤ k) (h3 : ∀ y ∈ ns, y.length ≤ max 6 k) :
    nameStep ns x ≠ [] ∧ (lastS (nameStep ns x)).length ≤ k + 1 ∧ ∀ y ∈ nameStep ns x, y.length ≤ max 6 (k + 1) := by
  unfold nameStep
  split
  · refine ⟨by simp, by rw [lastS_snoc, lit_nil]; exact Nat.zero_le _, fun y hy => ?_⟩
    rcases List.mem_append.mp hy with q | q
    · have := h3 y q; omega
    · rw [List.mem_singleton.mp q, lit_nil]; exact Nat.zero_le _
  · have hl : (lastS ns ++ sgnF x).length ≤ k + 1 := by
      rw [← L_len, L_app, List.length_append, L_len, L_len, sgn_len]; omega
    refine ⟨by simp, by rw [lastS_snoc]; exact hl, fun y hy => ?_⟩
    rcases List.mem_append.mp hy with q | q
    · have := h3 y (List.dropLast_subset _ q); omega
    · rw [List.mem_singleton.mp q]; omega
theorem names_fold : ∀ (xs : List Int) (k : Nat) (ns : List Str), ns ≠ [] → (lastS ns).length ≤ k → (∀ y ∈ ns, y.length ≤ max 6 k) → ∀ y ∈ xs.foldl nameStep ns, y.length ≤ max 6 (k + xs.length)
  | [], k, ns, _, _, h => h
  | x :: r, k, ns, h1, h2, h3 => by
    obtain ⟨a, b, c⟩ := names_step x h1 h2 h3
    have := names_fold r (k + 1) _ a b c
    rw [List.foldl_cons, List.length_cons, show k + (r.length + 1) = k + 1 + r.length by omega]
    exact this
theorem names_short (xs : List Int) (h : xs.length ≤ 10) : ∀ y ∈ namesF xs, y.length ≤ 10 := by
  intro y hy
  have := names_fold xs 0 [Str.ofString "/a//b/", Str.ofString "/ab", Str.ofString ""] (by simp) (by decide +kernel) (by
    intro y hy
    simp only [List.mem_cons, List.mem_nil_iff, or_false] at hy
    rcases hy with e | e | e <;> rw [e] <;> decide +kernel) y hy
  omega

/-! the heads: each beginning, the longest first, each once -/
abbrev cut (y : Str) (k : Nat) : Str := Txt.slice y none (some (k : Int))
theorem cut_L {y : Str} {k : Nat} (h : k ≤ y.length) : L (cut y k) = (L y).take k := by
  unfold cut
  rw [slice_L]
  have h1 : hiI (some (k : Int)) y.length = k := by show clipI _ _ = _; unfold clipI; rw [if_neg (by omega)]; omega
  rw [h1]; simp [loI]
theorem cut_len {y : Str} {k : Nat} (h : k ≤ y.length) : (cut y k).length = k := by
  rw [← L_len, cut_L h, List.length_take, L_len]; omega
def HOk (k : Nat) (hs : List Str) : Prop := hs.Pairwise (fun a b => b.length ≤ a.length ∧ a ≠ b) ∧ ∀ a ∈ hs, k ≤ a.length
theorem hok_row (k : Nat) : ∀ (l : List Str) (hs : List Str), HOk k hs → HOk k (l.foldl (headStep k) hs) ∧ ∀ z, z ∈ l.foldl (headStep k) hs ↔ z ∈ hs ∨ ∃ y ∈ l, k ≤ y.length ∧ z = cut y k
  | [], hs, h => ⟨h, fun z => by simp⟩
  | y :: l, hs, h => by
    have key : HOk k (headStep k hs y) ∧ ∀ z, z ∈ headStep k hs y ↔ z ∈ hs ∨ (k ≤ y.length ∧ z = cut y k) := by
      unfold headStep
      by_cases h1 : y.length < k
      · rw [if_pos h1]
        exact ⟨h, fun z => ⟨.inl, fun q => q.elim id fun q => absurd q.1 (by omega)⟩⟩
      · rw [if_neg h1]
        by_cases h2 : (hs.any (· == Txt.slice y none (some (k : Int)))) = true
        · rw [if_pos h2]
          obtain ⟨a, ha, e⟩ := List.any_eq_true.mp h2
          rw [beq_iff_eq] at e
          exact ⟨h, fun z => ⟨.inl, fun q => q.elim id fun q => by rw [q.2]; show Txt.slice y none (some (k : Int)) ∈ hs; rw [← e]; exact ha⟩⟩
        · rw [if_neg h2]
          have hc : (cut y k).length = k := cut_len (by omega)
          refine ⟨⟨?_, fun a ha => ?_⟩, fun z => ?_⟩
          · rw [List.pairwise_append]
            refine ⟨h.1, by simp, fun a ha b hb => ?_⟩
            rw [List.mem_singleton.mp hb]
            refine ⟨by show (cut y k).length ≤ _; rw [hc]; exact h.2 a ha, fun e => ?_⟩
            exact h2 (List.any_eq_true.mpr ⟨a, ha, by rw [e]; simp⟩)
          · rcases List.mem_append.mp ha with q | q
            · exact h.2 a q
            · rw [List.mem_singleton.mp q]; show k ≤ (cut y k).length; rw [hc]; exact Nat.le_refl _
          · rw [List.mem_append, List.mem_singleton]
            constructor
            · rintro (q | q)
              · exact .inl q
              · exact .inr ⟨by omega, q⟩
            · rintro (q | q)
              · exact .inl q
              · exact .inr q.2
    obtain ⟨i1, i2⟩ := hok_row k l _ key.1
    refine ⟨i1, fun z => ?_⟩
    rw [List.foldl_cons, i2, key.2]
    constructor
    · rintro ((q | q) | ⟨y', hy, q⟩)
      · exact .inl q
      · exact .inr ⟨y, List.mem_cons_self .., q⟩
      · exact .inr ⟨y', List.mem_cons_of_mem _ hy, q⟩
    · rintro (q | ⟨y', hy, q⟩)
      · exact .inl (.inl q)
      · rcases List.mem_cons.mp hy with e | hy
        · rw [e] at q; exact .inl (.inr q)
        · exact .inr ⟨y', hy, q⟩
noncomputable def dn0 : Nat → List Nat
  | 0 => [0]
  | n + 1 => (n + 1) :: dn0 n
theorem dn0_10 : (List.range 11).map (10 - ·) = dn0 10 := by decide
theorem hok_down (ns : List Str) : ∀ (n : Nat) (hs : List Str), HOk n hs → ((dn0 n).foldl (headRow ns) hs).Pairwise (fun a b => b.length ≤ a.length ∧ a ≠ b) ∧ ∀ z, z ∈ (dn0 n).foldl (headRow ns) hs ↔ z ∈ hs ∨ ∃ y ∈ ns, ∃ k, k ≤ n ∧ k ≤ y.length ∧ z = cut y k
  | 0, hs, h => by
    obtain ⟨i1, i2⟩ := hok_row 0 ns hs h
    refine ⟨i1.1, fun z => ?_⟩
    show z ∈ ns.foldl (headStep 0) hs ↔ _
    rw [i2]
    constructor
    · rintro (q | ⟨y, hy, a, b⟩)
      · exact .inl q
      · exact .inr ⟨y, hy, 0, Nat.le_refl _, a, b⟩
    · rintro (q | ⟨y, hy, k, a, b, c⟩)
      · exact .inl q
      · have : k = 0 := by omega
        subst this; exact .inr ⟨y, hy, b, c⟩
  | n + 1, hs, h => by
    obtain ⟨i1, i2⟩ := hok_row (n + 1) ns hs h
    have i3 : HOk n (ns.foldl (headStep (n + 1)) hs) := ⟨i1.1, fun a ha => Nat.le_of_succ_le (i1.2 a ha)⟩
    obtain ⟨j1, j2⟩ := hok_down ns n _ i3
    refine ⟨j1, fun z => ?_⟩
    show z ∈ (dn0 n).foldl (headRow ns) (ns.foldl (headStep (n + 1)) hs) ↔ _
    rw [j2, i2]
    constructor
    · rintro ((q | ⟨y, hy, a, b⟩) | ⟨y, hy, k, a, b, c⟩)
      · exact .inl q
      · exact .inr ⟨y, hy, n + 1, Nat.le_refl _, a, b⟩
      · exact .inr ⟨y, hy, k, by omega, b, c⟩
    · rintro (q | ⟨y, hy, k, a, b, c⟩)
      · exact .inl (.inl q)
      · by_cases e : k = n + 1
        · rw [e] at b c; exact .inl (.inr ⟨y, hy, b, c⟩)
        · exact .inr ⟨y, hy, k, by omega, b, c⟩
theorem heads_pair (ns : List Str) : (headsF ns).Pairwise (fun a b => b.length ≤ a.length ∧ a ≠ b) := by
  unfold headsF; rw [dn0_10]
  exact (hok_down ns 10 [] ⟨List.Pairwise.nil, fun a ha => nomatch ha⟩).1
theorem heads_mem (ns : List Str) (z : Str) : z ∈ headsF ns ↔ ∃ y ∈ ns, ∃ k, k ≤ 10 ∧ k ≤ y.length ∧ z = cut y k := by
  unfold headsF; rw [dn0_10, (hok_down ns 10 [] ⟨List.Pairwise.nil, fun a ha => nomatch ha⟩).2 z]
  simp

/-! which heads are ends -/
theorem two_any (w : Str) : ([Str.ofString "", Str.ofString "/"].any fun x => x == w) = true ↔ L w = [] ∨ L w = [47] := by
  simp only [List.any_cons, List.any_nil, Bool.or_false, Bool.or_eq_true, beq_iff_eq]
  rw [eq_L, eq_L, L_slash1, lit_nil]
  constructor
  · rintro (e | e)
    · exact .inl e.symm
    · exact .inr e.symm
  · rintro (e | e)
    · exact .inl e.symm
    · exact .inr e.symm
theorem endP_iff (ns : List Str) (z : Str) : endP ns z = true ↔ (∃ p, L z = p ++ [47] ∧ p ≠ [] ∧ p.getLast? ≠ some 47) ∧ z ∉ ns := by
  unfold endP
  rw [Bool.and_eq_true, Bool.and_eq_true, ends_iff, Bool.not_eq_true', Bool.not_eq_true', ← Bool.not_eq_true, ← Bool.not_eq_true, two_any]
  have hn : ¬ (ns.any fun x => x == z) = true ↔ z ∉ ns := by
    rw [List.any_eq_true]
    constructor
    · intro h m; exact h ⟨z, m, by simp⟩
    · rintro h ⟨x, hx, e⟩
      rw [beq_iff_eq] at e
      exact h (e ▸ hx)
  rw [hn]
  constructor
  · rintro ⟨⟨⟨p, hp⟩, h2⟩, h3⟩
    refine ⟨⟨p, hp, ?_⟩, h3⟩
    rcases snoc_cases p with e | ⟨q, d, e⟩
    · rw [e] at hp
      exact absurd (.inl (sl_two1 hp)) h2
    · rw [e] at hp ⊢
      rw [sl_two hp] at h2
      refine ⟨by simp, fun e2 => h2 (.inr ?_)⟩
      have : d = 47 := by simpa using e2
      rw [this]
  · rintro ⟨⟨p, hp, h1, h2⟩, h3⟩
    refine ⟨⟨⟨p, hp⟩, ?_⟩, h3⟩
    rcases snoc_cases p with e | ⟨q, d, e⟩
    · exact absurd e h1
    · rw [e] at hp h2
      rw [sl_two hp]
      rintro (r | r)
      · cases r
      · apply h2
        have : d = 47 := by simpa using r
        rw [this]; simp

/-! folds -/
theorem fStep_dd (whole : Str) (fs : List Str) (h : Str) : fStep whole fs h = if subF (Str.ofString "h") (Str.ofString "h") h whole = true then ddS fs h else fs := by
  unfold fStep ddS
  by_cases a : (fs.any fun x => x == h) = true
  · rw [if_pos a, if_pos a]; split <;> rfl
  · rw [if_neg a, if_neg a]
theorem fRow_dd (whole : Str) : ∀ (ends fs : List Str), ends.foldl (fStep whole) fs = (ends.filter (fun h => subF (Str.ofString "h") (Str.ofString "h") h whole)).foldl ddS fs
  | [], fs => rfl
  | h :: l, fs => by
    rw [List.foldl_cons, fStep_dd, List.filter_cons]
    by_cases a : subF (Str.ofString "h") (Str.ofString "h") h whole = true
    · rw [if_pos a, if_pos a, List.foldl_cons]; exact fRow_dd whole l _
    · rw [if_neg a, if_neg a]; exact fRow_dd whole l _
abbrev subW (y : Str) (h : Str) : Bool := subF (Str.ofString "h") (Str.ofString "h") h (Txt.rstripChars y (Str.ofString "/"))
theorem folders_dd (ends : List Str) : ∀ (ns fs : List Str), ns.foldl (fRow ends) fs = (ns.flatMap fun y => ends.filter (subW y)).foldl ddS fs
  | [], fs => rfl
  | y :: ns, fs => by
    rw [List.foldl_cons, List.flatMap_cons, List.foldl_append, folders_dd ends ns]
    congr 1
    exact fRow_dd _ _ _

theorem fall_filter {f : Str → Nat} {p : Str → Bool} {l : List Str} (h : l.Pairwise (fun a b => f b < f a)) : (l.filter p).Pairwise (fun a b => f b < f a) := h.sublist List.filter_sublist

theorem way_mem (y : Str) (z : Str) : z ∈ ((ancS y).drop 1).map (· ++ Str.ofString "/") ↔ ∃ p, L z = p ++ [47] ∧ p ≠ [] ∧ p.getLast? ≠ some 47 ∧ p ++ [47] <+: L (Txt.rstripChars y slash) := by
  unfold ancS
  rw [← List.map_drop, anc_drop, ← rstrip_slash, List.map_map]
  have hm := (anc_mem (L (Txt.rstripChars y slash)).reverse).2
  rw [List.reverse_reverse] at hm
  constructor
  · intro h
    obtain ⟨p, hp, rfl⟩ := List.mem_map.mp h
    obtain ⟨a, b, c⟩ := (hm p).mp hp
    refine ⟨p, ?_, a, b, c⟩
    show L (mkS p ++ Str.ofString "/") = _
    rw [L_app, L_mkS, L_slash1]
  · rintro ⟨p, e, a, b, c⟩
    refine List.mem_map.mpr ⟨p, (hm p).mpr ⟨a, b, c⟩, L_inj ?_⟩
    show L (mkS p ++ Str.ofString "/") = _
    rw [L_app, L_mkS, L_slash1, e]
theorem way_fall (y : Str) : (((ancS y).drop 1).map (· ++ Str.ofString "/")).Pairwise (fun a b => b.length < a.length) := by
  unfold ancS
  rw [← List.map_drop, List.map_map, List.pairwise_map]
  have h := ((anc_len (L y).reverse true).2.1).sublist (List.drop_sublist 1 _)
  refine h.imp fun {a b} hab => ?_
  show (mkS b ++ Str.ofString "/").length < (mkS a ++ Str.ofString "/").length
  have e1 : ∀ l : List Nat, (mkS l ++ Str.ofString "/").length = l.length + 1 := fun l => by
    rw [← L_len, L_app, L_mkS, L_slash1, List.length_append]; rfl
  rw [e1, e1]
  omega

theorem row_same (ns : List Str) (hs10 : ∀ y ∈ ns, y.length ≤ 10) (y : Str) (hy : y ∈ ns) :
    ((((ancS y).drop 1).map (· ++ Str.ofString "/")).filter fun z => !((fmS ns ns.length).any (· == z))) = ((headsF ns).filter (endP ns)).filter (subW y) := by
  have hnin : ∀ z : Str, (!((fmS ns ns.length).any (· == z))) = true ↔ z ∉ ns := by
    intro z
    rw [fmS_any, List.take_length, Bool.not_eq_true', ← Bool.not_eq_true, List.any_eq_true]
    constructor
    · intro h m; exact h ⟨z, m, by simp⟩
    · rintro h ⟨x, hx, e⟩
      rw [beq_iff_eq] at e
      exact h (e ▸ hx)
  have hsub : ∀ (z : Str) (p : List Nat), L z = p ++ [47] → (subW y z = true ↔ p ++ [47] <+: L (Txt.rstripChars y slash)) := by
    intro z p hz
    show subF (Str.ofString "h") (Str.ofString "h") z (Txt.rstripChars y slash) = true ↔ _
    rw [sub_iff]
    have hb : L (baseF z) = p := by
      unfold baseF
      rw [if_pos ((ends_iff z).mpr ⟨p, hz⟩), sl_front hz]
    rw [hb]
    constructor
    · rintro (e | e)
      · have h := rstrip_endy y
        rw [← e, hz, List.reverse_append] at h
        rcases h with h | ⟨c, q, h1, h2⟩
        · have hp : ∀ c ∈ L y, c = 47 := by
            have h3 : (Txt.rstripChars y slash).length = (p ++ [47]).length := by rw [← e, ← L_len, hz]
            have h4 := rstrip_slash y
            rw [← e, hz] at h4
            have h5 := List.head?_dropWhile_not (· == 47) (L y).reverse
            rw [← h4, List.reverse_append] at h5
            simp at h5
          have h0 := (rstrip_len0 y).mpr hp
          rw [← e, ← L_len, hz] at h0
          simp at h0
        · simp at h1
          exact absurd h1.1.symm h2
      · exact e
    · exact .inr
  refine same_fall (f := Str.length) _ _ (fall_filter (way_fall y)) ?_ fun z => ?_
  · have h1 : (((headsF ns).filter (endP ns)).filter (subW y)).Pairwise (fun a b => b.length ≤ a.length ∧ a ≠ b) := ((heads_pair ns).sublist List.filter_sublist).sublist List.filter_sublist
    refine h1.imp_of_mem fun {a b} ha hb hab => ?_
    refine Nat.lt_of_le_of_ne hab.1 fun e => hab.2 (L_inj ?_)
    have ha' := List.mem_filter.mp ha
    have hb' := List.mem_filter.mp hb
    obtain ⟨⟨pa, hpa, _⟩, _⟩ := (endP_iff ns a).mp (List.mem_filter.mp ha'.1).2
    obtain ⟨⟨pb, hpb, _⟩, _⟩ := (endP_iff ns b).mp (List.mem_filter.mp hb'.1).2
    have wa := (hsub a pa hpa).mp ha'.2
    have wb := (hsub b pb hpb).mp hb'.2
    rw [← hpa] at wa
    rw [← hpb] at wb
    rw [List.prefix_iff_eq_take.mp wa, List.prefix_iff_eq_take.mp wb, L_len, L_len, e]
  · rw [List.mem_filter, List.mem_filter, List.mem_filter, way_mem, hnin, endP_iff, heads_mem]
    constructor
    · rintro ⟨⟨p, hz, h1, h2, h3⟩, h4⟩
      refine ⟨⟨?_, ⟨p, hz, h1, h2⟩, h4⟩, (hsub z p hz).mpr h3⟩
      have h5 : p ++ [47] <+: L y := by
        refine h3.trans ?_
        have := List.dropWhile_suffix (l := (L y).reverse) (· == 47)
        rw [← rstrip_slash] at this
        have h6 := List.reverse_prefix.mpr this
        rwa [List.reverse_reverse, List.reverse_reverse] at h6
      have hl : (p ++ [47]).length ≤ y.length := by rw [← L_len y]; exact h5.length_le
      refine ⟨y, hy, (p ++ [47]).length, Nat.le_trans hl (hs10 y hy), hl, L_inj ?_⟩
      rw [cut_L hl, hz]
      exact List.prefix_iff_eq_take.mp h5
    · rintro ⟨⟨_, ⟨p, hz, h1, h2⟩, h4⟩, h5⟩
      exact ⟨⟨p, hz, h1, h2, (hsub z p hz).mp h5⟩, h4⟩

theorem plain3 (xs : List Int) : impliedF (namesF (xs.take 10)) = foldersF (namesF (xs.take 10)) (headsF (namesF (xs.take 10))) := by
  have h10 := names_short (xs.take 10) (by rw [List.length_take]; omega)
  generalize namesF (xs.take 10) = ns at h10
  unfold impliedF foldersF
  rw [folders_dd]
  congr 1
  show List.filter _ (ns.flatMap _) = _
  rw [List.filter_flatMap]
  have key : ∀ l : List Str, (∀ y ∈ l, y ∈ ns) → (l.flatMap fun y => (((ancS y).drop 1).map (· ++ Str.ofString "/")).filter fun z => !((fmS ns ns.length).any (· == z))) = l.flatMap fun y => ((headsF ns).filter (endP ns)).filter (subW y) := by
    intro l
    induction l with
    | nil => intro _; rfl
    | cons y l ih =>
      intro h
      rw [List.flatMap_cons, List.flatMap_cons, ih fun z hz => h z (List.mem_cons_of_mem _ hz), row_same ns h10 y (h y (List.mem_cons_self ..))]
  exact key ns fun y h => h
end Mine
end
set_option maxHeartbeats 8000000 in
theorem PySem.Challenge.cw_il0008_01_holds : PySem.Challenge.rw_il0008_01.Holds := by
  refine Mine.hd ?_
  k_fill
  intro w s₀ s₁ mg mb G Y fa o pm cd doc dV kV ho hd hcd hD hmg hg args vals as hpre hlay hrd hwl hlo
  have KX := kIn_of Y
  refine Ground.open G ?_
  intro T B D TE TW
  have e265 : mg (Str.ofString "law") = some (.ref 265) := mg_of KX T.g (by k_is)
  have efa : fa = 265 := by
    have h2 : some (Value.ref fa) = some (Value.ref 265) := hmg.symm.trans e265
    injection h2 with h3
    injection h3
  subst efa
  clear hmg hd hcd hD ho
  wrow_args hpre hlay hrd hwl hlo
  rename IntsAre _ _ => hI
  rename Heap.IsList _ _ _ => hL
  refine Mine.law_body (dp := 1 + claimMargin) (un := 4) (gd := some []) (by decide +kernel) (by decide +kernel) (fun y _ => Mine.plain1 y) Mine.plain2 (Mine.plain3 _) ⟨KX, _, _, _, T⟩ hL hI (by omega) (by rw [hg]; exact .empty) fun h' tk gs' hb hk => ?_
  exact ⟨.inl ⟨_, _, [], rfl, (fun _ => rfl), ReadsW.bool true, by first | rfl | wrow_post, fun _ => ⟨List.nodup_nil, fun _ hm => (nomatch hm)⟩⟩, .of_keep hk, rfl, hb⟩
