import PyProof.Rows.All
import Wide.All
import OpenK.AllK
import Wide.FinOn
import PyProof.GenQ
import PySem.Challenge.RW_re0036_02
set_option Elab.async false
set_option compiler.extract_closed false
section
open PySem PySem.W PyProof.Rows
set_option maxRecDepth 100000
set_option maxHeartbeats 8000000
noncomputable def PySem.W.Fast.tw9011979029575296479 : Unit := ()
noncomputable def PySem.W.Fast.tw1291980286583624508 : Unit := ()
noncomputable def PySem.W.Fast.tw1258717718454355964 : Unit := ()
noncomputable def PySem.W.Fast.tw282004115355043989 : Unit := ()
noncomputable def PySem.W.Fast.tw7275051467321613617 : Unit := ()
noncomputable def PySem.W.Fast.tw10528696920762540405 : Unit := ()
noncomputable def PySem.W.Fast.tw12233582284571471492 : Unit := ()
noncomputable def PySem.W.Fast.tw1829445100760108279 : Unit := ()
noncomputable def PySem.W.Fast.tw4011157648589011858 : Unit := ()
noncomputable def PySem.W.Fast.tw12268644228514654432 : Unit := ()
noncomputable def PySem.W.Fast.tw704327219915372674 : Unit := ()
noncomputable def PySem.W.Fast.tw10010936943081839664 : Unit := ()
noncomputable def PySem.W.Fast.tw151948405760981731 : Unit := ()
noncomputable def PySem.W.Fast.tw13607416678640721797 : Unit := ()
noncomputable def PySem.W.Fast.tw13215998728584607739 : Unit := ()
noncomputable def PySem.W.Fast.tw15007238320947547705 : Unit := ()
noncomputable def PySem.W.Fast.tw15168306246750427876 : Unit := ()
noncomputable def PySem.W.Fast.tw3891137856419664920 : Unit := ()
noncomputable def PySem.W.Fast.tw17888162413812561239 : Unit := ()
noncomputable def PySem.W.Fast.tw14537914154153760125 : Unit := ()
noncomputable def PySem.W.Fast.tw14108194823987119177 : Unit := ()
noncomputable def PySem.W.Fast.tw5131478536388391638 : Unit := ()
noncomputable def PySem.W.Fast.tw14126943448341045398 : Unit := ()
noncomputable def PySem.W.Fast.tw12700139031502230420 : Unit := ()
noncomputable def PySem.W.Fast.tw6589095468515690095 : Unit := ()
noncomputable def PySem.W.Fast.tw10948738476641704880 : Unit := ()
noncomputable def PySem.W.Fast.tw17975652961387846372 : Unit := ()
noncomputable def PySem.W.Fast.tw14333388528381170442 : Unit := ()
noncomputable def PySem.W.Fast.tw8579058602437062094 : Unit := ()
noncomputable def PySem.W.Fast.tw17111948838632640456 : Unit := ()
noncomputable def PySem.W.Fast.tw16817318245366136608 : Unit := ()
noncomputable def PySem.W.Fast.tw10007627690174824804 : Unit := ()
noncomputable def PySem.W.Fast.tw16531745337717519161 : Unit := ()
noncomputable def PySem.W.Fast.tw14834023430324568649 : Unit := ()
noncomputable def PySem.W.Fast.tw1503297043503765363 : Unit := ()
noncomputable def PySem.W.Fast.tw13016732220969518872 : Unit := ()
noncomputable def PySem.W.Fast.tw15263041282635125899 : Unit := ()
noncomputable def PySem.W.Fast.tw5721027456603625697 : Unit := ()
noncomputable def PySem.W.Fast.tw17336000867468585007 : Unit := ()
noncomputable def PySem.W.Fast.tw13317431791736044220 : Unit := ()
noncomputable def PySem.W.Fast.tw8860024209350480642 : Unit := ()
noncomputable def PySem.W.Fast.tw636462944352149979 : Unit := ()
noncomputable def PySem.W.Fast.tw3778451253796500701 : Unit := ()
noncomputable def PySem.W.Fast.tw17476080006546285661 : Unit := ()
noncomputable def PySem.W.Fast.tw3282434896037501709 : Unit := ()
noncomputable def PySem.W.Fast.tw16350708796919097252 : Unit := ()
noncomputable def PySem.W.Fast.tw2283851925072248500 : Unit := ()
noncomputable def PySem.W.Fast.tw4302124980754421698 : Unit := ()
noncomputable def PySem.W.Fast.tw17000155066101142889 : Unit := ()
noncomputable def PySem.W.Fast.tw15980859228951719591 : Unit := ()
noncomputable def PySem.W.Fast.tw8206430501311747189 : Unit := ()
noncomputable def PySem.W.Fast.tw3105397867545767578 : Unit := ()
noncomputable def PySem.W.Fast.tw17988542015724977305 : Unit := ()
noncomputable def PySem.W.Fast.tw3972328310683599613 : Unit := ()
noncomputable def PySem.W.Fast.tw8753696776887207221 : Unit := ()
noncomputable def PySem.W.Fast.tw6380047634161181297 : Unit := ()
noncomputable def PySem.W.Fast.tw13678640442995254988 : Unit := ()
noncomputable def PySem.W.Fast.tw1702518465993881591 : Unit := ()
noncomputable def PySem.W.Fast.tw16505396211076619384 : Unit := ()
noncomputable def PySem.W.Fast.tw8075568018651887793 : Unit := ()
noncomputable def PySem.W.Fast.tw17100903815162463580 : Unit := ()
noncomputable def PySem.W.Fast.tw15066959818950650227 : Unit := ()
noncomputable def PySem.W.Fast.tw4090926877573551719 : Unit := ()
noncomputable def PySem.W.Fast.tw16018607276475445134 : Unit := ()
noncomputable def PySem.W.Fast.tw3152983702415266003 : Unit := ()
noncomputable def PySem.W.Fast.tw10942035263794033107 : Unit := ()
noncomputable def PySem.W.Fast.tw2862820112641550484 : Unit := ()
noncomputable def PySem.W.Fast.tw7269565832213808900 : Unit := ()
noncomputable def PySem.W.Fast.tw12945451867199242903 : Unit := ()
noncomputable def PySem.W.Fast.tw1962928258387122110 : Unit := ()
noncomputable def PySem.W.Fast.tw16241802466949684156 : Unit := ()
noncomputable def PySem.W.Fast.tw9315938663221665524 : Unit := ()
noncomputable def PySem.W.Fast.tw3188161015044419868 : Unit := ()
noncomputable def PySem.W.Fast.tw1333364371103165705 : Unit := ()
noncomputable def PySem.W.Fast.tw8603108125212654177 : Unit := ()
noncomputable def PySem.W.Fast.tw1218959903707654005 : Unit := ()
noncomputable def PySem.W.Fast.tw16916688483869632129 : Unit := ()
noncomputable def PySem.W.Fast.tw10833955939284561965 : Unit := ()
noncomputable def PySem.W.Fast.tw17532718790514356516 : Unit := ()
noncomputable def PySem.W.Fast.tw9948023125614773506 : Unit := ()
noncomputable def PySem.W.Fast.tw10938465397075749097 : Unit := ()
noncomputable def PySem.W.Fast.tw17730428716208468724 : Unit := ()
noncomputable def PySem.W.Fast.tw1414301608579184545 : Unit := ()
noncomputable def PySem.W.Fast.tw17018628822417861297 : Unit := ()
noncomputable def PySem.W.Fast.tw11985326045990495214 : Unit := ()
noncomputable def PySem.W.Fast.tw13236226663087606529 : Unit := ()
noncomputable def PySem.W.Fast.tw392140993173905013 : Unit := ()
noncomputable def PySem.W.Fast.tw18056578402003937789 : Unit := ()
noncomputable def PySem.W.Fast.tw8537084889766193716 : Unit := ()
noncomputable def PySem.W.Fast.tw15112985482279097393 : Unit := ()
noncomputable def PySem.W.Fast.tw18340240734955500558 : Unit := ()
noncomputable def PySem.W.Fast.tw7892128664451923741 : Unit := ()
noncomputable def PySem.W.Fast.tw18220123701641295943 : Unit := ()
noncomputable def PySem.W.Fast.tw6448080314894763839 : Unit := ()
noncomputable def PySem.W.Fast.tw9908251947323293946 : Unit := ()
noncomputable def PySem.W.Fast.tw7276740287692124622 : Unit := ()
noncomputable def PySem.W.Fast.tw12866136484021002089 : Unit := ()
noncomputable def PySem.W.Fast.tw11420187438672877268 : Unit := ()
noncomputable def PySem.W.Fast.tw7745614565497352828 : Unit := ()
noncomputable def PySem.W.Fast.tw6683783046931543321 : Unit := ()
noncomputable def PySem.W.Fast.tw14979626087600564940 : Unit := ()
noncomputable def PySem.W.Fast.tw8424611434330503625 : Unit := ()
noncomputable def PySem.W.Fast.tw13900631225919944168 : Unit := ()
noncomputable def PySem.W.Fast.tw8376441433122354887 : Unit := ()
noncomputable def PySem.W.Fast.tw7304268236622374541 : Unit := ()
noncomputable def PySem.W.Fast.tw11729385059970357855 : Unit := ()
noncomputable def PySem.W.Fast.tw10227693086864044499 : Unit := ()
noncomputable def PySem.W.Fast.tw6245536207120538393 : Unit := ()
noncomputable def PySem.W.Fast.tw9564595351457756722 : Unit := ()
noncomputable def PySem.W.Fast.tw17000458434675057986 : Unit := ()
noncomputable def PySem.W.Fast.tw16049961110935095269 : Unit := ()
noncomputable def PySem.W.Fast.tw16986315314074602953 : Unit := ()
noncomputable def PySem.W.Fast.tw5902227825499142635 : Unit := ()
noncomputable def PySem.W.Fast.tw3764465048917985505 : Unit := ()
noncomputable def PySem.W.Fast.tw17279654841073493023 : Unit := ()
namespace Mine
open_top hd for PySem.Challenge.rw_re0036_02
end Mine
end
section
open PySem PySem.W PyProof.Rows
open PySem.Builtin PySem.Builtin.Str
set_option maxRecDepth 100000
set_option maxHeartbeats 8000000
namespace Mine

/-! texts: rules that the walk lacks -/
noncomputable def find4 (x y : Str) (i j : Int) : Int := match occurrences x y (fromIndex x.length i) (min (fromIndex x.length j) x.length) 1 with | k :: _ => (k : Int) | [] => -1
theorem gives_find4 (x y : Str) (i j : Int) (t u v v' : Tok) : Gives («str.find» ⟨[.str x t, .str y u, .int i v, .int j v'], []⟩) (.int (find4 x y i j)) := by
  show Gives (match occurrences x y (fromIndex x.length i) (min (fromIndex x.length j) x.length) 1 with | k :: _ => retInt k | [] => (do rule "str.find.not-found"; retInt (-1))) _
  unfold find4
  cases occurrences x y (fromIndex x.length i) (min (fromIndex x.length j) x.length) 1 with
  | nil => exact .rule (.of_eq rfl)
  | cons k _ => exact .of_eq rfl
section
variable {prog : Program} {w : World} {A : Around} {E : Value → Shared → Prop} {s : Shared} {x y : Str} {t u v v' : Tok} {i j : Int}
theorem call_find4 {Q : Value → Shared → Prop} (hq : ∀ t k, Q (.int (find4 x y i j) t) { s with toks := k }) : wpAny (model prog w) A (call (.builtin "str.find") [.str x t, .str y u, .int i v, .int j v']) Q E s :=
  call_gives F.slot_str_find (typeIs_str _ _ _) F.entry_str_find (F.args_str_find_4 _ _ _ _) (gives_find4 x y i j t u v v') (hq _ _)
theorem truthy_pos {Q : Bool → Shared → Prop} (hp : 1 ≤ x.length) (hl : x.length ≤ 1000) (h : ∀ k, Q true { s with toks := k }) : wpAny (model prog w) A (PySem.truthy (.str x t)) Q E s :=
  P.truthy_str (by lia  ) (by have e : ((x.length : Int) != 0) = true := by rw [bne_iff_ne]; lia  
                              rw [e]; exact h _)
theorem truthy_nil {Q : Bool → Shared → Prop} (hp : x.length = 0) (h : ∀ k, Q false { s with toks := k }) : wpAny (model prog w) A (PySem.truthy (.str x t)) Q E s :=
  P.truthy_str (by lia  ) (by have e : ((x.length : Int) != 0) = false := by rw [hp]; rfl
                              rw [e]; exact h _)
end

/-! loops -/
inductive TurnI (h₀ : Heap) (L : Addr) (wr : List Addr) (own : List (Addr × Obj)) (J : (Str → Option Value) → List (Addr × Obj) → Array GenState → Prop) (dr : Drawn) (os : OsState) (s₃ : Shared) : Prop
  | mk (h' : Heap) (tk : Nat) (g : Array GenState) (m₂ : Str → Option Value) (news₂ : List (Addr × Obj)) (e : s₃ = ⟨h', g, dr, tk, os⟩) (F : Fr h₀ L h' m₂) (N : News h₀ L h' (news₂ ++ own)) (hn : ∀ p ∈ news₂, p.1 ∉ wr) (hJ : J m₂ news₂ g) : TurnI h₀ L wr own J dr os s₃
noncomputable def TurnEnd (h₀ : Heap) (L : Addr) (wr : List Addr) (own : List (Addr × Obj)) (J : (Str → Option Value) → List (Addr × Obj) → Array GenState → Prop) (s s₃ : Shared) : Prop := TurnI h₀ L wr own J s.drawn s.os s₃
noncomputable def TurnPost (h₀ : Heap) (L : Addr) (wr : List Addr) (own : List (Addr × Obj)) (J : (Str → Option Value) → List (Addr × Obj) → Array GenState → Prop) (s : Shared) (Q : Flow → Shared → Prop) (f : Flow) (s₃ : Shared) : Prop :=
  match f with
  | .ret v => Q (.ret v) s₃
  | .brk => Q .next s₃
  | _ => TurnEnd h₀ L wr own J s s₃

section
variable {prog : Program} {w : World} {A : Around} {s : Shared} {env : Env} {h₀ : Heap}
theorem news_swap {L : Addr} {h : Heap} {a b : List (Addr × Obj)} (N : News h₀ L h (a ++ b)) : News h₀ L h (b ++ a) := fun p hp =>
  N p ((List.mem_append.mp hp).elim (fun q => List.mem_append.mpr (.inr q)) fun q => List.mem_append.mpr (.inl q))
inductive ForI (St : Nat → Heap → Prop) (h₀ : Heap) (L : Addr) (wr : List Addr) (J : Nat → (Str → Option Value) → List (Addr × Obj) → Array GenState → Prop) (n : Nat) (s : Shared) (k : Nat) (s' : Shared) : Prop
  | mk (h' : Heap) (tk : Nat) (g : Array GenState) (m' : Str → Option Value) (news' : List (Addr × Obj)) (i : Nat) (e : s' = { s with heap := h', toks := tk, gens := g }) (hst : St i h') (F : Fr h₀ L h' m') (N : News h₀ L h' news') (hnw : ∀ p ∈ news', p.1 ∉ wr) (hJ : J i m' news' g) (hi : i ≤ n) (hk : k = n + 1 - i) : ForI St h₀ L wr J n s k s'
theorem forW {R : Result → Shared → Prop} {x : Str} {px : Pos} {body : List Stmt} {I : Addr} {fp wr : List Addr} {n : Nat} {P : Nat → Value → Prop} {St : Nat → Heap → Prop} {m : Str → Option Value}
    {news : List (Addr × Obj)} (W : Walks prog w A I fp wr n P St) (hx : env.kindOf x = some .local)
    (hp : (env.scope.kind == .class || (env.scope.kind == .module && env.locals != env.globals)) = false)
    (hLf : env.locals ∉ fp) (hwr : ∀ b ∈ wr, h₀.get? b = none) (hnw : ∀ p ∈ news, p.1 ∉ wr)
    (hst : St 0 s.heap) (F : Fr h₀ env.locals s.heap m) (N : News h₀ env.locals s.heap news)
    (J : Nat → (Str → Option Value) → List (Addr × Obj) → Array GenState → Prop) (h0 : J 0 m news s.gens)
    (step : ∀ i v m₁ news₁ h tk g own, i < n → P i v → J i m₁ news₁ g → (∀ p ∈ news₁, p.1 ∉ wr) → (∀ p ∈ own, p.1 ∈ fp) →
      Fr h₀ env.locals h (fun y => if y = x then some v else m₁ y) → News h₀ env.locals h (news₁ ++ own) →
      wpAny (model prog w) A (execs body env) (TurnPost h₀ env.locals wr own (J (i + 1)) s fun f s' => R (.ok f) s') (notedBy (model prog w) A env fun e s' => R (.error e) s') { s with heap := h, toks := tk, gens := g })
    (hR : ∀ h' tk g m' news', Fr h₀ env.locals h' m' → News h₀ env.locals h' news' → J n m' news' g → R (.ok .next) { s with heap := h', toks := tk, gens := g }) :
    codeAny (model prog w) A (.forLoop (.Name x px) (.ref I) body [] env) R s := by
  have hLw : env.locals ∉ wr := fun h => hLf (W.sub _ h)
  have old : ∀ b o, h₀.get? b = some o → b ∉ wr := fun b o e hb => by rw [hwr b hb] at e; cases e
  refine codeAny_forLoop
    (ForI St h₀ env.locals wr J n s) ?_ (n + 1)
    ⟨s.heap, s.toks, s.gens, m, news, 0, rfl, hst, F, N, hnw, h0, Nat.zero_le _, rfl⟩
  rintro k s' ⟨h', tk, g, m', news', i, rfl, hst', F', N', hnw', hJ, hi, rfl⟩
  have next : ∀ h₁ : Heap, (∀ b o, b ∉ wr → h'.get? b = some o → h₁.get? b = some o) → Fr h₀ env.locals h₁ m' ∧ News h₀ env.locals h₁ news' := fun h₁ hk₁ =>
    ⟨⟨F'.ns.at' fun o e => hk₁ _ o hLw e, fun b o e => hk₁ b o (old b o e) (F'.keep b o e), F'.above⟩, fun p hp => ⟨hk₁ _ _ (hnw' p hp) (N' p hp).1, (N' p hp).2⟩⟩
  by_cases hlt : i < n
  · refine W.item i _ _ _ hlt hst' fun v h₁ tk₁ hP hst₁ hk₁ => ?_
    obtain ⟨F₁, N₁⟩ := next h₁ hk₁
    refine wpAny_assign_Name (wpAny_storeName_local hx F₁.ns (fun h₂ hn₂ hs₂ => ?_) hp)
    have F₂ := F₁.set hn₂ hs₂
    have Nown : News h₀ env.locals h₂ (ownOf h₀ fp h₂) := news_ownOf hLf
    have hst₂ : St (i + 1) h₂ := W.frame _ _ _ hst₁ fun b hb o e => (hs₂.2 b fun q => hLf (q ▸ hb)).trans e
    refine wpAny_mono (step i v m' news' h₂ _ g (ownOf h₀ fp h₂) hlt hP hJ hnw' ownOf_sub F₂ (news_swap (Nown.append (N₁.set hs₂)))) (fun f s₃ h₃ => ?_) fun _ _ e => e
    have fin : TurnEnd h₀ env.locals wr (ownOf h₀ fp h₂) (J (i + 1)) s s₃ → ∃ m_1, m_1 < n + 1 - i ∧ ForI St h₀ env.locals wr J n s m_1 s₃ := by
      rintro ⟨h₃', tk₃, g₃, m₂, news₂, rfl, F₃, N₃, ha₃, hJ₃⟩
      refine ⟨n + 1 - (i + 1), by lia  , h₃', tk₃, g₃, m₂, news₂, i + 1, rfl, ?_, F₃, fun p hp => N₃ p (List.mem_append_left _ hp), ha₃, hJ₃, hlt, rfl⟩
      refine W.frame _ _ _ hst₁ fun b hb o e => ?_
      have e₂ : h₂.get? b = some o := (hs₂.2 b fun q => hLf (q ▸ hb)).trans e
      cases hn : h₀.get? b with
      | some o₀ =>
        have : o₀ = o := by have := F₂.keep b o₀ hn; rw [e₂] at this; exact (Option.some.inj this).symm
        exact this ▸ F₃.keep b o₀ hn
      | none => exact (N₃ _ (List.mem_append_right _ (mem_ownOf hb hn e₂))).1
    cases f with
    | ret v => exact h₃
    | brk => exact h₃
    | cont => exact fin h₃
    | next => exact fin h₃
  · have hin : i = n := by lia  
    subst hin
    refine W.done _ _ _ hst' fun h₁ tk₁ hk₁ => wpAny_execs_nil ?_
    obtain ⟨F₁, N₁⟩ := next h₁ hk₁
    exact hR h₁ tk₁ g m' news' F₁ N₁ hJ
end

/-! comprehensions -/
inductive EltI (h₀ : Heap) (L : Addr) (m : Str → Option Value) (bad : List Addr) (own : List (Addr × Obj)) (J : Value → List (Addr × Obj) → Array GenState → Prop) (dr : Drawn) (os : OsState) (y : Value) (s₃ : Shared) : Prop
  | mk (h' : Heap) (tk : Nat) (g : Array GenState) (news₂ : List (Addr × Obj)) (e : s₃ = ⟨h', g, dr, tk, os⟩) (F : Fr h₀ L h' m) (N : News h₀ L h' (news₂ ++ own)) (hn : ∀ p ∈ news₂, p.1 ∉ bad) (hJ : J y news₂ g) : EltI h₀ L m bad own J dr os y s₃
noncomputable def EltEnd (h₀ : Heap) (L : Addr) (m : Str → Option Value) (bad : List Addr) (own : List (Addr × Obj)) (J : Value → List (Addr × Obj) → Array GenState → Prop) (s : Shared) (y : Value) (s₃ : Shared) : Prop := EltI h₀ L m bad own J s.drawn s.os y s₃
section
variable {prog : Program} {w : World} {A : Around} {s : Shared} {cenv : Env} {h₀ : Heap} {L : Addr} {m : Str → Option Value}
inductive CompI (St : Nat → Heap → Prop) (D C : Addr) (h₀ : Heap) (L : Addr) (m : Str → Option Value) (wr : List Addr) (J : Nat → List Value → List (Addr × Obj) → Array GenState → Prop) (n : Nat) (s : Shared) (k : Nat) (s' : Shared) : Prop
  | mk (h' : Heap) (tk : Nat) (g : Array GenState) (news' : List (Addr × Obj)) (ys : List Value) (mC : Str → Option Value) (i : Nat) (e : s' = { s with heap := h', toks := tk, gens := g }) (hst : St i h') (hacc : h'.PlainList D ys.toArray) (hn : h'.Ns C mC) (F : Fr h₀ L h' m) (N : News h₀ L h' news') (hnw : ∀ q ∈ news', q.1 ∉ D :: C :: wr) (hJ : J i ys news' g) (hys : ys.length ≤ i) (hi : i ≤ n) (hk : k = n + 1 - i) : CompI St D C h₀ L m wr J n s k s'
theorem compW {R : Result → Shared → Prop} {elt iter : Expr} {x : Str} {px : Pos} {ifs : List Expr} {scope : Scope} {pos : Pos} {I D : Addr} {fp wr : List Addr} {n : Nat} {P : Nat → Value → Prop} {St : Nat → Heap → Prop}
    {mC : Str → Option Value} {news : List (Addr × Obj)} (W : Walks prog w A I fp wr n P St) (p : Nat → Value → Bool)
    (hx : cenv.kindOf x = some .local) (hp : (cenv.scope.kind == .class || (cenv.scope.kind == .module && cenv.locals != cenv.globals)) = false)
    (hDC : D ≠ cenv.locals) (hDf : D ∉ fp) (hCf : cenv.locals ∉ fp) (hL : L ∉ D :: cenv.locals :: fp) (hwr : ∀ b ∈ wr, h₀.get? b = none) (hD0 : h₀.get? D = none) (hC0 : h₀.get? cenv.locals = none)
    (hnw : ∀ q ∈ news, q.1 ∉ D :: cenv.locals :: wr)
    (hst : St 0 s.heap) (hacc : s.heap.PlainList D #[]) (hn : s.heap.Ns cenv.locals mC) (F : Fr h₀ L s.heap m) (N : News h₀ L s.heap news)
    (J : Nat → List Value → List (Addr × Obj) → Array GenState → Prop) (h0 : J 0 [] news s.gens)
    (hskip : ∀ i v ys news₁ g, i < n → P i v → p i v = false → J i ys news₁ g → J (i + 1) ys news₁ g)
    (htests : ∀ i v ys news₁ h tk g own mC, i < n → P i v → J i ys news₁ g → (∀ q ∈ news₁, q.1 ∉ D :: cenv.locals :: wr) → (∀ q ∈ own, q.1 ∈ D :: cenv.locals :: fp) →
      Fr h₀ L h m → News h₀ L h (news₁ ++ own) → h.Ns cenv.locals mC → mC x = some v → ∀ E',
      wpAny (model prog w) A (forIn ifs true fun c r => if r = true then do let ok ← isTrue c cenv (eval c cenv); pure (ForInStep.yield ok) else pure (ForInStep.yield r))
        (fun ok s₃ => ok = p i v ∧ ∃ h' tk', s₃ = { s with heap := h', toks := tk', gens := g } ∧ Fr h₀ L h' m ∧ News h₀ L h' (news₁ ++ own)) E' { s with heap := h, toks := tk, gens := g })
    (helt : ∀ i v ys news₁ h tk g own mC, i < n → P i v → p i v = true → J i ys news₁ g → (∀ q ∈ news₁, q.1 ∉ D :: cenv.locals :: wr) → (∀ q ∈ own, q.1 ∈ D :: cenv.locals :: fp) →
      Fr h₀ L h m → News h₀ L h (news₁ ++ own) → h.Ns cenv.locals mC → mC x = some v → ∀ E',
      wpAny (model prog w) A (eval elt cenv) (EltEnd h₀ L m (D :: cenv.locals :: wr) own (fun y => J (i + 1) (ys ++ [y])) s) E' { s with heap := h, toks := tk, gens := g })
    (hR : ∀ h' tk g news' ys mC, h'.Ns cenv.locals mC → h'.PlainList D ys.toArray → Fr h₀ L h' m → News h₀ L h' news' → (∀ q ∈ news', q.1 ∉ D :: cenv.locals :: wr) → J n ys news' g → R (.ok .next) { s with heap := h', toks := tk, gens := g })
    (hsz : n ≤ 1000) :
    codeAny (model prog w) A (.compLoop (.ListComp elt [⟨.Name x px, iter, ifs, 0⟩] scope pos) 0 (.ref I) (.ref D) cenv) R s := by
  have hCw : cenv.locals ∉ wr := fun h => hCf (W.sub _ h)
  have hDw : D ∉ wr := fun h => hDf (W.sub _ h)
  have hLw : L ∉ wr := fun h => hL (.tail _ (.tail _ (W.sub _ h)))
  have hLC : L ≠ cenv.locals := fun h => hL (h ▸ .tail _ (.head _))
  have hLD : L ≠ D := fun h => hL (h ▸ .head _)
  have old : ∀ b o, h₀.get? b = some o → b ∉ wr := fun b o e hb => by rw [hwr b hb] at e; cases e
  refine codeAny_compLoop_tests
    (CompI St D cenv.locals h₀ L m wr J n s) ?_ (n + 1)
    ⟨s.heap, s.toks, s.gens, news, [], mC, 0, rfl, hst, hacc, hn, F, N, hnw, h0, Nat.le_refl _, Nat.zero_le _, rfl⟩
  rintro k s' ⟨h', tk, g, news', ys, mC', i, rfl, hst', hacc', hn', F', N', hnw', hJ, hys, hi, rfl⟩
  have offw : ∀ q ∈ news', q.1 ∉ wr := fun q hq hb => hnw' q hq (.tail _ (.tail _ hb))
  have offC : ∀ q ∈ news', q.1 ≠ cenv.locals := fun q hq hb => hnw' q hq (hb ▸ .tail _ (.head _))
  have next : ∀ h₁ : Heap, (∀ b o, b ∉ wr → h'.get? b = some o → h₁.get? b = some o) → Fr h₀ L h₁ m ∧ News h₀ L h₁ news' := fun h₁ hk₁ =>
    ⟨⟨F'.ns.at' fun o e => hk₁ _ o hLw e, fun b o e => hk₁ b o (old b o e) (F'.keep b o e), F'.above⟩, fun q hq => ⟨hk₁ _ _ (offw q hq) (N' q hq).1, (N' q hq).2⟩⟩
  by_cases hlt : i < n
  · refine W.item i _ _ _ hlt hst' fun v h₁ tk₁ hPv hst₁ hk₁ => ?_
    obtain ⟨F₁, N₁⟩ := next h₁ hk₁
    refine wpAny_assign_Name (wpAny_storeName_local hx (hn'.at' fun o e => hk₁ _ o hCw e) (fun h₂ hn₂ hs₂ => ?_) hp)
    have keep₂ : ∀ b o, b ≠ cenv.locals → h₁.get? b = some o → h₂.get? b = some o := fun b o hb e => hs₂.extBut b o hb e
    have F₂ : Fr h₀ L h₂ m := ⟨F₁.ns.at' fun o e => keep₂ _ o hLC e, fun b o e => keep₂ b o (fun q => by rw [← q, e] at hC0; cases hC0) (F₁.keep b o e), F₁.above⟩
    have N₂ : News h₀ L h₂ news' := fun q hq => ⟨keep₂ _ _ (offC q hq) (N₁ q hq).1, (N₁ q hq).2⟩
    have hst₂ : St (i + 1) h₂ := W.frame _ _ _ hst₁ fun b hb o e => keep₂ b o (fun q => hCf (q ▸ hb)) e
    have hacc₂ : h₂.PlainList D ys.toArray := (hacc'.at fun o e => hk₁ _ o hDw e).at fun o e => keep₂ _ o hDC e
    let own := ownOf h₀ (D :: cenv.locals :: fp) h₂
    have Nown : News h₀ L h₂ own := news_ownOf hL
    have NN : News h₀ L h₂ (news' ++ own) := news_swap (Nown.append N₂)
    -- what the footprint's objects keep behind a piece that keeps `own`
    have stay : ∀ (h₃ : Heap) news₃, Fr h₀ L h₃ m → News h₀ L h₃ (news₃ ++ own) → ∀ b ∈ D :: cenv.locals :: fp, ∀ o, h₂.get? b = some o → h₃.get? b = some o := fun h₃ news₃ F₃ N₃ b hb o e => by
      cases hn : h₀.get? b with
      | some o₀ =>
        have : o₀ = o := by have := F₂.keep b o₀ hn; rw [e] at this; exact (Option.some.inj this).symm
        exact this ▸ F₃.keep b o₀ hn
      | none => exact (N₃ _ (List.mem_append_right _ (mem_ownOf hb hn e))).1
    refine wpAny_mono (htests i v ys news' h₂ _ g own _ hlt hPv hJ hnw' ownOf_sub F₂ NN hn₂ (by simp) _) (fun ok s₃ h₃ => ?_) fun _ _ e => e
    obtain ⟨rfl, h₃, tk₃, rfl, F₃, N₃⟩ := h₃
    have st₃ := stay h₃ news' F₃ N₃
    have hst₃ : St (i + 1) h₃ := W.frame _ _ _ hst₂ fun b hb o e => st₃ b (.tail _ (.tail _ hb)) o e
    have hacc₃ : h₃.PlainList D ys.toArray := hacc₂.at fun o e => st₃ D (.head _) o e
    have hn₃ := hn₂.at' fun o e => st₃ _ (.tail _ (.head _)) o e
    cases hpv : p i v with
    | false =>
      simp only [Bool.false_eq_true, if_false]
      exact ⟨n + 1 - (i + 1), by lia  , h₃, tk₃, g, news', ys, _, i + 1, rfl, hst₃, hacc₃, hn₃, F₃, fun q hq => N₃ q (List.mem_append_left _ hq), hnw', hskip i v ys news' g hlt hPv hpv hJ, Nat.le_succ_of_le hys, hlt, rfl⟩
    | true =>
      simp only [if_true]
      refine wpAny_mono (helt i v ys news' h₃ _ g own _ hlt hPv hpv hJ hnw' ownOf_sub F₃ N₃ hn₃ (by simp) _) (fun y s₄ h₄ => ?_) fun _ _ e => e
      obtain ⟨h₄, tk₄, g₄, news₄, rfl, F₄, N₄, hn4, hJ₄⟩ := h₄
      have st₄ := stay h₄ news₄ F₄ N₄
      have hst₄ : St (i + 1) h₄ := W.frame _ _ _ hst₂ fun b hb o e => st₄ b (.tail _ (.tail _ hb)) o e
      have hacc₄ : h₄.PlainList D ys.toArray := hacc₂.at fun o e => st₄ D (.head _) o e
      have hn₄ := hn₂.at' fun o e => st₄ _ (.tail _ (.head _)) o e
      refine wpAny_list_append_plain (hsz := by rw [List.size_toArray]; unfold sizeLine; lia  ) hacc₄ fun h₅ hl₅ hs₅ => ?_
      refine ⟨n + 1 - (i + 1), by lia  , h₅, tk₄, g₄, news₄, ys ++ [y], _, i + 1, rfl, ?_, ?_, hn₄.sameBut hs₅ (Ne.symm hDC), ?_, ?_, hn4, hJ₄, (by rw [List.length_append, List.length_singleton]; lia  ), hlt, rfl⟩
      · exact W.frame _ _ h₅ hst₄ fun b hb o e => hs₅.extBut b o (fun h => hDf (h ▸ hb)) e
      · simpa using hl₅
      · exact ⟨F₄.ns.at' fun o e => hs₅.extBut _ o hLD e, fun b o e => hs₅.extBut b o (fun q => by rw [q, hD0] at e; cases e) (F₄.keep b o e), F₄.above⟩
      · exact fun q hq => ⟨hs₅.extBut _ _ (fun h => hn4 q hq (h ▸ .head _)) (N₄ q (List.mem_append_left _ hq)).1, (N₄ q (List.mem_append_left _ hq)).2⟩
  · have hin : i = n := by lia  
    subst hin
    refine W.done _ _ _ hst' fun h₁ tk₁ hk₁ => ?_
    obtain ⟨F₁, N₁⟩ := next h₁ hk₁
    exact hR h₁ tk₁ g news' ys _ (hn'.at' fun o e => hk₁ _ o hCw e) (hacc'.at fun o e => hk₁ _ o hDw e) F₁ N₁ hnw' hJ
end
end Mine
end
section
open PySem PySem.W PyProof.Rows
open PySem.Builtin PySem.Builtin.Str
set_option maxRecDepth 100000
set_option maxHeartbeats 8000000
namespace Mine
section
variable {prog : Program} {w : World} {A : Around} {s : Shared} {env : Env} {h₀ : Heap} {E : Value → Shared → Prop}

/-- a loop that stands at its iterator -/
structure LoopG (prog : Program) (w : World) (A : Around) (h₀ : Heap) (env : Env) (x : Str) (body : List Stmt) (Q : Flow → Shared → Prop) (E : Value → Shared → Prop) (I : Addr) (fp wr : List Addr) (n : Nat) (P : Nat → Value → Prop) (St : Nat → Heap → Prop)
    (m : Str → Option Value) (news : List (Addr × Obj)) (J : Nat → (Str → Option Value) → List (Addr × Obj) → Array GenState → Prop) (s₂ : Shared) : Prop where
  W : Walks prog w A I fp wr n P St
  hLf : env.locals ∉ fp
  hwr : ∀ b ∈ wr, h₀.get? b = none
  hnw : ∀ p ∈ news, p.1 ∉ wr
  hst : St 0 s₂.heap
  F : Fr h₀ env.locals s₂.heap m
  N : News h₀ env.locals s₂.heap news
  h0 : J 0 m news s₂.gens
  step : ∀ i v m₁ news₁ h tk g own, i < n → P i v → J i m₁ news₁ g → (∀ p ∈ news₁, p.1 ∉ wr) → (∀ p ∈ own, p.1 ∈ fp) →
      Fr h₀ env.locals h (fun y => if y = x then some v else m₁ y) → News h₀ env.locals h (news₁ ++ own) →
      wpAny (model prog w) A (execs body env) (TurnPost h₀ env.locals wr own (J (i + 1)) s₂ Q) E { s₂ with heap := h, toks := tk, gens := g }
  done : ∀ h' tk g m' news', Fr h₀ env.locals h' m' → News h₀ env.locals h' news' → J n m' news' g → Q .next { s₂ with heap := h', toks := tk, gens := g }

noncomputable def LoopGE (prog : Program) (w : World) (A : Around) (h₀ : Heap) (env : Env) (x : Str) (body : List Stmt) (Q : Flow → Shared → Prop) (E : Value → Shared → Prop) (it : Value) (s₂ : Shared) : Prop :=
  ∃ I fp wr n P St m news J, it = .ref I ∧ LoopG prog w A h₀ env x body Q E I fp wr n P St m news J s₂

theorem For_G {Q : Flow → Shared → Prop} {x : Str} {px pos : Pos} {iter : Expr} {body : List Stmt} {m₀ : Str → Option Value} (_F : Fr h₀ env.locals s.heap m₀) (hx : env.kindOf x = some .local)
    (hp : (env.scope.kind == .class || (env.scope.kind == .module && env.locals != env.globals)) = false)
    (h : wpAny (model prog w) A (eval iter env) (fun xv s₁ => wpAny (model prog w) A (pyIter xv) (fun it s₂ => LoopGE prog w A h₀ env x body Q E it s₂) E s₁) E s)
    (hs : ∀ x, foldedSetIterable iter env x = pure x := by intro _; rfl)
    (hE : PassesOwn (model prog w) A env E := by passes_own) :
    wpAny (model prog w) A (exec (.For (.Name x px) iter body [] pos) env) Q E s := by
  refine wpAny_For (wpAny_mono h (fun xv s₁ h₁ => wpAny_mono h₁ (fun it s₂ h₂ => ?_) fun _ _ e => e) fun _ _ e => e) hs
  obtain ⟨I, fp, wr, n, P, St, m, news, J, rfl, G⟩ := h₂
  refine forW (R := fun r s' => match r with | .ok f => Q f s' | .error e => cameBackBy (model prog w) A env E e s') G.W hx hp G.hLf G.hwr G.hnw G.hst G.F G.N J G.h0 (fun i v m₁ news₁ h tk g own a b c d e F N => ?_) G.done
  exact wpAny_passesOwn hE (wpAny_mono (G.step i v m₁ news₁ h tk g own a b c d e F N) (fun _ _ q => q) fun _ _ q => q)

/-- the same over a list of the ledger -/
theorem iter_list {Q : Flow → Shared → Prop} {x : Str} {body : List Stmt} {l : Addr} {vs : List Value} {k : Nat} {m : Str → Option Value} {news : List (Addr × Obj)}
    (J : Nat → (Str → Option Value) → List (Addr × Obj) → Array GenState → Prop) (hh : A.handled = none) (F : Fr h₀ env.locals s.heap m) (N : News h₀ env.locals s.heap news) (hm : (l, W.listOf vs.toArray k) ∈ news)
    (h0 : J 0 m news s.gens)
    (step : ∀ I i v m₁ news₁ h tk g own, s.heap.objs.size ≤ I → vs[i]? = some v → J i m₁ news₁ g → (∀ p ∈ news₁, p.1 ≠ I) → (∀ p ∈ own, p.1 = I ∨ p.1 = l) →
      Fr h₀ env.locals h (fun y => if y = x then some v else m₁ y) → News h₀ env.locals h (news₁ ++ own) →
      wpAny (model prog w) A (execs body env) (TurnPost h₀ env.locals [I] own (J (i + 1)) s Q) E { s with heap := h, toks := tk, gens := g })
    (done : ∀ h' tk g m' news', Fr h₀ env.locals h' m' → News h₀ env.locals h' news' → J vs.length m' news' g → Q .next { s with heap := h', toks := tk, gens := g }) :
    wpAny (model prog w) A (pyIter (.ref l)) (fun it s₂ => LoopGE prog w A h₀ env x body Q E it s₂) E s := by
  have hl : s.heap.IsList l vs.toArray := ⟨_, (N _ hm).1, rfl, k, rfl⟩
  have hlt : l < s.heap.objs.size := Heap.lt_size (N _ hm).1
  refine wpAny_pyIter_list hl ?_
  have W := Walks.list (prog := prog) (w := w) hh s.heap.objs.size l (Nat.ne_of_lt hlt) vs.toArray
  refine ⟨_, _, _, _, _, _, m, news, J, rfl, W, ?_, ?_, ?_, ⟨⟨_, Heap.get?_push_size _ rfl, rfl, rfl⟩, hl.push _⟩, F.push _, (fun p hp => ⟨Heap.get?_push_of_some _ (N p hp).1, (N p hp).2⟩), h0, ?_, ?_⟩
  · intro hb
    rcases List.mem_cons.mp hb with e | hb
    · exact absurd F.ns.lt (e ▸ Nat.lt_irrefl _)
    · exact (N _ hm).2.1 (List.mem_singleton.mp hb).symm
  · intro b hb
    rw [List.mem_singleton.mp hb]
    exact next_is_new F
  · intro p hp hI
    exact absurd (Heap.lt_size (N p hp).1) ((List.mem_singleton.mp hI) ▸ Nat.lt_irrefl _)
  · intro i v m₁ news₁ h tk g own hi hP hJ ha hb F₁ N₁
    refine step s.heap.objs.size i v m₁ news₁ h tk g own (Nat.le_refl _) (by simpa using hP) hJ (fun p hp e => ha p hp (e ▸ .head _)) (fun p hp => ?_) F₁ N₁
    rcases List.mem_cons.mp (hb p hp) with e | e
    · exact .inl e
    · exact .inr (List.mem_singleton.mp e)
  · intro h' tk g m' news' F' N' hJ
    exact done h' tk g m' news' F' N' (by simpa using hJ)

/-- over a range -/
theorem iter_range {Q : Flow → Shared → Prop} {x : Str} {body : List Stmt} {r : Addr} {a b : Int} {t u v' : Tok} {n : Nat} {m : Str → Option Value} {news : List (Addr × Obj)}
    (J : Nat → (Str → Option Value) → List (Addr × Obj) → Array GenState → Prop) (hh : A.handled = none) (hr : IsRange s.heap r a b 1 t u v') (hn : Builtin.Range.rangeSize a b 1 = (n : Int)) (hsm : Builtin.Range.small a b 1 = true)
    (F : Fr h₀ env.locals s.heap m) (N : News h₀ env.locals s.heap news)
    (h0 : J 0 m news s.gens)
    (step : ∀ I i tv m₁ news₁ h tk g own, s.heap.objs.size ≤ I → i < n → J i m₁ news₁ g → (∀ p ∈ news₁, p.1 ≠ I) → (∀ p ∈ own, p.1 = I) →
      Fr h₀ env.locals h (fun y => if y = x then some (.int (a + i) tv) else m₁ y) → News h₀ env.locals h (news₁ ++ own) →
      wpAny (model prog w) A (execs body env) (TurnPost h₀ env.locals [I] own (J (i + 1)) s Q) E { s with heap := h, toks := tk, gens := g })
    (done : ∀ h' tk g m' news', Fr h₀ env.locals h' m' → News h₀ env.locals h' news' → J n m' news' g → Q .next { s with heap := h', toks := tk, gens := g }) :
    wpAny (model prog w) A (pyIter (.ref r)) (fun it s₂ => LoopGE prog w A h₀ env x body Q E it s₂) E s := by
  refine wpAny_pyIter_range hr hsm ?_
  have W := Walks.range (prog := prog) (w := w) hh s.heap.objs.size a 1 n
  refine ⟨_, _, _, _, _, _, m, news, J, rfl, W, ?_, ?_, ?_, ?_, F.push _, (fun p hp => ⟨Heap.get?_push_of_some _ (N p hp).1, (N p hp).2⟩), h0, ?_, ?_⟩
  · intro hb
    exact absurd F.ns.lt ((List.mem_singleton.mp hb) ▸ Nat.lt_irrefl _)
  · intro b hb
    rw [List.mem_singleton.mp hb]
    exact next_is_new F
  · intro p hp hI
    exact absurd (Heap.lt_size (N p hp).1) ((List.mem_singleton.mp hI) ▸ Nat.lt_irrefl _)
  · have := Heap.get?_push_size (h := s.heap) (o := { cls := .type "range_iterator", data := .fields #[rawInt a, rawInt (Builtin.Range.rangeSize a b 1), rawInt 1] }) rfl
    rw [hn] at this ⊢
    simpa [IsRangeIter] using this
  · intro i v m₁ news₁ h tk g own hi hP hJ ha hb F₁ N₁
    obtain ⟨tv, rfl⟩ := hP
    rw [Int.mul_one] at F₁
    exact step s.heap.objs.size i tv m₁ news₁ h tk g own (Nat.le_refl _) hi hJ (fun p hp e => ha p hp (e ▸ .head _)) (fun p hp => List.mem_singleton.mp (hb p hp)) F₁ N₁
  · intro h' tk g m' news' F' N' hJ
    exact done h' tk g m' news' F' N' hJ

end

/-! comprehensions, whole -/
section
variable {prog : Program} {w : World} {A : Around} {s : Shared} {env : Env} {h₀ : Heap} {E : Value → Shared → Prop}
structure CompG (prog : Program) (w : World) (A : Around) (h₀ : Heap) (env : Env) (scope : Scope) (cl : List (Str × Addr)) (x : Str) (ifs : List Expr) (elt : Expr) (I : Addr) (fp wr : List Addr) (n : Nat) (P : Nat → Value → Prop) (St : Nat → Heap → Prop)
    (m : Str → Option Value) (news : List (Addr × Obj)) (p : Nat → Value → Bool) (J : Nat → List Value → List (Addr × Obj) → Array GenState → Prop) (s₂ : Shared) : Prop where
  W : Walks prog w A I fp wr n P St
  hsz : n ≤ 1000
  hfp : ∀ b ∈ fp, b < s₂.heap.objs.size
  hLf : env.locals ∉ fp
  hwr : ∀ b ∈ wr, h₀.get? b = none
  hnw : ∀ q ∈ news, q.1 ∉ wr
  hst : St 0 s₂.heap
  F : Fr h₀ env.locals s₂.heap m
  N : News h₀ env.locals s₂.heap news
  h0 : J 0 [] news s₂.gens
  hskip : ∀ i v ys news₁ g, i < n → P i v → p i v = false → J i ys news₁ g → J (i + 1) ys news₁ g
  tests : ∀ C D i v ys news₁ h tk g own mC, s₂.heap.objs.size ≤ C → s₂.heap.objs.size ≤ D → i < n → P i v → J i ys news₁ g → (∀ q ∈ news₁, q.1 ∉ D :: C :: wr) → (∀ q ∈ own, q.1 ∈ D :: C :: fp) →
      Fr h₀ env.locals h m → News h₀ env.locals h (news₁ ++ own) → h.Ns C mC → mC x = some v → ∀ E',
      wpAny (model prog w) A (forIn ifs true fun c r => if r = true then do let ok ← isTrue c (compEnvC scope cl C env) (eval c (compEnvC scope cl C env)); pure (ForInStep.yield ok) else pure (ForInStep.yield r))
        (fun ok s₃ => ok = p i v ∧ ∃ h' tk', s₃ = { s₂ with heap := h', toks := tk', gens := g } ∧ Fr h₀ env.locals h' m ∧ News h₀ env.locals h' (news₁ ++ own)) E' { s₂ with heap := h, toks := tk, gens := g }
  elt : ∀ C D i v ys news₁ h tk g own mC, s₂.heap.objs.size ≤ C → s₂.heap.objs.size ≤ D → i < n → P i v → p i v = true → J i ys news₁ g → (∀ q ∈ news₁, q.1 ∉ D :: C :: wr) → (∀ q ∈ own, q.1 ∈ D :: C :: fp) →
      Fr h₀ env.locals h m → News h₀ env.locals h (news₁ ++ own) → h.Ns C mC → mC x = some v → ∀ E',
      wpAny (model prog w) A (eval elt (compEnvC scope cl C env)) (EltEnd h₀ env.locals m (D :: C :: wr) own (fun y => J (i + 1) (ys ++ [y])) s₂) E' { s₂ with heap := h, toks := tk, gens := g }

theorem comp_run {elt iter : Expr} {x : Str} {px : Pos} {ifs : List Expr} {scope : Scope} {cl : List (Str × Addr)} {pos : Pos} {s₂ : Shared} {I : Addr} {fp wr : List Addr} {n : Nat} {P : Nat → Value → Prop}
    {St : Nat → Heap → Prop} {m : Str → Option Value} {news : List (Addr × Obj)} {p : Nat → Value → Bool} {J : Nat → List Value → List (Addr × Obj) → Array GenState → Prop} {RR : Value → Addr → Result → Shared → Prop}
    (G : CompG prog w A h₀ env scope cl x ifs elt I fp wr n P St m news p J s₂)
    (hcell : ∀ y ∈ scope.names, y.2 ≠ .cell) (hkind : scope.kind = .function) (hx : scope.names.lookup x = some .local)
    (hRR : ∀ D C h' tk g mC news' ys k, s₂.heap.objs.size ≤ D → s₂.heap.objs.size ≤ C → D ≠ C → h'.Ns C mC → h₀.get? C = none → h₀.get? D = none → C ≠ env.locals → D ≠ env.locals → h'.get? D = some (W.listOf ys.toArray k) → Fr h₀ env.locals h' m → News h₀ env.locals h' news' → (∀ q ∈ news', q.1 ≠ C) → (∀ q ∈ news', q.1 ≠ D) → J n ys news' g →
      RR (.ref D) C (.ok .next) { s₂ with heap := h', toks := tk, gens := g }) :
    wpAny (model prog w) A (newList []) (fun acc s₃ => wpAny (model prog w) A (newFunctionEnv scope env.globals cl [] env.qual none .none (some env)) (fun cenv s₄ =>
      codeAny (model prog w) A (.compStart (.ListComp elt [⟨.Name x px, iter, ifs, 0⟩] scope pos) 0 (.ref I) acc { cenv with scope := relabel scope env }) (RR acc cenv.locals) s₄) E s₃) E s₂ := by
  refine wpAny_newObj_type (wpAny_newFunctionEnv hcell (by intro y hy; simp at hy) (fun h₁ hns₁ hsb₁ => ?_) hkind)
  dsimp only at hns₁ hsb₁ ⊢
  generalize hH2 : s₂.heap.push { cls := .type "list", dict := none, data := .seq ([] : List Value).toArray } = H2 at hns₁ hsb₁ ⊢
  have hC : H2.objs.size = s₂.heap.objs.size + 1 := by rw [← hH2, Heap.size_push]
  have hDC : s₂.heap.objs.size ≠ H2.objs.size := by rw [hC]; exact Nat.ne_of_lt (Nat.lt_succ_self _)
  have hCle : s₂.heap.objs.size ≤ H2.objs.size := by rw [hC]; exact Nat.le_succ _
  have below : ∀ b, b < s₂.heap.objs.size → b ≠ H2.objs.size ∧ b ≠ s₂.heap.objs.size := fun b hb => ⟨by rw [hC]; exact Nat.ne_of_lt (Nat.lt_succ_of_lt hb), Nat.ne_of_lt hb⟩
  have hDf : s₂.heap.objs.size ∉ fp := fun hm => Nat.lt_irrefl _ (G.hfp _ hm)
  have hCf : H2.objs.size ∉ fp := fun hm => by have := G.hfp _ hm; rw [hC] at this; exact Nat.lt_irrefl _ (Nat.lt_of_succ_lt this)
  have old : ∀ b o, s₂.heap.get? b = some o → h₁.get? b = some o := fun b o e => hsb₁.extBut b o (below b (Heap.lt_size e)).1 (Heap.get?_push_of_some _ (hH2 ▸ Heap.get?_push_of_some _ e))
  have hacc : h₁.PlainList s₂.heap.objs.size #[] := ⟨_, hsb₁.extBut _ _ hDC (Heap.get?_push_of_some _ (hH2 ▸ Heap.get?_push_size _ rfl))⟩
  have hst₁ : St 0 h₁ := G.W.frame _ _ _ G.hst fun b _ o e => old b o e
  have new : ∀ a, s₂.heap.objs.size ≤ a → h₀.get? a = none := fun a ha => by
    cases e : h₀.get? a with
    | none => rfl
    | some o' => exact absurd (Heap.lt_size (G.F.keep _ _ e)) (Nat.not_lt.mpr ha)
  have hL1 : env.locals < s₂.heap.objs.size := G.F.ns.lt
  have hL : env.locals ∉ s₂.heap.objs.size :: H2.objs.size :: fp := by
    intro hm
    rcases List.mem_cons.mp hm with e | hm
    · exact (below _ hL1).2 e
    · rcases List.mem_cons.mp hm with e | hm
      · exact (below _ hL1).1 e
      · exact G.hLf hm
  have F₁ : Fr h₀ env.locals h₁ m := ⟨G.F.ns.at' fun o e => old _ o e, fun b o e => old b o (G.F.keep b o e), G.F.above⟩
  have N₁ : News h₀ env.locals h₁ news := fun q hq => ⟨old _ _ (G.N q hq).1, (G.N q hq).2⟩
  have hnw : ∀ q ∈ news, q.1 ∉ s₂.heap.objs.size :: H2.objs.size :: wr := fun q hq hm => by
    have hlt := Heap.lt_size (G.N q hq).1
    rcases List.mem_cons.mp hm with e | hm
    · exact (below _ hlt).2 e
    · rcases List.mem_cons.mp hm with e | hm
      · exact (below _ hlt).1 e
      · exact G.hnw q hq hm
  have loop : ∀ s₃ : Shared, s₃ = { s₂ with heap := h₁, toks := s₂.toks + ([] : List (Str × Value)).length } →
      codeAny (model prog w) A (.compLoop (.ListComp elt [⟨.Name x px, iter, ifs, 0⟩] scope pos) 0 (.ref I) (.ref s₂.heap.objs.size) (compEnvC scope cl H2.objs.size env))
        (RR (.ref s₂.heap.objs.size) H2.objs.size) s₃ := by
    rintro s₃ rfl
    refine compW (cenv := compEnvC scope cl H2.objs.size env) (h₀ := h₀) (L := env.locals) (m := m) (news := news) G.W p (lookup_relabel_local hx) (by simp [compEnvC, relabel, hkind]) hDC hDf hCf hL G.hwr (new _ (Nat.le_refl _)) (new _ hCle) hnw hst₁ hacc hns₁ F₁ N₁ J G.h0 G.hskip
      (fun i v ys news₁ h tk g own mC a b c d e F N hn hm E' => G.tests H2.objs.size s₂.heap.objs.size i v ys news₁ h tk g own mC hCle (Nat.le_refl _) a b c d e F N hn hm E')
      (fun i v ys news₁ h tk g own mC a b b' c d e F N hn hm E' => G.elt H2.objs.size s₂.heap.objs.size i v ys news₁ h tk g own mC hCle (Nat.le_refl _) a b b' c d e F N hn hm E') (fun h' tk g news' ys mC hn hpl F N hq hJ => ?_) G.hsz
    obtain ⟨k, hk⟩ := hpl
    exact hRR _ _ h' tk g mC news' ys k (Nat.le_refl _) hCle hDC hn (new _ hCle) (new _ (Nat.le_refl _)) (Ne.symm (below _ hL1).1) (Ne.symm (below _ hL1).2) hk F N (fun q hq' e => hq q hq' (e ▸ .tail _ (.head _))) (fun q hq' e => hq q hq' (e ▸ .head _)) hJ
  exact codeAny_compStart_list (loop _ rfl) (G.W.self 0 _ _ _ hst₁ (loop _ rfl))


noncomputable def CompGE (prog : Program) (w : World) (A : Around) (h₀ : Heap) (env : Env) (scope : Scope) (cl : List (Str × Addr)) (x : Str) (ifs : List Expr) (elt : Expr) (mf : (Str → Option Value) → Addr → Str → Option Value) (Q : Addr → Shared → Prop) (it : Value) (s₂ : Shared) : Prop :=
  ∃ I fp wr n P St m news p J, it = .ref I ∧ CompG prog w A h₀ env scope cl x ifs elt I fp wr n P St m news p J s₂ ∧
    ∀ D h' tk g news' ys k, s₂.heap.objs.size ≤ D → Fr h₀ env.locals h' (mf m D) → News h₀ env.locals h' ((D, W.listOf ys.toArray k) :: news') → (∀ q ∈ news', q.1 ≠ D) → J n ys news' g → Q D { s₂ with heap := h', toks := tk, gens := g }

theorem ListComp_G {elt iter : Expr} {x : Str} {px : Pos} {ifs : List Expr} {scope : Scope} {cl : List (Str × Addr)} {pos : Pos} {Q : Value → Shared → Prop} {m₀ : Str → Option Value} (_F : Fr h₀ env.locals s.heap m₀)
    (hclos : closureFor scope env = pure cl) (hcell : ∀ y ∈ scope.names, y.2 ≠ .cell) (hkind : scope.kind = .function)
    (hnames : ∀ y ∈ scope.names, y.2 = .local → scope.names.lookup y.1 = some .local) (hx : scope.names.lookup x = some .local)
    (h : wpAny (model prog w) A (eval iter env) (fun xv s₁ => wpAny (model prog w) A (pyIter xv) (fun it s₂ => CompGE prog w A h₀ env scope cl x ifs elt (fun m _ => m) (fun D s' => Q (.ref D) s') it s₂) E s₁) E s)
    (hs : ∀ x, foldedSetIterable iter env x = pure x := by intro _; rfl) :
    wpAny (model prog w) A (eval (.ListComp elt [⟨.Name x px, iter, ifs, 0⟩] scope pos) env) Q E s := by
  rw [eval_ListComp]
  refine wpAny_comprehension_free (use := none) rfl hs hclos hkind hnames (wpAny_mono h (fun xv s₁ h₁ => wpAny_mono h₁ (fun it s₂ h₂ => ?_) fun _ _ e => e) fun _ _ e => e)
  obtain ⟨I, fp, wr, n, P, St, m, news, p, J, rfl, G, hQ⟩ := h₂
  refine comp_run (RR := fun acc C => compPost (model prog w) A E none Q acc C) G hcell hkind hx ?_
  intro D C h' tk g mC news' ys k hD hC hDC hn hC0 hD0 hCL hDL hg F N nC nD hJ
  refine ⟨mC, hn, fun h'' hs'' => ?_⟩
  refine hQ D h'' tk g news' ys k hD ⟨F.ns.at' fun o e => hs''.extBut _ o (Ne.symm hCL) e, fun b o e => hs''.extBut b o (fun q => by rw [q, hC0] at e; cases e) (F.keep b o e), F.above⟩ (fun q hq => ?_) nD hJ
  rcases List.mem_cons.mp hq with rfl | hq
  · exact ⟨hs''.extBut _ _ hDC hg, hDL, hD0⟩
  · exact ⟨hs''.extBut _ _ (nC q hq) (N q hq).1, (N q hq).2⟩

theorem AssignComp_G {elt iter : Expr} {x y : Str} {px py : Pos} {ifs : List Expr} {scope : Scope} {cl : List (Str × Addr)} {pos spos : Pos} {Q : Flow → Shared → Prop} {m₀ : Str → Option Value} (_F : Fr h₀ env.locals s.heap m₀)
    (hsw : swapsWith (.ListComp elt [⟨.Name x px, iter, ifs, 0⟩] scope pos) (some (.Name y py)) spos.line env = pure true)
    (hclos : closureFor scope env = pure cl) (hcell : ∀ y ∈ scope.names, y.2 ≠ .cell) (hkind : scope.kind = .function)
    (hnames : ∀ y ∈ scope.names, y.2 = .local → scope.names.lookup y.1 = some .local) (hx : scope.names.lookup x = some .local)
    (hy : env.kindOf y = some .local) (hp : (env.scope.kind == .class || (env.scope.kind == .module && env.locals != env.globals)) = false)
    (h : wpAny (model prog w) A (eval iter env) (fun xv s₁ => wpAny (model prog w) A (pyIter xv) (fun it s₂ => CompGE prog w A h₀ env scope cl x ifs elt (fun m D z => if z = y then some (.ref D) else m z) (fun _ s' => Q .next s') it s₂) E s₁) E s)
    (hs : ∀ x, foldedSetIterable iter env x = pure x := by intro _; rfl) :
    wpAny (model prog w) A (exec (.Assign [.Name y py] (.ListComp elt [⟨.Name x px, iter, ifs, 0⟩] scope pos) spos) env) Q E s := by
  rw [exec_Assign_Name_used _ _ _ _ hsw]
  refine wpAny_bind (wpAny_standAt (wpAny_bind ?_))
  show wpAny _ A (do let _ ← comprehension (.ListComp elt [⟨.Name x px, iter, ifs, 0⟩] scope pos) scope env _ (newList []) false (eval iter env) (some (assign (.Name y py) env))) _ _ s
  refine wpAny_bind (wpAny_mono (wpAny_comprehension_free (use := some (assign (.Name y py) env)) (Q := fun _ s' => Q .next s') rfl hs hclos hkind hnames
    (wpAny_mono h (fun xv s₁ h₁ => wpAny_mono h₁ (fun it s₂ h₂ => ?_) fun _ _ e => e) fun _ _ e => e)) (fun _ s' hq => wpAny_pure (wpAny_pure hq)) fun _ _ e => e)
  obtain ⟨I, fp, wr, n, P, St, m, news, p, J, rfl, G, hQ⟩ := h₂
  refine comp_run (RR := fun acc C => compPost (model prog w) A E (some (assign (.Name y py) env)) (fun _ s' => Q .next s') acc C) G hcell hkind hx ?_
  intro D C h' tk g mC news' ys k hD hC hDC hn hC0 hD0 hCL hDL hg F N nC nD hJ
  show wpAny _ A (assign (.Name y py) env (.ref D)) _ _ _
  refine wpAny_assign_Name (wpAny_storeName_local hy F.ns (fun h₂ hn₂ hs₂ => ?_) hp)
  refine ⟨mC, hn.sameBut hs₂ hCL, fun h₃ hs₃ => ?_⟩
  have F₂ := F.set hn₂ hs₂
  refine hQ D h₃ _ g news' ys k hD ⟨F₂.ns.at' fun o e => hs₃.extBut _ o (Ne.symm hCL) e, fun b o e => hs₃.extBut b o (fun q => by rw [q, hC0] at e; cases e) (F₂.keep b o e), F₂.above⟩ (fun q hq => ?_) nD hJ
  rcases List.mem_cons.mp hq with rfl | hq
  · exact ⟨hs₃.extBut _ _ hDC (hs₂.extBut _ _ hDL hg), hDL, hD0⟩
  · exact ⟨hs₃.extBut _ _ (nC q hq) (hs₂.extBut _ _ (N q hq).2.1 (N q hq).1), (N q hq).2⟩

section
variable {scope : Scope} {cl : List (Str × Addr)} {x : Str} {ifs : List Expr} {elt : Expr} {mf : (Str → Option Value) → Addr → Str → Option Value} {Q : Addr → Shared → Prop} {m : Str → Option Value} {news : List (Addr × Obj)}
  (p : Nat → Value → Bool) (J : Nat → List Value → List (Addr × Obj) → Array GenState → Prop)
theorem citer_list {l : Addr} {vs : List Value} {k : Nat} (hh : A.handled = none) (F : Fr h₀ env.locals s.heap m) (N : News h₀ env.locals s.heap news) (hm : (l, W.listOf vs.toArray k) ∈ news) (hsz : vs.length ≤ 1000)
    (h0 : J 0 [] news s.gens)
    (hskip : ∀ i v ys news₁ g, vs[i]? = some v → p i v = false → J i ys news₁ g → J (i + 1) ys news₁ g)
    (tests : ∀ C D I i v ys news₁ h tk g own mC, s.heap.objs.size < C → s.heap.objs.size < D → s.heap.objs.size ≤ I → vs[i]? = some v → J i ys news₁ g → (∀ q ∈ news₁, q.1 ∉ [D, C, I]) → (∀ q ∈ own, q.1 ∈ [D, C, I, l]) →
      Fr h₀ env.locals h m → News h₀ env.locals h (news₁ ++ own) → h.Ns C mC → mC x = some v → ∀ E',
      wpAny (model prog w) A (forIn ifs true fun c r => if r = true then do let ok ← isTrue c (compEnvC scope cl C env) (eval c (compEnvC scope cl C env)); pure (ForInStep.yield ok) else pure (ForInStep.yield r))
        (fun ok s₃ => ok = p i v ∧ ∃ h' tk', s₃ = { s with heap := h', toks := tk', gens := g } ∧ Fr h₀ env.locals h' m ∧ News h₀ env.locals h' (news₁ ++ own)) E' { s with heap := h, toks := tk, gens := g })
    (helt : ∀ C D I i v ys news₁ h tk g own mC, s.heap.objs.size < C → s.heap.objs.size < D → s.heap.objs.size ≤ I → vs[i]? = some v → p i v = true → J i ys news₁ g → (∀ q ∈ news₁, q.1 ∉ [D, C, I]) → (∀ q ∈ own, q.1 ∈ [D, C, I, l]) →
      Fr h₀ env.locals h m → News h₀ env.locals h (news₁ ++ own) → h.Ns C mC → mC x = some v → ∀ E',
      wpAny (model prog w) A (eval elt (compEnvC scope cl C env)) (EltEnd h₀ env.locals m [D, C, I] own (fun y => J (i + 1) (ys ++ [y])) s) E' { s with heap := h, toks := tk, gens := g })
    (done : ∀ D h' tk g news' ys k, s.heap.objs.size < D → Fr h₀ env.locals h' (mf m D) → News h₀ env.locals h' ((D, W.listOf ys.toArray k) :: news') → (∀ q ∈ news', q.1 ≠ D) → J vs.length ys news' g → Q D { s with heap := h', toks := tk, gens := g }) :
    wpAny (model prog w) A (pyIter (.ref l)) (fun it s₂ => CompGE prog w A h₀ env scope cl x ifs elt mf Q it s₂) E s := by
  have hl : s.heap.IsList l vs.toArray := ⟨_, (N _ hm).1, rfl, k, rfl⟩
  have hlt : l < s.heap.objs.size := Heap.lt_size (N _ hm).1
  refine wpAny_pyIter_list hl ?_
  have W := Walks.list (prog := prog) (w := w) hh s.heap.objs.size l (Nat.ne_of_lt hlt) vs.toArray
  have sz : ∀ o, (s.heap.push o).objs.size = s.heap.objs.size + 1 := fun o => Heap.size_push ..
  refine ⟨_, _, _, _, _, _, m, news, p, J, rfl, ⟨W, by simpa using hsz, ?_, ?_, ?_, ?_, ⟨⟨_, Heap.get?_push_size _ rfl, rfl, rfl⟩, hl.push _⟩, F.push _, (fun p hp => ⟨Heap.get?_push_of_some _ (N p hp).1, (N p hp).2⟩), h0, ?_, ?_, ?_⟩, ?_⟩
  · intro b hb
    show b < (s.heap.push _).objs.size
    rw [sz]
    rcases List.mem_cons.mp hb with e | hb
    · exact e ▸ Nat.lt_succ_self _
    · exact (List.mem_singleton.mp hb) ▸ Nat.lt_succ_of_lt hlt
  · intro hb
    rcases List.mem_cons.mp hb with e | hb
    · exact absurd F.ns.lt (e ▸ Nat.lt_irrefl _)
    · exact (N _ hm).2.1 (List.mem_singleton.mp hb).symm
  · intro b hb
    rw [List.mem_singleton.mp hb]
    exact next_is_new F
  · intro p hp hI
    exact absurd (Heap.lt_size (N p hp).1) ((List.mem_singleton.mp hI) ▸ Nat.lt_irrefl _)
  · intro i v ys news₁ g _ hP hp hJ
    exact hskip i v ys news₁ g (by simpa using hP) hp hJ
  · intro C D i v ys news₁ h tk g own mC hC hD _ hP hJ h1 h2 F N hn hm E'
    have hC' : s.heap.objs.size < C := by have : (s.heap.push _).objs.size ≤ C := hC; rw [sz] at this; lia  
    have hD' : s.heap.objs.size < D := by have : (s.heap.push _).objs.size ≤ D := hD; rw [sz] at this; lia  
    exact tests C D s.heap.objs.size i v ys news₁ h tk g own mC hC' hD' (Nat.le_refl _) (by simpa using hP) hJ h1 h2 F N hn hm E'
  · intro C D i v ys news₁ h tk g own mC hC hD _ hP hp hJ h1 h2 F N hn hm E'
    have hC' : s.heap.objs.size < C := by have : (s.heap.push _).objs.size ≤ C := hC; rw [sz] at this; lia  
    have hD' : s.heap.objs.size < D := by have : (s.heap.push _).objs.size ≤ D := hD; rw [sz] at this; lia  
    exact helt C D s.heap.objs.size i v ys news₁ h tk g own mC hC' hD' (Nat.le_refl _) (by simpa using hP) hp hJ h1 h2 F N hn hm E'
  · intro D h' tk g news' ys k hD F' N' hq hJ
    have hD' : s.heap.objs.size < D := by have : (s.heap.push _).objs.size ≤ D := hD; rw [sz] at this; lia  
    exact done D h' tk g news' ys k hD' F' N' hq (by simpa using hJ)

theorem citer_range {r : Addr} {a b : Int} {t u v' : Tok} {n : Nat} (hh : A.handled = none) (hr : IsRange s.heap r a b 1 t u v') (hn : Builtin.Range.rangeSize a b 1 = (n : Int)) (hsm : Builtin.Range.small a b 1 = true)
    (F : Fr h₀ env.locals s.heap m) (N : News h₀ env.locals s.heap news) (hsz : n ≤ 1000)
    (h0 : J 0 [] news s.gens)
    (hskip : ∀ i t ys news₁ g, i < n → p i (.int (a + i) t) = false → J i ys news₁ g → J (i + 1) ys news₁ g)
    (tests : ∀ C D I i tv ys news₁ h tk g own mC, s.heap.objs.size < C → s.heap.objs.size < D → s.heap.objs.size ≤ I → i < n → J i ys news₁ g → (∀ q ∈ news₁, q.1 ∉ [D, C, I]) → (∀ q ∈ own, q.1 ∈ [D, C, I]) →
      Fr h₀ env.locals h m → News h₀ env.locals h (news₁ ++ own) → h.Ns C mC → mC x = some (.int (a + i) tv) → ∀ E',
      wpAny (model prog w) A (forIn ifs true fun c r => if r = true then do let ok ← isTrue c (compEnvC scope cl C env) (eval c (compEnvC scope cl C env)); pure (ForInStep.yield ok) else pure (ForInStep.yield r))
        (fun ok s₃ => ok = p i (.int (a + i) tv) ∧ ∃ h' tk', s₃ = { s with heap := h', toks := tk', gens := g } ∧ Fr h₀ env.locals h' m ∧ News h₀ env.locals h' (news₁ ++ own)) E' { s with heap := h, toks := tk, gens := g })
    (helt : ∀ C D I i tv ys news₁ h tk g own mC, s.heap.objs.size < C → s.heap.objs.size < D → s.heap.objs.size ≤ I → i < n → p i (.int (a + i) tv) = true → J i ys news₁ g → (∀ q ∈ news₁, q.1 ∉ [D, C, I]) → (∀ q ∈ own, q.1 ∈ [D, C, I]) →
      Fr h₀ env.locals h m → News h₀ env.locals h (news₁ ++ own) → h.Ns C mC → mC x = some (.int (a + i) tv) → ∀ E',
      wpAny (model prog w) A (eval elt (compEnvC scope cl C env)) (EltEnd h₀ env.locals m [D, C, I] own (fun y => J (i + 1) (ys ++ [y])) s) E' { s with heap := h, toks := tk, gens := g })
    (done : ∀ D h' tk g news' ys k, s.heap.objs.size < D → Fr h₀ env.locals h' (mf m D) → News h₀ env.locals h' ((D, W.listOf ys.toArray k) :: news') → (∀ q ∈ news', q.1 ≠ D) → J n ys news' g → Q D { s with heap := h', toks := tk, gens := g }) :
    wpAny (model prog w) A (pyIter (.ref r)) (fun it s₂ => CompGE prog w A h₀ env scope cl x ifs elt mf Q it s₂) E s := by
  refine wpAny_pyIter_range hr hsm ?_
  have W := Walks.range (prog := prog) (w := w) hh s.heap.objs.size a 1 n
  have sz : ∀ o, (s.heap.push o).objs.size = s.heap.objs.size + 1 := fun o => Heap.size_push ..
  refine ⟨_, _, _, _, _, _, m, news, p, J, rfl, ⟨W, hsz, ?_, ?_, ?_, ?_, ?_, F.push _, (fun p hp => ⟨Heap.get?_push_of_some _ (N p hp).1, (N p hp).2⟩), h0, ?_, ?_, ?_⟩, ?_⟩
  · intro b hb
    show b < (s.heap.push _).objs.size
    rw [sz, List.mem_singleton.mp hb]; exact Nat.lt_succ_self _
  · intro hb
    exact absurd F.ns.lt ((List.mem_singleton.mp hb) ▸ Nat.lt_irrefl _)
  · intro b hb
    rw [List.mem_singleton.mp hb]
    exact next_is_new F
  · intro p hp hI
    exact absurd (Heap.lt_size (N p hp).1) ((List.mem_singleton.mp hI) ▸ Nat.lt_irrefl _)
  · have := Heap.get?_push_size (h := s.heap) (o := { cls := .type "range_iterator", data := .fields #[rawInt a, rawInt (Builtin.Range.rangeSize a b 1), rawInt 1] }) rfl
    rw [hn] at this ⊢
    simpa [IsRangeIter] using this
  · intro i v ys news₁ g hi hP hp hJ
    obtain ⟨tv, rfl⟩ := hP
    rw [Int.mul_one] at hp
    exact hskip i tv ys news₁ g hi hp hJ
  · intro C D i v ys news₁ h tk g own mC hC hD hi hP hJ h1 h2 F N hn hm E'
    obtain ⟨tv, rfl⟩ := hP
    rw [Int.mul_one] at hm ⊢
    have hC' : s.heap.objs.size < C := by have : (s.heap.push _).objs.size ≤ C := hC; rw [sz] at this; lia  
    have hD' : s.heap.objs.size < D := by have : (s.heap.push _).objs.size ≤ D := hD; rw [sz] at this; lia  
    exact tests C D s.heap.objs.size i tv ys news₁ h tk g own mC hC' hD' (Nat.le_refl _) hi hJ h1 h2 F N hn hm E'
  · intro C D i v ys news₁ h tk g own mC hC hD hi hP hp hJ h1 h2 F N hn hm E'
    obtain ⟨tv, rfl⟩ := hP
    rw [Int.mul_one] at hm hp
    have hC' : s.heap.objs.size < C := by have : (s.heap.push _).objs.size ≤ C := hC; rw [sz] at this; lia  
    have hD' : s.heap.objs.size < D := by have : (s.heap.push _).objs.size ≤ D := hD; rw [sz] at this; lia  
    exact helt C D s.heap.objs.size i tv ys news₁ h tk g own mC hC' hD' (Nat.le_refl _) hi hp hJ h1 h2 F N hn hm E'
  · intro D h' tk g news' ys k hD F' N' hq hJ
    have hD' : s.heap.objs.size < D := by have : (s.heap.push _).objs.size ≤ D := hD; rw [sz] at this; lia  
    exact done D h' tk g news' ys k hD' F' N' hq hJ

theorem citer_str {c : Str} {t : Tok} (hh : A.handled = none)
    (F : Fr h₀ env.locals s.heap m) (N : News h₀ env.locals s.heap news) (hsz : c.length ≤ 1000)
    (h0 : J 0 [] news s.gens)
    (hskip : ∀ i d t ys news₁ g, c.cps[i]? = some d → p i (.str ⟨#[d]⟩ t) = false → J i ys news₁ g → J (i + 1) ys news₁ g)
    (tests : ∀ C D I i d tv ys news₁ h tk g own mC, s.heap.objs.size < C → s.heap.objs.size < D → s.heap.objs.size ≤ I → c.cps[i]? = some d → J i ys news₁ g → (∀ q ∈ news₁, q.1 ∉ [D, C, I]) → (∀ q ∈ own, q.1 ∈ [D, C, I]) →
      Fr h₀ env.locals h m → News h₀ env.locals h (news₁ ++ own) → h.Ns C mC → mC x = some (.str ⟨#[d]⟩ tv) → ∀ E',
      wpAny (model prog w) A (forIn ifs true fun c r => if r = true then do let ok ← isTrue c (compEnvC scope cl C env) (eval c (compEnvC scope cl C env)); pure (ForInStep.yield ok) else pure (ForInStep.yield r))
        (fun ok s₃ => ok = p i (.str ⟨#[d]⟩ tv) ∧ ∃ h' tk', s₃ = { s with heap := h', toks := tk', gens := g } ∧ Fr h₀ env.locals h' m ∧ News h₀ env.locals h' (news₁ ++ own)) E' { s with heap := h, toks := tk, gens := g })
    (helt : ∀ C D I i d tv ys news₁ h tk g own mC, s.heap.objs.size < C → s.heap.objs.size < D → s.heap.objs.size ≤ I → c.cps[i]? = some d → p i (.str ⟨#[d]⟩ tv) = true → J i ys news₁ g → (∀ q ∈ news₁, q.1 ∉ [D, C, I]) → (∀ q ∈ own, q.1 ∈ [D, C, I]) →
      Fr h₀ env.locals h m → News h₀ env.locals h (news₁ ++ own) → h.Ns C mC → mC x = some (.str ⟨#[d]⟩ tv) → ∀ E',
      wpAny (model prog w) A (eval elt (compEnvC scope cl C env)) (EltEnd h₀ env.locals m [D, C, I] own (fun y => J (i + 1) (ys ++ [y])) s) E' { s with heap := h, toks := tk, gens := g })
    (done : ∀ D h' tk g news' ys k, s.heap.objs.size < D → Fr h₀ env.locals h' (mf m D) → News h₀ env.locals h' ((D, W.listOf ys.toArray k) :: news') → (∀ q ∈ news', q.1 ≠ D) → J c.length ys news' g → Q D { s with heap := h', toks := tk, gens := g }) :
    wpAny (model prog w) A (pyIter (.str c t)) (fun it s₂ => CompGE prog w A h₀ env scope cl x ifs elt mf Q it s₂) E s := by
  refine wpAny_pyIter_str fun o St W hst => ?_
  have sz : ∀ o, (s.heap.push o).objs.size = s.heap.objs.size + 1 := fun o => Heap.size_push ..
  refine ⟨_, _, _, _, _, _, m, news, p, J, rfl, ⟨W A hh, hsz, ?_, ?_, ?_, ?_, hst, F.push _, (fun p hp => ⟨Heap.get?_push_of_some _ (N p hp).1, (N p hp).2⟩), h0, ?_, ?_, ?_⟩, ?_⟩
  · intro b hb
    show b < (s.heap.push _).objs.size
    rw [sz, List.mem_singleton.mp hb]; exact Nat.lt_succ_self _
  · intro hb
    exact absurd F.ns.lt ((List.mem_singleton.mp hb) ▸ Nat.lt_irrefl _)
  · intro b hb
    rw [List.mem_singleton.mp hb]
    exact next_is_new F
  · intro p hp hI
    exact absurd (Heap.lt_size (N p hp).1) ((List.mem_singleton.mp hI) ▸ Nat.lt_irrefl _)
  · intro i v ys news₁ g hi hP hp hJ
    obtain ⟨d, tv, hd, rfl⟩ := hP
    exact hskip i d tv ys news₁ g hd hp hJ
  · intro C D i v ys news₁ h tk g own mC hC hD hi hP hJ h1 h2 F N hn hm E'
    obtain ⟨d, tv, hd, rfl⟩ := hP
    have hC' : s.heap.objs.size < C := by have : (s.heap.push _).objs.size ≤ C := hC; rw [sz] at this; lia  
    have hD' : s.heap.objs.size < D := by have : (s.heap.push _).objs.size ≤ D := hD; rw [sz] at this; lia  
    exact tests C D s.heap.objs.size i d tv ys news₁ h tk g own mC hC' hD' (Nat.le_refl _) hd hJ h1 h2 F N hn hm E'
  · intro C D i v ys news₁ h tk g own mC hC hD hi hP hp hJ h1 h2 F N hn hm E'
    obtain ⟨d, tv, hd, rfl⟩ := hP
    have hC' : s.heap.objs.size < C := by have : (s.heap.push _).objs.size ≤ C := hC; rw [sz] at this; lia  
    have hD' : s.heap.objs.size < D := by have : (s.heap.push _).objs.size ≤ D := hD; rw [sz] at this; lia  
    exact helt C D s.heap.objs.size i d tv ys news₁ h tk g own mC hC' hD' (Nat.le_refl _) hd hp hJ h1 h2 F N hn hm E'
  · intro D h' tk g news' ys k hD F' N' hq hJ
    have hD' : s.heap.objs.size < D := by have : (s.heap.push _).objs.size ≤ D := hD; rw [sz] at this; lia  
    exact done D h' tk g news' ys k hD' F' N' hq hJ
end
end
end Mine
end
section
open PySem PySem.W PyProof.Rows
open PySem.Builtin PySem.Builtin.Str
set_option maxRecDepth 100000
set_option maxHeartbeats 8000000
namespace Mine
/-! the loops' rules once more, with the iterator known to live -/
section
variable {prog : Program} {w : World} {A : Around} {s : Shared} {env : Env} {h₀ : Heap} {E : Value → Shared → Prop}
theorem forS {R : Result → Shared → Prop} {x : Str} {px : Pos} {body : List Stmt} {I : Addr} {fp wr : List Addr} {n : Nat} {P : Nat → Value → Prop} {St : Nat → Heap → Prop} {m : Str → Option Value}
    {news : List (Addr × Obj)} (W : Walks prog w A I fp wr n P St) (hx : env.kindOf x = some .local)
    (hp : (env.scope.kind == .class || (env.scope.kind == .module && env.locals != env.globals)) = false)
    (hLf : env.locals ∉ fp) (hwr : ∀ b ∈ wr, h₀.get? b = none) (hnw : ∀ p ∈ news, p.1 ∉ wr)
    (hst : St 0 s.heap) (F : Fr h₀ env.locals s.heap m) (N : News h₀ env.locals s.heap news)
    (J : Nat → (Str → Option Value) → List (Addr × Obj) → Array GenState → Prop) (h0 : J 0 m news s.gens)
    (step : ∀ i v m₁ news₁ h tk g own, i < n → P i v → J i m₁ news₁ g → (∀ p ∈ news₁, p.1 ∉ wr) → (∀ p ∈ own, p.1 ∈ fp) →
      St (i + 1) h → Fr h₀ env.locals h (fun y => if y = x then some v else m₁ y) → News h₀ env.locals h (news₁ ++ own) →
      wpAny (model prog w) A (execs body env) (TurnPost h₀ env.locals wr own (J (i + 1)) s fun f s' => R (.ok f) s') (notedBy (model prog w) A env fun e s' => R (.error e) s') { s with heap := h, toks := tk, gens := g })
    (hR : ∀ h' tk g m' news', Fr h₀ env.locals h' m' → News h₀ env.locals h' news' → J n m' news' g → R (.ok .next) { s with heap := h', toks := tk, gens := g }) :
    codeAny (model prog w) A (.forLoop (.Name x px) (.ref I) body [] env) R s := by
  have hLw : env.locals ∉ wr := fun h => hLf (W.sub _ h)
  have old : ∀ b o, h₀.get? b = some o → b ∉ wr := fun b o e hb => by rw [hwr b hb] at e; cases e
  refine codeAny_forLoop
    (ForI St h₀ env.locals wr J n s) ?_ (n + 1)
    ⟨s.heap, s.toks, s.gens, m, news, 0, rfl, hst, F, N, hnw, h0, Nat.zero_le _, rfl⟩
  rintro k s' ⟨h', tk, g, m', news', i, rfl, hst', F', N', hnw', hJ, hi, rfl⟩
  have next : ∀ h₁ : Heap, (∀ b o, b ∉ wr → h'.get? b = some o → h₁.get? b = some o) → Fr h₀ env.locals h₁ m' ∧ News h₀ env.locals h₁ news' := fun h₁ hk₁ =>
    ⟨⟨F'.ns.at' fun o e => hk₁ _ o hLw e, fun b o e => hk₁ b o (old b o e) (F'.keep b o e), F'.above⟩, fun p hp => ⟨hk₁ _ _ (hnw' p hp) (N' p hp).1, (N' p hp).2⟩⟩
  by_cases hlt : i < n
  · refine W.item i _ _ _ hlt hst' fun v h₁ tk₁ hP hst₁ hk₁ => ?_
    obtain ⟨F₁, N₁⟩ := next h₁ hk₁
    refine wpAny_assign_Name (wpAny_storeName_local hx F₁.ns (fun h₂ hn₂ hs₂ => ?_) hp)
    have F₂ := F₁.set hn₂ hs₂
    have Nown : News h₀ env.locals h₂ (ownOf h₀ fp h₂) := news_ownOf hLf
    have hst₂ : St (i + 1) h₂ := W.frame _ _ _ hst₁ fun b hb o e => (hs₂.2 b fun q => hLf (q ▸ hb)).trans e
    refine wpAny_mono (step i v m' news' h₂ _ g (ownOf h₀ fp h₂) hlt hP hJ hnw' ownOf_sub hst₂ F₂ (news_swap (Nown.append (N₁.set hs₂)))) (fun f s₃ h₃ => ?_) fun _ _ e => e
    have fin : TurnEnd h₀ env.locals wr (ownOf h₀ fp h₂) (J (i + 1)) s s₃ → ∃ m_1, m_1 < n + 1 - i ∧ ForI St h₀ env.locals wr J n s m_1 s₃ := by
      rintro ⟨h₃', tk₃, g₃, m₂, news₂, rfl, F₃, N₃, ha₃, hJ₃⟩
      refine ⟨n + 1 - (i + 1), by omega, h₃', tk₃, g₃, m₂, news₂, i + 1, rfl, ?_, F₃, fun p hp => N₃ p (List.mem_append_left _ hp), ha₃, hJ₃, hlt, rfl⟩
      refine W.frame _ _ _ hst₁ fun b hb o e => ?_
      have e₂ : h₂.get? b = some o := (hs₂.2 b fun q => hLf (q ▸ hb)).trans e
      cases hn : h₀.get? b with
      | some o₀ =>
        have : o₀ = o := by have := F₂.keep b o₀ hn; rw [e₂] at this; exact (Option.some.inj this).symm
        exact this ▸ F₃.keep b o₀ hn
      | none => exact (N₃ _ (List.mem_append_right _ (mem_ownOf hb hn e₂))).1
    cases f with
    | ret v => exact h₃
    | brk => exact h₃
    | cont => exact fin h₃
    | next => exact fin h₃
  · have hin : i = n := by omega
    subst hin
    refine W.done _ _ _ hst' fun h₁ tk₁ hk₁ => wpAny_execs_nil ?_
    obtain ⟨F₁, N₁⟩ := next h₁ hk₁
    exact hR h₁ tk₁ g m' news' F₁ N₁ hJ
/-- a loop that stands at its iterator -/
structure LoopS (prog : Program) (w : World) (A : Around) (h₀ : Heap) (env : Env) (x : Str) (body : List Stmt) (Q : Flow → Shared → Prop) (E : Value → Shared → Prop) (I : Addr) (fp wr : List Addr) (n : Nat) (P : Nat → Value → Prop) (St : Nat → Heap → Prop)
    (m : Str → Option Value) (news : List (Addr × Obj)) (J : Nat → (Str → Option Value) → List (Addr × Obj) → Array GenState → Prop) (s₂ : Shared) : Prop where
  W : Walks prog w A I fp wr n P St
  hLf : env.locals ∉ fp
  hwr : ∀ b ∈ wr, h₀.get? b = none
  hnw : ∀ p ∈ news, p.1 ∉ wr
  hst : St 0 s₂.heap
  F : Fr h₀ env.locals s₂.heap m
  N : News h₀ env.locals s₂.heap news
  h0 : J 0 m news s₂.gens
  step : ∀ i v m₁ news₁ h tk g own, i < n → P i v → J i m₁ news₁ g → (∀ p ∈ news₁, p.1 ∉ wr) → (∀ p ∈ own, p.1 ∈ fp) → St (i + 1) h →
      Fr h₀ env.locals h (fun y => if y = x then some v else m₁ y) → News h₀ env.locals h (news₁ ++ own) →
      wpAny (model prog w) A (execs body env) (TurnPost h₀ env.locals wr own (J (i + 1)) s₂ Q) E { s₂ with heap := h, toks := tk, gens := g }
  done : ∀ h' tk g m' news', Fr h₀ env.locals h' m' → News h₀ env.locals h' news' → J n m' news' g → Q .next { s₂ with heap := h', toks := tk, gens := g }

noncomputable def LoopSE (prog : Program) (w : World) (A : Around) (h₀ : Heap) (env : Env) (x : Str) (body : List Stmt) (Q : Flow → Shared → Prop) (E : Value → Shared → Prop) (it : Value) (s₂ : Shared) : Prop :=
  ∃ I fp wr n P St m news J, it = .ref I ∧ LoopS prog w A h₀ env x body Q E I fp wr n P St m news J s₂

theorem For_S {Q : Flow → Shared → Prop} {x : Str} {px pos : Pos} {iter : Expr} {body : List Stmt} {m₀ : Str → Option Value} (_F : Fr h₀ env.locals s.heap m₀) (hx : env.kindOf x = some .local)
    (hp : (env.scope.kind == .class || (env.scope.kind == .module && env.locals != env.globals)) = false)
    (h : wpAny (model prog w) A (eval iter env) (fun xv s₁ => wpAny (model prog w) A (pyIter xv) (fun it s₂ => LoopSE prog w A h₀ env x body Q E it s₂) E s₁) E s)
    (hs : ∀ x, foldedSetIterable iter env x = pure x := by intro _; rfl)
    (hE : PassesOwn (model prog w) A env E := by passes_own) :
    wpAny (model prog w) A (exec (.For (.Name x px) iter body [] pos) env) Q E s := by
  refine wpAny_For (wpAny_mono h (fun xv s₁ h₁ => wpAny_mono h₁ (fun it s₂ h₂ => ?_) fun _ _ e => e) fun _ _ e => e) hs
  obtain ⟨I, fp, wr, n, P, St, m, news, J, rfl, G⟩ := h₂
  refine forS (R := fun r s' => match r with | .ok f => Q f s' | .error e => cameBackBy (model prog w) A env E e s') G.W hx hp G.hLf G.hwr G.hnw G.hst G.F G.N J G.h0 (fun i v m₁ news₁ h tk g own a b c d e st F N => ?_) G.done
  exact wpAny_passesOwn hE (wpAny_mono (G.step i v m₁ news₁ h tk g own a b c d e st F N) (fun _ _ q => q) fun _ _ q => q)

/-- the same over a list of the ledger -/
theorem iter_rangeS {Q : Flow → Shared → Prop} {x : Str} {body : List Stmt} {r : Addr} {a b : Int} {t u v' : Tok} {n : Nat} {m : Str → Option Value} {news : List (Addr × Obj)}
    (J : Nat → (Str → Option Value) → List (Addr × Obj) → Array GenState → Prop) (hh : A.handled = none) (hr : IsRange s.heap r a b 1 t u v') (hn : Builtin.Range.rangeSize a b 1 = (n : Int)) (hsm : Builtin.Range.small a b 1 = true)
    (F : Fr h₀ env.locals s.heap m) (N : News h₀ env.locals s.heap news)
    (h0 : J 0 m news s.gens)
    (step : ∀ I i tv m₁ news₁ h tk g own, s.heap.objs.size ≤ I → i < n → J i m₁ news₁ g → (∀ p ∈ news₁, p.1 ≠ I) → (∀ p ∈ own, p.1 = I) → LT.lt (α := Nat) I h.objs.size →
      Fr h₀ env.locals h (fun y => if y = x then some (.int (a + i) tv) else m₁ y) → News h₀ env.locals h (news₁ ++ own) →
      wpAny (model prog w) A (execs body env) (TurnPost h₀ env.locals [I] own (J (i + 1)) s Q) E { s with heap := h, toks := tk, gens := g })
    (done : ∀ h' tk g m' news', Fr h₀ env.locals h' m' → News h₀ env.locals h' news' → J n m' news' g → Q .next { s with heap := h', toks := tk, gens := g }) :
    wpAny (model prog w) A (pyIter (.ref r)) (fun it s₂ => LoopSE prog w A h₀ env x body Q E it s₂) E s := by
  refine wpAny_pyIter_range hr hsm ?_
  have W := Walks.range (prog := prog) (w := w) hh s.heap.objs.size a 1 n
  refine ⟨_, _, _, _, _, _, m, news, J, rfl, W, ?_, ?_, ?_, ?_, F.push _, (fun p hp => ⟨Heap.get?_push_of_some _ (N p hp).1, (N p hp).2⟩), h0, ?_, ?_⟩
  · intro hb
    exact absurd F.ns.lt ((List.mem_singleton.mp hb) ▸ Nat.lt_irrefl _)
  · intro b hb
    rw [List.mem_singleton.mp hb]
    exact next_is_new F
  · intro p hp hI
    exact absurd (Heap.lt_size (N p hp).1) ((List.mem_singleton.mp hI) ▸ Nat.lt_irrefl _)
  · have := Heap.get?_push_size (h := s.heap) (o := { cls := .type "range_iterator", data := .fields #[rawInt a, rawInt (Builtin.Range.rangeSize a b 1), rawInt 1] }) rfl
    rw [hn] at this ⊢
    simpa [IsRangeIter] using this
  · intro i v m₁ news₁ h tk g own hi hP hJ ha hb st F₁ N₁
    obtain ⟨tv, rfl⟩ := hP
    rw [Int.mul_one] at F₁
    exact step s.heap.objs.size i tv m₁ news₁ h tk g own (Nat.le_refl _) hi hJ (fun p hp e => ha p hp (e ▸ .head _)) (fun p hp => List.mem_singleton.mp (hb p hp)) (Heap.lt_size st) F₁ N₁
  · intro h' tk g m' news' F' N' hJ
    exact done h' tk g m' news' F' N' hJ

end
end Mine
end
section
open PySem PySem.W PyProof.Rows
open PySem.Builtin PySem.Builtin.Str
set_option maxRecDepth 100000
set_option maxHeartbeats 8000000
namespace Mine
/-! pieces of a generator's run -/
section
variable {M : Model} {A : Around} {R : GenEnd} {Y : Protocol} {n : Nat} {s₀ : Shared} {c : Code} {fs : List Frame} {s : Shared} {env : Env} {gd : Bool → Bool} {lv : List Value → List Value}
theorem seg_wbind {α β : Type} {m : Sem α} {f : α → Sem β} {K : β → Sem Fin} {H : Value → Sem Fin}
    (h : wpAny M (A.over c fs) m (fun a s' => Seg M A R Y n s₀ c ((f a).wrap K H gd lv) fs s') (fun x s' => Seg M A R Y n s₀ c (H x) fs s') s) :
    Seg M A R Y n s₀ c ((m >>= f).wrap K H gd lv) fs s := by
  rw [Sem.bind_eq_wrap', Sem.wrap_wrap]; exact seg_wrap h
theorem seg_wpure {α : Type} {a : α} {K : α → Sem Fin} {H : Value → Sem Fin} (h : Seg M A R Y n s₀ c (K a) fs s) : Seg M A R Y n s₀ c ((Pure.pure a : Sem α).wrap K H gd lv) fs s := h
theorem seg_If {test : Expr} {body orelse : List Stmt} {pos : Pos} {K : Flow → Sem Fin} {H : Value → Sem Fin}
    (h : wpAny M (A.over c fs) (isTrue test env (eval test env)) (fun b s' => if b = true then Seg M A R Y n s₀ c ((execs body env).wrap K H gd lv) fs s' else Seg M A R Y n s₀ c ((execs orelse env).wrap K H gd lv) fs s') (fun x s' => Seg M A R Y n s₀ c (H x) fs s') s) :
    Seg M A R Y n s₀ c ((exec (.If test body orelse pos) env).wrap K H gd lv) fs s := by
  rw [exec_If]
  refine seg_wbind (wpAny_standAt (seg_wbind (wpAny_mono h (fun b s' hb => ?_) fun _ _ e => e)))
  cases b with
  | true => rw [if_pos rfl] at hb; simpa using hb
  | false => rw [if_neg (by decide)] at hb; simpa using hb
theorem seg_For {target iter : Expr} {body orelse : List Stmt} {pos : Pos} {K : Flow → Sem Fin} {H : Value → Sem Fin} (hs : ∀ x, foldedSetIterable iter env x = pure x)
    (h : wpAny M (A.over c fs) (eval iter env) (fun x s₁ => wpAny M (A.over c fs) (pyIter x) (fun it s₂ => ∀ p, Seg M A R Y n s₀ (.forLoop target it body orelse env) (M.den (.forLoop target it body orelse env))
      (.ret (fun r => ((match r with | .ok f => (.pure f : Sem Flow) | .error e => .raise e).onRaise fun (x : Value) => do
        if (← field x 1) == Value.none then unsupported "frame.own-activation:exception-without-traceback"
        setFlight x env.frame).wrap K H gd lv) none (gd false) (lv []) c p [] :: fs) s₂) (fun x s' => Seg M A R Y n s₀ c (H x) fs s') s₁) (fun x s' => Seg M A R Y n s₀ c (H x) fs s') s) :
    Seg M A R Y n s₀ c ((exec (.For target iter body orelse pos) env).wrap K H gd lv) fs s := by
  rw [exec_For]
  refine seg_wbind (wpAny_standAt (seg_wbind (wpAny_mono h (fun x s₁ h₁ => seg_wbind (wpAny_of_eq (hs x) (seg_wbind (wpAny_standAt (seg_wbind (wpAny_holding (wpAny_mono h₁ (fun it s₂ h₂ => ?_) fun _ _ e => e))))))) fun _ _ e => e)))
  exact seg_call h₂
end
section
variable {prog : Program} {w : World} {A : Around} {R : GenEnd} {Y : Protocol} {n : Nat} {s₀ : Shared} {fs : List Frame} {s : Shared} {env : Env}
theorem seg_eq {M : Model} {c : Code} {t t' : Sem Fin} (e : t = t') (h : Seg M A R Y n s₀ c t' fs s) : Seg M A R Y n s₀ c t fs s := e ▸ h
noncomputable def Hn (env : Env) (e : Value) : Sem Fin := (do noteFrame e env; theTreesLotGoes e : Sem Unit).bind (fun _ => .raise e)
theorem seg_forLoop {target : Expr} {it : Value} {body orelse : List Stmt} (ht : ∀ v, letOwnedTupleGo target it v = pure ())
    (h : wpAny (model prog w) (A.over (.forLoop target it body orelse env) fs) (pyNext it) (fun r s₁ => match r with
      | none => Seg (model prog w) A R Y n s₀ (.forLoop target it body orelse env) (.pure (.again (.block orelse env))) fs s₁
      | some v => wpAny (model prog w) (A.over (.forLoop target it body orelse env) fs) (assign target env v) (fun _ s₂ => Seg (model prog w) A R Y n s₀ (.forLoop target it body orelse env) ((execs body env).wrap (fun f => match f with
            | .next | .cont => .pure (.again (.forLoop target it body orelse env))
            | .brk => .pure (.done .next)
            | .ret v => .pure (.done (.ret v))) (Hn env) id id) fs s₂) (fun x s' => Seg (model prog w) A R Y n s₀ (.forLoop target it body orelse env) (Hn env x) fs s') s₁)
      (fun x s' => Seg (model prog w) A R Y n s₀ (.forLoop target it body orelse env) (Hn env x) fs s') s) :
    Seg (model prog w) A R Y n s₀ (.forLoop target it body orelse env) ((model prog w).den (.forLoop target it body orelse env)) fs s := by
  show Seg _ A R Y n s₀ _ ((forTurn target it body orelse env).onRaise (fun x => do noteFrame x env; theTreesLotGoes x)) fs s
  unfold forTurn
  rw [Sem.onRaise_eq_wrap]
  refine seg_wbind (wpAny_standAt (seg_wbind (wpAny_onRaise (wpAny_mono h (fun r s₁ h₁ => ?_) fun _ _ e => wpAny_standAt e))))
  cases r with
  | none => exact h₁
  | some v =>
    refine seg_wbind (wpAny_of_eq (ht v) (seg_wbind (wpAny_mono h₁ (fun _ s₂ h₂ => ?_) fun _ _ e => e)))
    rw [Sem.bind_eq_wrap', Sem.wrap_wrap]
    refine seg_eq (Sem.wrap_congr _ _ _ (fun f => ?_) (fun x => ?_)) h₂
    · cases f <;> rfl
    · rfl
end
end Mine
end
section
open PySem PySem.W PyProof.Rows
open PySem.Builtin PySem.Builtin.Str
set_option maxRecDepth 100000
set_option maxHeartbeats 8000000
namespace Mine
section
variable {prog : Program} {w : World} {A : Around} {E : Value → Shared → Prop} {s : Shared} {Q : Value → Shared → Prop}
/-- a generator's def, called: its frame and the generator, nothing run -/
theorem call_gen {h₀ : Heap} {L : Addr} {m : Str → Option Value} {K : Frag} {name qual : Str} {params : Arguments} {body : List Stmt} {scope : Scope} {dV kV doc pm cdv ct oc : Value} {an od : Option Addr} {osl : Array (Option Value)} {f : Addr} {args : List Value} {binds : List (Str × Value)}
    (F : Fr h₀ L s.heap m) (X : K.In h₀) (hlim : h₀.NoLimit)
    (ho : K.lookup f = some ⟨oc, od, .func (fnOf name qual params body scope dV kV doc pm an cdv ct), osl⟩) (hcd : codeIn K cdv qual = true) (hroom : A.depth < recursionLimit)
    (hbind : BindsTo s (fnOf name qual params body scope dV kV doc pm an cdv ct) ⟨args, []⟩ binds) (hloc : ∀ y ∈ binds, scope.names.lookup y.1 = some .local)
    (h : ∀ h' tk, h'.objs.size = s.heap.objs.size + 2 → h'.Ns s.heap.objs.size (fun y => binds.reverse.lookup y) → h'.IsGen (s.heap.objs.size + 1) s.gens.size → (∀ b o, s.heap.get? b = some o → h'.get? b = some o) →
      Q (.ref (s.heap.objs.size + 1)) { s with heap := h', toks := tk, gens := s.gens.push (.fresh (.func body (envOf qual scope s.heap.objs.size f cdv))) })
    (hco : scope.isCoroutine = false := by rfl) (hgen : scope.isGenerator = true := by rfl) (hk : scope.kind = .function := by rfl)
    (hcell : ∀ x ∈ scope.names, x.2 ≠ .cell := by decide) : wpAny (model prog w) A (call (.ref f) args) Q E s := by
  refine wpAny_call ?_
  have X' : K.In s.heap := fun b o e => F.keep b o (X b o e)
  refine codeAny_call_generator (fd := fnOf name qual params body scope dV kV doc pm an cdv ct) (body := body) hroom (X' _ _ ho) rfl hco hgen rfl (codeRec_of X' hcd) (hbind _ _ _ _ ?_)
  refine wpAny_newFunctionEnv hcell hloc (fun h₁ hns hsb => ⟨(hlim.keeps F.keep).fresh _ hsb, ?_⟩) hk
  have hsz : h₁.objs.size = s.heap.objs.size + 1 := by rw [hsb.1, Heap.size_push]
  have key := h (h₁.push { cls := .type "generator", data := .fields #[.int s.gens.size 0, .str name (s.toks + binds.length), .str qual (s.toks + binds.length + 1)] }) (s.toks + binds.length + 1 + 1) (by rw [Heap.size_push, hsz]) (hns.push _)
    ⟨_, _, _, by rw [← hsz]; exact Heap.get?_push_size _ rfl, rfl, rfl, rfl⟩ (fun b o e => Heap.get?_push_of_some _ (hsb.extBut b o (Nat.ne_of_lt (Heap.lt_size e)) (Heap.get?_push_of_some _ e)))
  rw [← hsz] at key
  exact key
end
end Mine
end
section
open PySem PySem.W PyProof.Rows
open PySem.Builtin PySem.Builtin.Str
set_option maxRecDepth 100000
set_option maxHeartbeats 8000000
namespace Mine
noncomputable def BareKeep (a b : Array GenState) : Prop := (∀ y ∈ a, y.bare = true) → ∀ y ∈ b, y.bare = true
theorem BareKeep.refl {a : Array GenState} : BareKeep a a := fun h => h
theorem BareKeep.trans {a b c : Array GenState} (x : BareKeep a b) (y : BareKeep b c) : BareKeep a c := fun h => y (x h)
theorem BareKeep.push {a : Array GenState} {c : Code} : BareKeep a (a.push (.fresh c)) := fun h y hy => by
  rcases Array.mem_push.mp hy with q | q
  · exact h y q
  · rw [q]; rfl
theorem BareKeep.setGen {s : Shared} {g : Nat} {x : GenState} (hx : x.bare = true) : BareKeep s.gens (s.setGen g x).gens := fun h y hy => by
  have hy' : y ∈ s.gens.setIfInBounds g x := hy
  rcases Array.mem_or_eq_of_mem_setIfInBounds hy' with q | q
  · exact h y q
  · rw [q]; exact hx
section
variable {prog : Program} {w : World} {A : Around} {E : Value → Shared → Prop} {s : Shared}
theorem next_genQ {a : Addr} {g n : Nat} {gs : GenState} {P : Nat → Shared → Shared → Prop} {Y : Protocol} {Q : Option Value → Shared → Prop} (hh : A.handled = none)
    (hl : s.heap.NoLimit) (hroom : A.depth < recursionLimit)
    (hg : s.heap.IsGen a g) (hgs : s.gens[g]? = some gs)
    (hgo : gs.Goes (model prog w) A.in1 (fun n s₀ r s₁ => r = .ok (.ret .none) ∧ P n s₀ s₁) Y n (.send .none) (s.setGen g .running))
    (hY : ∀ v s₁ gs', gs'.bare = true → Y (n - 1) (s.setGen g .running) v s₁ (fun r' s'' => match n with
        | 0 => False
        | m + 1 => gs'.Goes (model prog w) A.in1 (fun n s₀ r s₁ => r = .ok (.ret .none) ∧ P n s₀ s₁) Y m r' s'') → Q (some v) (s₁.setGen g gs'))
    (hP : ∀ s₁, P n (s.setGen g .running) s₁ → ∀ h', (∀ b o, s₁.heap.get? b = some o → h'.get? b = some o) → Q none { s₁.setGen g .finished with heap := h' }) :
    wpAny (model prog w) A (pyNext (.ref a)) Q E s := by
  unfold pyNext
  refine wpAny_bind (wpAny_attempt (wpAny_callSpecial?_slot (name := Str.ofString "__next__") hg.typeIs slot_gen_next (wpAny_call_entry slot_gen_next hg.typeIs entry_gen_next ?_ (args_gen_next _))))
  show wpAny _ A.in1 (Builtin.Generator.genWake (.ref a) (.send .none)) _ _ s
  unfold Builtin.Generator.genWake
  refine wpAny_bind (wpAny_holding (wpAny_genNumber hg (wpAny_bind (wpAny_genState hgs ?_))))
  cases gs with
  | running => exact hgo.elim
  | finished => exact hgo.elim
  | _ =>
    refine wpAny_bind (wpAny_roomToWake hl hroom ?_)
    show wpAny _ A.in1 (.resume g (.send .none) [] _) _ _ s
    refine wpAny_resumeQ hgs hgo (fun x s₁ hx => ?_) (fun v s₁ gs' hb hv => wpAny_pure ⟨v, rfl, wpAny_pure (hY v s₁ gs' hb hv)⟩)
    obtain ⟨rfl, hp⟩ := hx
    show wpAny _ A.in1 (newExc (.type "StopIteration") [] >>= _) _ _ _
    refine wpAny_bind ?_
    simp only [newExc, newTuple]
    refine wpAny_bind (wpAny_newObj_type ?_ (by size_fits))
    refine wpAny_bind (m := firstArgMember _ _) (wpAny_of_eq (a := Value.none) (by first | rfl | (simp only [firstArgMember]; rfl)) ?_)
    refine wpAny_newObj_type ?_ (by size_fits)
    simp only [raiseNew]
    refine wpAny_bind (wpAny_bind (wpAny_handled ?_))
    first | rw [show A.in1.handled = none from hh] | rw [hh]
    refine wpAny_throw ?_
    refine wpAny_bind (wpAny_isInstance (T := "StopIteration") (b := true) ⟨_, Heap.get?_push_size _ rfl, rfl⟩ isSubtype_stop ?_)
    exact wpAny_pure (hP s₁ hp _ fun b o hb => Heap.get?_push_of_some _ (Heap.get?_push_of_some _ hb))
end
/-- what a resumption may rely on -/
noncomputable def Al (h₀ : Heap) (fp : List Addr) (h h' : Heap) : Prop := (∀ b o, h₀.get? b = some o → h'.get? b = some o) ∧ ∀ b ∈ fp, ∀ o, h.get? b = some o → h'.get? b = some o
/-- the protocol: whole numbers of one size, the frame `C` and the iterator `I` written alone -/
noncomputable def Yp (h₀ : Heap) (C I l : Addr) (step : Int) (fin : Bool) : Protocol := fun n s₀ v s₁ kap =>
  (∃ t, v = .int step t) ∧ GenSince C [I] s₀ s₁ ∧ ((fin = true ∨ 0 < n) → ∀ s'', Al h₀ [C, I, l] s₁.heap s''.heap → kap (.send .none) s'')
noncomputable def Rp (C I : Addr) (fin : Bool) : Nat → Shared → Shared → Prop := fun n s₀ s₁ => n = 0 ∧ fin = true ∧ GenSince C [I] s₀ s₁
abbrev Rg (C I : Addr) (fin : Bool) : GenEnd := fun n s₀ r s₁ => r = .ok (.ret .none) ∧ Rp C I fin n s₀ s₁
section
variable {prog : Program} {w : World} {A : Around} {s : Shared} {env : Env} {h₀ : Heap} {E : Value → Shared → Prop}
noncomputable def LoopQ (prog : Program) (w : World) (A : Around) (env : Env) (target : Expr) (body : List Stmt) (Q : Flow → Shared → Prop) (E : Value → Shared → Prop) (it : Value) (s₂ : Shared) : Prop :=
  codeAny (model prog w) A (.forLoop target it body [] env) (fun r s' => match r with | .ok f => Q f s' | .error e => cameBackBy (model prog w) A env E e s') s₂
theorem For_Q {Q : Flow → Shared → Prop} {target : Expr} {pos : Pos} {iter : Expr} {body : List Stmt}
    (h : wpAny (model prog w) A (eval iter env) (fun xv s₁ => wpAny (model prog w) A (pyIter xv) (fun it s₂ => LoopQ prog w A env target body Q E it s₂) E s₁) E s)
    (hs : ∀ x, foldedSetIterable iter env x = pure x := by intro _; rfl) :
    wpAny (model prog w) A (exec (.For target iter body [] pos) env) Q E s :=
  wpAny_For (wpAny_mono h (fun _ _ h₁ => wpAny_mono h₁ (fun _ _ h₂ => h₂) fun _ _ e => e) fun _ _ e => e) hs
inductive GenI (prog : Program) (w : World) (A : Around) (C I l a : Addr) (g N : Nat) (step : Int) (fin : Bool) (h₀ : Heap) (L : Addr) (J : Nat → (Str → Option Value) → List (Addr × Obj) → Prop) (s : Shared) (k : Nat) (s' : Shared) : Prop
  | mk (h' : Heap) (tk : Nat) (gg : Array GenState) (m' : Str → Option Value) (news' : List (Addr × Obj)) (i : Nat) (e : s' = { s with heap := h', toks := tk, gens := gg }) (hgen : h'.IsGen a g) (gs : GenState) (hgs : gg[g]? = some gs) (hgo : (fin = true ∨ i < N) → gs.Goes (model prog w) A.in1 (Rg C I fin) (Yp h₀ C I l step fin) (N - i) (.send .none) (({ s with heap := h', toks := tk, gens := gg } : Shared).setGen g .running)) (F : Fr h₀ L h' m') (Nw : News h₀ L h' news') (hnw : ∀ p ∈ news', p.1 ∉ [C, I]) (hJ : J i m' news') (hbk : BareKeep s.gens gg) (hi : i ≤ N) (hk : k = N + 1 - i) : GenI prog w A C I l a g N step fin h₀ L J s k s'
theorem gen_loop {Q : Flow → Shared → Prop} {x : Str} {px : Pos} {body : List Stmt} {a C I l : Addr} {g N : Nat} {c : Code} {step : Int} {fin : Bool} {m : Str → Option Value} {news : List (Addr × Obj)}
    (hx : env.kindOf x = some .local) (hp : (env.scope.kind == .class || (env.scope.kind == .module && env.locals != env.globals)) = false)
    (hh : A.handled = none) (hlim : h₀.NoLimit) (hroom : A.depth < recursionLimit)
    (F : Fr h₀ env.locals s.heap m) (Nw : News h₀ env.locals s.heap news)
    (hgen : s.heap.IsGen a g) (hgs : s.gens[g]? = some (.fresh c))
    (hI : I = s.heap.objs.size) (hC0 : h₀.get? C = none) (hCl : env.locals ≠ C) (haC : a ≠ C) (hla : env.locals ≠ a) (hll : env.locals ≠ l) (hnC : ∀ p ∈ news, p.1 ≠ C)
    (hseg : Seg (model prog w) A.in1 (Rg C I fin) (Yp h₀ C I l step fin) N (s.setGen g .running) c ((model prog w).den c) [] (s.setGen g .running))
    (J : Nat → (Str → Option Value) → List (Addr × Obj) → Prop) (h0 : J 0 m news)
    (hstep : ∀ i t m₁ news₁ h tk gg own, i < N → J i m₁ news₁ → (∀ p ∈ news₁, p.1 ∉ [C, I]) → (∀ p ∈ own, p.1 ∈ [a, C, I, l]) → BareKeep s.gens gg →
      Fr h₀ env.locals h (fun y => if y = x then some (.int step t) else m₁ y) → News h₀ env.locals h (news₁ ++ own) →
      wpAny (model prog w) A (execs body env) (TurnPost h₀ env.locals [C, I] own (fun m' n' g' => g' = gg ∧ J (i + 1) m' n') s Q) E { s with heap := h, toks := tk, gens := gg })
    (hnofin : ∀ m' n', fin = false → ¬ J N m' n')
    (done : ∀ h' tk gg m' news', BareKeep s.gens gg → Fr h₀ env.locals h' m' → News h₀ env.locals h' news' → J N m' news' → Q .next { s with heap := h', toks := tk, gens := gg })
    (hE : PassesOwn (model prog w) A env E := by passes_own) :
    wpAny (model prog w) A (pyIter (.ref a)) (fun it s₂ => LoopQ prog w A env (.Name x px) body Q E it s₂) E s := by
  refine wpAny_pyIter_gen hgen ?_
  unfold LoopQ
  have haI : a ≠ I := hI ▸ Nat.ne_of_lt (let ⟨_, _, _, ho, _⟩ := hgen; Heap.lt_size ho)
  have hLI : env.locals ≠ I := hI ▸ Nat.ne_of_lt F.ns.lt
  have hI0 : h₀.get? I = none := hI ▸ next_is_new F
  have hLf : env.locals ∉ [a, C, I, l] := fun q => by
    simp only [List.mem_cons, List.not_mem_nil, or_false] at q
    rcases q with q | q | q | q
    · exact hla q
    · exact hCl q
    · exact hLI q
    · exact hll q
  have hLw : env.locals ∉ [C, I] := fun q => by
    simp only [List.mem_cons, List.not_mem_nil, or_false] at q
    rcases q with q | q
    · exact hCl q
    · exact hLI q
  have old : ∀ b o, h₀.get? b = some o → b ∉ [C, I] := fun b o e q => by
    simp only [List.mem_cons, List.not_mem_nil, or_false] at q
    rcases q with q | q <;> subst q
    · rw [hC0] at e; cases e
    · rw [hI0] at e; cases e
  have hnw : ∀ p ∈ news, p.1 ∉ [C, I] := fun p hp q => by
    simp only [List.mem_cons, List.not_mem_nil, or_false] at q
    rcases q with q | q
    · exact hnC p hp q
    · exact absurd (Heap.lt_size (Nw p hp).1) (by rw [q, hI]; exact Nat.lt_irrefl _)
  refine codeAny_forLoop
    (GenI prog w A C I l a g N step fin h₀ env.locals J s) ?_ (N + 1)
    ⟨s.heap, s.toks, s.gens, m, news, 0, rfl, hgen, _, hgs, fun _ => ⟨rfl, hseg⟩, F, Nw, hnw, h0, BareKeep.refl, Nat.zero_le _, rfl⟩
  rintro k s' ⟨h', tk, gg, m', news', i, rfl, hgen', gs, hgs', hgo, F', N', hnw', hJ, hbk, hi, rfl⟩
  have next : ∀ h₁ : Heap, (∀ b o, b ≠ C → b ∉ [I] → h'.get? b = some o → h₁.get? b = some o) → Fr h₀ env.locals h₁ m' ∧ News h₀ env.locals h₁ news' := fun h₁ hk₁ =>
    have hk₁' : ∀ b o, b ∉ [C, I] → h'.get? b = some o → h₁.get? b = some o := fun b o hb e => hk₁ b o (fun q => hb (q ▸ .head _)) (fun q => hb (.tail _ q)) e
    ⟨⟨F'.ns.at' fun o e => hk₁' _ o hLw e, fun b o e => hk₁' b o (old b o e) (F'.keep b o e), F'.above⟩, fun p hp => ⟨hk₁' _ _ (hnw' p hp) (N' p hp).1, (N' p hp).2⟩⟩
  by_cases hlt : i < N
  · obtain ⟨n, hn⟩ : ∃ n, N - i = n + 1 := ⟨N - i - 1, by lia  ⟩
    have hgo := hgo (.inr hlt)
    rw [hn] at hgo
    refine next_genQ hh (hlim.keeps F'.keep) hroom hgen' hgs' hgo (fun v s₁ gs' hb hv => ?_) (fun s₁ hp => absurd hp.1 (Nat.succ_ne_zero _))
    obtain ⟨⟨t, rfl⟩, ⟨h₁, tk₁, rfl, hk₁⟩, hkap⟩ := hv
    obtain ⟨F₁, N₁⟩ := next h₁ hk₁
    refine wpAny_assign_Name (wpAny_storeName_local hx F₁.ns (fun h₂ hn₂ hs₂ => ?_) hp)
    have F₂ := F₁.set hn₂ hs₂
    have hbk₂ : BareKeep s.gens (((({ s with heap := h', toks := tk, gens := gg } : Shared).setGen g .running).setGen g gs').gens) := hbk.trans (BareKeep.trans (BareKeep.setGen (s := { s with heap := h', toks := tk, gens := gg }) rfl) (BareKeep.setGen hb))
    have Nown : News h₀ env.locals h₂ (ownOf h₀ [a, C, I, l] h₂) := news_ownOf hLf
    refine wpAny_passesOwn hE (wpAny_mono (hstep i t m' news' h₂ _ _ (ownOf h₀ [a, C, I, l] h₂) hlt hJ hnw' ownOf_sub hbk₂ F₂ (news_swap (Nown.append (N₁.set hs₂)))) (fun f s₃ h₃ => ?_) fun _ _ e => e)
    have fini : TurnEnd h₀ env.locals [C, I] (ownOf h₀ [a, C, I, l] h₂) (fun m'' n'' g'' => g'' = ((({ s with heap := h', toks := tk, gens := gg } : Shared).setGen g .running).setGen g gs').gens ∧ J (i + 1) m'' n'') s s₃ →
        ∃ k', k' < N + 1 - i ∧ GenI prog w A C I l a g N step fin h₀ env.locals J s k' s₃ := by
      rintro ⟨h₃', tk₃, g₃, m₂, news₂, rfl, F₃, N₃, ha₃, rfl, hJ₃⟩
      have stay : ∀ b ∈ [a, C, I, l], ∀ o, h₁.get? b = some o → h₃'.get? b = some o := fun b hb o e => by
        have e₂ : h₂.get? b = some o := (hs₂.2 b fun q => hLf (q ▸ hb)).trans e
        cases hn : h₀.get? b with
        | some o₀ =>
          have : o₀ = o := by have := F₂.keep b o₀ hn; rw [e₂] at this; exact (Option.some.inj this).symm
          exact this ▸ F₃.keep b o₀ hn
        | none => exact (N₃ _ (List.mem_append_right _ (mem_ownOf hb hn e₂))).1
      have hgen₁ : h₁.IsGen a g := let ⟨o, nm, qn, ho, r⟩ := hgen'; ⟨o, nm, qn, hk₁ a o haC (fun q => haI (List.mem_singleton.mp q)) ho, r⟩
      refine ⟨N + 1 - (i + 1), by lia  , h₃', tk₃, _, m₂, news₂, i + 1, rfl, (let ⟨o, nm, qn, ho, r⟩ := hgen₁; ⟨o, nm, qn, stay a (.head _) o ho, r⟩), gs', setGen_self (gs := .running) (setGen_self (s := { s with heap := h', toks := tk, gens := gg }) hgs'), fun hor => ?_, F₃, fun p hp => N₃ p (List.mem_append_left _ hp), ha₃, hJ₃, hbk₂, hlt, rfl⟩
      have hN1 : N - (i + 1) = n := by lia  
      rw [hN1]
      exact hkap (hor.imp id fun q => by lia  ) _ ⟨F₃.keep, fun b hb o e => stay b (.tail _ hb) o e⟩
    cases f with
    | ret v => exact h₃
    | brk => exact h₃
    | cont => exact fini h₃
    | next => exact fini h₃
  · have hin : i = N := by lia  
    subst hin
    cases hf : fin with
    | false => exact absurd hJ (hnofin _ _ hf)
    | true =>
      have hgo := hgo (.inl hf)
      rw [Nat.sub_self] at hgo
      refine next_genQ hh (hlim.keeps F'.keep) hroom hgen' hgs' hgo (fun v s₁ gs' hb hv => ?_) (fun s₁ hp h'' hk'' => ?_)
      · obtain ⟨_, ⟨h₁, tk₁, rfl, hk₁⟩, hkap⟩ := hv
        exact (hkap (.inl hf) _ ⟨(next h₁ hk₁).1.keep, fun _ _ _ e => e⟩).elim
      · obtain ⟨_, _, h₁, tk₁, rfl, hk₁⟩ := hp
        refine wpAny_execs_nil ?_
        obtain ⟨F₁, N₁⟩ := next h₁ hk₁
        exact done h'' _ _ m' news' (hbk.trans (BareKeep.trans (BareKeep.setGen (s := { s with heap := h', toks := tk, gens := gg }) rfl) (BareKeep.setGen rfl))) ⟨F₁.ns.at' fun o e => hk'' _ o e, fun b o e => hk'' b o (F₁.keep b o e), F₁.above⟩ (fun p hp => ⟨hk'' _ _ (N₁ p hp).1, (N₁ p hp).2⟩) hJ
end
end Mine
end
section
open PySem PySem.W PyProof.Rows
open PySem.Builtin PySem.Builtin.Str
set_option maxRecDepth 100000
set_option maxHeartbeats 8000000
namespace Mine
/-- a generator's frame `C`, its list `l` and iterator `I`, since the state `s₀` -/
structure GQ (g : Heap) (C I l : Addr) (vs : List Value) (m : Str → Option Value) (s₀ : Shared) (h : Heap) : Prop where
  F : Fr g C h m
  S : ∀ b o, b ≠ C → b ∉ [I] → s₀.heap.get? b = some o → h.get? b = some o
  L : h.IsList l vs.toArray
section
variable {prog : Program} {w : World} {A : Around} {R : GenEnd} {Y : Protocol} {n : Nat} {s₀ : Shared} {c : Code} {fs : List Frame} {env : Env} {gd : Bool → Bool} {lv : List Value → List Value}
  {g h : Heap} {C I l : Addr} {vs : List Value} {m : Str → Option Value} {tk : Nat} {K : Flow → Sem Fin} {H : Value → Sem Fin}
theorem GQ.store {h' : Heap} {m' : Str → Option Value} (G : GQ g C I l vs m s₀ h) (hlC : l ≠ C) (hn : h'.Ns C m') (hs : Heap.SameBut C h h') : GQ g C I l vs m' s₀ h' :=
  ⟨G.F.set hn hs, fun b o h1 h2 e => hs.extBut b o h1 (G.S b o h1 h2 e), G.L.extBut hs.extBut hlC⟩
theorem GQ.init (F : Fr g C s₀.heap m) (L : s₀.heap.IsList l vs.toArray) : GQ g C I l vs m s₀ s₀.heap := ⟨F, fun _ _ _ _ e => e, L⟩
theorem seg_gen0 {M : Model} {t : Sem Fin} {st : Shared} (P : Shared → Heap → Prop) (h0 : P st st.heap) (H' : ∀ s₀ h tk, P s₀ h → Seg M A R Y n s₀ c t fs { s₀ with heap := h, toks := tk }) : Seg M A R Y n st c t fs st := H' st st.heap st.toks h0
theorem segAssign {x : Str} {px pos : Pos} {e : Expr} {v : Value} (G : GQ g env.locals I l vs m s₀ h) (hx : env.kindOf x = some .local) (hp : (env.scope.kind == .class || (env.scope.kind == .module && env.locals != env.globals)) = false)
    (hlC : l ≠ env.locals) (hIC : I ≠ env.locals) (hsw : swapsWith e (some (.Name x px)) pos.line env = pure false)
    (he : ∀ E', wpAny (model prog w) (A.over c fs) (eval e env) (fun r s₁ => r = v ∧ ∃ tk', s₁ = { s₀ with heap := h, toks := tk' }) E' { s₀ with heap := h, toks := tk })
    (hK : ∀ h' tk', GQ g env.locals I l vs (fun y => if y = x then some v else m y) s₀ h' → h'.objs.size = h.objs.size → (∀ i, h.IsListIter I l i → h'.IsListIter I l i) → Seg (model prog w) A R Y n s₀ c (K .next) fs { s₀ with heap := h', toks := tk' }) :
    Seg (model prog w) A R Y n s₀ c ((exec (.Assign [.Name x px] e pos) env).wrap K H gd lv) fs { s₀ with heap := h, toks := tk } := by
  refine seg_wrap (wpAny_Assign_Name (wpAny_mono (he _) (fun r s₁ h₁ => ?_) fun _ _ e => e) hsw)
  obtain ⟨rfl, tk', rfl⟩ := h₁
  exact wpAny_storeName_local hx G.F.ns (fun h' hn hs => hK h' _ (G.store hlC hn hs) hs.1 fun i hi => hi.extBut hs.extBut hIC) hp
theorem segFor {x : Str} {px pos : Pos} {iter : Expr} {body : List Stmt} (G : GQ g C I l vs m s₀ h) (hI : I = h.objs.size) (hs : ∀ x, foldedSetIterable iter env x = pure x)
    (he : ∀ E', wpAny (model prog w) (A.over c fs) (eval iter env) (fun r s₁ => r = .ref l ∧ ∃ tk', s₁ = { s₀ with heap := h, toks := tk' }) E' { s₀ with heap := h, toks := tk })
    (hK : ∀ h' tk' p, GQ g C I l vs m s₀ h' → h'.IsListIter I l 0 → Seg (model prog w) A R Y n s₀ (.forLoop (.Name x px) (.ref I) body [] env) ((model prog w).den (.forLoop (.Name x px) (.ref I) body [] env))
      (.ret (fun r => ((match r with | .ok f => (.pure f : Sem Flow) | .error e => .raise e).onRaise fun (x : Value) => do
        if (← field x 1) == Value.none then unsupported "frame.own-activation:exception-without-traceback"
        setFlight x env.frame).wrap K H gd lv) none (gd false) (lv []) c p [] :: fs) { s₀ with heap := h', toks := tk' }) :
    Seg (model prog w) A R Y n s₀ c ((exec (.For (.Name x px) iter body [] pos) env).wrap K H gd lv) fs { s₀ with heap := h, toks := tk } := by
  refine seg_For hs (wpAny_mono (he _) (fun r s₁ h₁ => ?_) fun _ _ e => e)
  obtain ⟨rfl, tk', rfl⟩ := h₁
  refine wpAny_pyIter_list G.L ?_
  subst hI
  intro p
  exact hK _ tk' p ⟨G.F.push _, fun b o h1 h2 e => Heap.get?_push_of_some _ (G.S b o h1 h2 e), G.L.push _⟩ ⟨_, Heap.get?_push_size _ rfl, rfl, rfl⟩
theorem segTurn {x : Str} {px : Pos} {body : List Stmt} {i : Nat} {v : Value} (G : GQ g env.locals I l vs m s₀ h) (hit : h.IsListIter I l i) (hv : vs[i]? = some v)
    (hx : env.kindOf x = some .local) (hp : (env.scope.kind == .class || (env.scope.kind == .module && env.locals != env.globals)) = false)
    (hlC : l ≠ env.locals) (hIC : I ≠ env.locals) (hlI : l ≠ I) (hI0 : g.get? I = none) (hh : (A.over (.forLoop (.Name x px) (.ref I) body [] env) fs).handled = none)
    (hK : ∀ h' tk', GQ g env.locals I l vs (fun y => if y = x then some v else m y) s₀ h' → h'.IsListIter I l (i + 1) → Seg (model prog w) A R Y n s₀ (.forLoop (.Name x px) (.ref I) body [] env) ((execs body env).wrap (fun f => match f with
            | .next | .cont => .pure (.again (.forLoop (.Name x px) (.ref I) body [] env))
            | .brk => .pure (.done .next)
            | .ret v => .pure (.done (.ret v))) (Hn env) id id) fs { s₀ with heap := h', toks := tk' }) :
    Seg (model prog w) A R Y n s₀ (.forLoop (.Name x px) (.ref I) body [] env) ((model prog w).den (.forLoop (.Name x px) (.ref I) body [] env)) fs { s₀ with heap := h, toks := tk } := by
  have W := Walks.list (prog := prog) (w := w) hh I l hlI vs.toArray
  have hlt : i < vs.length := (List.getElem?_eq_some_iff.mp hv).1
  refine seg_forLoop (fun _ => rfl) (W.item i _ _ _ (by simpa using hlt) ⟨hit, G.L⟩ fun v' h₁ tk₁ hP hst hk => ?_)
  have : v' = v := by have hP' : vs[i]? = some v' := by simpa using hP
                      rw [hv] at hP'; exact (Option.some.inj hP').symm
  subst this
  have hIs : ∀ b, b ≠ I → b ∉ [I] := fun b hb q => hb (List.mem_singleton.mp q)
  have G₁ : GQ g env.locals I l vs m s₀ h₁ := ⟨⟨G.F.ns.at' fun o e => hk _ o (hIs _ (Ne.symm hIC)) e, fun b o e => hk b o (hIs _ fun q => by rw [q, hI0] at e; cases e) (G.F.keep b o e), G.F.above⟩, fun b o h1 h2 e => hk b o h2 (G.S b o h1 h2 e), hst.2⟩
  refine wpAny_assign_Name (wpAny_storeName_local hx G₁.F.ns (fun h' hn hs => ?_) hp)
  exact hK h' _ (G₁.store hlC hn hs) (hst.1.extBut hs.extBut hIC)
theorem segIf {test : Expr} {body orelse : List Stmt} {pos : Pos} (bb : Bool) {s : Shared}
    (ht : ∀ E', wpAny (model prog w) (A.over c fs) (isTrue test env (eval test env)) (fun b s₁ => b = bb ∧ ∃ tk', s₁ = { s with toks := tk' }) E' s)
    (hK : ∀ tk', Seg (model prog w) A R Y n s₀ c ((execs (if bb = true then body else orelse) env).wrap K H gd lv) fs { s with toks := tk' }) :
    Seg (model prog w) A R Y n s₀ c ((exec (.If test body orelse pos) env).wrap K H gd lv) fs s := by
  refine seg_If (wpAny_mono (ht _) (fun b s₁ h₁ => ?_) fun _ _ e => e)
  obtain ⟨rfl, tk', rfl⟩ := h₁
  have := hK tk'
  cases b with
  | true => rw [if_pos rfl]; exact this
  | false => rw [if_neg (by decide)]; exact this
theorem segWh {test : Expr} {body orelse : List Stmt} {s : Shared}
    (ht : ∀ E', wpAny (model prog w) (A.over (.whileLoop test body orelse env) fs) (isTrue test env (eval test env)) (fun b s₁ => b = true ∧ ∃ tk', s₁ = { s with toks := tk' }) E' s)
    (hK : ∀ tk', Seg (model prog w) A R Y n s₀ (.whileLoop test body orelse env) ((execs body env).wrap (fun f => match f with
            | .next | .cont => .pure (.again (.whileLoop test body orelse env))
            | .brk => .pure (.done .next)
            | .ret v => .pure (.done (.ret v))) (fun e => (do noteFrame e env; theTreesLotGoes e : Sem Unit).wrap (fun _ => .raise e) .raise id id) id id) fs { s with toks := tk' }) :
    Seg (model prog w) A R Y n s₀ (.whileLoop test body orelse env) ((model prog w).den (.whileLoop test body orelse env)) fs s := by
  refine seg_whileLoop (wpAny_mono (ht _) (fun b s₁ h₁ => ?_) fun _ _ e => e)
  obtain ⟨rfl, tk', rfl⟩ := h₁
  rw [if_pos rfl]
  exact hK tk'
theorem segRet {pos : Pos} {s : Shared} (h : Seg (model prog w) A R Y n s₀ c (K (.ret .none)) fs s) : Seg (model prog w) A R Y n s₀ c ((exec (.Return none pos) env).wrap K H gd lv) fs s := by
  rw [exec_Return_none]
  exact seg_wbind (wpAny_standAt (seg_wpure h))
theorem segYield {e : Expr} {ypos pos : Pos} {i : Nat} {step : Int} {t : Tok} {fin : Bool} (G : GQ g C I l vs m s₀ h) (hit : h.IsListIter I l i) (hfs : splitAtGen fs = none) (hgd : gd false = false) (hfg : fs.any Frame.guarded = false)
    (he : ∀ E', wpAny (model prog w) (A.over c fs) (eval e env) (fun r s₁ => r = .int step t ∧ ∃ tk', s₁ = { s₀ with heap := h, toks := tk' }) E' { s₀ with heap := h, toks := tk })
    (hK : (fin = true ∨ 0 < n) → ∀ s'', GQ g C I l vs m s'' s''.heap → s''.heap.IsListIter I l i → Seg (model prog w) A R (Yp g C I l step fin) n s'' c (K .next) fs s'')
    (hco : env.scope.isCoroutine = false := by rfl) (hi : interactive env = false := by rfl) :
    Seg (model prog w) A R (Yp g C I l step fin) (n + 1) s₀ c ((exec (.Expr (.Yield (some e) ypos) pos) env).wrap K H gd lv) fs { s₀ with heap := h, toks := tk } := by
  refine seg_Expr_Yield hfs hgd hfg (wpAny_mono (he _) (fun r s₁ h₁ => ?_) fun _ _ e => e) hco hi
  obtain ⟨rfl, tk', rfl⟩ := h₁
  intro kap hkap
  refine ⟨⟨t, rfl⟩, ⟨h, tk', rfl, G.S⟩, fun hor s'' hal => hkap .none s'' (hK hor s'' ⟨⟨G.F.ns.at' fun o e => hal.2 C (by simp) o e, hal.1, G.F.above⟩, fun _ _ _ _ e => e, G.L.at fun o e => hal.2 l (by simp) o e⟩ (hit.at fun o e => hal.2 I (by simp) o e))⟩
end
end Mine
end
section
open PySem PySem.W PyProof.Rows
open PySem.Builtin PySem.Builtin.Str
set_option maxRecDepth 100000
set_option maxHeartbeats 8000000
namespace Mine
theorem occ1_iff (x y : Str) (lo hi : Nat) : (occurrences x y lo hi 1) ≠ [] ↔ ∃ i, lo ≤ i ∧ i + y.length ≤ hi ∧ subAt x y i = true := by
  rw [StrLaws.occ_eq]
  have key := StrLaws.occ_none x y hi (List.range' lo (hi + 1 - lo)) lo (fun i hi => by rw [List.mem_range'_1] at hi; lia  )
  constructor
  · intro h
    refine Classical.byContradiction fun hn => ?_
    have h0 := key.mpr fun i hi hc => hn ⟨i, by rw [List.mem_range'_1] at hi; lia  , hc⟩
    rw [h0] at h
    exact h rfl
  · rintro ⟨i, h0, h1, h2⟩ h
    have : (forIn (List.range' lo (hi + 1 - lo)) ((#[] : Array Nat), lo) (StrLaws.occBody x y hi 1)).run.fst = #[] := Array.ext' h
    exact key.mp this i (by rw [List.mem_range'_1]; lia  ) ⟨h1, h2⟩
theorem find4_nonneg (x y : Str) (i j : Int) : 0 ≤ find4 x y i j ↔ ∃ k, fromIndex x.length i ≤ k ∧ k + y.length ≤ min (fromIndex x.length j) x.length ∧ subAt x y k = true := by
  rw [← occ1_iff]
  unfold find4
  cases occurrences x y (fromIndex x.length i) (min (fromIndex x.length j) x.length) 1 with
  | nil => simp
  | cons k _ => simp
theorem fromIndex_nat (n k : Nat) : fromIndex n (k : Int) = k := by
  unfold fromIndex
  rw [if_neg (by lia  )]
  lia  
theorem subAt_nil {x y : Str} {i : Nat} (h : y.length = 0) : subAt x y i = true := by
  have : y.cps = #[] := Array.eq_empty_of_size_eq_zero h
  unfold subAt
  rw [h, this]
  simp
  exact Nat.min_le_left _ _
theorem find4_empty {x y : Str} {i j : Nat} (h : y.length = 0) (hij : i ≤ j) (hj : j ≤ x.length) : 0 ≤ find4 x y i j := by
  rw [find4_nonneg, fromIndex_nat, fromIndex_nat]
  exact ⟨i, Nat.le_refl _, by lia  , subAt_nil h⟩
theorem starts_le {x y : Str} (h : Txt.startswith x y = true) : y.length ≤ x.length := by
  unfold Txt.startswith at h
  simp at h
  lia  
theorem ends_le {x y : Str} (h : Txt.endswith x y = true) : y.length ≤ x.length := by
  unfold Txt.endswith at h
  simp at h
  lia  
end Mine
namespace Mine
theorem frame1 {m₁ m₀ : Str → Option Value} {x : Str} {v : Option Value} (h : ∀ z, z ≠ x → m₁ z = m₀ z) : (fun y => if y = x then v else m₁ y) = fun y => if y = x then v else m₀ y := by
  funext y
  by_cases e : y = x
  · simp [e]
  · simp [e, h y e]
theorem frame1_next {m₀ : Str → Option Value} {x : Str} {v : Option Value} : ∀ z, z ≠ x → (fun y => if y = x then v else m₀ y) z = m₀ z := fun z h => by simp [h]
theorem range_size {a b : Int} {n : Nat} (h : b - a = n) : Builtin.Range.rangeSize a b 1 = (n : Int) := by
  unfold Builtin.Range.rangeSize
  split
  · split
    · simp; lia  
    · lia  
  · lia  
theorem range_small {a b : Int} (h0 : 0 ≤ a) (h1 : a ≤ 1000000) (h2 : 0 ≤ b) (h3 : b ≤ 1000000) : Builtin.Range.small a b 1 = true := by
  have hs : Builtin.Range.rangeSize a b 1 ≤ 1000000 ∧ 0 ≤ Builtin.Range.rangeSize a b 1 := by
    unfold Builtin.Range.rangeSize
    split
    · split
      · simp; lia  
      · lia  
    · lia  
  unfold Builtin.Range.small Builtin.Range.rangeFitsLong
  simp only [Bool.and_eq_true, Bool.or_eq_true, decide_eq_true_eq, beq_iff_eq]
  refine ⟨⟨⟨⟨?_, ?_⟩, ?_⟩, ?_⟩, .inr ?_⟩
  all_goals (try rw [if_pos (by decide)])
  all_goals (try simp only [Bool.and_eq_true, decide_eq_true_eq])
  all_goals lia  
theorem refr {h₀ h : Heap} {L : Addr} {m m' : Str → Option Value} (F : Fr h₀ L h m) (e : m = m') : Fr h₀ L h m' := e ▸ F
theorem look2 (p q : Str) (v w : Value) : (fun y => List.lookup y [(p, v), (q, w)]) = fun y => if y = p then some v else if y = q then some w else none := by
  funext y
  by_cases e : y = p
  · rw [if_pos e, e]; simp [List.lookup]
  · rw [if_neg e]
    have e1 : (y == p) = false := by simpa using e
    by_cases e' : y = q
    · rw [if_pos e', List.lookup, e1, List.lookup, e']; simp
    · have e2 : (y == q) = false := by simpa using e'
      rw [if_neg e', List.lookup, e1, List.lookup, e2]; rfl
end Mine
end
section
open PySem PySem.W PyProof.Rows
open PySem.Builtin PySem.Builtin.Str
set_option maxRecDepth 100000
namespace Mine
abbrev S (l : List Nat) : Str := ⟨l.toArray⟩
abbrev ls (x : Str) : List Nat := x.cps.toList
theorem S_ls (x : Str) : S (ls x) = x := by cases x; rfl
theorem ls_S (l : List Nat) : ls (S l) = l := rfl
theorem ls_length (x : Str) : (ls x).length = x.length := by simp [ls, Str.length]
theorem S_length (l : List Nat) : (S l).length = l.length := by simp [S, Str.length]
theorem S_append (a b : List Nat) : S a ++ S b = S (a ++ b) := by
  apply Str.ext'
  simp [S, Str.cps_append]
theorem S_inj {a b : List Nat} (h : S a = S b) : a = b := by
  have := congrArg ls h
  simpa [ls] using this
theorem str_ext {x y : Str} (h : ls x = ls y) : x = y := by rw [← S_ls x, ← S_ls y, h]
theorem ls_append (x y : Str) : ls (x ++ y) = ls x ++ ls y := by simp [ls, Str.cps_append]
theorem slice_ab {x : Str} {l u : Option Int} {a b : Nat} (hab : a ≤ b) (hb : b ≤ x.length) (e : strSliceIndices l u 1 x.length = strSliceIndices (some (a : Int)) (some (b : Int)) 1 x.length) :
    Txt.slice x l u = S (((ls x).drop a).take (b - a)) := by
  have h1 : Txt.slice x l u = Txt.slice x (some (a : Int)) (some (b : Int)) := by unfold Txt.slice; rw [e]
  have h2 := slice_closes (x := x) (i := (a : Int)) (j := (b : Int)) ⟨by lia  , by lia  , by rw [ls_length]; lia  ⟩
  rw [h1, beq_iff_eq.mp h2]
  congr 2
  have : ((b : Int) - (a : Int)).toNat = b - a := by lia  
  simp [this]
theorem clip_nat {a n : Nat} (h : a ≤ n) : max (0 : Int) (min (if (a : Int) < 0 then (a : Int) + (n : Int) else (a : Int)) (n : Int)) = (a : Int) := by
  rw [if_neg (Int.not_lt.mpr (Int.natCast_nonneg a)), Int.min_eq_left (Int.ofNat_le.mpr h), Int.max_eq_right (Int.natCast_nonneg a)]
theorem clip_pos {j : Int} {n : Nat} (h : 0 ≤ j) : max (0 : Int) (min (if j < 0 then j + (n : Int) else j) (n : Int)) = ((min j.toNat n : Nat) : Int) := by
  rw [if_neg (Int.not_lt.mpr h)]
  by_cases q : j.toNat ≤ n
  · rw [Nat.min_eq_left q, Int.toNat_of_nonneg h, Int.min_eq_left (by lia  ), Int.max_eq_right h]
  · rw [Nat.min_eq_right (by lia  ), Int.min_eq_right (by lia  ), Int.max_eq_right (Int.natCast_nonneg n)]
theorem clip_neg {k : Int} {n : Nat} (h : 1 ≤ k) : max (0 : Int) (min (if -k < 0 then -k + (n : Int) else -k) (n : Int)) = ((n - k.toNat : Nat) : Int) := by
  rw [if_pos (by lia  )]
  by_cases q : k.toNat ≤ n
  · rw [Int.min_eq_left (by lia  ), Int.max_eq_right (by lia  ), Int.ofNat_sub q, Int.toNat_of_nonneg (by lia  )]; lia  
  · rw [Int.min_eq_left (by lia  ), Int.max_eq_left (by lia  ), Nat.sub_eq_zero_of_le (by lia  )]; rfl
theorem slice_from {x : Str} {i : Int} (h0 : 0 ≤ i) : Txt.slice x (some i) none = S ((ls x).drop i.toNat) := by
  have key : strSliceIndices (some i) none 1 x.length = strSliceIndices (some ((min i.toNat x.length : Nat) : Int)) (some ((x.length : Nat) : Int)) 1 x.length := by
    simp only [strSliceIndices, show (1 : Int) > 0 from by decide, if_true]
    rw [clip_pos h0, clip_nat (Nat.min_le_right _ _), clip_nat (Nat.le_refl _)]
  rw [slice_ab (a := min i.toNat x.length) (b := x.length) (by lia  ) (Nat.le_refl _) key]
  apply congrArg S
  rw [List.take_of_length_le (by rw [List.length_drop, ls_length]; lia  )]
  by_cases h : i.toNat ≤ x.length
  · rw [Nat.min_eq_left h]
  · rw [Nat.min_eq_right (by lia  ), List.drop_of_length_le (by rw [ls_length]; lia  ), List.drop_of_length_le (by rw [ls_length]; lia  )]
theorem slice_upto {x : Str} {j : Int} (h0 : 0 ≤ j) : Txt.slice x none (some j) = S ((ls x).take j.toNat) := by
  have key : strSliceIndices none (some j) 1 x.length = strSliceIndices (some ((0 : Nat) : Int)) (some ((min j.toNat x.length : Nat) : Int)) 1 x.length := by
    simp only [strSliceIndices, show (1 : Int) > 0 from by decide, if_true]
    rw [clip_pos h0, clip_nat (Nat.min_le_right _ _), clip_nat (Nat.zero_le _)]; rfl
  rw [slice_ab (a := 0) (b := min j.toNat x.length) (by lia  ) (by lia  ) key]
  apply congrArg S
  rw [List.drop_zero, Nat.sub_zero]
  by_cases h : j.toNat ≤ x.length
  · rw [Nat.min_eq_left h]
  · rw [Nat.min_eq_right (by lia  ), List.take_of_length_le (by rw [ls_length]; lia  ), List.take_of_length_le (by rw [ls_length]; lia  )]
theorem slice_fromNeg {x : Str} {k : Int} (h0 : 1 ≤ k) : Txt.slice x (some (-k)) none = S ((ls x).drop (x.length - k.toNat)) := by
  have key : strSliceIndices (some (-k)) none 1 x.length = strSliceIndices (some ((x.length - k.toNat : Nat) : Int)) (some ((x.length : Nat) : Int)) 1 x.length := by
    simp only [strSliceIndices, show (1 : Int) > 0 from by decide, if_true]
    rw [clip_neg h0, clip_nat (Nat.sub_le _ _), clip_nat (Nat.le_refl _)]
  rw [slice_ab (a := x.length - k.toNat) (b := x.length) (by lia  ) (Nat.le_refl _) key]
  apply congrArg S
  rw [List.take_of_length_le (by rw [List.length_drop, ls_length]; lia  )]
theorem slice_uptoNeg {x : Str} {k : Int} (h0 : 1 ≤ k) : Txt.slice x none (some (-k)) = S ((ls x).take (x.length - k.toNat)) := by
  have key : strSliceIndices none (some (-k)) 1 x.length = strSliceIndices (some ((0 : Nat) : Int)) (some ((x.length - k.toNat : Nat) : Int)) 1 x.length := by
    simp only [strSliceIndices, show (1 : Int) > 0 from by decide, if_true]
    rw [clip_neg h0, clip_nat (Nat.sub_le _ _), clip_nat (Nat.zero_le _)]; rfl
  rw [slice_ab (a := 0) (b := x.length - k.toNat) (by lia  ) (by lia  ) key]
  simp

/-! where texts stand in texts -/
theorem starts_ls (x y : Str) : Txt.startswith x y = (ls y).isPrefixOf (ls x) := by
  unfold Txt.startswith
  rw [StrLaws.subAt_eq]
  by_cases h : ls y <+: ls x
  · have h1 := List.prefix_iff_eq_take.mp h
    have h2 := h.length_le
    rw [ls_length, ls_length] at h2
    rw [List.isPrefixOf_iff_prefix.mpr h]
    simp only [Nat.zero_add, List.drop_zero, Bool.and_eq_true, decide_eq_true_eq, beq_iff_eq]
    refine ⟨h2, ?_⟩
    rw [ls_length] at h1
    exact h1.symm
  · have : (ls y).isPrefixOf (ls x) = false := by
      rw [Bool.eq_false_iff]; exact fun q => h (List.isPrefixOf_iff_prefix.mp q)
    rw [this, Bool.eq_false_iff]
    intro q
    simp only [Nat.zero_add, List.drop_zero, Bool.and_eq_true, decide_eq_true_eq, beq_iff_eq] at q
    have e : (ls x).take y.length = ls y := q.2
    exact h (e ▸ List.take_prefix _ _)
theorem ends_ls (x y : Str) : Txt.endswith x y = (ls y).isSuffixOf (ls x) := by
  unfold Txt.endswith
  rw [StrLaws.subAt_eq]
  by_cases h : ls y <:+ ls x
  · have h1 := List.suffix_iff_eq_drop.mp h
    have h2 := h.length_le
    rw [ls_length, ls_length] at h2
    rw [List.isSuffixOf_iff_suffix.mpr h]
    simp only [Nat.zero_add, Bool.and_eq_true, decide_eq_true_eq, beq_iff_eq]
    refine ⟨h2, ?_⟩
    rw [ls_length, ls_length] at h1
    show ((ls x).drop (x.length - y.length)).take y.length = ls y
    rw [← h1, ← ls_length y, List.take_length]
  · have : (ls y).isSuffixOf (ls x) = false := by
      rw [Bool.eq_false_iff]; exact fun q => h (List.isSuffixOf_iff_suffix.mp q)
    rw [this, Bool.eq_false_iff]
    intro q
    simp only [Nat.zero_add, Bool.and_eq_true, decide_eq_true_eq, beq_iff_eq] at q
    have e : ((ls x).drop (x.length - y.length)).take y.length = ls y := q.2
    rw [List.take_of_length_le (by rw [List.length_drop, ls_length]; lia  )] at e
    exact h (e ▸ List.drop_suffix _ _)

/-! three dots -/
abbrev dots : Str := Str.ofString "..."
theorem ls_dots : ls dots = [46, 46, 46] := by decide +kernel
theorem dots_length : dots.length = 3 := by decide +kernel
noncomputable def nodot (l : List Nat) : Prop := 46 ∉ l
theorem nodot_get {l : List Nat} (h : nodot l) {i : Nat} : l[i]? ≠ some 46 := fun e => h (List.mem_of_getElem? e)
theorem at_dots (x : Str) (k : Nat) : StrLaws.At x dots x.length k ↔ (ls x)[k]? = some 46 ∧ (ls x)[k + 1]? = some 46 ∧ (ls x)[k + 2]? = some 46 := by
  unfold StrLaws.At
  rw [StrLaws.subAt_eq, dots_length, beq_iff_eq]
  rw [show dots.cps.toList = [46, 46, 46] from ls_dots]
  constructor
  · rintro ⟨_, e⟩
    have g : ∀ i, i < 3 → (ls x)[k + i]? = ([46, 46, 46] : List Nat)[i]? := fun i hi => by
      rw [← e, List.getElem?_take_of_lt hi, List.getElem?_drop]
    exact ⟨g 0 (by decide), g 1 (by decide), g 2 (by decide)⟩
  · rintro ⟨a, b, c⟩
    have hl : k + 2 < (ls x).length := (List.getElem?_eq_some_iff.mp c).1
    refine ⟨by rw [← ls_length]; lia  , ?_⟩
    apply List.ext_getElem?
    intro i
    rcases i with _ | _ | _ | i
    · rw [List.getElem?_take_of_lt (by decide), List.getElem?_drop]; exact a
    · rw [List.getElem?_take_of_lt (by decide), List.getElem?_drop]; exact b
    · rw [List.getElem?_take_of_lt (by decide), List.getElem?_drop]; exact c
    · rw [List.getElem?_eq_none (by rw [List.length_take]; lia  )]; simp
theorem kind_dots (x : Str) : ¬ Builtin.Str.strKind x < Builtin.Str.strKind dots := by
  have : Builtin.Str.strKind dots = 1 := by decide +kernel
  rw [this]
  unfold Builtin.Str.strKind
  split <;> (try split) <;> lia  
theorem split_cuts {x : Str} {cuts : List Nat} (hx : 3 ≤ x.length) (hc : occurrences x dots 0 x.length (x.length + 1) = cuts) (hne : cuts ≠ []) : Txt.split x dots = StrLaws.partsFrom x 3 0 cuts := by
  unfold Txt.split
  rw [if_neg (by simp only [Bool.or_eq_true, decide_eq_true_eq, dots_length]; intro q; rcases q with q | q; lia  ; exact kind_dots x q), hc, if_neg (by simpa using hne), StrLaws.partsBetween_eq, dots_length]
theorem in_of_at {x : Str} {k : Nat} (h : StrLaws.At x dots x.length k) : (occurrences x dots 0 x.length 1).isEmpty = false := by
  have := (StrLaws.found_iff x dots).mpr ⟨k, h.1, h.2⟩
  simpa using this
theorem sub_ls (x : Str) (a b : Nat) : strSub x a b = S (((ls x).drop a).take (b - a)) := str_ext (StrLaws.strSub_toList x a b)

theorem get3 (a b : List Nat) (ha : nodot a) (hb : nodot b) (i : Nat) : (a ++ ([46, 46, 46] ++ b))[i]? = some 46 ↔ a.length ≤ i ∧ i < a.length + 3 := by
  constructor
  · intro e
    by_cases h1 : i < a.length
    · rw [List.getElem?_append_left h1] at e; exact absurd e (nodot_get ha)
    · rw [List.getElem?_append_right (by lia  )] at e
      by_cases h2 : i - a.length < 3
      · lia  
      · rw [List.getElem?_append_right (by simp; lia  )] at e; exact absurd e (nodot_get hb)
  · rintro ⟨h1, h2⟩
    rw [List.getElem?_append_right h1, List.getElem?_append_left (by simp; lia  )]
    have : i - a.length = 0 ∨ i - a.length = 1 ∨ i - a.length = 2 := by lia  
    rcases this with h | h | h <;> rw [h] <;> rfl
theorem split_two {a b : List Nat} (ha : nodot a) (hb : nodot b) :
    Txt.split (S (a ++ ([46, 46, 46] ++ b))) dots = [S a, S b] ∧ (occurrences (S (a ++ ([46, 46, 46] ++ b))) dots 0 (S (a ++ ([46, 46, 46] ++ b))).length 1).isEmpty = false := by
  let x := S (a ++ ([46, 46, 46] ++ b))
  have hl : x.length = a.length + 3 + b.length := by show (S _).length = _; rw [S_length]; simp; lia  
  have hat : ∀ k, StrLaws.At x dots x.length k ↔ k = a.length := fun k => by
    rw [at_dots]
    show (a ++ ([46, 46, 46] ++ b))[k]? = some 46 ∧ (a ++ ([46, 46, 46] ++ b))[k + 1]? = some 46 ∧ (a ++ ([46, 46, 46] ++ b))[k + 2]? = some 46 ↔ _
    rw [get3 a b ha hb, get3 a b ha hb, get3 a b ha hb]
    lia  
  obtain ⟨f, hc, hf⟩ := StrLaws.occ_tight x dots (by rw [dots_length]; decide)
  have hcut : occurrences x dots 0 x.length (x.length + 1) = [a.length] := by
    revert hc
    generalize occurrences x dots 0 x.length (x.length + 1) = cuts
    intro hc
    match cuts, hc with
    | [], hc => exact absurd ((hat a.length).mpr rfl) (hf _ (by have : f = 0 := hc; lia  ))
    | [c], hc => rw [(hat c).mp hc.2.1]
    | c :: d :: r, hc =>
      have h1 := (hat c).mp hc.2.1
      have h2 := (hat d).mp hc.2.2.2.2.1
      have h3 := hc.2.2.2.1
      rw [dots_length] at h3
      lia  
  refine ⟨?_, in_of_at ((hat a.length).mpr rfl)⟩
  show Txt.split x dots = _
  rw [split_cuts (by lia  ) hcut (by simp)]
  show [strSub x 0 a.length, strSub x (a.length + 3) x.length] = _
  rw [sub_ls, sub_ls]
  have e : ls x = a ++ ([46, 46, 46] ++ b) := rfl
  rw [e, hl]
  have e1 : ((a ++ ([46, 46, 46] ++ b)).drop 0).take (a.length - 0) = a := by simp
  have e2 : ((a ++ ([46, 46, 46] ++ b)).drop (a.length + 3)).take (a.length + 3 + b.length - (a.length + 3)) = b := by
    rw [List.drop_append, List.drop_of_length_le (by lia  )]
    simp
  rw [e1, e2]
theorem get33 (a c b : List Nat) (ha : nodot a) (hc : nodot c) (hb : nodot b) (i : Nat) : (a ++ ([46, 46, 46] ++ (c ++ ([46, 46, 46] ++ b))))[i]? = some 46 ↔ (a.length ≤ i ∧ i < a.length + 3) ∨ (a.length + 3 + c.length ≤ i ∧ i < a.length + 3 + c.length + 3) := by
  by_cases h1 : i < a.length
  · rw [List.getElem?_append_left h1]
    constructor
    · intro e; exact absurd e (nodot_get ha)
    · intro e; lia  
  · rw [List.getElem?_append_right (by lia  )]
    by_cases h2 : i - a.length < 3
    · rw [List.getElem?_append_left (by simp; lia  )]
      have : i - a.length = 0 ∨ i - a.length = 1 ∨ i - a.length = 2 := by lia  
      constructor
      · intro _; lia  
      · intro _; rcases this with h | h | h <;> rw [h] <;> rfl
    · rw [List.getElem?_append_right (by simp; lia  ), get3 c b hc hb]
      simp
      lia  
theorem split_three {a c b : List Nat} (ha : nodot a) (hc : nodot c) (hb : nodot b) (hc1 : 1 ≤ c.length) :
    Txt.split (S (a ++ ([46, 46, 46] ++ (c ++ ([46, 46, 46] ++ b))))) dots = [S a, S c, S b] ∧ (occurrences (S (a ++ ([46, 46, 46] ++ (c ++ ([46, 46, 46] ++ b))))) dots 0 (S (a ++ ([46, 46, 46] ++ (c ++ ([46, 46, 46] ++ b))))).length 1).isEmpty = false := by
  let x := S (a ++ ([46, 46, 46] ++ (c ++ ([46, 46, 46] ++ b))))
  have hl : x.length = a.length + 3 + c.length + 3 + b.length := by show (S _).length = _; rw [S_length]; simp; lia  
  have hat : ∀ k, StrLaws.At x dots x.length k ↔ k = a.length ∨ k = a.length + 3 + c.length := fun k => by
    rw [at_dots]
    show (a ++ ([46, 46, 46] ++ (c ++ ([46, 46, 46] ++ b))))[k]? = some 46 ∧ (a ++ ([46, 46, 46] ++ (c ++ ([46, 46, 46] ++ b))))[k + 1]? = some 46 ∧ (a ++ ([46, 46, 46] ++ (c ++ ([46, 46, 46] ++ b))))[k + 2]? = some 46 ↔ _
    rw [get33 a c b ha hc hb, get33 a c b ha hc hb, get33 a c b ha hc hb]
    lia  
  obtain ⟨f, hch, hf⟩ := StrLaws.occ_tight x dots (by rw [dots_length]; decide)
  have hcut : occurrences x dots 0 x.length (x.length + 1) = [a.length, a.length + 3 + c.length] := by
    revert hch
    generalize occurrences x dots 0 x.length (x.length + 1) = cuts
    intro hch
    match cuts, hch with
    | [], hch => exact absurd ((hat a.length).mpr (.inl rfl)) (hf _ (by have : f = 0 := hch; lia  ))
    | [d], hch =>
      exfalso
      have h1 := (hat d).mp hch.2.1
      have h3 : f = d + dots.length := hch.2.2.2
      rw [dots_length] at h3
      rcases h1 with h1 | h1
      · exact hf (a.length + 3 + c.length) (by lia  ) ((hat _).mpr (.inr rfl))
      · exact hch.2.2.1 a.length (by lia  ) (by lia  ) ((hat _).mpr (.inl rfl))
    | [d, e], hch =>
      have h1 := (hat d).mp hch.2.1
      have h2 := (hat e).mp hch.2.2.2.2.1
      have h3 := hch.2.2.2.1
      rw [dots_length] at h3
      have : d = a.length ∧ e = a.length + 3 + c.length := by lia  
      rw [this.1, this.2]
    | d :: e :: g :: r, hch =>
      exfalso
      have h1 := (hat d).mp hch.2.1
      have h2 := (hat e).mp hch.2.2.2.2.1
      have h3 := hch.2.2.2.1
      have h4 := (hat g).mp hch.2.2.2.2.2.2.2.1
      have h5 := hch.2.2.2.2.2.2.1
      rw [dots_length] at h3 h5
      lia  
  refine ⟨?_, in_of_at ((hat a.length).mpr (.inl rfl))⟩
  show Txt.split x dots = _
  rw [split_cuts (by lia  ) hcut (by simp)]
  show [strSub x 0 a.length, strSub x (a.length + 3) (a.length + 3 + c.length), strSub x (a.length + 3 + c.length + 3) x.length] = _
  rw [sub_ls, sub_ls, sub_ls]
  have e : ls x = a ++ ([46, 46, 46] ++ (c ++ ([46, 46, 46] ++ b))) := rfl
  rw [e, hl]
  have e1 : ((a ++ ([46, 46, 46] ++ (c ++ ([46, 46, 46] ++ b)))).drop 0).take (a.length - 0) = a := by simp
  have e2 : ((a ++ ([46, 46, 46] ++ (c ++ ([46, 46, 46] ++ b)))).drop (a.length + 3)).take (a.length + 3 + c.length - (a.length + 3)) = c := by
    rw [List.drop_append, List.drop_of_length_le (by lia  )]
    simp
  have e3 : ((a ++ ([46, 46, 46] ++ (c ++ ([46, 46, 46] ++ b)))).drop (a.length + 3 + c.length + 3)).take (a.length + 3 + c.length + 3 + b.length - (a.length + 3 + c.length + 3)) = b := by
    rw [List.drop_append, List.drop_of_length_le (by lia  )]
    have : a.length + 3 + c.length + 3 - a.length = 3 + (c.length + 3) := by lia  
    rw [this, List.nil_append, List.drop_append, List.drop_of_length_le (by simp), List.nil_append]
    have : 3 + (c.length + 3) - [46, 46, 46].length = c.length + 3 := by simp
    rw [this, List.drop_append, List.drop_of_length_le (by lia  )]
    simp
  rw [e1, e2, e3]
end Mine
end
section
open PySem PySem.W PyProof.Rows
open PySem.Builtin PySem.Builtin.Str
set_option maxRecDepth 100000
set_option maxHeartbeats 8000000
namespace Mine

local macro_rules | `(tactic| walk_at "call builtin:str.split") => `(tactic| (k_here; (rename Txt.split _ _ = _ => hsp); (refine KSpl.split1 (by k_asm) (by k_asm) (by decide) ?_ (by size_fits)); intro D' l' h' k' e' a' F' N' l1; (try k_lt l1); rw [hsp] at e'; (kspl_open e'); (simp only [strValues, List.map_cons, List.map_nil] at N' a')))
local macro_rules | `(tactic| walk_at "call builtin:str.find") => `(tactic| (refine call_find4 ?_; intro _ _))
local macro_rules | `(tactic| walk_at "truthy str") => `(tactic| (first | refine truthy_pos (by omega) (by omega) ?_ | refine truthy_nil (by omega) ?_); intro _)
local macro_rules | `(tactic| walk_at "exec For Name Name cons nil") => `(tactic| (k_here; (rename Fr _ _ _ _ => lF'); (with_unfolding_all refine' For_G lF' ?k1 ?k2 ?_; (case k1 => exact rfl); (case k2 => exact rfl); k_whole)))

/-- the names that the top of the law's call leaves free: as the walk of a law that makes defs has it -/
noncomputable abbrev LLo : List Str := looseW Mine.hd.view_39 [] ++ (recsOf Mine.hd.view_39).map (fun x => x.name) ++ (litsOf Mine.hd.view_39).map (fun x => x.1) ++ (clssOf Mine.hd.view_39 (looseW Mine.hd.view_39 [])).map (fun x => x.name)
abbrev EM (w : World) (mean : ExcName → Option Value) (mg mb : Str → Option Value) (news : List (Addr × Obj)) (want : Str) (t1 : Tok) (got : Str) (t2 : Tok) (r : Bool) : Prop :=
  CbClaim PySem.Challenge.rw_re0036_02.row.prog w (Mine.hd.heap_39 w.params) topProg LLo mean mg mb 21 news [] True [.str want t1, .str got t2] (fun _ => .bool r)


theorem em_u (w : World) (mean : ExcName → Option Value) (mg mb : Str → Option Value) (want : Str) (t1 : Tok) (got : Str) (t2 : Tok) (news : List (Addr × Obj)) (a b : Str)
   (hin : (occurrences want (Str.ofString "...") 0 want.length 1).isEmpty = false)
   (hs : Txt.split want (Str.ofString "...") = [a, b]) (hw : want.length ≤ 1000) (hg : got.length ≤ 1000) (ha : 1 ≤ a.length) (ha' : a.length ≤ 1000) (hb : b.length = 0) :
   EM w mean mg mb news want t1 got t2 (Txt.startswith got a) := by
  w_top on
  w_on
  dsimp only [EM]
  k_fill
  dsimp only [CbClaim, CbLists, CbRet]; intros; rename_i hret
  refine wpAny_call ?_
  k_dflt cell_enter
  rename Fr _ _ _ _ => FF
  have FN := refr (m' := fun y => if y = Str.ofString "got" then some (.str got t2) else if y = Str.ofString "want" then some (.str want t1) else none) FF (by with_unfolding_all exact look2 _ _ _ _)
  clear FF
  k_steps
  all_goals (try k_data)
  all_goals first | (exfalso; have := starts_le (x := got) (y := a) (by assumption); omega) | (cb_end hret; done) | skip
  refine' iter_list (fun i m' news' g => g = _ ∧ (i = 0 → m' = _ ∧ news' = _) ∧ (∀ p ∈ news, p ∈ news')) rfl ?F ?N ?hm ⟨rfl, fun _ => ⟨rfl, rfl⟩, ?sub⟩ ?step ?done
  case F => k_asm
  case N => k_asm
  case hm => k_mem
  case sub => intro p hp; repeat (first | exact hp | refine List.Mem.tail _ ?_)
  case step =>
    intro I i v m₁ news₁ h tk g own _ hv hJ hoff _ F N
    obtain ⟨rfl, h1, h2⟩ := hJ
    have hi : i = 0 := by rcases i with _ | i; rfl; simp at hv
    subst hi
    obtain ⟨rfl, rfl⟩ := h1 rfl
    obtain rfl : _ = v := by simpa using hv
    clear hv h1
    (try dsimp only)
    k_steps
    · exfalso; have := find4_empty (x := got) (y := b) (i := a.length) (j := got.length) hb (starts_le (by assumption)) (Nat.le_refl _); omega
    · exact ⟨_, _, _, _, _, rfl, by k_asm, by k_asm, fun p hp hm => hoff p hp (List.mem_singleton.mp hm), rfl, fun h => absurd h (by decide), h2⟩
  case done =>
    rintro h' tk g m' news' F N ⟨rfl, _, hsub⟩
    skip
    have N2 : News _ _ h' news := fun p hp => N p (hsub p hp)
    clear N
    (try dsimp only)
    k_steps
    cb_end hret

theorem em_v (w : World) (mean : ExcName → Option Value) (mg mb : Str → Option Value) (want : Str) (t1 : Tok) (got : Str) (t2 : Tok) (news : List (Addr × Obj)) (a b : Str)
   (hin : (occurrences want (Str.ofString "...") 0 want.length 1).isEmpty = false)
   (hs : Txt.split want (Str.ofString "...") = [a, b]) (hw : want.length ≤ 1000) (hg : got.length ≤ 1000) (ha : a.length = 0) (hb : 1 ≤ b.length) (hb' : b.length ≤ 1000) :
   EM w mean mg mb news want t1 got t2 (Txt.endswith got b) := by
  w_top on
  w_on
  dsimp only [EM]
  k_fill
  dsimp only [CbClaim, CbLists, CbRet]; intros; rename_i hret
  refine wpAny_call ?_
  k_dflt cell_enter
  rename Fr _ _ _ _ => FF
  have FN := refr (m' := fun y => if y = Str.ofString "got" then some (.str got t2) else if y = Str.ofString "want" then some (.str want t1) else none) FF (by with_unfolding_all exact look2 _ _ _ _)
  clear FF
  k_steps
  all_goals (try k_data)
  all_goals first | (exfalso; have := ends_le (x := got) (y := b) (by assumption); omega) | (cb_end hret; done) | skip
  refine' iter_list (fun i m' news' g => g = _ ∧ (i = 0 → m' = _ ∧ news' = _) ∧ (∀ p ∈ news, p ∈ news')) rfl ?F ?N ?hm ⟨rfl, fun _ => ⟨rfl, rfl⟩, ?sub⟩ ?step ?done
  case F => k_asm
  case N => k_asm
  case hm => k_mem
  case sub => intro p hp; repeat (first | exact hp | refine List.Mem.tail _ ?_)
  case step =>
    intro I i v m₁ news₁ h tk g own _ hv hJ hoff _ F N
    obtain ⟨rfl, h1, h2⟩ := hJ
    have hi : i = 0 := by rcases i with _ | i; rfl; simp at hv
    subst hi
    obtain ⟨rfl, rfl⟩ := h1 rfl
    obtain rfl : _ = v := by simpa using hv
    clear hv h1
    (try dsimp only)
    k_steps
    · exfalso; have hl := ends_le (x := got) (y := b) (by assumption); have := find4_empty (x := got) (y := a) (i := 0) (j := got.length - b.length) ha (Nat.zero_le _) (Nat.sub_le _ _); rw [Int.natCast_sub hl] at this; simp at this; omega
    · exact ⟨_, _, _, _, _, rfl, by k_asm, by k_asm, fun p hp hm => hoff p hp (List.mem_singleton.mp hm), rfl, fun h => absurd h (by decide), h2⟩
  case done =>
    rintro h' tk g m' news' F N ⟨rfl, _, hsub⟩
    skip
    have N2 : News _ _ h' news := fun p hp => N p (hsub p hp)
    clear N
    (try dsimp only)
    k_steps
    cb_end hret

theorem em_amb (w : World) (mean : ExcName → Option Value) (mg mb : Str → Option Value) (want : Str) (t1 : Tok) (got : Str) (t2 : Tok) (news : List (Addr × Obj)) (a c b : Str)
   (hin : (occurrences want (Str.ofString "...") 0 want.length 1).isEmpty = false)
   (hs : Txt.split want (Str.ofString "...") = [a, c, b]) (hw : want.length ≤ 1000) (hg : got.length ≤ 1000) (ha : 1 ≤ a.length) (ha' : a.length ≤ 1000) (hb : 1 ≤ b.length) (hb' : b.length ≤ 1000) (hc' : c.length ≤ 1000) :
   EM w mean mg mb news want t1 got t2 (Txt.startswith got a && Txt.endswith got b && decide (a.length + b.length ≤ got.length) && decide (0 ≤ find4 got c a.length ((got.length : Int) - b.length))) := by
  w_top on
  w_on
  dsimp only [EM]
  k_fill
  dsimp only [CbClaim, CbLists, CbRet]; intros; rename_i hret
  refine wpAny_call ?_
  k_dflt cell_enter
  rename Fr _ _ _ _ => FF
  have FN := refr (m' := fun y => if y = Str.ofString "got" then some (.str got t2) else if y = Str.ofString "want" then some (.str want t1) else none) FF (by with_unfolding_all exact look2 _ _ _ _)
  clear FF
  k_steps
  all_goals (try k_data)
  all_goals first | (cb_end hret; done)  | skip
  refine' iter_list (fun i m' news' g => g = _ ∧ (i = 0 → m' = _ ∧ news' = _) ∧ (∀ p ∈ news, p ∈ news') ∧ (i = 1 → 0 ≤ find4 got c a.length ((got.length : Int) - b.length))) rfl ?F ?N ?hm ⟨rfl, fun _ => ⟨rfl, rfl⟩, ?sub⟩ ?step ?done
  case F => k_asm
  case N => k_asm
  case hm => k_mem
  case sub => exact ⟨fun p hp => by repeat (first | exact hp | refine List.Mem.tail _ ?_), fun q => absurd q (by decide)⟩
  case step =>
    intro I i v m₁ news₁ h tk g own _ hv hJ hoff _ F N
    obtain ⟨rfl, h1, h2⟩ := hJ
    have hi : i = 0 := by rcases i with _ | i; rfl; simp at hv
    subst hi
    obtain ⟨rfl, rfl⟩ := h1 rfl
    obtain rfl : _ = v := by simpa using hv
    clear hv h1
    (try dsimp only)
    k_steps
    · dsimp only [TurnPost]; k_steps; cb_end hret
    · exact ⟨_, _, _, _, _, rfl, by k_asm, by k_asm, fun p hp hm => hoff p hp (List.mem_singleton.mp hm), rfl, fun h => absurd h (by decide), h2.1, fun _ => by omega⟩
  case done =>
    rintro h' tk g m' news' F N ⟨rfl, _, hsub, hok⟩
    have hok := hok rfl
    have N2 : News _ _ h' news := fun p hp => N p (hsub p hp)
    clear N
    (try dsimp only)
    k_steps
    cb_end hret

theorem em_ab (w : World) (mean : ExcName → Option Value) (mg mb : Str → Option Value) (want : Str) (t1 : Tok) (got : Str) (t2 : Tok) (news : List (Addr × Obj)) (a b : Str)
   (hin : (occurrences want (Str.ofString "...") 0 want.length 1).isEmpty = false)
   (hs : Txt.split want (Str.ofString "...") = [a, b]) (hw : want.length ≤ 1000) (hg : got.length ≤ 1000) (ha : 1 ≤ a.length) (hb : 1 ≤ b.length) (ha' : a.length ≤ 1000) (hb' : b.length ≤ 1000) :
   EM w mean mg mb news want t1 got t2 (Txt.startswith got a && Txt.endswith got b && decide (a.length + b.length ≤ got.length)) := by
  w_top on
  w_on
  dsimp only [EM]
  k_fill
  dsimp only [CbClaim, CbLists, CbRet]; intros; rename_i hret
  refine wpAny_call ?_
  k_dflt cell_enter
  rename Fr _ _ _ _ => FF
  have FN := refr (m' := fun y => if y = Str.ofString "got" then some (.str got t2) else if y = Str.ofString "want" then some (.str want t1) else none) FF (by with_unfolding_all exact look2 _ _ _ _)
  clear FF
  k_steps
  all_goals (try k_data)
  all_goals (try (cb_end hret))
  refine' iter_list (fun _ m' news' g => m' = _ ∧ news' = _ ∧ g = _) rfl ?F ?N ?hm ⟨rfl, rfl, rfl⟩ ?step ?done
  case F => k_asm
  case N => k_asm
  case hm => k_mem
  case step => intro I i v m₁ news₁ h tk g own _ hv; exact absurd hv (by simp)
  case done =>
    rintro h' tk g m' news' F N ⟨rfl, rfl, rfl⟩
    (try dsimp only)
    k_steps
    cb_end hret

end Mine
end
section
open PySem PySem.W PyProof.Rows
open PySem.Builtin PySem.Builtin.Str
set_option maxRecDepth 100000
set_option maxHeartbeats 8000000
namespace Mine
/-- what a call of the def at f comes to, from any frame of a def -/
noncomputable def Ct (k : Nat) (w : World) (mean : ExcName → Option Value) (mg mb : Str → Option Value) (f : Addr) (news : List (Addr × Obj)) (vs : List Value)
    (post : Value → List (Addr × Obj) → Array GenState → Array GenState → Prop) : Prop :=
  ∀ (dp un : Nat) (gd : Option (List Code)) (cn : Str) (cs : Scope) (a : Addr) (ccd : Value) (cl : List (Str × Addr)) (outer : List Env) (A₀ : Around) (base h₀ : Heap) (L : Addr) (m : Str → Option Value) (s : Shared) (Q E : Value → Shared → Prop),
    Below A₀ base outer h₀ → Fr h₀ L s.heap m → (Mine.hd.heap_39 w.params).In h₀ → News h₀ L s.heap news → Top topProg LLo mean mg mb h₀ → cs.kind = .function → dp + k < recursionLimit → un + 8 * k < cLine →
    (∀ v news' h' tk' g', post v news' s.gens g' → Fr h₀ L h' m → News h₀ L h' news' → Q v { s with heap := h', toks := tk', gens := g' }) →
    wpAny (model PySem.Challenge.rw_re0036_02.row.prog w) (ktrTop dp un gd cn cs L a ccd cl outer) (call (.ref f) vs) Q E s
section
variable {k : Nat} {w : World} {mean : ExcName → Option Value} {mg mb : Str → Option Value} {f : Addr} {news : List (Addr × Obj)} {vs : List Value} {post : Value → List (Addr × Obj) → Array GenState → Array GenState → Prop}
theorem Ct.use (C : Ct k w mean mg mb f news vs post) {dp un : Nat} {gd : Option (List Code)} {cn : Str} {cs : Scope} {a : Addr} {ccd : Value} {cl : List (Str × Addr)} {outer : List Env} {A₀ : Around} {base h₀ : Heap} {L : Addr} {m : Str → Option Value} {s : Shared} {Q E : Value → Shared → Prop}
    (B : Below A₀ base outer h₀) (F : Fr h₀ L s.heap m) (X : (Mine.hd.heap_39 w.params).In h₀) (N : News h₀ L s.heap news) (T : Top topProg LLo mean mg mb h₀) (hk : cs.kind = .function) (hd : dp + k < recursionLimit) (hu : un + 8 * k < cLine)
    (ret : ∀ v news' h' tk' g', post v news' s.gens g' → Fr h₀ L h' m → News h₀ L h' news' → Q v { s with heap := h', toks := tk', gens := g' }) :
    wpAny (model PySem.Challenge.rw_re0036_02.row.prog w) (ktrTop dp un gd cn cs L a ccd cl outer) (call (.ref f) vs) Q E s := C _ _ _ _ _ _ _ _ _ _ _ _ _ _ _ _ _ B F X N T hk hd hu ret
end
noncomputable def isB (r : Bool) (news : List (Addr × Obj)) : Value → List (Addr × Obj) → Array GenState → Array GenState → Prop := fun v news' g g' => v = .bool r ∧ news' = news ∧ g' = g
theorem em_ct {w : World} {mean : ExcName → Option Value} {mg mb : Str → Option Value} {news : List (Addr × Obj)} {want got : Str} {t1 t2 : Tok} {r : Bool} (C : EM w mean mg mb news want t1 got t2 r) :
    Ct 1 w mean mg mb 21 news [.str want t1, .str got t2] (isB r news) :=
  fun _ _ _ _ _ _ _ _ _ _ _ _ _ _ _ _ _ B F X N T hk hd hu ret => C _ _ _ _ _ _ _ _ _ _ _ _ _ _ _ _ _ B F X N T hk trivial hd hu (fun _ h' tk' F' N' => ret _ _ h' tk' _ ⟨rfl, rfl, rfl⟩ F' N')

section
variable (w : World) (mean : ExcName → Option Value) (mg mb : Str → Option Value) (news : List (Addr × Obj)) (t1 t2 : Tok)
theorem EMu {u got : Str} (hu : nodot (ls u)) (h1 : 1 ≤ u.length) (h2 : u.length ≤ 900) (hg : got.length ≤ 1000) : Ct 1 w mean mg mb 21 news [.str (u ++ Str.ofString "...") t1, .str got t2] (isB (Txt.startswith got u) news) := by
  have e : u ++ Str.ofString "..." = S (ls u ++ ([46, 46, 46] ++ [])) := by
    rw [List.append_nil, ← ls_dots, ← S_append, S_ls, S_ls]
  rw [e]
  obtain ⟨hs, hin⟩ := split_two (a := ls u) (b := []) hu (by simp [nodot])
  rw [S_ls] at hs
  exact em_ct (em_u w mean mg mb _ t1 got t2 news u (S []) hin hs (by rw [S_length]; simp only [List.length_append, List.length_cons, List.length_nil, ls_length]; lia  ) hg h1 (by lia  ) (by simp [S_length]))
theorem EMv {u got : Str} (hu : nodot (ls u)) (h1 : 1 ≤ u.length) (h2 : u.length ≤ 900) (hg : got.length ≤ 1000) : Ct 1 w mean mg mb 21 news [.str (Str.ofString "..." ++ u) t1, .str got t2] (isB (Txt.endswith got u) news) := by
  have e : Str.ofString "..." ++ u = S ([] ++ ([46, 46, 46] ++ ls u)) := by
    rw [List.nil_append, ← ls_dots, ← S_append, S_ls, S_ls]
  rw [e]
  obtain ⟨hs, hin⟩ := split_two (a := []) (b := ls u) (by simp [nodot]) hu
  rw [S_ls] at hs
  exact em_ct (em_v w mean mg mb _ t1 got t2 news (S []) u hin hs (by rw [S_length]; simp only [List.length_append, List.length_cons, List.length_nil, ls_length]; lia  ) hg (by simp [S_length]) h1 (by lia  ))
theorem EMab {a b got : Str} (ha : nodot (ls a)) (hb : nodot (ls b)) (h1 : 1 ≤ a.length) (h2 : a.length ≤ 400) (h3 : 1 ≤ b.length) (h4 : b.length ≤ 400) (hg : got.length ≤ 1000) :
    Ct 1 w mean mg mb 21 news [.str (a ++ Str.ofString "..." ++ b) t1, .str got t2] (isB (Txt.startswith got a && Txt.endswith got b && decide (a.length + b.length ≤ got.length)) news) := by
  have e : a ++ Str.ofString "..." ++ b = S (ls a ++ ([46, 46, 46] ++ ls b)) := by
    rw [← ls_dots, ← S_append, ← S_append, S_ls, S_ls, S_ls, Str.append_assoc]
  rw [e]
  obtain ⟨hs, hin⟩ := split_two (a := ls a) (b := ls b) ha hb
  rw [S_ls, S_ls] at hs
  exact em_ct (em_ab w mean mg mb _ t1 got t2 news a b hin hs (by rw [S_length]; simp only [List.length_append, List.length_cons, List.length_nil, ls_length]; lia  ) hg h1 h3 (by lia  ) (by lia  ))
theorem EMamb {a c b got : Str} (ha : nodot (ls a)) (hc : nodot (ls c)) (hb : nodot (ls b)) (h1 : 1 ≤ a.length) (h2 : a.length ≤ 300) (h3 : 1 ≤ b.length) (h4 : b.length ≤ 300) (h5 : 1 ≤ c.length) (h6 : c.length ≤ 300) (hg : got.length ≤ 1000) :
    Ct 1 w mean mg mb 21 news [.str (a ++ Str.ofString "..." ++ c ++ Str.ofString "..." ++ b) t1, .str got t2] (isB (Txt.startswith got a && Txt.endswith got b && decide (a.length + b.length ≤ got.length) && decide (0 ≤ find4 got c a.length ((got.length : Int) - b.length))) news) := by
  have e : a ++ Str.ofString "..." ++ c ++ Str.ofString "..." ++ b = S (ls a ++ ([46, 46, 46] ++ (ls c ++ ([46, 46, 46] ++ ls b)))) := by
    rw [← ls_dots, ← S_append, ← S_append, ← S_append, ← S_append, S_ls, S_ls, S_ls, S_ls, Str.append_assoc, Str.append_assoc, Str.append_assoc]
  rw [e]
  obtain ⟨hs, hin⟩ := split_three (a := ls a) (c := ls c) (b := ls b) ha hc hb (by rw [ls_length]; exact h5)
  rw [S_ls, S_ls, S_ls] at hs
  exact em_ct (em_amb w mean mg mb _ t1 got t2 news a c b hin hs (by rw [S_length]; simp only [List.length_append, List.length_cons, List.length_nil, ls_length]; lia  ) hg h1 (by lia  ) h3 (by lia  ) (by lia  ))
end
section
variable {k : Nat} {w : World} {mean : ExcName → Option Value} {mg mb : Str → Option Value} {f : Addr} {news : List (Addr × Obj)} {vs : List Value}
/-- as Ct.use, for a def that gives a bool and leaves the ledger as it was: nothing to take apart -/
theorem Ct.useB {r : Bool} {n0 : List (Addr × Obj)} (C : Ct k w mean mg mb f news vs (isB r n0)) {dp un : Nat} {gd : Option (List Code)} {cn : Str} {cs : Scope} {a : Addr} {ccd : Value} {cl : List (Str × Addr)} {outer : List Env} {A₀ : Around} {base h₀ : Heap} {L : Addr} {m : Str → Option Value} {s : Shared} {Q E : Value → Shared → Prop}
    (B : Below A₀ base outer h₀) (F : Fr h₀ L s.heap m) (X : (Mine.hd.heap_39 w.params).In h₀) (N : News h₀ L s.heap news) (T : Top topProg LLo mean mg mb h₀) (hk : cs.kind = .function) (hd : dp + k < recursionLimit) (hu : un + 8 * k < cLine)
    (ret : ∀ h' tk', Fr h₀ L h' m → News h₀ L h' n0 → Q (.bool r) { s with heap := h', toks := tk' }) :
    wpAny (model PySem.Challenge.rw_re0036_02.row.prog w) (ktrTop dp un gd cn cs L a ccd cl outer) (call (.ref f) vs) Q E s :=
  C.use B F X N T hk hd hu fun v n h' tk' g' hp F' N' => by
    obtain ⟨rfl, rfl, rfl⟩ := hp
    exact ret h' tk' F' N'
theorem Ct.useK {v0 : Value} {L0 : Nat → List (Addr × Obj)} (C : Ct k w mean mg mb f news vs (fun v n g g' => g' = g ∧ v = v0 ∧ ∃ kq, n = L0 kq)) {dp un : Nat} {gd : Option (List Code)} {cn : Str} {cs : Scope} {a : Addr} {ccd : Value} {cl : List (Str × Addr)} {outer : List Env} {A₀ : Around} {base h₀ : Heap} {L : Addr} {m : Str → Option Value} {s : Shared} {Q E : Value → Shared → Prop}
    (B : Below A₀ base outer h₀) (F : Fr h₀ L s.heap m) (X : (Mine.hd.heap_39 w.params).In h₀) (N : News h₀ L s.heap news) (T : Top topProg LLo mean mg mb h₀) (hk : cs.kind = .function) (hd : dp + k < recursionLimit) (hu : un + 8 * k < cLine)
    (ret : ∀ kq h' tk', Fr h₀ L h' m → News h₀ L h' (L0 kq) → Q v0 { s with heap := h', toks := tk' }) :
    wpAny (model PySem.Challenge.rw_re0036_02.row.prog w) (ktrTop dp un gd cn cs L a ccd cl outer) (call (.ref f) vs) Q E s :=
  C.use B F X N T hk hd hu fun v n h' tk' g' hp F' N' => by
    obtain ⟨rfl, rfl, kq, rfl⟩ := hp
    exact ret kq h' tk' F' N'
end
theorem room_d {dp k a b r : Nat} (h : dp + k < r) (e : Nat.ble (a + b) k = true) : dp + a + b < r :=
  Nat.lt_of_le_of_lt (by rw [Nat.add_assoc]; exact Nat.add_le_add_left (Nat.le_of_ble_eq_true e) dp) h
theorem room_u {un k a b r : Nat} (h : un + 8 * k < r) (e : Nat.ble (a + 8 * b) (8 * k) = true) : un + a + 8 * b < r :=
  Nat.lt_of_le_of_lt (by rw [Nat.add_assoc]; exact Nat.add_le_add_left (Nat.le_of_ble_eq_true e) un) h
end Mine
end
section
open PySem PySem.W PyProof.Rows
open PySem.Builtin PySem.Builtin.Str
set_option maxRecDepth 100000
namespace Mine
theorem isList_of {h₀ h : Heap} {L l : Addr} {its : Array Value} {k : Nat} {news : List (Addr × Obj)} (N : News h₀ L h news) (hm : (l, W.listOf its k) ∈ news) : h.IsList l its := ⟨_, (N _ hm).1, rfl, k, rfl⟩
/-- two frames that part at the names of a list at most -/
noncomputable def Off (xs : List Str) (m₀ m' : Str → Option Value) : Prop := ∀ z, z ∉ xs → m' z = m₀ z
theorem Off.refl {xs : List Str} {m : Str → Option Value} : Off xs m m := fun _ _ => rfl
theorem Off.put {xs : List Str} {m₀ m' : Str → Option Value} {x : Str} {v : Option Value} (h : Off xs m₀ m') (hx : x ∈ xs) : Off xs m₀ (fun y => if y = x then v else m' y) := fun z hz => by
  have q : z ≠ x := fun e => hz (e ▸ hx)
  show (if z = x then v else m' z) = _
  rw [if_neg q, h z hz]
theorem Off.eq1 {m₁ m₀ : Str → Option Value} {x : Str} {v : Option Value} (h : Off [x] m₀ m₁) : (fun y => if y = x then v else m₁ y) = fun y => if y = x then v else m₀ y := by
  funext y
  by_cases e : y = x
  · rw [if_pos e, if_pos e]
  · rw [if_neg e, if_neg e, h y (by simpa using e)]
theorem Off.eq2 {m₁ m₀ : Str → Option Value} {x a : Str} {v va : Option Value} (h : Off [x, a] m₀ m₁) (ha : m₁ a = va) : (fun y => if y = x then v else m₁ y) = fun y => if y = x then v else if y = a then va else m₀ y := by
  funext y
  by_cases e : y = x
  · rw [if_pos e, if_pos e]
  · rw [if_neg e, if_neg e]
    by_cases e' : y = a
    · rw [if_pos e', e', ha]
    · rw [if_neg e', h y (by simp [e, e'])]
end Mine
end
section
open PySem PySem.W PyProof.Rows
open PySem.Builtin PySem.Builtin.Str
set_option maxRecDepth 100000
set_option maxHeartbeats 8000000
namespace Mine
theorem news_sub {h₀ h : Heap} {L : Addr} {a b : List (Addr × Obj)} (N : News h₀ L h b) (hs : ∀ p ∈ a, p ∈ b) : News h₀ L h a := fun p hp => N p (hs p hp)
theorem ret_isB {h₀ h' : Heap} {L : Addr} {m : Str → Option Value} {news : List (Addr × Obj)} {s : Shared} {Q : Value → Shared → Prop} {r b : Bool} {tk' : Nat}
    (hret : ∀ v news' h' tk' g', isB r news v news' s.gens g' → Fr h₀ L h' m → News h₀ L h' news' → Q v { s with heap := h', toks := tk', gens := g' })
    (e : b = r) (F : Fr h₀ L h' m) (N : News h₀ L h' news) : Q (.bool b) { s with heap := h', toks := tk' } := hret _ _ h' tk' _ ⟨by rw [e], rfl, rfl⟩ F N
theorem bnot_of {a b : Bool} (h : (a != b) = false) : (!(a != b)) = true := by rw [h]; rfl
end Mine
end
section
open PySem PySem.W PyProof.Rows
open PySem.Builtin PySem.Builtin.Str
set_option maxRecDepth 100000
set_option maxHeartbeats 8000000
namespace Mine
noncomputable def isS (r : Str) (news : List (Addr × Obj)) : Value → List (Addr × Obj) → Array GenState → Array GenState → Prop := fun v news' g g' => (∃ t, v = .str r t) ∧ news' = news ∧ g' = g
theorem ret_isS {h₀ h' : Heap} {L : Addr} {m : Str → Option Value} {news : List (Addr × Obj)} {s : Shared} {Q : Value → Shared → Prop} {r b : Str} {t : Tok} {tk' : Nat}
    (hret : ∀ v news' h' tk' g', isS r news v news' s.gens g' → Fr h₀ L h' m → News h₀ L h' news' → Q v { s with heap := h', toks := tk', gens := g' })
    (e : b = r) (F : Fr h₀ L h' m) (N : News h₀ L h' news) : Q (.str b t) { s with heap := h', toks := tk' } := hret _ _ h' tk' _ ⟨⟨t, by rw [e]⟩, rfl, rfl⟩ F N
theorem ls_nil : ls (Str.ofString "") = [] := by decide +kernel
theorem join_nil : ∀ xs : List Str, Str.join (Str.ofString "") xs = S (xs.flatMap ls)
  | [] => by decide +kernel
  | [x] => by show x = _; simp [S_ls]
  | x :: y :: r => by
    have ih := join_nil (y :: r)
    show x ++ Str.ofString "" ++ Str.join (Str.ofString "") (y :: r) = _
    rw [ih]
    apply str_ext
    rw [ls_append, ls_append, ls_nil, ls_S, ls_S]
    simp
theorem flat_len (xs : List Str) : (xs.flatMap ls).length = (xs.map (·.length)).sum := by
  induction xs with
  | nil => rfl
  | cons x xs ih => simp only [List.flatMap_cons, List.length_append, List.map_cons, List.sum_cons, ls_length, ih]
theorem join_led {prog : Program} {w : World} {A : Around} {E : Value → Shared → Prop} {s : Shared} {t : Tok} {Q : Value → Shared → Prop} {h₀ : Heap} {L D : Addr} {ys : List Value} {xs : List Str} {k : Nat} {news : List (Addr × Obj)}
    (N : News h₀ L s.heap news) (hm : (D, W.listOf ys.toArray k) ∈ news) (hi : StrsAre ys xs) (ht : (xs.map (·.length)).sum ≤ 100000)
    (h : ∀ x t' k, x = S (xs.flatMap ls) → x.length ≤ 100000 → Q (.str x t') { s with toks := k }) : wpAny (model prog w) A (call (.builtin "str.join") [.str (Str.ofString "") t, .ref D]) Q E s := by
  have hl : s.heap.IsList D ys.toArray := isList_of N hm
  refine join_list (ys := xs) hl (by simpa using hi) ?_ fun t' k => ?_
  · have : (Str.ofString "").length = 0 := by decide +kernel
    rw [this]; lia  
  · have e : Txt.join (Str.ofString "") xs = S (xs.flatMap ls) := by
      show glued _ _ = _
      rw [StrLaws.glued_eq_join, join_nil]
    rw [e]
    exact h _ t' k rfl (by rw [S_length, flat_len]; exact ht)
theorem take_succ_map {α β : Type} (l : List α) (f : α → β) {i : Nat} {d : α} (h : l[i]? = some d) : (l.take (i + 1)).map f = (l.take i).map f ++ [f d] := by
  rw [List.take_add_one, h]; simp
theorem strsAre_snoc {ys : List Value} {xs : List Str} (h : StrsAre ys xs) (y : Str) (t : Tok) : StrsAre (ys ++ [.str y t]) (xs ++ [y]) := StrsAre.append' h (.cons y t .nil)
theorem sum_le {α : Type} (l : List α) (f : α → Nat) (b : Nat) (h : ∀ a ∈ l, f a ≤ b) : (l.map f).sum ≤ b * l.length := by
  induction l with
  | nil => simp
  | cons a l ih =>
    have h1 := h a (.head _)
    have h2 := ih fun x hx => h x (.tail _ hx)
    simp only [List.map_cons, List.sum_cons, List.length_cons, Nat.mul_succ]
    lia  
theorem sub_char (x : Str) (d i : Nat) : subAt x ⟨#[d]⟩ i = true ∧ i + 1 ≤ x.length ↔ (ls x)[i]? = some d := by
  rw [StrLaws.subAt_eq, beq_iff_eq]
  show ((ls x).drop i).take 1 = [d] ∧ _ ↔ _
  constructor
  · rintro ⟨h, _⟩
    have := congrArg (·[0]?) h
    simpa [List.getElem?_take, List.getElem?_drop] using this
  · intro h
    have hl := (List.getElem?_eq_some_iff.mp h).1
    refine ⟨?_, by rw [← ls_length]; lia  ⟩
    apply List.ext_getElem?
    intro j
    rcases j with _ | j
    · simpa [List.getElem?_take, List.getElem?_drop] using h
    · simp [List.getElem?_take]
theorem occ_char (x : Str) (d : Nat) : (occurrences x ⟨#[d]⟩ 0 x.length 1).isEmpty = !decide (d ∈ ls x) := by
  by_cases h : d ∈ ls x
  · obtain ⟨i, hi⟩ := List.getElem?_of_mem h
    have hl := (List.getElem?_eq_some_iff.mp hi).1
    have := (StrLaws.found_iff x ⟨#[d]⟩).mpr ⟨i, by show i + 1 ≤ _; rw [← ls_length]; lia  , ((sub_char x d i).mpr hi).1⟩
    simp only [h, decide_true, Bool.not_true]
    simpa using this
  · simp only [h, decide_false, Bool.not_false]
    refine Classical.byContradiction fun q => h ?_
    have q' : (!(occurrences x ⟨#[d]⟩ 0 x.length 1).isEmpty) = true := by simpa using q
    obtain ⟨i, h1, h2⟩ := (StrLaws.found_iff x ⟨#[d]⟩).mp q'
    exact List.mem_of_getElem? ((sub_char x d i).mp ⟨h2, h1⟩)
end Mine
end
section
open PySem PySem.W PyProof.Rows
open PySem.Builtin PySem.Builtin.Str
set_option maxRecDepth 100000
set_option maxHeartbeats 8000000
namespace Mine
theorem reframe {g h : Heap} {L : Addr} {m m' : Str → Option Value} (F : Fr g L h m) (e : m = m') : Fr g L h m' := e ▸ F
theorem all_ne {news : List (Addr × Obj)} {d c : Addr} (h : ∀ p ∈ news, p.1 < d) (hle : LE.le (α := Nat) d c) : ∀ p ∈ news, p.1 ≠ c := fun p hp => Nat.ne_of_lt (Nat.lt_of_lt_of_le (h p hp) hle)
theorem allLt_mem {D : Addr} : ∀ {r : List (Addr × Obj)}, AllLt D r → ∀ p ∈ r, p.1 < D
  | [], _, _, hp => by cases hp
  | _ :: _, h, p, hp => by
    rcases List.mem_cons.mp hp with rfl | hp
    · exact h.1
    · exact allLt_mem h.2 p hp
theorem append_led {prog : Program} {w : World} {A : Around} {E : Value → Shared → Prop} {s : Shared} {Q : Value → Shared → Prop} {h₀ : Heap} {L D : Addr} {its : List Value} {k : Nat} {rest : List (Addr × Obj)} {m : Str → Option Value} {v : Value}
    (F : Fr h₀ L s.heap m) (N : News h₀ L s.heap ((D, W.listOf its.toArray k) :: rest)) (hne : ∀ p ∈ rest, p.1 ≠ D) (hsz : its.length ≤ 10000)
    (h : ∀ h' k', Fr h₀ L h' m → News h₀ L h' ((D, W.listOf (its ++ [v]).toArray k') :: rest) → Q .none { s with heap := h' }) : wpAny (model prog w) A (call (.builtin "list.append") [.ref D, v]) Q E s := by
  have hD := N _ (.head _)
  refine wpAny_list_append_plain (hsz := by rw [List.size_toArray]; unfold sizeLine; omega) ⟨k, hD.1⟩ fun h₅ hl₅ hs₅ => ?_
  obtain ⟨k', hl₅⟩ := hl₅
  refine h h₅ k' ⟨F.ns.at' fun o e => hs₅.extBut _ o (Ne.symm hD.2.1) e, fun b o e => hs₅.extBut b o (fun q => by rw [q, hD.2.2] at e; cases e) (F.keep b o e), F.above⟩ fun p hp => ?_
  rcases List.mem_cons.mp hp with rfl | hp
  · exact ⟨by simpa using hl₅, hD.2⟩
  · exact ⟨hs₅.extBut _ _ (hne p hp) (N p (.tail _ hp)).1, (N p (.tail _ hp)).2⟩
end Mine
end
section
open PySem PySem.W PyProof.Rows
open PySem.Builtin PySem.Builtin.Str
set_option maxRecDepth 100000
set_option maxHeartbeats 8000000
namespace Mine
/-! a list comprehension with two `for`s, the inner one over a text -/
abbrev two (elt it0 it1 : Expr) (x y : Str) (px py : Pos) (scope : Scope) (pos : Pos) : Expr := .ListComp elt [⟨.Name x px, it0, [], 0⟩, ⟨.Name y py, it1, [], 0⟩] scope pos
theorem turn_two0 (elt it0 it1 : Expr) (x y : Str) (px py : Pos) (scope : Scope) (pos : Pos) (it acc : Value) (env : Env) :
    compTurn (two elt it0 it1 x y px py scope pos) 0 it acc env = (standAt it0.pos >>= fun _ => pyNext it >>= fun r => match r with
      | none => pure (.done .next)
      | some v => letOwnedTupleGo (.Name x px) it v >>= fun _ => assign (.Name x px) env v >>= fun _ =>
        (do let xx ← eval it1 env
            standAt it1.pos
            let xx ← foldedSetIterable it1 env xx
            let _ ← runOwn (.compStart (two elt it0 it1 x y px py scope pos) 1 (← holding [xx] (pyIter xx)) acc env) env
            again (.compLoop (two elt it0 it1 x y px py scope pos) 0 it acc env))) := by rfl
theorem turn_two1 (elt it0 it1 : Expr) (x y : Str) (px py : Pos) (scope : Scope) (pos : Pos) (it acc : Value) (env : Env) :
    compTurn (two elt it0 it1 x y px py scope pos) 1 it acc env = (standAt it1.pos >>= fun _ => pyNext it >>= fun r => match r with
      | none => pure (.done .next)
      | some v => letOwnedTupleGo (.Name y py) it v >>= fun _ => assign (.Name y py) env v >>= fun _ =>
        (eval elt env >>= fun z => call (.builtin "list.append") [acc, z] >>= fun _ => pure ()) >>= fun _ =>
          again (.compLoop (two elt it0 it1 x y px py scope pos) 1 it acc env)) := by rfl
section
variable {prog : Program} {w : World} {A : Around} {R : Result → Shared → Prop} {s : Shared} {elt it0 it1 : Expr} {x y : Str} {px py : Pos} {scope : Scope} {pos : Pos} {env : Env} {acc it : Value}
theorem start_two1 
    (h0 : codeAny (model prog w) A (.compLoop (two elt it0 it1 x y px py scope pos) 1 it acc env) R s)
    (h : wpAny (model prog w) A (pyIter it) (fun it' s' => codeAny (model prog w) A (.compLoop (two elt it0 it1 x y px py scope pos) 1 it' acc env) R s')
      (notedBy (model prog w) A env fun x s' => R (.error x) s') s) :
    codeAny (model prog w) A (.compStart (two elt it0 it1 x y px py scope pos) 1 it acc env) R s := by
  refine codeAny_of_tree ?_
  show wpAny _ _ ((compStart (two elt it0 it1 x y px py scope pos) 1 it acc env).onRaise (fun x => do noteFrame x env; standAt theWindowsPlace)) _ _ s
  refine wpAny_notedAt ?_
  unfold compStart
  show wpAny _ _ (ask >>= _) _ _ s
  refine wpAny_bind (wpAny_askSetting (wpAny_ite ?_))
  split
  · first
      | exact wpAny_bind (wpAny_pure (wpAny_pure (And.intro rfl h0)))
      | exact wpAny_pure (And.intro rfl h0)
  · first
      | exact wpAny_bind (wpAny_rule (wpAny_bind (wpAny_standAt (wpAny_bind (wpAny_mono h (fun it' s' h' => wpAny_pure (And.intro rfl h')) fun _ _ x => x)))))
      | (refine wpAny_bind (wpAny_rule ?_); show wpAny _ _ (standAt it1.pos >>= _) _ _ s; exact wpAny_bind (wpAny_standAt (wpAny_bind (wpAny_mono h (fun it' s' h' => wpAny_pure (And.intro rfl h')) fun _ _ x => x))))
theorem loop_two1 (I : Nat → Shared → Prop)
    (turn : ∀ n s, I n s → wpAny (model prog w) A (pyNext it) (fun r s₁ => match r with
      | none => R (.ok .next) s₁
      | some v => wpAny (model prog w) A (assign (.Name y py) env v) (fun _ s₂ => wpAny (model prog w) A (eval elt env) (fun x s₃ =>
          wpAny (model prog w) A (call (.builtin "list.append") [acc, x]) (fun _ s₄ => ∃ m, m < n ∧ I m s₄) (notedBy (model prog w) A env fun e s' => R (.error e) s') s₃)
          (notedBy (model prog w) A env fun e s' => R (.error e) s') s₂) (notedBy (model prog w) A env fun e s' => R (.error e) s') s₁) (notedBy (model prog w) A env fun e s' => R (.error e) s') s)
    (n : Nat) (h : I n s) : codeAny (model prog w) A (.compLoop (two elt it0 it1 x y px py scope pos) 1 it acc env) R s := by
  refine codeAny_loop rfl I (fun n s hI => ?_) n h
  show wpAny _ _ ((compTurn (two elt it0 it1 x y px py scope pos) 1 it acc env).onRaise (fun x => do noteFrame x env; theTreesLotGoes x)) _ _ s
  refine wpAny_noted ?_
  rw [turn_two1]
  refine wpAny_bind (wpAny_standAt (wpAny_bind (wpAny_mono (turn n s hI) (fun r s₁ h₁ => ?_) fun _ _ h' => h')))
  cases r with
  | none => exact wpAny_pure h₁
  | some v =>
    refine wpAny_bind (wpAny_of_eq rfl ?_)
    exact wpAny_bind (wpAny_mono h₁ (fun _ s₂ h₂ => wpAny_bind (wpAny_bind (wpAny_mono h₂ (fun x s₃ h₃ => wpAny_bind (wpAny_mono h₃
      (fun _ s₄ h₄ => wpAny_pure (wpAny_pure ⟨rfl, h₄⟩)) fun _ _ h' => h')) fun _ _ h' => h'))) fun _ _ h' => h')
theorem loop_two0 (hs : ∀ x, foldedSetIterable it1 env x = pure x) (I : Nat → Shared → Prop)
    (turn : ∀ n s, I n s → wpAny (model prog w) A (pyNext it) (fun r s₁ => match r with
      | none => R (.ok .next) s₁
      | some v => wpAny (model prog w) A (assign (.Name x px) env v) (fun _ s₂ => wpAny (model prog w) A (eval it1 env) (fun xx s₃ =>
          wpAny (model prog w) A (pyIter xx) (fun i1 s₄ => codeAny (model prog w) A (.compStart (two elt it0 it1 x y px py scope pos) 1 i1 acc env) (fun r s' => match r with | .ok _ => ∃ m, m < n ∧ I m s' | .error e => cameBackBy (model prog w) A env (notedBy (model prog w) A env fun e s' => R (.error e) s') e s') s₄) (notedBy (model prog w) A env fun e s' => R (.error e) s') s₃)
          (notedBy (model prog w) A env fun e s' => R (.error e) s') s₂) (notedBy (model prog w) A env fun e s' => R (.error e) s') s₁) (notedBy (model prog w) A env fun e s' => R (.error e) s') s)
    (n : Nat) (h : I n s) : codeAny (model prog w) A (.compLoop (two elt it0 it1 x y px py scope pos) 0 it acc env) R s := by
  refine codeAny_loop rfl I (fun n s hI => ?_) n h
  show wpAny _ _ ((compTurn (two elt it0 it1 x y px py scope pos) 0 it acc env).onRaise (fun x => do noteFrame x env; theTreesLotGoes x)) _ _ s
  refine wpAny_noted ?_
  rw [turn_two0]
  refine wpAny_bind (wpAny_standAt (wpAny_bind (wpAny_mono (turn n s hI) (fun r s₁ h₁ => ?_) fun _ _ h' => h')))
  cases r with
  | none => exact wpAny_pure h₁
  | some v =>
    refine wpAny_bind (wpAny_of_eq rfl ?_)
    refine wpAny_bind (wpAny_mono h₁ (fun _ s₂ h₂ => wpAny_bind (wpAny_mono h₂ (fun xx s₃ h₃ => ?_) fun _ _ h' => h')) fun _ _ h' => h')
    refine wpAny_bind (wpAny_standAt (wpAny_bind (wpAny_of_eq (hs xx) (wpAny_bind (wpAny_holding (wpAny_mono h₃ (fun i1 s₄ h₄ => wpAny_bind (wpAny_runOwn ?_)) fun _ _ h' => h'))))))
    rw [Around.mark_none]
    refine codeAny_mono h₄ fun r s' hr => ?_
    cases r with
    | ok f => exact wpAny_pure ⟨rfl, hr⟩
    | error e => exact hr
end
section
variable {prog : Program} {w : World} {A : Around} {s : Shared} {cenv : Env} {elt it0 it1 : Expr} {x y : Str} {px py : Pos} {scope : Scope} {pos : Pos} {D : Addr}
/-- heap `h'` keeps what `h` holds outside `bad` -/
noncomputable def Kp (bad : List Addr) (h h' : Heap) : Prop := ∀ b o, b ∉ bad → h.get? b = some o → h'.get? b = some o
theorem Kp.refl {bad : List Addr} {h : Heap} : Kp bad h h := fun _ _ _ e => e
theorem Kp.trans {bad : List Addr} {h h' h'' : Heap} (a : Kp bad h h') (b : Kp bad h' h'') : Kp bad h h'' := fun c o hc e => b c o hc (a c o hc e)
theorem Kp.mono {bad bad' : List Addr} {h h' : Heap} (a : Kp bad h h') (hb : ∀ b ∈ bad, b ∈ bad') : Kp bad' h h' := fun c o hc e => a c o (fun q => hc (hb c q)) e
inductive InI (St : Nat → Heap → Prop) (D C I1 : Addr) (x : Str) (v : Value) (ys : List Value) (T : Nat → Value → Prop) (n : Nat) (s : Shared) (k : Nat) (s' : Shared) : Prop
  | mk (h' : Heap) (tk : Nat) (zs : List Value) (mC' : Str → Option Value) (i : Nat) (e : s' = { s with heap := h', toks := tk }) (hst : St i h') (hk : Kp [D, C, I1] s.heap h') (hacc : h'.PlainList D (ys ++ zs).toArray) (hn : h'.Ns C mC') (hv : mC' x = some v) (hzs : zs.length = i) (hT : ∀ j r, zs[j]? = some r → T j r) (hi : i ≤ n) (hk2 : k = n + 1 - i) : InI St D C I1 x v ys T n s k s'
theorem comp2_in {R : Result → Shared → Prop} {I1 : Addr} {n : Nat} {P : Nat → Value → Prop} {St : Nat → Heap → Prop} {mC : Str → Option Value} {v : Value} {ys : List Value}
    (W : Walks prog w A I1 [I1] [I1] n P St) (hx : cenv.kindOf y = some .local) (hp : (cenv.scope.kind == .class || (cenv.scope.kind == .module && cenv.locals != cenv.globals)) = false)
    (hxy : x ≠ y) (hDC : D ≠ cenv.locals) (hDI : D ≠ I1) (hCI : cenv.locals ≠ I1) (hst : St 0 s.heap) (hacc : s.heap.PlainList D ys.toArray) (hn : s.heap.Ns cenv.locals mC) (hv : mC x = some v) (T : Nat → Value → Prop)
    (helt : ∀ j u h tk mC E', j < n → P j u → Kp [D, cenv.locals, I1] s.heap h → h.Ns cenv.locals mC → mC x = some v → mC y = some u →
      wpAny (model prog w) A (eval elt cenv) (fun r s₃ => T j r ∧ ∃ tk', s₃ = { s with heap := h, toks := tk' }) E' { s with heap := h, toks := tk })
    (hsz : ys.length ≤ 1000000) (hn1 : n ≤ 1000)
    (hR : ∀ h' tk zs mC', Kp [D, cenv.locals, I1] s.heap h' → h'.PlainList D (ys ++ zs).toArray → zs.length = n → (∀ j r, zs[j]? = some r → T j r) → h'.Ns cenv.locals mC' → R (.ok .next) { s with heap := h', toks := tk }) :
    codeAny (model prog w) A (.compLoop (two elt it0 it1 x y px py scope pos) 1 (.ref I1) (.ref D) cenv) R s := by
  refine loop_two1 (InI St D cenv.locals I1 x v ys T n s) ?_ (n + 1)
    ⟨s.heap, s.toks, [], mC, 0, rfl, hst, Kp.refl, by simpa using hacc, hn, hv, rfl, fun j r h => by simp at h, Nat.zero_le _, rfl⟩
  rintro k s' ⟨h', tk, zs, mC', i, rfl, hst', hk', hacc', hn', hv', hzs, hT, hi, rfl⟩
  have hIw : ∀ b, b ≠ I1 → b ∉ [I1] := fun b hb q => hb (List.mem_singleton.mp q)
  by_cases hlt : i < n
  · refine W.item i _ _ _ hlt hst' fun u h₁ tk₁ hPu hst₁ hk₁ => ?_
    refine wpAny_assign_Name (wpAny_storeName_local hx (hn'.at' fun o e => hk₁ _ o (hIw _ hCI) e) (fun h₂ hn₂ hs₂ => ?_) hp)
    have keep₂ : ∀ b o, b ≠ cenv.locals → h₁.get? b = some o → h₂.get? b = some o := fun b o hb e => hs₂.extBut b o hb e
    have k₂ : Kp [D, cenv.locals, I1] s.heap h₂ := fun b o hb e => keep₂ b o (fun q => hb (q ▸ .tail _ (.head _))) (hk₁ b o (hIw _ fun q => hb (q ▸ .tail _ (.tail _ (.head _)))) (hk' b o hb e))
    have hst₂ : St (i + 1) h₂ := W.frame _ _ _ hst₁ fun b hb o e => keep₂ b o (fun q => hCI ((List.mem_singleton.mp hb) ▸ q.symm)) e
    have hacc₂ : h₂.PlainList D (ys ++ zs).toArray := (hacc'.at fun o e => hk₁ _ o (hIw _ hDI) e).at fun o e => keep₂ _ o hDC e
    refine wpAny_mono (helt i u h₂ _ _ _ hlt hPu k₂ hn₂ (by simp [hxy, hv']) (by simp)) (fun r s₃ h₃ => ?_) fun _ _ e => e
    obtain ⟨hTr, tk₃, rfl⟩ := h₃
    refine wpAny_list_append_plain (hsz := by rw [List.size_toArray, List.length_append]; unfold sizeLine; lia  ) hacc₂ fun h₅ hl₅ hs₅ => ?_
    refine ⟨n + 1 - (i + 1), by lia  , h₅, tk₃, zs ++ [r], _, i + 1, rfl, ?_, ?_, ?_, hn₂.sameBut hs₅ (Ne.symm hDC), (by simp [hxy, hv']), (by simp [hzs]), ?_, hlt, rfl⟩
    · exact W.frame _ _ h₅ hst₂ fun b hb o e => hs₅.extBut b o (fun h => hDI (h ▸ List.mem_singleton.mp hb)) e
    · exact fun b o hb e => hs₅.extBut b o (fun q => hb (q ▸ .head _)) (k₂ b o hb e)
    · simpa using hl₅
    · intro j q hj
      by_cases hjl : j < zs.length
      · exact hT j q (by rwa [List.getElem?_append_left hjl] at hj)
      · rw [List.getElem?_append_right (by lia  )] at hj
        by_cases hj0 : j - zs.length = 0
        · rw [hj0] at hj
          have : j = i := by lia  
          subst this
          simp at hj
          exact hj ▸ hTr
        · rw [List.getElem?_eq_none (by simp; lia  )] at hj; cases hj
  · have hin : i = n := by lia  
    refine W.done _ _ _ (hin ▸ hst') fun h₁ tk₁ hk₁ => ?_
    refine hR h₁ tk₁ zs mC' (fun b o hb e => hk₁ b o (hIw _ fun q => hb (q ▸ .tail _ (.tail _ (.head _)))) (hk' b o hb e)) (hacc'.at fun o e => hk₁ _ o (hIw _ hDI) e) (by lia  ) hT (hn'.at' fun o e => hk₁ _ o (hIw _ hCI) e)
inductive OutI (St : Nat → Heap → Prop) (D C : Addr) (wr : List Addr) (J : Nat → List Value → Prop) (cl n : Nat) (s : Shared) (k : Nat) (s' : Shared) : Prop
  | mk (h' : Heap) (tk : Nat) (ys : List Value) (mC' : Str → Option Value) (i : Nat) (e : s' = { s with heap := h', toks := tk }) (hst : St i h') (hk : Kp (D :: C :: wr) s.heap h') (hacc : h'.PlainList D ys.toArray) (hn : h'.Ns C mC') (hJ : J i ys) (hys : ys.length ≤ i * cl) (hi : i ≤ n) (hk2 : k = n + 1 - i) : OutI St D C wr J cl n s k s'
theorem comp2_out {R : Result → Shared → Prop} {I : Addr} {fp wr : List Addr} {n : Nat} {P : Nat → Value → Prop} {St : Nat → Heap → Prop} {mC : Str → Option Value} {c : Str} {tc : Tok}
    (W : Walks prog w A I fp wr n P St) (hh : A.handled = none) (hs : ∀ x, foldedSetIterable it1 cenv x = pure x) (hx : cenv.kindOf x = some .local) (hy : cenv.kindOf y = some .local) (hp : (cenv.scope.kind == .class || (cenv.scope.kind == .module && cenv.locals != cenv.globals)) = false)
    (hxy : x ≠ y) (hDC : D ≠ cenv.locals) (hDf : D ∉ fp) (hCf : cenv.locals ∉ fp)
    (hst : St 0 s.heap) (hacc : s.heap.PlainList D #[]) (hn : s.heap.Ns cenv.locals mC)
    (T : Value → Nat → Value → Prop)
    (hit1 : ∀ h tk mC E', Kp (D :: cenv.locals :: wr) s.heap h → h.Ns cenv.locals mC →
      wpAny (model prog w) A (eval it1 cenv) (fun r s₃ => r = .str c tc ∧ ∃ tk', s₃ = { s with heap := h, toks := tk' }) E' { s with heap := h, toks := tk })
    (helt : ∀ i v j d tv h tk mC E', i < n → P i v → c.cps[j]? = some d → Kp (D :: cenv.locals :: wr) s.heap h → h.Ns cenv.locals mC → mC x = some v → mC y = some (.str ⟨#[d]⟩ tv) →
      wpAny (model prog w) A (eval elt cenv) (fun r s₃ => T v j r ∧ ∃ tk', s₃ = { s with heap := h, toks := tk' }) E' { s with heap := h, toks := tk })
    (J : Nat → List Value → Prop) (h0 : J 0 [])
    (hJ : ∀ i v ys zs, i < n → P i v → J i ys → zs.length = c.length → (∀ j r, zs[j]? = some r → T v j r) → J (i + 1) (ys ++ zs))
    (hn1 : n ≤ 1000) (hc1 : c.length ≤ 1000)
    (hR : ∀ h' tk ys mC', Kp (D :: cenv.locals :: wr) s.heap h' → h'.PlainList D ys.toArray → J n ys → h'.Ns cenv.locals mC' → R (.ok .next) { s with heap := h', toks := tk }) :
    codeAny (model prog w) A (.compLoop (two elt it0 it1 x y px py scope pos) 0 (.ref I) (.ref D) cenv) R s := by
  have hCw : cenv.locals ∉ wr := fun h => hCf (W.sub _ h)
  have hDw : D ∉ wr := fun h => hDf (W.sub _ h)
  refine loop_two0 hs (OutI St D cenv.locals wr J c.length n s) ?_ (n + 1)
    ⟨s.heap, s.toks, [], mC, 0, rfl, hst, Kp.refl, hacc, hn, h0, Nat.zero_le _, Nat.zero_le _, rfl⟩
  rintro k s' ⟨h', tk, ys, mC', i, rfl, hst', hk', hacc', hn', hJi, hys, hi, rfl⟩
  by_cases hlt : i < n
  · refine W.item i _ _ _ hlt hst' fun v h₁ tk₁ hPv hst₁ hk₁ => ?_
    refine wpAny_assign_Name (wpAny_storeName_local hx (hn'.at' fun o e => hk₁ _ o hCw e) (fun h₂ hn₂ hs₂ => ?_) hp)
    have keep₂ : ∀ b o, b ≠ cenv.locals → h₁.get? b = some o → h₂.get? b = some o := fun b o hb e => hs₂.extBut b o hb e
    have k₂ : Kp (D :: cenv.locals :: wr) s.heap h₂ := fun b o hb e => keep₂ b o (fun q => hb (q ▸ .tail _ (.head _))) (hk₁ b o (fun q => hb (.tail _ (.tail _ q))) (hk' b o hb e))
    have hst₂ : St (i + 1) h₂ := W.frame _ _ _ hst₁ fun b hb o e => keep₂ b o (fun q => hCf (q ▸ hb)) e
    have hacc₂ : h₂.PlainList D ys.toArray := (hacc'.at fun o e => hk₁ _ o hDw e).at fun o e => keep₂ _ o hDC e
    have hv₂ : (fun z => if z = x then some v else mC' z) x = some v := by simp
    refine wpAny_mono (hit1 h₂ _ _ _ k₂ hn₂) (fun xx s₃ h₃ => ?_) fun _ _ e => e
    obtain ⟨rfl, tk₃, rfl⟩ := h₃
    refine wpAny_pyIter_str fun o St1 W1 hst1 => ?_
    dsimp only at W1 hst1 ⊢
    have hD2 : D < h₂.objs.size := by obtain ⟨k, hk⟩ := hacc₂; exact Heap.lt_size hk
    have hC2 : cenv.locals < h₂.objs.size := hn₂.lt
    have pk : ∀ b o', h₂.get? b = some o' → (h₂.push o).get? b = some o' := fun b o' e => Heap.get?_push_of_some _ e
    have kk : ∀ h₄, Kp [D, cenv.locals, h₂.objs.size] (h₂.push o) h₄ → ∀ b o', b ≠ D → b ≠ cenv.locals → h₂.get? b = some o' → h₄.get? b = some o' := fun h₄ hk₄ b o' h1 h2 e => hk₄ b o' (fun q => by
      simp only [List.mem_cons, List.not_mem_nil, or_false] at q
      rcases q with q | q | q
      · exact h1 q
      · exact h2 q
      · exact absurd (Heap.lt_size e) (q ▸ Nat.lt_irrefl _)) (pk b o' e)
    have kw : ∀ h₄, Kp [D, cenv.locals, h₂.objs.size] (h₂.push o) h₄ → Kp (D :: cenv.locals :: wr) s.heap h₄ := fun h₄ hk₄ b o' hb e => kk h₄ hk₄ b o' (fun q => hb (q ▸ .head _)) (fun q => hb (q ▸ .tail _ (.head _))) (k₂ b o' hb e)
    have hlen : ys.length ≤ 1000000 := Nat.le_trans hys (Nat.le_trans (Nat.mul_le_mul (Nat.le_trans hi hn1) hc1) (by decide))
    have loop : codeAny (model prog w) A (.compLoop (two elt it0 it1 x y px py scope pos) 1 (.ref h₂.objs.size) (.ref D) cenv) (fun r s' => match r with | .ok _ => ∃ m, m < n + 1 - i ∧ OutI St D cenv.locals wr J c.length n s m s' | .error e => cameBackBy (model prog w) A cenv (notedBy (model prog w) A cenv fun e s' => R (.error e) s') e s') { s with heap := h₂.push o, toks := tk₃ } := by
      refine comp2_in (W1 A hh) hy hp hxy hDC (Nat.ne_of_lt hD2) (Nat.ne_of_lt hC2) hst1 (hacc₂.at fun o e => pk _ o e) (hn₂.at' fun o e => pk _ o e) hv₂ (fun j r => T v j r) (fun j u h tk mC E' hj hPu hk hn hm1 hm2 => ?_) hlen hc1 fun h₅ tk₅ zs mC₅ hk₅ hpl₅ hzs hT₅ hn₅ => ?_
      · obtain ⟨d, tv, hd, rfl⟩ := hPu
        exact helt i v j d tv h tk mC E' hlt hPv hd (kw h hk) hn hm1 hm2
      · refine ⟨n + 1 - (i + 1), by lia  , h₅, tk₅, ys ++ zs, mC₅, i + 1, rfl, ?_, kw h₅ hk₅, hpl₅, hn₅, hJ i v ys zs hlt hPv hJi hzs hT₅, ?_, hlt, rfl⟩
        · exact W.frame _ _ _ hst₂ fun b hb o' e => kk h₅ hk₅ b o' (fun q => hDf (q ▸ hb)) (fun q => hCf (q ▸ hb)) e
        · rw [List.length_append, Nat.succ_mul, hzs]; exact Nat.add_le_add hys (Nat.le_refl _)
    exact start_two1 loop ((W1 A hh).self 0 _ _ _ hst1 loop)
  · have hin : i = n := by lia  
    refine W.done _ _ _ (hin ▸ hst') fun h₁ tk₁ hk₁ => ?_
    exact hR h₁ tk₁ ys mC' (fun b o hb e => hk₁ b o (fun q => hb (.tail _ (.tail _ q))) (hk' b o hb e)) (hacc'.at fun o e => hk₁ _ o hDw e) (hin ▸ hJi) (hn'.at' fun o e => hk₁ _ o hCw e)
end
section
variable {prog : Program} {w : World} {A : Around} {s : Shared} {env : Env} {h₀ : Heap} {E : Value → Shared → Prop} {elt it0 it1 : Expr} {x y z : Str} {px py pz : Pos} {scope : Scope} {pos spos : Pos} {cl : List (Str × Addr)}
noncomputable def TwoE (prog : Program) (w : World) (A : Around) (E : Value → Shared → Prop) (env : Env) (scope : Scope) (cl : List (Str × Addr)) (elt it0 it1 : Expr) (x y z : Str) (px py pz pos : Pos) (Q : Flow → Shared → Prop) (it : Value) (s₂ : Shared) : Prop :=
  wpAny (model prog w) A (newList []) (fun acc s₃ => wpAny (model prog w) A (newFunctionEnv scope env.globals cl [] env.qual none .none (some env)) (fun cenv s₄ =>
      codeAny (model prog w) A (.compStart (two elt it0 it1 x y px py scope pos) 0 it acc { cenv with scope := relabel scope env }) (compPost (model prog w) A E (some (assign (.Name z pz) env)) (fun _ s' => Q .next s') acc cenv.locals) s₄) E s₃) E s₂
theorem AssignTwo {Q : Flow → Shared → Prop}
    (hsw : swapsWith (two elt it0 it1 x y px py scope pos) (some (.Name z pz)) spos.line env = pure true)
    (hclos : closureFor scope env = pure cl) (hkind : scope.kind = .function)
    (hnames : ∀ y ∈ scope.names, y.2 = .local → scope.names.lookup y.1 = some .local)
    (h : wpAny (model prog w) A (eval it0 env) (fun xv s₁ => wpAny (model prog w) A (pyIter xv) (fun it s₂ => TwoE prog w A E env scope cl elt it0 it1 x y z px py pz pos Q it s₂) E s₁) E s)
    (hs : ∀ x, foldedSetIterable it0 env x = pure x := by intro _; rfl) :
    wpAny (model prog w) A (exec (.Assign [.Name z pz] (two elt it0 it1 x y px py scope pos) spos) env) Q E s := by
  rw [exec_Assign_Name_used _ _ _ _ hsw]
  refine wpAny_bind (wpAny_standAt (wpAny_bind ?_))
  show wpAny _ A (do let _ ← comprehension (two elt it0 it1 x y px py scope pos) scope env _ (newList []) false (eval it0 env) (some (assign (.Name z pz) env))) _ _ s
  exact wpAny_bind (wpAny_mono (wpAny_comprehension_free (use := some (assign (.Name z pz) env)) (Q := fun _ s' => Q .next s') rfl hs hclos hkind hnames
    (wpAny_mono h (fun xv s₁ h₁ => wpAny_mono h₁ (fun it s₂ h₂ => h₂) fun _ _ e => e) fun _ _ e => e)) (fun _ s' hq => wpAny_pure (wpAny_pure hq)) fun _ _ e => e)
theorem nl {a b : Nat} (h : a < b) : a ≠ b := Nat.ne_of_lt h
theorem nl' {a b : Nat} (h : b < a) : a ≠ b := Nat.ne_of_gt h
theorem two_list {Q : Flow → Shared → Prop} {l : Addr} {vs : List Value} {k : Nat} {m : Str → Option Value} {news : List (Addr × Obj)} {c : Str} {tc : Tok} (hh : A.handled = none)
    (hcell : ∀ y ∈ scope.names, y.2 ≠ .cell) (hkind : scope.kind = .function) (hx : scope.names.lookup x = some .local) (hy : scope.names.lookup y = some .local) (hxy : x ≠ y)
    (hz : env.kindOf z = some .local) (hp : (env.scope.kind == .class || (env.scope.kind == .module && env.locals != env.globals)) = false)
    (hs : ∀ C x, foldedSetIterable it1 (compEnvC scope cl C env) x = pure x)
    (F : Fr h₀ env.locals s.heap m) (N : News h₀ env.locals s.heap news) (hm : (l, W.listOf vs.toArray k) ∈ news) (hsz : vs.length ≤ 1000) (hc1 : c.length ≤ 1000)
    (T : Value → Nat → Value → Prop)
    (hit1 : ∀ C h tk mC E', Fr h₀ env.locals h m → News h₀ env.locals h news → h.Ns C mC → 
      wpAny (model prog w) A (eval it1 (compEnvC scope cl C env)) (fun r s₃ => r = .str c tc ∧ ∃ tk', s₃ = { s with heap := h, toks := tk' }) E' { s with heap := h, toks := tk })
    (helt : ∀ C (i : Nat) v (j : Nat) d tv h tk mC E', vs[i]? = some v → c.cps[j]? = some d → Fr h₀ env.locals h m → News h₀ env.locals h news → h.Ns C mC → mC x = some v → mC y = some (.str ⟨#[d]⟩ tv) →
      wpAny (model prog w) A (eval elt (compEnvC scope cl C env)) (fun r s₃ => T v j r ∧ ∃ tk', s₃ = { s with heap := h, toks := tk' }) E' { s with heap := h, toks := tk })
    (J : Nat → List Value → Prop) (h0 : J 0 [])
    (hJ : ∀ (i : Nat) v ys zs, vs[i]? = some v → J i ys → zs.length = c.length → (∀ j r, zs[j]? = some r → T v j r) → J (i + 1) (ys ++ zs))
    (done : ∀ D h' tk ys k, s.heap.objs.size < D → Fr h₀ env.locals h' (fun a => if a = z then some (.ref D) else m a) → News h₀ env.locals h' ((D, W.listOf ys.toArray k) :: news) → (∀ q ∈ news, q.1 ≠ D) → J vs.length ys → Q .next { s with heap := h', toks := tk }) :
    wpAny (model prog w) A (pyIter (.ref l)) (fun it s₂ => TwoE prog w A E env scope cl elt it0 it1 x y z px py pz pos Q it s₂) E s := by
  have hl : s.heap.IsList l vs.toArray := ⟨_, (N _ hm).1, rfl, k, rfl⟩
  have hlt : l < s.heap.objs.size := Heap.lt_size (N _ hm).1
  refine wpAny_pyIter_list hl ?_
  have W := Walks.list (prog := prog) (w := w) hh s.heap.objs.size l (Nat.ne_of_lt hlt) vs.toArray
  unfold TwoE
  have hL1 : LT.lt (α := Nat) env.locals s.heap.objs.size := F.ns.lt
  generalize hH1 : s.heap.push _ = H1
  have hI0 : H1.get? s.heap.objs.size = some _ := hH1 ▸ Heap.get?_push_size _ rfl
  have sz1 : H1.objs.size = s.heap.objs.size + 1 := by rw [← hH1, Heap.size_push]
  refine wpAny_newObj_type (wpAny_newFunctionEnv hcell (by intro y hy; simp at hy) (fun h₁ hns₁ hsb₁ => ?_) hkind)
  dsimp only at hns₁ hsb₁ ⊢
  generalize hH2 : H1.push { cls := .type "list", dict := none, data := .seq ([] : List Value).toArray } = H2 at hns₁ hsb₁ ⊢
  have sz2 : H2.objs.size = H1.objs.size + 1 := by rw [← hH2, Heap.size_push]
  have old : ∀ b o, b ≠ H2.objs.size → H1.get? b = some o → h₁.get? b = some o := fun b o hb e => hsb₁.extBut b o hb (Heap.get?_push_of_some _ (hH2 ▸ Heap.get?_push_of_some _ e))
  have old0 : ∀ b o, s.heap.get? b = some o → h₁.get? b = some o := fun b o e => old b o (nl (by have : LT.lt (α := Nat) b s.heap.objs.size := Heap.lt_size e; lia  )) (hH1 ▸ Heap.get?_push_of_some _ e)
  have hacc : h₁.PlainList H1.objs.size #[] := ⟨_, hsb₁.extBut _ _ (nl (by lia  )) (Heap.get?_push_of_some _ (hH2 ▸ Heap.get?_push_size _ rfl))⟩
  have new : ∀ a, s.heap.objs.size ≤ a → h₀.get? a = none := fun a ha => by
    cases e : h₀.get? a with
    | none => rfl
    | some o' => exact absurd (Heap.lt_size (F.keep _ _ e)) (Nat.not_lt.mpr ha)
  have keepF : ∀ h, Kp (H1.objs.size :: H2.objs.size :: [s.heap.objs.size]) h₁ h → Fr h₀ env.locals h m ∧ News h₀ env.locals h news := fun h hk => by
    have key : ∀ b o, s.heap.get? b = some o → h.get? b = some o := fun b o e => hk b o (fun q => by
      have hb : LT.lt (α := Nat) b s.heap.objs.size := Heap.lt_size e
      simp only [List.mem_cons, List.not_mem_nil, or_false] at q
      rcases q with q | q | q <;> (rw [q] at hb; lia  )) (old0 b o e)
    exact ⟨⟨F.ns.at' fun o e => key _ o e, fun b o e => key b o (F.keep b o e), F.above⟩, fun q hq => ⟨key _ _ (N q hq).1, (N q hq).2⟩⟩
  have loop : ∀ s₃ : Shared, s₃ = { s with heap := h₁, toks := s.toks + ([] : List (Str × Value)).length } →
      codeAny (model prog w) A (.compLoop (two elt it0 it1 x y px py scope pos) 0 (.ref s.heap.objs.size) (.ref H1.objs.size) (compEnvC scope cl H2.objs.size env))
        (compPost (model prog w) A E (some (assign (.Name z pz) env)) (fun _ s' => Q .next s') (.ref H1.objs.size) H2.objs.size) s₃ := by
    rintro s₃ rfl
    refine comp2_out (cenv := compEnvC scope cl H2.objs.size env) W hh (hs _) (lookup_relabel_local hx) (lookup_relabel_local hy) (by simp [compEnvC, relabel, hkind]) hxy (show H1.objs.size ≠ H2.objs.size from nl (by lia  )) ?_ ?_ ?_ hacc hns₁ T
      (fun h tk mC E' hk hn => hit1 H2.objs.size h tk mC E' (keepF h hk).1 (keepF h hk).2 hn)
      (fun i v j d tv h tk mC E' hi hP hd hk hn h1 h2 => helt H2.objs.size i v j d tv h tk mC E' (by simpa using hP) hd (keepF h hk).1 (keepF h hk).2 hn h1 h2) J h0 (fun i v ys zs hi hP => hJ i v ys zs (by simpa using hP)) (by simpa using hsz) hc1 ?_
    · intro q
      have hlt' : LT.lt (α := Nat) l s.heap.objs.size := hlt
      simp only [List.mem_cons, List.not_mem_nil, or_false] at q
      rcases q with q | q
      · exact absurd q (nl' (by lia  ))
      · exact absurd q (nl' (by lia  ))
    · intro q
      have hlt' : LT.lt (α := Nat) l s.heap.objs.size := hlt
      have q : H2.objs.size ∈ [s.heap.objs.size, l] := q
      simp only [List.mem_cons, List.not_mem_nil, or_false] at q
      rcases q with q | q
      · exact absurd q (nl' (by lia  ))
      · exact absurd q (nl' (by lia  ))
    · exact ⟨⟨_, old _ _ (nl (by lia  )) hI0, rfl, rfl⟩, hl.at fun o e => old0 _ o e⟩
    · intro h' tk ys mC' hk hpl hJn hn
      obtain ⟨kk, hpl⟩ := hpl
      obtain ⟨F', N'⟩ := keepF h' hk
      show wpAny _ A (assign (.Name z pz) env (.ref H1.objs.size)) _ _ _
      refine wpAny_assign_Name (wpAny_storeName_local hz F'.ns (fun h₂ hn₂ hs₂ => ?_) hp)
      have hn' : h'.Ns H2.objs.size mC' := hn
      refine ⟨mC', hn'.sameBut hs₂ (nl' (by lia  )), fun h₃ hs₃ => ?_⟩
      have F₂ := F'.set hn₂ hs₂
      have hJn' : J vs.length ys := by simpa using hJn
      refine done H1.objs.size h₃ _ ys kk (by lia  ) ⟨F₂.ns.at' fun o e => hs₃.extBut _ o (nl (by lia  )) e, fun b o e => hs₃.extBut b o (fun q => by rw [q, new _ (by lia  )] at e; cases e) (F₂.keep b o e), F₂.above⟩ (fun q hq => ?_) (fun q hq e => ?_) hJn'
      · rcases List.mem_cons.mp hq with rfl | hq
        · exact ⟨hs₃.extBut _ _ (nl (by lia  )) (hs₂.extBut _ _ (nl' (by lia  )) hpl), nl' (by lia  ), new _ (by dsimp only; lia  )⟩
        · have hql : LT.lt (α := Nat) q.1 s.heap.objs.size := Heap.lt_size (N q hq).1
          exact ⟨hs₃.extBut _ _ (nl (by lia  )) (hs₂.extBut _ _ (N q hq).2.1 (N' q hq).1), (N q hq).2⟩
      · have hql : LT.lt (α := Nat) q.1 s.heap.objs.size := Heap.lt_size (N q hq).1
        exact absurd e (nl (by lia  ))
  exact codeAny_compStart_list (loop _ rfl) (W.self 0 _ _ _ ⟨⟨_, old _ _ (nl (by lia  )) hI0, rfl, rfl⟩, hl.at fun o e => old0 _ o e⟩ (loop _ rfl))
end
end Mine
end
section
open PySem PySem.W PyProof.Rows
open PySem.Builtin PySem.Builtin.Str
set_option maxRecDepth 100000
set_option maxHeartbeats 8000000
namespace Mine


noncomputable def choicesF (p : List Nat) : Nat → List (List Nat)
  | 0 => [p.take 1]
  | n + 1 => (choicesF p n).flatMap fun w => p.map fun d => w ++ [d]
theorem choices_len (p : List Nat) (hp : p.length = 2) : ∀ n, (choicesF p n).length = 2 ^ n ∧ ∀ w ∈ choicesF p n, w.length = n + 1
  | 0 => ⟨rfl, fun w hw => by simp only [choicesF, List.mem_singleton] at hw; rw [hw, List.length_take, hp]; rfl⟩
  | n + 1 => by
    obtain ⟨h1, h2⟩ := choices_len p hp n
    constructor
    · show ((choicesF p n).flatMap fun w => p.map fun d => w ++ [d]).length = _
      rw [List.length_flatMap]
      simp only [List.length_map, hp]
      rw [List.map_const', List.sum_replicate_nat, h1, Nat.pow_succ]
    · intro w hw
      simp only [choicesF, List.mem_flatMap, List.mem_map] at hw
      obtain ⟨u, hu, d, _, rfl⟩ := hw
      rw [List.length_append, h2 u hu]; rfl
theorem len_two {α : Type} : ∀ {l : List α}, l.length = 2 → ∃ a b, l = [a, b]
  | [a, b], _ => ⟨a, b, rfl⟩
theorem item0 {x : Str} (h : x.length = 2) : Txt.item x 0 = S ((ls x).take 1) := by
  rw [item_meets ⟨Int.le_refl _, by omega⟩]
  apply str_ext
  rw [ls_S]
  show [x.cps.getD 0 0] = _
  obtain ⟨⟨l⟩⟩ := x
  obtain ⟨a, b, rfl⟩ := len_two h
  rfl
theorem strsAre_two {zs : List Value} {x : Str} (p : List Nat) (hp : p.length = 2) (hz : zs.length = 2) (hT : ∀ (j : Nat) r, zs[j]? = some r → ∃ ty, r = .str (x ++ S [p.getD j 0]) ty) : StrsAre zs (p.map fun d => x ++ S [d]) := by
  obtain ⟨a, b, rfl⟩ := len_two hz
  obtain ⟨c, d, rfl⟩ := len_two hp
  obtain ⟨t1, rfl⟩ := hT 0 a rfl
  obtain ⟨t2, rfl⟩ := hT 1 b rfl
  exact .cons _ _ (.cons _ _ .nil)
noncomputable def isCat (p : List Nat) (v : Value) (j : Nat) (r : Value) : Prop := ∃ x tx ty, v = .str x tx ∧ r = .str (x ++ S [p.getD j 0]) ty
theorem frame_at {m : Str → Option Value} {a : Str} {v : Option Value} (h : m a = v) : m = fun y => if y = a then v else m y := by
  funext y
  by_cases e : y = a
  · rw [if_pos e, e, h]
  · rw [if_neg e]
noncomputable def stepF (p w : List Nat) : List Str := p.map fun d => S (w ++ [d])
theorem choices_step {p : List Nat} (hp : p.length = 2) {ws : List Value} {C : List (List Nat)} (hws : StrsAre ws (C.map S)) {i : Nat} {v : Value} {ys zs : List Value} (hv : ws[i]? = some v) (hy : StrsAre ys ((C.take i).flatMap (stepF p)))
    (hz : zs.length = 2) (hT : ∀ (j : Nat) r, zs[j]? = some r → ∃ x tx ty, v = .str x tx ∧ r = .str (x ++ S [p.getD j 0]) ty) : StrsAre (ys ++ zs) ((C.take (i + 1)).flatMap (stepF p)) := by
  obtain ⟨x, tx, rfl, hx⟩ := StrsAre.item hws i v hv
  rw [List.getElem?_map] at hx
  cases hc : C[i]? with
  | none => rw [hc] at hx; cases hx
  | some u =>
    rw [hc] at hx
    have hx : S u = x := by simpa using hx
    subst hx
    rw [List.take_add_one, hc, List.flatMap_append]
    refine StrsAre.append' hy ?_
    have := strsAre_two (x := S u) p hp hz fun j r hr => by
      obtain ⟨x', tx', ty, e1, e2⟩ := hT j r hr
      cases e1
      exact ⟨ty, e2⟩
    simpa [stepF, S_append] using this
noncomputable def isL (xs : List Str) (news : List (Addr × Obj)) : Value → List (Addr × Obj) → Array GenState → Array GenState → Prop := fun v news' g g' => ∃ D ws k, v = .ref D ∧ news' = (D, W.listOf ws.toArray k) :: news ∧ StrsAre ws xs ∧ g' = g
theorem ret_isL {h₀ h' : Heap} {L D : Addr} {m : Str → Option Value} {news : List (Addr × Obj)} {s : Shared} {Q : Value → Shared → Prop} {xs : List Str} {ws : List Value} {k : Nat} {tk' : Nat}
    (hret : ∀ v news' h' tk' g', isL xs news v news' s.gens g' → Fr h₀ L h' m → News h₀ L h' news' → Q v { s with heap := h', toks := tk', gens := g' })
    (e : StrsAre ws xs) (F : Fr h₀ L h' m) (N : News h₀ L h' ((D, W.listOf ws.toArray k) :: news)) : Q (.ref D) { s with heap := h', toks := tk' } := hret _ _ h' tk' _ ⟨D, ws, k, rfl, rfl, e, rfl⟩ F N

end Mine
end
section
open PySem PySem.W PyProof.Rows
open PySem.Builtin PySem.Builtin.Str
set_option maxRecDepth 100000
set_option maxHeartbeats 8000000
namespace Mine
local macro_rules | `(tactic| walk_at "my enterC") => `(tactic| (refine' code_defC ?k1 ?k2 ?k3 ?k4 ?k5 ?kA ?kF ?kK ?k6 ?k7 ?k8 ?k9 ?kB ?kD ?_ ?c2 ?c3 ?c4; (case kA => exact rfl); (case kF => exact rfl); (case kK => assumption); (case k1 => k_asm); (case k2 => k_asm); (case k3 => k_asm); (case k4 => k_asm); (case k5 => k_asm); (case k6 => k_is); (case k7 => k_is); (case k8 => ktr_room); (case k9 => exact BindsTo.of_eq rfl); (case kB => exact rfl); (case kD => decide +kernel); (case c2 => exact rfl); (case c3 => exact rfl); (case c4 => exact rfl); k_whole; intro g' L' h' tk' cells' FG' F' N' Y' B' X' T' l1; (try k_lt l1); k_cells Y'; (try simp only [List.cons_append, List.nil_append] at N'); (try dsimp only); (try k_lift B'); (try k_fold)))
local macro_rules | `(tactic| walk_at "my enter") => `(tactic| (refine wpAny_call ?_; first | k_dflt cell_enter | k_dflt (walk_at "my enterC") | fail "not entered"))
local macro_rules | `(tactic| walk_at "my start") => `(tactic| (w_top on; w_on; unfold Ct; k_fill; intro dp un gd cn cs a ccd cl outer A₀ base h₀ L m s Q E hB hF hX hN hT hK hDp hUn hret; walk_at "my enter"))
local macro_rules | `(tactic| walk_at "truthy str") => `(tactic| (first | refine truthy_pos (by omega) (by omega) ?_ | refine truthy_nil (by omega) ?_); intro _)
local macro_rules | `(tactic| walk_at "exec For Name Name cons nil") => `(tactic| (k_here; (rename Fr _ _ _ _ => lF'); (with_unfolding_all refine' For_G lF' ?k1 ?k2 ?_; (case k1 => exact rfl); (case k2 => exact rfl); k_whole)))
local macro_rules | `(tactic| walk_at "exec For Name Call cons nil") => `(tactic| (k_here; (rename Fr _ _ _ _ => lF'); (with_unfolding_all refine' For_G lF' ?k1 ?k2 ?_; (case k1 => exact rfl); (case k2 => exact rfl); k_whole)))
local macro_rules | `(tactic| walk_at "my uses") => `(tactic| ((case B => k_asm); (case F => k_asm); (case X => k_asm); (case N => k_asm); (case T => k_asm); (case K => first | exact rfl | assumption); (case d => first | exact room_d (by assumption) (by rfl) | omega | ((try simp only [depth_deeper]); (try dsimp only [ktrTop]); omega)); (case u => first | exact room_u (by assumption) (by rfl) | omega | ((try simp only [Around.deeper_units]); (try dsimp only [ktrTop]); omega))))
local macro_rules | `(tactic| walk_at "compareOp In int ref") => `(tactic| (refine in_list_ints (isList_of (by k_asm) (by k_mem)) (by assumption) ?_))
local macro_rules | `(tactic| walk_at "my sub") => `(tactic| (intro p hp; first | exact hp | (simp only [List.mem_cons, List.mem_append, List.not_mem_nil, or_false, false_or] at hp ⊢; grind)))
local macro_rules | `(tactic| walk_at "my news") => `(tactic| first | k_asm | (refine' news_sub ?nsN ?nsS; (case nsN => k_asm); (case nsS => walk_at "my sub")))
local macro_rules | `(tactic| walk_at "eval ListComp") => `(tactic| (k_here; (rename Fr _ _ _ _ => lF'); (with_unfolding_all refine' ListComp_G lF' ?c1 ?c2 ?c3 ?c4 ?c5 ?_ ?c6; (case c1 => with_unfolding_all rfl); (case c2 => decide); (case c3 => exact rfl); (case c4 => decide); (case c5 => with_unfolding_all rfl); (case c6 => (intro _; with_unfolding_all rfl)))))
section
open PySem PySem.W PyProof.Rows
open PySem.Builtin PySem.Builtin.Str
set_option maxRecDepth 100000
set_option maxHeartbeats 8000000


local macro_rules | `(tactic| walk_at "exec For Name Name cons nil") => `(tactic| (k_here; (rename Fr _ _ _ _ => lF'); (with_unfolding_all refine' For_Q ?_; k_whole)))
local macro_rules | `(tactic| walk_at "exec For Name Call cons nil") => `(tactic| (k_here; (rename Fr _ _ _ _ => lF'); (with_unfolding_all refine' For_Q ?_; k_whole)))

noncomputable def chunkF (w : List Nat) (step i : Nat) : List Nat := (w.take (w.length - i * step)).drop (w.length - i * step - step)
theorem cut_left {lf word : Str} {step i : Nat} (h1 : (1 : Int) ≤ (step : Int)) (hlf : lf = S ((ls word).take (word.length - i * step))) : Txt.slice lf none (some (-(step : Int))) = S ((ls word).take (word.length - (i + 1) * step)) := by
  rw [slice_uptoNeg h1, hlf, ls_S, S_length, List.length_take, ls_length, List.take_take, Nat.succ_mul, Int.toNat_natCast, Nat.min_eq_left (Nat.sub_le word.length (i * step)), Nat.min_eq_left (Nat.sub_le _ _), Nat.sub_sub]
theorem cut_str {lf word : Str} {step i : Nat} (h1 : (1 : Int) ≤ (step : Int)) (hlf : lf = S ((ls word).take (word.length - i * step))) : Txt.slice lf (some (-(step : Int))) none = S (chunkF (ls word) step i) := by
  rw [slice_fromNeg h1, hlf, ls_S]
  unfold chunkF
  rw [S_length, List.length_take, ls_length, Int.toNat_natCast, Nat.min_eq_left (Nat.sub_le word.length (i * step))]
noncomputable def piecesF (w : List Nat) (step : Nat) : List (List Nat) := (List.range ((w.length + step - 1) / step)).map (chunkF w step)
noncomputable def isLB (xs : List Str) (news : List (Addr × Obj)) : Value → List (Addr × Obj) → Array GenState → Array GenState → Prop := fun v news' g g' => ∃ D ws k, v = .ref D ∧ news' = (D, W.listOf ws.toArray k) :: news ∧ StrsAre ws xs ∧ BareKeep g g' ∧ ∀ p ∈ news, p.1 < D
inductive PcI (O : Prop) (m1 : Str → Option Value) (X : Str) (D : Addr) (R : List (Addr × Obj)) (xs : List Str) (P : Prop) : List (Addr × Obj) → Prop
  | mk (lf : Str) (tl : Tok) (ws : List Value) (kk : Nat) (hm : O) (hleft : m1 (Str.ofString "left") = some (.str lf tl)) (hlf : lf = X) (hws : StrsAre ws xs) (hpos : P) : PcI O m1 X D R xs P ((D, W.listOf ws.toArray kk) :: R)
theorem pc_of {O P : Prop} {m1 : Str → Option Value} {X : Str} {D : Addr} {R n : List (Addr × Obj)} {xs : List Str} (h : O ∧ (∃ lf tl, m1 (Str.ofString "left") = some (.str lf tl) ∧ lf = X) ∧ (∃ ws kk, n = (D, W.listOf ws.toArray kk) :: R ∧ StrsAre ws xs) ∧ P) : PcI O m1 X D R xs P n := by
  obtain ⟨hm, ⟨lf, tl, hleft, hlf⟩, ⟨ws, kk, rfl, hws⟩, hpos⟩ := h
  exact .mk lf tl ws kk hm hleft hlf hws hpos
theorem ret_isLB {h₀ h' : Heap} {L D : Addr} {m : Str → Option Value} {news : List (Addr × Obj)} {s : Shared} {Q : Value → Shared → Prop} {xs : List Str} {ws : List Value} {k : Nat} {tk' : Nat} {gg : Array GenState}
    (hret : ∀ v news' h' tk' g', isLB xs news v news' s.gens g' → Fr h₀ L h' m → News h₀ L h' news' → Q v { s with heap := h', toks := tk', gens := g' })
    (hb : BareKeep s.gens gg) (hl : ∀ p ∈ news, p.1 < D) (e : StrsAre ws xs) (F : Fr h₀ L h' m) (N : News h₀ L h' ((D, W.listOf ws.toArray k) :: news)) : Q (.ref D) { s with heap := h', toks := tk', gens := gg } := hret _ _ h' tk' gg ⟨D, ws, k, rfl, rfl, e, hb, hl⟩ F N
theorem pieces_end {w : List Nat} {step i : Nat} (h1 : 1 ≤ step) (hn : 1 ≤ w.length) (hpos : i = 0 ∨ (i - 1) * step < w.length) (hle : w.length - i * step = 0) : piecesF w step = (List.range i).map (chunkF w step) := by
  unfold piecesF
  have : (w.length + step - 1) / step = i := by
    rcases hpos with rfl | hp
    · lia  
    · obtain ⟨j, rfl⟩ : ∃ j, i = j + 1 := ⟨i - 1, by
        rcases Nat.eq_zero_or_pos i with q | q
        · subst q; lia  
        · lia  ⟩
      have e1 : (j + 1) * step = j * step + step := Nat.succ_mul _ _
      have e2 : (j + 1 - 1) * step = j * step := rfl
      rw [e2] at hp
      rw [Nat.div_eq_iff (by lia  )]
      constructor
      · rw [e1]; lia  
      · rw [e1]; lia  
  rw [this]
theorem strsAre_snoc' {ys : List Value} {xs : List Str} (h : StrsAre ys xs) {y z : Str} {t : Tok} (e : y = z) : StrsAre (ys ++ [.str y t]) (xs ++ [z]) := e ▸ strsAre_snoc h y t
theorem off_head {D : Addr} {o : Obj} {r : List (Addr × Obj)} {bad : List Addr} (h : ∀ p ∈ (D, o) :: r, p.1 ∉ bad) : D ∉ bad := h _ (.head _)
theorem left0 (word : Str) (step : Nat) : word = S ((ls word).take (word.length - 0 * step)) := by
  rw [Nat.zero_mul, Nat.sub_zero, ← ls_length, List.take_length, S_ls]
theorem pos_absurd {step n n' : Nat} (h1 : 1 ≤ step) (hn : n = n' + 1) : ¬ (n' + 1 + 1 = 0 ∨ (n' + 1 + 1 - 1) * step < n) := by
  rintro (q | q)
  · lia  
  · have : n' + 1 ≤ (n' + 1) * step := Nat.le_mul_of_pos_right _ h1
    have e : n' + 1 + 1 - 1 = n' + 1 := rfl
    rw [e] at q; lia  
theorem led_lt {D l : Addr} {news : List (Addr × Obj)} {o : Obj} (l1 : l < D ∧ AllLt D news) : ∀ p ∈ (l, o) :: news, p.1 < D := by
  have key : ∀ {r : List (Addr × Obj)}, AllLt D r → ∀ p ∈ r, LT.lt (α := Nat) p.1 D := fun {r} => by
    induction r with
    | nil => intro _ p hp; cases hp
    | cons q r ih => intro h p hp; rcases List.mem_cons.mp hp with rfl | hp; exact h.1; exact ih h.2 p hp
  intro p hp
  rcases List.mem_cons.mp hp with rfl | hp
  · exact l1.1
  · exact key l1.2 p hp
theorem led_ne {D l C G : Addr} {news own : List (Addr × Obj)} {o : Obj} (l1 : l < D ∧ AllLt D news) (hD : D < C) (hG : G = C + 2) (hown : ∀ p ∈ own, p.1 ∈ [C + 1, C, G, l]) : ∀ p ∈ (l, o) :: (news ++ own), p.1 ≠ D := by
  have l1' : LT.lt (α := Nat) l D := l1.1
  have hD' : LT.lt (α := Nat) D C := hD
  intro p hp
  rcases List.mem_cons.mp hp with rfl | hp
  · exact nl l1'
  · rcases List.mem_append.mp hp with hp | hp
    · have key : ∀ {r : List (Addr × Obj)}, AllLt D r → ∀ p ∈ r, LT.lt (α := Nat) p.1 D := fun {r} => by
        induction r with
        | nil => intro _ p hp; cases hp
        | cons q r ih => intro h p hp; rcases List.mem_cons.mp hp with rfl | hp; exact h.1; exact ih h.2 p hp
      exact nl (key l1.2 p hp)
    · have := hown p hp
      simp only [List.mem_cons, List.not_mem_nil, or_false] at this
      rcases this with q | q | q | q <;> rw [q]
      · exact nl' (Nat.lt_succ_of_lt hD')
      · exact nl' hD'
      · rw [hG]; exact nl' (Nat.lt_succ_of_lt (Nat.lt_succ_of_lt hD'))
      · exact nl l1'

theorem row_items {vs : List Value} {q : Nat} {step : Int} (h : IntsAre vs (List.replicate q step ++ [127, 1])) : (∀ i, i < q → ∃ t, vs[i]? = some (.int step t)) ∧ ∃ t, vs[q]? = some (.int 127 t) := by
  have key : ∀ (i : Nat) (z : Int), (List.replicate q step ++ [127, 1])[i]? = some z → ∃ t, vs[i]? = some (.int z t) := fun i z hz => by
    have hl := (List.getElem?_eq_some_iff.mp hz).1
    rw [← h.length] at hl
    obtain ⟨n, t, e, hn⟩ := h.at i _ (List.getElem?_eq_getElem hl)
    rw [hz] at hn; cases hn
    exact ⟨t, by rw [List.getElem?_eq_getElem hl, e]⟩
  refine ⟨fun i hi => key i step ?_, key q 127 ?_⟩
  · rw [List.getElem?_append_left (by simpa using hi)]; simp [hi]
  · rw [List.getElem?_append_right (by simp)]; simp

theorem piecesA_ct (w : World) (mean : ExcName → Option Value) (mg mb : Str → Option Value) (news : List (Addr × Obj)) (word : Str) (t : Tok) (l : Addr) (k : Nat) (step : Nat) (ta tb tc : Tok) (hw : word.length ≤ 100) (h1 : 1 ≤ step) (h2 : step < word.length) :
   Ct 3 w mean mg mb 96 ((l, W.listOf [.int step ta, .int 0 tb, .int 1 tc].toArray k) :: news) [.str word t, .ref l] (isLB ((piecesF (ls word) step).map S) ((l, W.listOf [.int step ta, .int 0 tb, .int 1 tc].toArray k) :: news)) := by
  w_top on
  w_on
  unfold Ct
  k_fill
  intro dp un gd cn cs a ccd cl outer A₀ base h₀ L m s Q E hB hF hX hN hT hK hDp hUn hret
  walk_at "my enter"

  obtain ⟨n', hn'⟩ : ∃ n', word.length = n' + 1 := ⟨word.length - 1, by lia  ⟩
  k_steps
  rename Fr _ _ _ _ => F0
  rename News _ _ _ _ => N0
  rename (Top _ _ _ _ _ _) => T0
  refine' call_gen F0 ?X ?lim ?ho ?hcd ?room ?bind ?loc ?_ ?c1 ?c2 ?c3 ?c4
  case X => k_asm
  case lim => exact T0.nolimit
  case ho => k_is
  case hcd => k_is
  case room => first | lia   | ((try simp only [depth_deeper]); (try dsimp only [ktrTop]); lia  )
  case bind => exact BindsTo.of_eq rfl
  case loc => exact locs rfl
  case c1 => rfl
  case c2 => rfl
  case c3 => rfl
  case c4 => decide
  intro hG tkG hsz hns hgen hkeep
  have FG : Fr _ _ hG _ := ⟨F0.ns.at' fun o e => hkeep _ o e, fun b o e => hkeep b o (F0.keep b o e), F0.above⟩
  have NG : News _ _ hG _ := fun p hp => ⟨hkeep _ _ (N0 p hp).1, (N0 p hp).2⟩
  have hDlt := Heap.lt_size (N0 _ (.head _)).1
  rename (_ ∧ AllLt _ _) => l1
  have hDne := fun own (o : Obj) hown => led_ne (own := own) (o := o) l1 hDlt hsz hown
  refine' gen_loop (I := hG.objs.size) (l := l) (N := n' + 1 + 1) (step := (step : Int)) (fin := false) rfl rfl rfl T0.nolimit ?room2 FG NG hgen (Array.getElem?_push_size ..) rfl (next_is_new F0) (nl F0.ns.lt) (Nat.succ_ne_self _) (nl (Nat.lt_succ_of_lt F0.ns.lt)) (Ne.symm (NG (l, _) (by k_mem)).2.1) (fun p hp => nl (Heap.lt_size (N0 p hp).1)) ?seg (fun i m' news' => Off [Str.ofString "size", Str.ofString "left"] _ m' ∧ (∃ lf tl, m' (Str.ofString "left") = some (.str lf tl) ∧ lf = S ((ls word).take (word.length - i * step))) ∧ (∃ ws kk, news' = (_, W.listOf ws.toArray kk) :: _ ∧ StrsAre ws ((List.range i).map fun j => S (chunkF (ls word) step j))) ∧ (i = 0 ∨ (i - 1) * step < word.length)) ⟨Off.refl, ⟨word, _, rfl, left0 word step⟩, ⟨[], 0, rfl, .nil⟩, .inl rfl⟩ ?step ?nofin ?done
  case room2 => first | lia   | ((try simp only [depth_deeper]); (try dsimp only [ktrTop]); lia  )
  case seg => 
    have FC : Fr _ _ hG _ := ⟨hns, FG.keep, Nat.le_trans F0.above (Nat.le_of_lt F0.ns.lt)⟩
    have LC := isList_of (l := l) NG (by k_mem)
    have hlC := nl (Heap.lt_size (N0 (l, _) (by k_mem)).1)
    have hIC := nl' (Nat.lt_of_lt_of_eq (Nat.lt_succ_of_lt (Nat.lt_succ_self _)) hsz.symm)
    have hlI : l ≠ hG.objs.size := nl (Heap.lt_size (NG (l, _) (by k_mem)).1)
    have hI0 := next_is_new FG
    refine' seg_gen0 (fun s₀ h => GQ _ _ hG.objs.size l _ _ s₀ h ∧ h.objs.size = hG.objs.size) ⟨GQ.init FC LC, rfl⟩ ?_
    clear FC LC F0 N0 FG NG hns hgen hkeep
    rintro s₀ h tk ⟨G, hszh⟩
    refine seg_func (seg_execs_cons ?_)
    refine' segAssign (v := .none) G rfl rfl hlC hIC rfl (fun E' => ?_) fun h₁ tk₁ G₁ hs₁ _ => ?_
    · have F := G.F
      k_steps
    clear G
    refine seg_execs_cons ?_
    refine' segFor G₁ (hszh ▸ hs₁).symm (fun _ => rfl) (fun E' => ?_) fun h₂ tk₂ p G₂ hit => ?_
    · have F := G₁.F
      k_steps
    clear G₁
    refine' segTurn G₂ hit (v := .int step ta) rfl rfl rfl hlC hIC hlI hI0 rfl fun h₃ tk₃ G₃ hit₃ => ?_
    clear G₂ hit
    have ne1 : ((step : Int) == 127) = false := by rw [beq_eq_false_iff_ne]; lia  
    have ne2 : ((step : Int) == 0) = false := by rw [beq_eq_false_iff_ne]; lia  
    refine' seg_execs_cons (segIf false (fun E' => ?_) fun tk₄ => ?_)
    · have F := G₃.F
      k_steps
    refine' seg_execs_nil (seg_execs_cons (segIf false (fun E' => ?_) fun tk₅ => ?_))
    · have F := G₃.F
      k_steps
    refine' seg_execs_nil (seg_execs_cons (segYield (t := ta) G₃ hit₃ rfl rfl rfl (fun E' => ?_) fun hor s₄ G₄ hit₄ => ?_))
    · have F := G₃.F
      k_steps
    clear G₃ hit₃ hor
    refine' seg_execs_cons (segAssign (v := .int step ta) (h := s₄.heap) (tk := s₄.toks) G₄ rfl rfl hlC hIC rfl (fun E' => ?_) fun h₅ tk₅ G₅ hs₅ hitf₅ => ?_)
    · have F := G₄.F
      k_steps
    have hit₅ := hitf₅ _ hit₄
    clear G₄ hit₄ hitf₅
    refine' seg_execs_nil (seg_again rfl ?_)
    refine' segTurn G₅ hit₅ (v := .int 0 tb) rfl rfl rfl hlC hIC hlI hI0 rfl fun h₆ tk₆ G₆ hit₆ => ?_
    clear G₅ hit₅
    refine' seg_execs_cons (segIf false (fun E' => ?_) fun tk₇ => ?_)
    · have F := G₆.F
      k_steps
    refine' seg_execs_nil (seg_execs_cons (segIf true (fun E' => ?_) fun tk₈ => ?_))
    · have F := G₆.F
      k_steps
    refine' seg_execs_cons (segIf false (fun E' => ?_) fun tk₉ => ?_)
    · have F := G₆.F
      k_steps
    refine' seg_execs_nil (seg_execs_cons (seg_While fun q => ?_))
    show Seg _ _ _ _ _ s₄ _ _ _ { s₄ with heap := h₆, toks := tk₉ }
    clear hn' hs₅
    induction n' generalizing s₄ h₆ tk₉ with
    | zero =>
      refine' segWh (fun E' => ?_) fun tk' => ?_
      · have F := G₆.F
        k_steps
      refine' seg_execs_cons (segYield (t := ta) G₆ hit₆ rfl rfl rfl (fun E' => ?_) fun hor s₇ G₇ hit₇ => ?_)
      · have F := G₆.F
        k_steps
      exact absurd hor (by simp)
    | succ n' ih =>
      refine' segWh (fun E' => ?_) fun tk' => ?_
      · have F := G₆.F
        k_steps
      refine' seg_execs_cons (segYield (t := ta) G₆ hit₆ rfl rfl rfl (fun E' => ?_) fun hor s₇ G₇ hit₇ => ?_)
      · have F := G₆.F
        k_steps
      refine' seg_execs_nil (seg_again rfl ?_)
      first | exact ih s₇ s₇.heap G₇ hit₇ s₇.toks | exact ih s₇ s₇.heap s₇.toks G₇ hit₇ | (apply ih <;> assumption)
  case step =>
    intro i t' m₁ news₁ h tk gg own hi hJ
    have hJI := pc_of hJ
    clear hJ
    obtain ⟨lf, tl, ws, kk, hm, hleft, hlf, hws, hpos⟩ := hJI
    intro hoff hown hbk F N

    rw [Off.eq2 hm hleft] at F
    simp only [List.cons_append, List.nil_append] at N
    clear hm hleft F0 N0 FG NG hns hgen hkeep
    have hll : lf.length = word.length - i * step := by rw [hlf, S_length, List.length_take, ls_length]; lia  
    k_steps
    · rename (_ == Str.ofString "") = true => hc
      dsimp only [TurnPost]
      k_steps
      · rename (_ != _) = true => hd
        rw [bne, hc] at hd
        cases hd
      · have hl0 : lf.length = 0 := by rw [beq_iff_eq.mp hc]; decide +kernel
        refine ret_isLB (k := kk) (ws := ws) hret (BareKeep.push.trans hbk) (led_lt l1) ?_ (by k_asm) (by walk_at "my news")
        rw [pieces_end h1 (by rw [ls_length]; lia  ) (by rw [ls_length]; exact hpos) (by rw [ls_length]; lia  ), List.map_map]
        exact hws
    · rename (_ == Str.ofString "") = false => hc
      have hlen : ws.length ≤ 10000 := by rw [hws.len_eq, List.length_map, List.length_range]; lia  
      refine' append_led (by k_asm) (by k_asm) (hDne own _ hown) hlen ?_
      intro hA kA FA NA
      k_steps
      dsimp only [TurnPost]
      have hcn : lf.length ≠ 0 := fun q => by
        rw [beq_eq_false_iff_ne] at hc
        have e0 : ls lf = [] := List.length_eq_zero_iff.mp (by rw [ls_length]; exact q)
        exact hc (str_ext (by rw [e0]; decide +kernel))
      have hstep0 : (1 : Int) ≤ (step : Int) := by lia  
      refine ⟨_, _, _, _, (_, W.listOf (ws ++ [Value.str (Txt.slice lf (some (-(step : Int))) none) _]).toArray kA) :: (l, W.listOf [Value.int step ta, Value.int 0 tb, Value.int 1 tc].toArray k) :: news, rfl, by k_asm, by k_asm, ?off, rfl, Off.put (Off.put (Off.put Off.refl (by simp)) (by simp)) (by simp), ⟨_, _, if_pos rfl, ?left⟩, ⟨_, kA, rfl, ?str⟩, .inr ?pos⟩
      case off =>
        intro p hp
        rcases List.mem_cons.mp hp with rfl | hp
        · exact off_head hoff
        · exact hoff p (.tail _ hp)
      case left => exact cut_left hstep0 hlf
      case str =>
        rw [List.range_succ, List.map_append]
        exact strsAre_snoc' hws (cut_str hstep0 hlf)
      case pos =>
        have : i + 1 - 1 = i := rfl
        rw [this]; lia  
  case nofin =>
    rintro m₁ n₁ _ ⟨_, _, _, hpos⟩
    exact pos_absurd h1 hn' hpos
  case done =>
    rintro h tk gg m₁ n₁ _ _ _ ⟨_, _, _, hpos⟩
    exact absurd hpos (pos_absurd h1 hn')
end
section
open PySem PySem.W PyProof.Rows
open PySem.Builtin PySem.Builtin.Str
set_option maxRecDepth 100000
set_option maxHeartbeats 8000000



noncomputable def wsAt (i : Int) : Nat := if i = 0 then 10 else if i = 1 then 9 else if i = 2 then 13 else 32
noncomputable def escQ (c : Nat) : List Nat := if c = 34 ∨ c = 92 then [92, c] else [c]
noncomputable def escB (c : Nat) : List Nat := [92, c]
noncomputable def writtenF (w : List Nat) (way : Int) : List Nat := if way.fmod 2 = 0 then [34] ++ w.flatMap escQ ++ [34] else w.flatMap escB ++ [wsAt ((way.fdiv 2).fmod 4)]
theorem ws_item (i : Int) (h0 : 0 ≤ i) (h4 : i < 4) : Txt.item (Str.ofString "\n\t\x0d ") i = S [wsAt i] := by
  have : i = 0 ∨ i = 1 ∨ i = 2 ∨ i = 3 := by lia  
  rcases this with h | h | h | h <;> subst h <;> decide +kernel
theorem ws_len (i : Int) (h0 : 0 ≤ i) (h4 : i < 4) : (Txt.item (Str.ofString "\n\t\x0d ") i).length = 1 := by
  rw [ws_item i h0 h4]; rfl
theorem esc_sum (word : Str) (hw : word.length ≤ 100) (f : Nat → List Nat) (hf : ∀ c, (f c).length ≤ 2) (xs : List Str) (e : xs = ((ls word).take (ls word).length).map fun c => S (f c)) : (xs.map (·.length)).sum ≤ 100000 := by
  subst e
  rw [List.map_map]
  have := sum_le ((ls word).take (ls word).length) ((fun x : Str => x.length) ∘ fun c => S (f c)) 2 (fun a _ => by simp [S_length, hf])
  rw [List.take_length, ls_length] at this
  rw [List.take_length]
  lia  
theorem escQ_le (c : Nat) : (escQ c).length ≤ 2 := by unfold escQ; split <;> simp
theorem escB_le (c : Nat) : (escB c).length ≤ 2 := by simp [escB]
theorem ls_qb : ls (Str.ofString "\"\\") = [34, 92] := by decide +kernel
theorem ls_q : ls (Str.ofString "\"") = [34] := by decide +kernel
theorem ls_b : ls (Str.ofString "\\") = [92] := by decide +kernel
theorem flat_S (l : List Nat) (f : Nat → List Nat) : ((l.take l.length).map fun c => S (f c)).flatMap ls = l.flatMap f := by
  rw [List.take_length]
  induction l with
  | nil => rfl
  | cons a l ih => simp only [List.map_cons, List.flatMap_cons, ls_S, ih]

theorem written_ct (w : World) (mean : ExcName → Option Value) (mg mb : Str → Option Value) (news : List (Addr × Obj)) (word : Str) (t t2 : Tok) (way : Int) (hw : word.length ≤ 100) :
   Ct 1 w mean mg mb 89 (news) [.str word t, .int way t2] (isS (S (writtenF (ls word) way)) news) := by
  w_top on
  w_on
  unfold Ct
  k_fill
  intro dp un gd cn cs a ccd cl outer A₀ base h₀ L m s Q E hB hF hX hN hT hK hDp hUn hret
  walk_at "my enter"

  k_steps
  · rename Fr _ _ _ _ => F0
    rename News _ _ _ _ => N0
    refine' citer_str (fun _ _ => true) (fun i ys news' g => g = _ ∧ news' = _ ∧ StrsAre ys (((ls word).take i).map fun c => S (escQ c))) rfl F0 N0 (by lia  ) ⟨rfl, rfl, StrsAre.nil⟩ (fun _ _ _ _ _ _ _ h => absurd h (by decide)) ?tests ?elt ?done
    case tests => intro C D I i d tv ys news₁ h tk g own mC _ _ _ _ _ _ _ F N _ _ E'; exact wpAny_pure ⟨rfl, _, _, rfl, F, N⟩
    case elt =>
      rintro C D I i d tv ys news₁ h tk g own mC hC hD hI hd _ ⟨rfl, rfl, hJ⟩ hoff hown F N hn hm E'
      have cE := InElt.start h
      clear F0 N0
      have hd' : (ls word)[i]? = some d := by simpa [ls] using hd
      have hs1 : ∀ y (ty : Tok), y = S (escQ d) → StrsAre (ys ++ [.str y ty]) (((ls word).take (i + 1)).map fun c => S (escQ c)) := fun y ty e => by
        rw [take_succ_map (ls word) (fun c => S (escQ c)) hd', ← e]; exact strsAre_snoc hJ y ty
      k_steps
      · rename List.isEmpty _ = true => hc
        rw [occ_char] at hc
        refine ⟨_, _, _, _, rfl, by k_asm, by k_asm, hoff, rfl, rfl, hs1 _ _ ?_⟩
        have : d ∉ ls (Str.ofString "\"\\") := by simpa using hc
        rw [ls_qb] at this
        simp only [List.mem_cons, List.not_mem_nil, or_false] at this
        unfold escQ
        rw [if_neg this]
      · rename List.isEmpty _ = false => hc
        rw [occ_char] at hc
        refine ⟨_, _, _, _, rfl, by k_asm, by k_asm, hoff, rfl, rfl, hs1 _ _ ?_⟩
        have : d ∈ ls (Str.ofString "\"\\") := by simpa using hc
        rw [ls_qb] at this
        simp only [List.mem_cons, List.not_mem_nil, or_false] at this
        unfold escQ
        rw [if_pos this]
        apply str_ext
        rw [ls_append, ls_b]; rfl
    case done =>
      have hw0 : 0 ≤ (way.fdiv 2).fmod 4 := Int.fmod_nonneg_of_pos _ (by decide)
      have hw4 : (way.fdiv 2).fmod 4 < 4 := Int.fmod_lt_of_pos _ (by decide)
      have hit := ws_len _ hw0 hw4
      rintro D h' tk g news' ys k hD F N hoff ⟨rfl, rfl, hJ⟩
      rw [← ls_length] at hJ
      have hsum := esc_sum word hw escQ escQ_le _ rfl
      clear F0 N0
      k_steps
      refine' join_led ?jN ?jm ?jh ?jt ?_; (case jN => k_asm); (case jm => k_mem); (case jh => assumption); (case jt => assumption); intro x _ _ ex hx1
      k_steps
      refine ret_isS hret ?_ (by k_asm) (by walk_at "my news")
      rename Int.fmod _ _ = (0 : Int) => hc
      rw [flat_S] at ex
      subst ex
      apply str_ext
      rw [ls_append, ls_append, ls_q, ls_S, ls_S]
      unfold writtenF
      rw [if_pos hc]
  · rename Fr _ _ _ _ => F0
    rename News _ _ _ _ => N0
    refine' citer_str (fun _ _ => true) (fun i ys news' g => g = _ ∧ news' = _ ∧ StrsAre ys (((ls word).take i).map fun c => S (escB c))) rfl F0 N0 (by lia  ) ⟨rfl, rfl, StrsAre.nil⟩ (fun _ _ _ _ _ _ _ h => absurd h (by decide)) ?tests ?elt ?done
    case tests => intro C D I i d tv ys news₁ h tk g own mC _ _ _ _ _ _ _ F N _ _ E'; exact wpAny_pure ⟨rfl, _, _, rfl, F, N⟩
    case elt =>
      rintro C D I i d tv ys news₁ h tk g own mC hC hD hI hd _ ⟨rfl, rfl, hJ⟩ hoff hown F N hn hm E'
      have cE := InElt.start h
      clear F0 N0
      have hd' : (ls word)[i]? = some d := by simpa [ls] using hd
      have hs1 : ∀ y (ty : Tok), y = S (escB d) → StrsAre (ys ++ [.str y ty]) (((ls word).take (i + 1)).map fun c => S (escB c)) := fun y ty e => by
        rw [take_succ_map (ls word) (fun c => S (escB c)) hd', ← e]; exact strsAre_snoc hJ y ty
      k_steps
      refine ⟨_, _, _, _, rfl, by k_asm, by k_asm, hoff, rfl, rfl, hs1 _ _ ?_⟩
      apply str_ext
      rw [ls_append, ls_b]; rfl
    case done =>
      have hw0 : 0 ≤ (way.fdiv 2).fmod 4 := Int.fmod_nonneg_of_pos _ (by decide)
      have hw4 : (way.fdiv 2).fmod 4 < 4 := Int.fmod_lt_of_pos _ (by decide)
      have hit := ws_len _ hw0 hw4
      rintro D h' tk g news' ys k hD F N hoff ⟨rfl, rfl, hJ⟩
      rw [← ls_length] at hJ
      have hsum := esc_sum word hw escB escB_le _ rfl
      clear F0 N0
      k_steps
      refine' join_led ?jN ?jm ?jh ?jt ?_; (case jN => k_asm); (case jm => k_mem); (case jh => assumption); (case jt => assumption); intro x _ _ ex hx1
      k_steps
      refine ret_isS hret ?_ (by k_asm) (by walk_at "my news")
      rename ¬ Int.fmod _ _ = (0 : Int) => hc
      rw [flat_S] at ex
      subst ex
      apply str_ext
      rw [ls_append, ls_S, ls_S, ws_item _ hw0 hw4]
      unfold writtenF
      rw [if_neg hc]
end
section
open PySem PySem.W PyProof.Rows
open PySem.Builtin PySem.Builtin.Str
set_option maxRecDepth 100000
set_option maxHeartbeats 8000000

section
variable {prog : Program} {w : World} {A : Around} {s : Shared} {env : Env} {h₀ : Heap} {E : Value → Shared → Prop}
theorem iter_strG {Q : Flow → Shared → Prop} {x : Str} {body : List Stmt} {c : Str} {t : Tok} {m : Str → Option Value} {news : List (Addr × Obj)}
    (J : Nat → (Str → Option Value) → List (Addr × Obj) → Array GenState → Prop) (hh : A.handled = none)
    (F : Fr h₀ env.locals s.heap m) (N : News h₀ env.locals s.heap news)
    (h0 : J 0 m news s.gens)
    (step : ∀ I i d tv m₁ news₁ h tk g own, s.heap.objs.size ≤ I → c.cps[i]? = some d → J i m₁ news₁ g → (∀ p ∈ news₁, p.1 ≠ I) → (∀ p ∈ own, p.1 = I) →
      Fr h₀ env.locals h (fun y => if y = x then some (.str ⟨#[d]⟩ tv) else m₁ y) → News h₀ env.locals h (news₁ ++ own) →
      wpAny (model prog w) A (execs body env) (TurnPost h₀ env.locals [I] own (J (i + 1)) s Q) E { s with heap := h, toks := tk, gens := g })
    (done : ∀ h' tk g m' news', Fr h₀ env.locals h' m' → News h₀ env.locals h' news' → J c.length m' news' g → Q .next { s with heap := h', toks := tk, gens := g }) :
    wpAny (model prog w) A (pyIter (.str c t)) (fun it s₂ => LoopGE prog w A h₀ env x body Q E it s₂) E s := by
  refine wpAny_pyIter_str fun o St W hst => ?_
  refine ⟨_, _, _, _, _, _, m, news, J, rfl, W A hh, ?_, ?_, ?_, hst, F.push _, (fun p hp => ⟨Heap.get?_push_of_some _ (N p hp).1, (N p hp).2⟩), h0, ?_, ?_⟩
  · intro hb
    exact absurd F.ns.lt ((List.mem_singleton.mp hb) ▸ Nat.lt_irrefl _)
  · intro b hb
    rw [List.mem_singleton.mp hb]
    exact next_is_new F
  · intro p hp hI
    exact absurd (Heap.lt_size (N p hp).1) ((List.mem_singleton.mp hI) ▸ Nat.lt_irrefl _)
  · intro i v m₁ news₁ h tk g own hi hP hJ ha hb F₁ N₁
    obtain ⟨d, tv, hd, rfl⟩ := hP
    exact step s.heap.objs.size i d tv m₁ news₁ h tk g own (Nat.le_refl _) hd hJ (fun p hp e => ha p hp (e ▸ .head _)) (fun p hp => List.mem_singleton.mp (hb p hp)) F₁ N₁
  · intro h' tk g m' news' F' N' hJ
    exact done h' tk g m' news' F' N' hJ
end
end
section
open PySem PySem.W PyProof.Rows
open PySem.Builtin PySem.Builtin.Str
open PySem.Builtin.ObjectAttr
set_option maxRecDepth 100000
set_option maxHeartbeats 8000000

/-! an iterator over what a method's calls give, up to a sentinel text -/
theorem slot_ci_next : Slot "callable_iterator" "__next__" "callable_iterator.__next__" :=
  .of (owner := "callable_iterator") (n := "__next__") (by rw [typeLookup_type, builtinLookup_eq_fast]; kernel_rfl) (by decide +kernel) (by decide +kernel) (by decide +kernel)
    (by first | exact .inl (by decide +kernel) | exact .inr (by decide +kernel)) (by rw [isSubtype_type]; kernel_rfl)
theorem entry_ci_next : entryFor table "callable_iterator.__next__" = some Builtin.«callable_iterator.__next__» := entryFor_of_tree (by kernel_rfl)
theorem args_ci_next (a : Value) : argsOk "callable_iterator.__next__" ⟨[a], []⟩ := by unfold argsOk; kernel_rfl
theorem slot_ci_iter : Slot "callable_iterator" "__iter__" "callable_iterator.__iter__" :=
  .of (owner := "callable_iterator") (n := "__iter__") (by rw [typeLookup_type, builtinLookup_eq_fast]; kernel_rfl) (by decide +kernel) (by decide +kernel) (by decide +kernel)
    (by first | exact .inl (by decide +kernel) | exact .inr (by decide +kernel)) (by rw [isSubtype_type]; kernel_rfl)
theorem entry_ci_iter : entryFor table "callable_iterator.__iter__" = some Builtin.«dict_keyiterator.__iter__» :=
  entryFor_alias (id' := "dict_keyiterator.__iter__") (by kernel_rfl) (by first | rfl | decide +kernel | (unfold String.splitOn; simp +decide [String.splitOnAux])) (by decide +kernel) (by kernel_rfl)
theorem args_ci_iter (a : Value) : argsOk "callable_iterator.__iter__" ⟨[a], []⟩ := by unfold argsOk; kernel_rfl
theorem slot_meth_call : Slot "method" "__call__" "method.__call__" :=
  .of (owner := "method") (n := "__call__") (by rw [typeLookup_type, builtinLookup_eq_fast]; kernel_rfl) (by decide +kernel) (by decide +kernel) (by decide +kernel)
    (by first | exact .inl (by decide +kernel) | exact .inr (by decide +kernel)) (by rw [isSubtype_type]; kernel_rfl)
namespace KI
theorem kind_iter : builtinKind "iter" = none := by decide +kernel
theorem plain_iter : plainId "iter" = true := by decide +kernel
theorem entry_iter : entryFor table "iter" = some Builtin.«iter» := entryFor_of_tree (by kernel_rfl)
theorem args_iter_2 (a b : Value) : argsOk "iter" ⟨[a, b], []⟩ := by unfold argsOk; kernel_rfl
end KI

abbrev ciObj (b : Addr) (t : Tok) : Obj := { cls := .type "callable_iterator", data := .fields #[.ref b, .str (Str.ofString "") t, .bool false] }
section
variable {prog : Program} {w : World} {A : Around} {s : Shared} {E : Value → Shared → Prop} {α : Type} {M : Model}
theorem wpAny_callBorrowed {f : Value} {pos : List Value} {Q : Value → Shared → Prop}
    (hc : codeAny M A (.call f ⟨pos, []⟩) (fun r s' => match r with | .ok (.ret v) => Q v s' | .ok _ => False | .error e => E e s') s) :
    wpAny M A (callBorrowed f pos) Q E s := fun Γ p hΓ => by
  have := hc _ p rfl (hΓ.enter (.call f ⟨pos, []⟩) none p (by intro x; cases x))
  unfold callBorrowed
  rw [Sem.wp_call]
  refine wpCode_mono (fun r s' h => ?_) this
  cases r with
  | error e => exact h
  | ok f => cases f <;> exact h
theorem call_iter2 {b f : Addr} {x : Value} {t : Tok} {Q : Value → Shared → Prop} (hb : s.heap.get? b = some (methodObj (.ref f) x))
    (h : Q (.ref s.heap.objs.size) { s with heap := s.heap.push (ciObj b t) }) :
    wpAny (model prog w) A (call (.builtin "iter") [.ref b, .str (Str.ofString "") t]) Q E s := by
  have hT : s.TypeIs (.ref b) "method" := ⟨_, hb, rfl⟩
  refine Calls.call_function_entry KI.kind_iter KI.plain_iter KI.entry_iter (KI.args_iter_2 _ _) ?_
  unfold Builtin.«iter»
  refine wpAny_bind (wpAny_of_eq (a := [.ref b, .str (Str.ofString "") t]) (by first | rfl | kernel_rfl) ?_)
  dsimp only
  refine wpAny_bind (wpAny_specialOf hT slot_meth_call.lookup ?_)
  refine wpAny_bind (wpAny_rule ?_)
  refine wpAny_bind (wpAny_newObj_type ?_ (by size_fits))
  exact wpAny_pure ⟨_, rfl, h⟩
theorem wpAny_borrows {b f : Addr} {x : Value} {fo : Obj} {fd : FuncData} {Q : Bool → Shared → Prop} (hb : s.heap.get? b = some (methodObj (.ref f) x)) (hf : s.heap.get? f = some fo) (hfd : fo.data = .func fd)
    (h : Q true s) : wpAny M A (borrowsExactly (.ref b)) Q E s := by
  unfold borrowsExactly
  refine wpAny_bind (wpAny_load hb ?_)
  dsimp only
  rw [if_pos (by rfl)]
  show wpAny M A (load f >>= _) _ _ _
  refine wpAny_bind (wpAny_load hf ?_)
  rw [hfd]
  exact wpAny_pure h
/-- one turn of the iterator: the method is called; an empty text ends it -/
theorem next_ci {I b f x : Addr} {t : Tok} {fo : Obj} {fd : FuncData} {Q : Option Value → Shared → Prop} (hh : A.handled = none)
    (hI : s.heap.get? I = some (ciObj b t)) (hb : s.heap.get? b = some (methodObj (.ref f) (.ref x))) (hf : s.heap.get? f = some fo) (hfd : fo.data = .func fd)
    (hc : codeAny (model prog w) A.in1 (.call (.ref f) ⟨[.ref x], []⟩) (fun r s' => match r with
      | .ok (.ret v) => ∃ c t', v = .str c t' ∧ s'.heap.get? I = some (ciObj b t) ∧ s'.heap.get? b = some (methodObj (.ref f) (.ref x)) ∧ s'.heap.get? f = some fo ∧
          ((c ≠ Str.ofString "" ∧ Q (some v) s') ∨ (c = Str.ofString "" ∧ ∀ h', Heap.ExtBut I s'.heap h' → Q none { s' with heap := h' }))
      | .ok _ => False | .error e => False) s) :
    wpAny (model prog w) A (pyNext (.ref I)) Q E s := by
  have hT : s.TypeIs (.ref I) "callable_iterator" := ⟨_, hI, rfl⟩
  unfold pyNext
  refine wpAny_bind (wpAny_attempt (wpAny_callSpecial?_slot (name := Str.ofString "__next__") hT slot_ci_next
    (wpAny_call_entry slot_ci_next hT entry_ci_next ?_ (args_ci_next _))))
  unfold Builtin.«callable_iterator.__next__»
  refine wpAny_bind (wpAny_of_eq (a := (Value.ref I, [])) rfl ?_)
  try dsimp only
  refine wpAny_bind (wpAny_field hI rfl (x := .bool false) rfl ?_)
  rw [if_neg (by decide)]
  try dsimp only
  refine wpAny_bind (wpAny_field hI rfl (x := .ref b) rfl ?_)
  refine wpAny_bind (wpAny_attempt ?_)
  unfold callOutOfASlot
  refine wpAny_bind (wpAny_borrows hb hf hfd ?_)
  rw [if_pos rfl]
  refine wpAny_callBorrowed ?_
  refine method_call hb (codeAny_mono hc fun r s' hr => ?_)
  cases r with
  | error e => exact hr.elim
  | ok fl =>
    cases fl with
    | ret v => 
      obtain ⟨c, t', rfl, hI', hb', hf', hcase⟩ := hr
      dsimp only
      refine wpAny_bind (wpAny_field hI' rfl (x := .bool false) rfl ?_)
      rw [if_neg (by decide)]
      try dsimp only
      refine wpAny_bind (wpAny_field hI' rfl (x := .str (Str.ofString "") t) rfl ?_)
      refine wpAny_bind (wpAny_holding (wpAny_eqBool_str ?_))
      rcases hcase with ⟨hne, hq⟩ | ⟨rfl, hq⟩
      · rw [decide_eq_false (fun e => hne e.symm)]
        first
        | exact wpAny_bind (wpAny_pure ⟨_, rfl, wpAny_pure hq⟩)
        | exact wpAny_pure ⟨_, rfl, wpAny_pure hq⟩
        | trace_state
      · rw [decide_eq_true rfl]
        refine wpAny_bind (wpAny_rule ?_)
        refine wpAny_bind ?_
        show wpAny _ _ (field (.ref I) 0 >>= _) _ _ _
        refine wpAny_bind (wpAny_field hI' rfl (x := .ref b) rfl ?_)
        refine wpAny_bind ?_
        unfold slotLetsGo
        dsimp only
        refine wpAny_bind (wpAny_borrows hb' hf' hfd ?_)
        rw [if_pos rfl]
        try dsimp only
        refine wpAny_pure ?_
        try dsimp only
        refine wpAny_bind (wpAny_setField_rec hI' (by simp) fun h₁ e₁ k₁ => ?_)
        refine wpAny_bind (wpAny_setField_rec e₁ (by simp) fun h₂ e₂ k₂ => ?_)
        refine wpAny_setField_rec e₂ (by simp) fun h₃ e₃ k₃ => ?_
        show wpAny _ _ (newExc (.type "StopIteration") [] >>= _) _ _ _
        refine wpAny_bind ?_
        simp only [newExc, newTuple]
        refine wpAny_bind (wpAny_newObj_type ?_ (by size_fits))
        refine wpAny_bind (m := firstArgMember _ _) (wpAny_of_eq (a := Value.none) (by first | rfl | (simp only [firstArgMember]; rfl)) ?_)
        refine wpAny_newObj_type ?_ (by size_fits)
        simp only [raiseNew]
        refine wpAny_bind (wpAny_handled ?_)
        first | rw [show A.in1.handled = none from hh] | rw [hh]
        refine wpAny_bind (wpAny_pure (wpAny_throw ?_))
        refine wpAny_bind (wpAny_isInstance (T := "StopIteration") (b := true) ⟨_, Heap.get?_push_size _ rfl, rfl⟩ isSubtype_stop ?_)
        exact wpAny_pure (hq _ ((((k₁.extBut.trans k₂.extBut).trans k₃.extBut).push _).push _))
    | _ => exact hr.elim
theorem wpAny_pyIter_ci {I b : Addr} {t : Tok} {Q : Value → Shared → Prop} (hI : s.heap.get? I = some (ciObj b t)) (h : Q (.ref I) s) : wpAny (model prog w) A (pyIter (.ref I)) Q E s := by
  have hT : s.TypeIs (.ref I) "callable_iterator" := ⟨_, hI, rfl⟩
  refine wpAny_pyIter_slot hT slot_ci_iter (wpAny_call_entry slot_ci_iter hT entry_ci_iter ?_ (args_ci_iter _))
  show wpAny _ _ (ret (.ref I)) _ _ s
  exact wpAny_pure ⟨_, rfl, "callable_iterator", _, hT, slot_ci_next.lookup, h⟩
end
end
section
open PySem PySem.W PyProof.Rows
open PySem.Builtin PySem.Builtin.Str
set_option maxRecDepth 100000
set_option maxHeartbeats 8000000

section
variable {prog : Program} {w : World} {A : Around} {E : Value → Shared → Prop} {s : Shared} {Q : Value → Shared → Prop} {h₀ : Heap} {L D l : Addr} {news : List (Addr × Obj)} {k k₂ : Nat}
theorem eq_empty {ys : List Value} (N : News h₀ L s.heap news) (hD : (D, W.listOf ys.toArray k) ∈ news) (hl : (l, W.listOf ([] : List Value).toArray k₂) ∈ news) (hu : A.units < cLine) (h : Q (.bool ys.isEmpty) s) :
    wpAny (model prog w) A (compareOp .Eq (.ref D) (.ref l)) Q E s := by
  cases ys with
  | nil => exact PySem.SeqAt.eq_listAt (e := fun _ => true) (isList_of N hD) (isList_of N hl) rfl hu (fun j h1 _ => absurd h1 (Nat.not_lt_zero _)) h
  | cons y ys => exact PySem.SeqAt.eq_list_lengthsAt (isList_of N hD) (isList_of N hl) rfl hu h
theorem ne_empty {ys : List Value} {ns : List Int} (N : News h₀ L s.heap news) (hD : (D, W.listOf ys.toArray k) ∈ news) (hl : (l, W.listOf ([] : List Value).toArray k₂) ∈ news) (hu : A.units + 64 < cLine) (hi : IntsAre ys ns) (h : Q (.bool (!ys.isEmpty)) s) :
    wpAny (model prog w) A (compareOp .NotEq (.ref D) (.ref l)) Q E s := by
  refine ke_ne_ints (isList_of N hD) (isList_of N hl) hi .nil hu ?_
  have : decide (ns = []) = ys.isEmpty := by cases hi <;> simp
  rw [this]; exact h
theorem car_strs : ∀ {vs : List Value} {xs : List Str}, StrsAre vs xs → CarriedAll vs (xs.map PyData.str)
  | _, _, .nil => .nil
  | _, _, .cons _ t r => .cons (.str _ t) (car_strs r)
theorem cl_strs : ∀ ns : List Str, (∀ x ∈ ns, PyData.strOk x = true) → PyData.canLayAll0 (ns.map PyData.str) = true
  | [], _ => rfl
  | x :: r, h => by simp [PyData.canLayAll0, PyData.canLay0, cl_strs r fun y hy => h y (.tail _ hy), h x (.head _)]
theorem dp_strs : ∀ ns : List Str, PyData.depthAll (ns.map PyData.str) = 0
  | [] => rfl
  | _ :: r => by simp [PyData.depthAll, PyData.depth, dp_strs r]
theorem sh_strs (ns : List Str) (h : ∀ x ∈ ns, PyData.strOk x = true) : SeqAt.shaped (.list (ns.map PyData.str)) = true := by
  simp [SeqAt.shaped, PyData.canLay0, PyData.depth, cl_strs ns h, dp_strs]
theorem sm_strs : ∀ ns ms : List Str, PySem.Spec.sameAll (ns.map PyData.str) (ms.map PyData.str) = decide (ns = ms)
  | [], [] => by simp [PySem.Spec.sameAll]
  | [], _ :: _ => by simp [PySem.Spec.sameAll]
  | _ :: _, [] => by simp [PySem.Spec.sameAll]
  | a :: r, b :: t => by
    simp only [List.map_cons, PySem.Spec.sameAll, PySem.Spec.same, sm_strs r t]
    by_cases h : a = b <;> by_cases h' : r = t <;> simp [h, h']
theorem ss_strs (ns ms : List Str) : PySem.Spec.same (.list (ns.map PyData.str)) (.list (ms.map PyData.str)) = decide (ns = ms) := by
  simp only [PySem.Spec.same]; exact sm_strs ns ms
theorem nm_strs (ns ms : List Str) : PySem.SeqAt.noMix (.list (ns.map PyData.str)) (.list (ms.map PyData.str)) = true :=
  PySem.SeqAt.noMix_of_shape (.list .str) rfl _ _ (list_map_has fun _ => rfl) (list_map_has fun _ => rfl)
theorem eq_strs {vs ws : List Value} {xs ys : List Str} (N : News h₀ L s.heap news) (hD : (D, W.listOf vs.toArray k) ∈ news) (hl : (l, W.listOf ws.toArray k₂) ∈ news) (hx : StrsAre vs xs) (hy : StrsAre ws ys) (ox : ∀ x ∈ xs, PyData.strOk x = true) (oy : ∀ x ∈ ys, PyData.strOk x = true) (hu : A.units + 64 < cLine) (h : Q (.bool (decide (xs = ys))) s) :
    wpAny (model prog w) A (compareOp .Eq (.ref D) (.ref l)) Q E s :=
  eq_dataH_same (reads_newData (isList_of N hD) (car_strs hx)) (reads_newData (isList_of N hl) (car_strs hy)) (sh_strs _ ox) (sh_strs _ oy) hu (nm_strs _ _) (by rw [ss_strs]; exact h)
theorem ne_strs {vs ws : List Value} {xs ys : List Str} (N : News h₀ L s.heap news) (hD : (D, W.listOf vs.toArray k) ∈ news) (hl : (l, W.listOf ws.toArray k₂) ∈ news) (hx : StrsAre vs xs) (hy : StrsAre ws ys) (ox : ∀ x ∈ xs, PyData.strOk x = true) (oy : ∀ x ∈ ys, PyData.strOk x = true) (hu : A.units + 64 < cLine) (h : Q (.bool (!decide (xs = ys))) s) :
    wpAny (model prog w) A (compareOp .NotEq (.ref D) (.ref l)) Q E s :=
  ne_dataH_same (reads_newData (isList_of N hD) (car_strs hx)) (reads_newData (isList_of N hl) (car_strs hy)) (sh_strs _ ox) (sh_strs _ oy) hu (nm_strs _ _) (by rw [ss_strs]; exact h)
end
end
section
open PySem PySem.W PyProof.Rows
open PySem.Builtin PySem.Builtin.Str
set_option maxRecDepth 100000
set_option maxHeartbeats 8000000

theorem item_first {x : Str} (h : 1 ≤ x.length) : Txt.item x 0 = S ((ls x).take 1) := by
  rw [item_meets ⟨Int.le_refl _, by lia  ⟩]
  apply str_ext
  rw [ls_S]
  show [x.cps.getD 0 0] = _
  obtain ⟨⟨l⟩⟩ := x
  match l, h with
  | a :: l, _ => rfl
theorem item_last {x : Str} (h : 1 ≤ x.length) : Txt.item x (-1) = S ((ls x).drop (x.length - 1)) := by
  have hl : (ls x).length = x.length := ls_length x
  have hlt : x.length - 1 < (ls x).length := by lia  
  have e : x.cps[((-1 : Int) + x.length).toNat]? = some ((ls x)[x.length - 1]) := by
    have : ((-1 : Int) + x.length).toNat = x.length - 1 := by lia  
    rw [this, ← Array.getElem?_toList]
    exact List.getElem?_eq_getElem hlt
  unfold Txt.item Txt.charAt
  rw [StrLaws.at_neg (by decide) (by lia  ) e]
  apply str_ext
  show [_] = _
  rw [List.drop_eq_getElem_cons hlt, List.drop_eq_nil_of_le (by lia  )]
  rfl
end
section
open PySem PySem.W PyProof.Rows
open PySem.Builtin PySem.Builtin.Str
set_option maxRecDepth 100000
set_option maxHeartbeats 8000000

noncomputable def Stop (p : Prop) : Prop := p
theorem stop_here {p : Prop} (h : Stop p) : p := h
inductive RowMid (h₀ : Heap) (L : Addr) (m : Str → Option Value) (news : List (Addr × Obj)) (x : Str) (PP : List Value → Prop) (s s' : Shared) : Prop
  | mk (h' : Heap) (tk : Nat) (l : Addr) (vs : List Value) (k : Nat) (e : s' = { s with heap := h', toks := tk }) (F : Fr h₀ L h' (fun y => if y = x then some (.ref l) else m y)) (N : News h₀ L h' ((l, W.listOf vs.toArray k) :: news)) (hl : ∀ p ∈ news, p.1 < l) (hp : PP vs) : RowMid h₀ L m news x PP s s'
section
variable {prog : Program} {w : World} {A : Around} {s : Shared} {env : Env} {h₀ : Heap} {E : Value → Shared → Prop}
theorem cut_row {st : Stmt} {rest : List Stmt} {Q : Flow → Shared → Prop} {L l₀ : Addr} {o₀ : Obj} {m : Str → Option Value} {news : List (Addr × Obj)} (x : Str) (PP : List Value → Prop)
    (_F : Fr h₀ L s.heap m) (_N : News h₀ L s.heap ((l₀, o₀) :: news))
    (h1 : wpAny (model prog w) A (exec st env) (fun f s' => f = .next ∧ RowMid h₀ L m news x PP s s') E s)
    (h2 : ∀ h' tk l vs k, Fr h₀ L h' (fun y => if y = x then some (.ref l) else m y) → News h₀ L h' ((l, W.listOf vs.toArray k) :: news) → (∀ p ∈ news, p.1 < l) → PP vs →
      wpAny (model prog w) A (execs rest env) Q E { s with heap := h', toks := tk }) : wpAny (model prog w) A (execs (st :: rest) env) Q E s := by
  refine wpAny_execs_cons (wpAny_mono h1 (fun f s' h => ?_) fun _ _ e => e)
  obtain ⟨rfl, h', tk, l, vs, k, rfl, F, N, hl, hp⟩ := h
  exact h2 h' tk l vs k F N hl hp
end
end
section
open PySem PySem.W PyProof.Rows
open PySem.Builtin PySem.Builtin.Str
set_option maxRecDepth 100000
set_option maxHeartbeats 8000000

/-! a loop whose target is a cell -/
section
variable {prog : Program} {w : World} {A : Around} {s : Shared} {env : Env} {h₀ : Heap} {E : Value → Shared → Prop}
inductive ForCI (St : Nat → Heap → Prop) (c : Addr) (h₀ : Heap) (L : Addr) (wr : List Addr) (J : Nat → (Str → Option Value) → List (Addr × Obj) → Array GenState → Prop) (n : Nat) (s : Shared) (k : Nat) (s' : Shared) : Prop
  | mk (h' : Heap) (tk : Nat) (g : Array GenState) (m' : Str → Option Value) (news' : List (Addr × Obj)) (i : Nat) (o : Obj) (v : Option Value) (e : s' = { s with heap := h', toks := tk, gens := g }) (hd : o.data = .cell v) (hst : St i h') (F : Fr h₀ L h' m') (N : News h₀ L h' ((c, o) :: news')) (hnw : ∀ p ∈ news', p.1 ∉ c :: wr) (hJ : J i m' news' g) (hi : i ≤ n) (hk : k = n + 1 - i) : ForCI St c h₀ L wr J n s k s'
theorem forC {R : Result → Shared → Prop} {x : Str} {px : Pos} {body : List Stmt} {I c : Addr} {fp wr : List Addr} {n : Nat} {P : Nat → Value → Prop} {St : Nat → Heap → Prop} {m : Str → Option Value}
    {news : List (Addr × Obj)} {o₀ : Obj} {v₀ : Option Value} (W : Walks prog w A I fp wr n P St) (hk : env.scope.kind = .function) (hx : env.kindOf x = some .cell) (hc : env.cells.lookup x = some c)
    (hLf : env.locals ∉ fp) (hcf : c ∉ fp) (hwr : ∀ b ∈ wr, h₀.get? b = none) (hnw : ∀ p ∈ news, p.1 ∉ c :: wr) (hd : o₀.data = .cell v₀)
    (hst : St 0 s.heap) (F : Fr h₀ env.locals s.heap m) (N : News h₀ env.locals s.heap ((c, o₀) :: news))
    (J : Nat → (Str → Option Value) → List (Addr × Obj) → Array GenState → Prop) (h0 : J 0 m news s.gens)
    (step : ∀ i v m₁ news₁ o h tk g own, i < n → P i v → J i m₁ news₁ g → (∀ p ∈ news₁, p.1 ∉ c :: wr) → (∀ p ∈ own, p.1 ∈ fp) → o.data = .cell (some v) →
      St (i + 1) h → Fr h₀ env.locals h m₁ → News h₀ env.locals h ((c, o) :: (news₁ ++ own)) →
      wpAny (model prog w) A (execs body env) (TurnPost h₀ env.locals (c :: wr) ((c, o) :: own) (J (i + 1)) s fun f s' => R (.ok f) s') (notedBy (model prog w) A env fun e s' => R (.error e) s') { s with heap := h, toks := tk, gens := g })
    (hR : ∀ h' tk g m' news' o v, o.data = .cell v → Fr h₀ env.locals h' m' → News h₀ env.locals h' ((c, o) :: news') → J n m' news' g → R (.ok .next) { s with heap := h', toks := tk, gens := g }) :
    codeAny (model prog w) A (.forLoop (.Name x px) (.ref I) body [] env) R s := by
  have hLw : env.locals ∉ wr := fun h => hLf (W.sub _ h)
  have hcw : c ∉ wr := fun h => hcf (W.sub _ h)
  have old : ∀ b o, h₀.get? b = some o → b ∉ wr := fun b o e hb => by rw [hwr b hb] at e; cases e
  refine codeAny_forLoop
    (ForCI St c h₀ env.locals wr J n s) ?_ (n + 1)
    ⟨s.heap, s.toks, s.gens, m, news, 0, o₀, v₀, rfl, hd, hst, F, N, hnw, h0, Nat.zero_le _, rfl⟩
  rintro k s' ⟨h', tk, g, m', news', i, o, v, rfl, hd', hst', F', N', hnw', hJ, hi, rfl⟩
  have hnw2 : ∀ p ∈ (c, o) :: news', p.1 ∉ wr := fun p hp => by
    rcases List.mem_cons.mp hp with rfl | hp
    · exact hcw
    · exact fun q => hnw' p hp (.tail _ q)
  have next : ∀ h₁ : Heap, (∀ b o, b ∉ wr → h'.get? b = some o → h₁.get? b = some o) → Fr h₀ env.locals h₁ m' ∧ News h₀ env.locals h₁ ((c, o) :: news') := fun h₁ hk₁ =>
    ⟨⟨F'.ns.at' fun o e => hk₁ _ o hLw e, fun b o e => hk₁ b o (old b o e) (F'.keep b o e), F'.above⟩, fun p hp => ⟨hk₁ _ _ (hnw2 p hp) (N' p hp).1, (N' p hp).2⟩⟩
  by_cases hlt : i < n
  · refine W.item i _ _ _ hlt hst' fun v₁ h₁ tk₁ hP hst₁ hk₁ => ?_
    obtain ⟨F₁, N₁⟩ := next h₁ hk₁
    have hcN := N₁ _ (.head _)
    refine wpAny_assign_Name (wpAny_storeName_cell hk hx hc ⟨o, hcN.1, hd'⟩ fun h₂ hv₂ hs₂ => ?_)
    obtain ⟨o₂, ho₂, hd₂⟩ := hv₂
    have F₂ : Fr h₀ env.locals h₂ m' := ⟨F₁.ns.at' fun o e => hs₂.extBut _ o (Ne.symm hcN.2.1) e, fun b o e => hs₂.extBut b o (fun q => by rw [q, hcN.2.2] at e; cases e) (F₁.keep b o e), F₁.above⟩
    have Nown : News h₀ env.locals h₂ (ownOf h₀ fp h₂) := news_ownOf hLf
    have Nn : News h₀ env.locals h₂ news' := fun p hp => ⟨hs₂.extBut _ _ (fun q => hnw' p hp (q ▸ .head _)) (N₁ p (.tail _ hp)).1, (N₁ p (.tail _ hp)).2⟩
    have Nc : News h₀ env.locals h₂ ((c, o₂) :: (news' ++ ownOf h₀ fp h₂)) := fun p hp => by
      rcases List.mem_cons.mp hp with rfl | hp
      · exact ⟨ho₂, hcN.2⟩
      · exact news_swap (Nown.append Nn) p hp
    have hst₂ : St (i + 1) h₂ := W.frame _ _ _ hst₁ fun b hb o e => hs₂.extBut b o (fun q => hcf (q ▸ hb)) e
    refine wpAny_mono (step i v₁ m' news' o₂ h₂ _ g (ownOf h₀ fp h₂) hlt hP hJ hnw' ownOf_sub hd₂ hst₂ F₂ Nc) (fun f s₃ h₃ => ?_) fun _ _ e => e
    have fin : TurnEnd h₀ env.locals (c :: wr) ((c, o₂) :: ownOf h₀ fp h₂) (J (i + 1)) s s₃ → ∃ m_1, m_1 < n + 1 - i ∧ ForCI St c h₀ env.locals wr J n s m_1 s₃ := by
      rintro ⟨h₃', tk₃, g₃, m₂, news₂, rfl, F₃, N₃, ha₃, hJ₃⟩
      refine ⟨n + 1 - (i + 1), by lia  , h₃', tk₃, g₃, m₂, news₂, i + 1, o₂, some v₁, rfl, hd₂, ?_, F₃, ?_, ha₃, hJ₃, hlt, rfl⟩
      · refine W.frame _ _ _ hst₁ fun b hb o e => ?_
        have e₂ : h₂.get? b = some o := hs₂.extBut b o (fun q => hcf (q ▸ hb)) e
        cases hn : h₀.get? b with
        | some o₀ =>
          have : o₀ = o := by have := F₂.keep b o₀ hn; rw [e₂] at this; exact (Option.some.inj this).symm
          exact this ▸ F₃.keep b o₀ hn
        | none => exact (N₃ _ (List.mem_append_right _ (.tail _ (mem_ownOf hb hn e₂)))).1
      · intro p hp
        rcases List.mem_cons.mp hp with rfl | hp
        · exact N₃ _ (List.mem_append_right _ (.head _))
        · exact N₃ p (List.mem_append_left _ hp)
    cases f with
    | ret v => exact h₃
    | brk => exact h₃
    | cont => exact fin h₃
    | next => exact fin h₃
  · have hin : i = n := by lia  
    subst hin
    refine W.done _ _ _ hst' fun h₁ tk₁ hk₁ => wpAny_execs_nil ?_
    obtain ⟨F₁, N₁⟩ := next h₁ hk₁
    exact hR h₁ tk₁ g m' news' o v hd' F₁ N₁ hJ
noncomputable def LoopCE (prog : Program) (w : World) (A : Around) (env : Env) (x : Str) (px : Pos) (body : List Stmt) (Q : Flow → Shared → Prop) (E : Value → Shared → Prop) (it : Value) (s₂ : Shared) : Prop :=
  ∃ I, it = .ref I ∧ codeAny (model prog w) A (.forLoop (.Name x px) (.ref I) body [] env) (fun r s' => match r with | .ok f => Q f s' | .error e => cameBackBy (model prog w) A env E e s') s₂
theorem For_C {Q : Flow → Shared → Prop} {x : Str} {px pos : Pos} {iter : Expr} {body : List Stmt}
    (h : wpAny (model prog w) A (eval iter env) (fun xv s₁ => wpAny (model prog w) A (pyIter xv) (fun it s₂ => LoopCE prog w A env x px body Q E it s₂) E s₁) E s)
    (hs : ∀ x, foldedSetIterable iter env x = pure x := by intro _; rfl) :
    wpAny (model prog w) A (exec (.For (.Name x px) iter body [] pos) env) Q E s := by
  refine wpAny_For (wpAny_mono h (fun xv s₁ h₁ => wpAny_mono h₁ (fun it s₂ h₂ => ?_) fun _ _ e => e) fun _ _ e => e) hs
  obtain ⟨I, rfl, G⟩ := h₂
  exact G
theorem iter_rangeC {Q : Flow → Shared → Prop} {x : Str} {px : Pos} {body : List Stmt} {r c : Addr} {a b : Int} {t u v' : Tok} {n : Nat} {m : Str → Option Value} {news : List (Addr × Obj)} {o₀ : Obj} {v₀ : Option Value}
    (J : Nat → (Str → Option Value) → List (Addr × Obj) → Array GenState → Prop) (hh : A.handled = none) (hr : IsRange s.heap r a b 1 t u v') (hn : Builtin.Range.rangeSize a b 1 = (n : Int)) (hsm : Builtin.Range.small a b 1 = true)
    (hk : env.scope.kind = .function) (hx : env.kindOf x = some .cell) (hc : env.cells.lookup x = some c) (hd : o₀.data = .cell v₀) (hnc : ∀ p ∈ news, p.1 ≠ c)
    (F : Fr h₀ env.locals s.heap m) (N : News h₀ env.locals s.heap ((c, o₀) :: news))
    (h0 : J 0 m news s.gens)
    (step : ∀ I i tv m₁ news₁ o h tk g own, s.heap.objs.size ≤ I → i < n → J i m₁ news₁ g → (∀ p ∈ news₁, p.1 ∉ [c, I]) → (∀ p ∈ own, p.1 = I) → LT.lt (α := Nat) I h.objs.size → o.data = .cell (some (.int (a + i) tv)) →
      Fr h₀ env.locals h m₁ → News h₀ env.locals h ((c, o) :: (news₁ ++ own)) →
      wpAny (model prog w) A (execs body env) (TurnPost h₀ env.locals [c, I] ((c, o) :: own) (J (i + 1)) s Q) E { s with heap := h, toks := tk, gens := g })
    (done : ∀ h' tk g m' news' o v, o.data = .cell v → Fr h₀ env.locals h' m' → News h₀ env.locals h' ((c, o) :: news') → J n m' news' g → Q .next { s with heap := h', toks := tk, gens := g })
    (hE : PassesOwn (model prog w) A env E := by passes_own) :
    wpAny (model prog w) A (pyIter (.ref r)) (fun it s₂ => LoopCE prog w A env x px body Q E it s₂) E s := by
  refine wpAny_pyIter_range hr hsm ?_
  have W := Walks.range (prog := prog) (w := w) hh s.heap.objs.size a 1 n
  have hcN := N _ (.head _)
  refine ⟨_, rfl, forC (R := fun r s' => match r with | .ok f => Q f s' | .error e => cameBackBy (model prog w) A env E e s') (s := { s with heap := s.heap.push _ }) W hk hx hc ?_ ?_ ?_ ?_ hd ?_ (F.push _) (fun p hp => ⟨Heap.get?_push_of_some _ (N p hp).1, (N p hp).2⟩) J h0 ?_ ?_⟩
  · intro hb
    exact absurd F.ns.lt ((List.mem_singleton.mp hb) ▸ Nat.lt_irrefl _)
  · intro hb
    exact absurd (Heap.lt_size hcN.1) ((List.mem_singleton.mp hb) ▸ Nat.lt_irrefl _)
  · intro b hb
    rw [List.mem_singleton.mp hb]
    exact next_is_new F
  · intro p hp hI
    rcases List.mem_cons.mp hI with q | hI
    · exact hnc p hp q
    · exact absurd (Heap.lt_size (N p (.tail _ hp)).1) ((List.mem_singleton.mp hI) ▸ Nat.lt_irrefl _)
  · have := Heap.get?_push_size (h := s.heap) (o := { cls := .type "range_iterator", data := .fields #[rawInt a, rawInt (Builtin.Range.rangeSize a b 1), rawInt 1] }) rfl
    rw [hn] at this ⊢
    simpa [IsRangeIter] using this
  · intro i v m₁ news₁ o h tk g own hi hP hJ ha hb hd₁ st F₁ N₁
    obtain ⟨tv, rfl⟩ := hP
    rw [Int.mul_one] at hd₁
    exact wpAny_passesOwn hE (wpAny_mono (step s.heap.objs.size i tv m₁ news₁ o h tk g own (Nat.le_refl _) hi hJ ha (fun p hp => List.mem_singleton.mp (hb p hp)) (Heap.lt_size st) hd₁ F₁ N₁) (fun _ _ q => q) fun _ _ q => q)
  · intro h' tk g m' news' o v hv F' N' hJ
    exact done h' tk g m' news' o v hv F' N' hJ
theorem cut_val {t : Sem Value} {Q : Value → Shared → Prop} (r : Value) (h1 : wpAny (model prog w) A t (fun v s' => v = r ∧ ∃ k, s' = { s with toks := k }) E s) (h2 : ∀ k, Q r { s with toks := k }) : wpAny (model prog w) A t Q E s :=
  wpAny_mono h1 (fun v s' h => by obtain ⟨rfl, k, rfl⟩ := h; exact h2 k) fun _ _ e => e
theorem ints_item {vs : List Value} {ns : List Int} (h : IntsAre vs ns) {i : Nat} {v : Value} (hv : vs[i]? = some v) : ∃ n t, v = .int n t ∧ ns[i]? = some n := by
  obtain ⟨n, t, e, hn⟩ := h.at i v hv
  exact ⟨n, t, e, hn⟩
theorem ints_snoc : ∀ {ys : List Value} {ns : List Int} (_ : IntsAre ys ns) (n : Int) (t : Tok), IntsAre (ys ++ [.int n t]) (ns ++ [n])
  | _, _, .nil, n, t => .cons n t .nil
  | _, _, .cons x t' r, n, t => .cons x t' (ints_snoc r n t)
theorem take_filter_yes {α : Type} (l : List α) (p : α → Bool) {i : Nat} {d : α} (h : l[i]? = some d) (hp : p d = true) : (l.take (i + 1)).filter p = (l.take i).filter p ++ [d] := by
  rw [List.take_add_one, h, List.filter_append]; simp [hp]
theorem take_filter_no {α : Type} (l : List α) (p : α → Bool) {i : Nat} {d : α} (h : l[i]? = some d) (hp : p d = false) : (l.take (i + 1)).filter p = (l.take i).filter p := by
  rw [List.take_add_one, h, List.filter_append]; simp [hp]
end
end
section
open PySem PySem.W PyProof.Rows
open PySem.Builtin PySem.Builtin.Str
set_option maxRecDepth 100000
set_option maxHeartbeats 8000000

theorem pair_back {m₁ m : Str → Option Value} {xi xc : Str} {v w : Option Value} (h : Off [xi, xc] m m₁) : Off [xi, xc] m (fun y => if y = xc then v else if y = xi then w else m₁ y) := fun z hz => by
  have h1 : z ≠ xc := fun e => hz (by simp [e])
  have h2 : z ≠ xi := fun e => hz (by simp [e])
  show (if z = xc then v else if z = xi then w else m₁ z) = _
  rw [if_neg h1, if_neg h2, h z hz]
theorem pair_eq {m₁ m : Str → Option Value} {xi xc : Str} {v w : Option Value} (h : Off [xi, xc] m m₁) : (fun y => if y = xc then v else if y = xi then w else m₁ y) = fun y => if y = xc then v else if y = xi then w else m y := by
  funext y
  by_cases e : y = xc
  · rw [if_pos e, if_pos e]
  · rw [if_neg e, if_neg e]
    by_cases e' : y = xi
    · rw [if_pos e', if_pos e']
    · rw [if_neg e', if_neg e', h y (by simp [e, e'])]
section
variable {prog : Program} {w : World} {A : Around} {s : Shared} {env : Env} {h₀ : Heap} {E : Value → Shared → Prop}
theorem zip_loop {Q : Flow → Shared → Prop} {xi xc : Str} {body : List Stmt} {l1 l2 : Addr} {xs ys : List Value} {k1 k2 : Nat} {m : Str → Option Value} {news : List (Addr × Obj)}
    (hh : A.handled = none) (F : Fr h₀ env.locals s.heap m) (N : News h₀ env.locals s.heap news) (m1 : (l1, W.listOf xs.toArray k1) ∈ news) (m2 : (l2, W.listOf ys.toArray k2) ∈ news)
    (step : ∀ (i : Nat) v0 v1 h tk own, xs[i]? = some v0 → ys[i]? = some v1 → Fr h₀ env.locals h (fun y => if y = xc then some v1 else if y = xi then some v0 else m y) → News h₀ env.locals h (own ++ news) →
      wpAny (model prog w) A (execs body env) (fun f s' => f = .next ∧ ∃ h' tk', s' = { s with heap := h', toks := tk' } ∧ Fr h₀ env.locals h' (fun y => if y = xc then some v1 else if y = xi then some v0 else m y) ∧ News h₀ env.locals h' (own ++ news)) E { s with heap := h, toks := tk })
    (done : ∀ h' tk m', Off [xi, xc] m m' → Fr h₀ env.locals h' m' → News h₀ env.locals h' news → Q .next { s with heap := h', toks := tk }) :
    wpAny (model prog w) A (call (.type "zip") [.ref l1, .ref l2]) (fun xv s₁ => wpAny (model prog w) A (pyIter xv) (fun it s₂ => PairAt3 prog w A h₀ env xi xc body Q E it s₂) E s₁) E s := by
  have hl1 : s.heap.IsList l1 xs.toArray := isList_of N m1
  have hl2 : s.heap.IsList l2 ys.toArray := isList_of N m2
  have lt1 : l1 < s.heap.objs.size := Heap.lt_size (N _ m1).1
  have lt2 : l2 < s.heap.objs.size := Heap.lt_size (N _ m2).1
  have hLt : env.locals < s.heap.objs.size := F.ns.lt
  refine call_zip_2 hl1 hl2 fun h' z1 z2 z3 z4 z5 _ hk => ?_
  refine wpAny_pyIter_zip z1 ?_
  have D := ktu_apart s.heap.objs.size l1 l2 lt1 lt2
  have W := WalksT.zip2 (prog := prog) (w := w) hh (s.heap.objs.size + 4) (s.heap.objs.size + 2) (s.heap.objs.size + 3) s.heap.objs.size (s.heap.objs.size + 1) l1 l2 D xs.toArray ys.toArray
  have F₁ : Fr h₀ env.locals h' m := ⟨F.ns.at' fun o e => hk _ o e, fun b o e => hk b o (F.keep b o e), F.above⟩
  have N₁ : News h₀ env.locals h' news := fun p hp => ⟨hk _ _ (N p hp).1, (N p hp).2⟩
  have big : ∀ b, b ∈ [s.heap.objs.size + 4, s.heap.objs.size + 3, s.heap.objs.size, s.heap.objs.size + 1] → LE.le (α := Nat) s.heap.objs.size b := fun b hb => by
    simp only [List.mem_cons, List.not_mem_nil, or_false] at hb
    rcases hb with q | q | q | q <;> rw [q] <;> lia  
  refine ⟨_, _, _, _, _, _, _, fun (i : Nat) v0 v1 => xs[i]? = some v0 ∧ ys[i]? = some v1, m, news, fun _ m₁ n₁ => n₁ = news ∧ Off [xi, xc] m m₁, rfl, W, ?_, ?_, ?_, ?_, ⟨z1, z2, ⟨_, _, z3⟩, z4, z5, hl1.at fun o e => hk _ o e, hl2.at fun o e => hk _ o e⟩, F₁, N₁, ⟨rfl, Off.refl⟩, ?_, ?_⟩
  · rintro i vals ⟨x, y, hx, hy, rfl⟩
    exact ⟨x, y, rfl, by simpa using hx, by simpa using hy⟩
  · intro hb
    simp only [List.mem_cons, List.not_mem_nil, or_false] at hb
    have hLt' : LT.lt (α := Nat) env.locals s.heap.objs.size := hLt
    rcases hb with q | q | q | q | q | q | q
    · rw [q] at hLt'; lia  
    · rw [q] at hLt'; lia  
    · rw [q] at hLt'; lia  
    · rw [q] at hLt'; lia  
    · rw [q] at hLt'; lia  
    · exact (N _ m1).2.1 q.symm
    · exact (N _ m2).2.1 q.symm
  · intro b hb
    exact ktu_new F (big b hb)
  · intro p hp hb
    exact absurd (Heap.lt_size (N p hp).1) (Nat.not_lt.mpr (big _ hb))
  · rintro i v0 v1 m₁ news₁ s₁ own ⟨h, tk, rfl⟩ hi ⟨hx, hy⟩ ⟨rfl, hm⟩ ha hb F₂ N₂
    rw [pair_eq hm] at F₂
    refine wpAny_mono (step i v0 v1 h tk own hx hy F₂ N₂) (fun f s' hs => ?_) fun _ _ e => e
    obtain ⟨rfl, h₃, tk₃, rfl, F₃, N₃⟩ := hs
    exact ⟨rfl, h₃, tk₃, _, news₁, rfl, F₃, N₃, rfl, rfl, pair_back Off.refl⟩
  · rintro h₃ tk m' news' F₃ N₃ ha ⟨rfl, hm⟩
    exact done h₃ tk m' hm F₃ N₃
end
end
section
open PySem PySem.W PyProof.Rows
open PySem.Builtin PySem.Builtin.Str
set_option maxRecDepth 100000
set_option maxHeartbeats 8000000

/-- as Ct, with a word on the heap that the frame stands on -/
noncomputable def CtP (k : Nat) (w : World) (mean : ExcName → Option Value) (mg mb : Str → Option Value) (Pre : Heap → Prop) (f : Addr) (news : List (Addr × Obj)) (vs : List Value)
    (post : Value → List (Addr × Obj) → Array GenState → Array GenState → Prop) : Prop :=
  ∀ (dp un : Nat) (gd : Option (List Code)) (cn : Str) (cs : Scope) (a : Addr) (ccd : Value) (cl : List (Str × Addr)) (outer : List Env) (A₀ : Around) (base h₀ : Heap) (L : Addr) (m : Str → Option Value) (s : Shared) (Q E : Value → Shared → Prop),
    Pre h₀ → Below A₀ base outer h₀ → Fr h₀ L s.heap m → (Mine.hd.heap_39 w.params).In h₀ → News h₀ L s.heap news → Top topProg LLo mean mg mb h₀ → cs.kind = .function → dp + k < recursionLimit → un + 8 * k < cLine →
    (∀ v news' h' tk' g', post v news' s.gens g' → Fr h₀ L h' m → News h₀ L h' news' → Q v { s with heap := h', toks := tk', gens := g' }) →
    wpAny (model PySem.Challenge.rw_re0036_02.row.prog w) (ktrTop dp un gd cn cs L a ccd cl outer) (call (.ref f) vs) Q E s
section
variable {k : Nat} {w : World} {mean : ExcName → Option Value} {mg mb : Str → Option Value} {f : Addr} {news : List (Addr × Obj)} {vs : List Value} {post : Value → List (Addr × Obj) → Array GenState → Array GenState → Prop} {Pre : Heap → Prop}
theorem CtP.use (C : CtP k w mean mg mb Pre f news vs post) {dp un : Nat} {gd : Option (List Code)} {cn : Str} {cs : Scope} {a : Addr} {ccd : Value} {cl : List (Str × Addr)} {outer : List Env} {A₀ : Around} {base h₀ : Heap} {L : Addr} {m : Str → Option Value} {s : Shared} {Q E : Value → Shared → Prop}
    (P : Pre h₀) (B : Below A₀ base outer h₀) (F : Fr h₀ L s.heap m) (X : (Mine.hd.heap_39 w.params).In h₀) (N : News h₀ L s.heap news) (T : Top topProg LLo mean mg mb h₀) (hk : cs.kind = .function) (hd : dp + k < recursionLimit) (hu : un + 8 * k < cLine)
    (ret : ∀ v news' h' tk' g', post v news' s.gens g' → Fr h₀ L h' m → News h₀ L h' news' → Q v { s with heap := h', toks := tk', gens := g' }) :
    wpAny (model PySem.Challenge.rw_re0036_02.row.prog w) (ktrTop dp un gd cn cs L a ccd cl outer) (call (.ref f) vs) Q E s := C _ _ _ _ _ _ _ _ _ _ _ _ _ _ _ _ _ P B F X N T hk hd hu ret
end
end
section
open PySem PySem.W PyProof.Rows
open PySem.Builtin PySem.Builtin.Str
set_option maxRecDepth 100000
set_option maxHeartbeats 8000000

inductive EnumI (h₀ : Heap) (L : Addr) (own news₁ : List (Addr × Obj)) (J : (Str → Option Value) → List (Addr × Obj) → Prop) (g : Array GenState) (dr : Drawn) (os : OsState) (f : Flow) (s' : Shared) : Prop
  | mk (hf : f = .next) (h' : Heap) (tk' : Nat) (m₂ : Str → Option Value) (news₂ : List (Addr × Obj)) (e : s' = ⟨h', g, dr, tk', os⟩) (F : Fr h₀ L h' m₂) (N : News h₀ L h' (own ++ news₂)) (hm : news₂.map (·.1) = news₁.map (·.1)) (hJ : J m₂ news₂) : EnumI h₀ L own news₁ J g dr os f s'
noncomputable def EnumEnd (h₀ : Heap) (L : Addr) (own news₁ : List (Addr × Obj)) (J : (Str → Option Value) → List (Addr × Obj) → Prop) (s : Shared) (f : Flow) (s' : Shared) : Prop := EnumI h₀ L own news₁ J s.gens s.drawn s.os f s'
section
variable {prog : Program} {w : World} {A : Around} {s : Shared} {env : Env} {h₀ : Heap} {E : Value → Shared → Prop}
theorem enum_loop {Q : Flow → Shared → Prop} {xi xc : Str} {body : List Stmt} {l : Addr} {vs : List Value} {k : Nat} {m : Str → Option Value} {news : List (Addr × Obj)}
    (J : Nat → (Str → Option Value) → List (Addr × Obj) → Prop)
    (hh : A.handled = none) (F : Fr h₀ env.locals s.heap m) (N : News h₀ env.locals s.heap news) (m1 : (l, W.listOf vs.toArray k) ∈ news) (h0 : J 0 m news)
    (step : ∀ (i : Nat) v t m₁ news₁ h tk own, vs[i]? = some v → J i m₁ news₁ → news₁.map (·.1) = news.map (·.1) → (∀ p ∈ own, LE.le (α := Nat) s.heap.objs.size p.1 ∨ p.1 = l) → Fr h₀ env.locals h (fun y => if y = xc then some v else if y = xi then some (.int i t) else m₁ y) → News h₀ env.locals h (own ++ news₁) →
      wpAny (model prog w) A (execs body env) (EnumEnd h₀ env.locals own news₁ (J (i + 1)) s) E { s with heap := h, toks := tk })
    (done : ∀ h' tk m' news', Fr h₀ env.locals h' m' → News h₀ env.locals h' news' → news'.map (·.1) = news.map (·.1) → J vs.length m' news' → Q .next { s with heap := h', toks := tk }) :
    wpAny (model prog w) A (call (.type "enumerate") [.ref l]) (fun xv s₁ => wpAny (model prog w) A (pyIter xv) (fun it s₂ => PairAt3 prog w A h₀ env xi xc body Q E it s₂) E s₁) E s := by
  have hl : s.heap.IsList l vs.toArray := isList_of N m1
  have lt1 : l < s.heap.objs.size := Heap.lt_size (N _ m1).1
  have hLt : env.locals < s.heap.objs.size := F.ns.lt
  refine call_enumerate_list hl fun h' he hit _ hk => ?_
  refine wpAny_pyIter_enum he ?_
  have F₁ : Fr h₀ env.locals h' m := ⟨F.ns.at' fun o e => hk _ o e, fun b o e => hk b o (F.keep b o e), F.above⟩
  have N₁ : News h₀ env.locals h' news := fun p hp => ⟨hk _ _ (N p hp).1, (N p hp).2⟩
  have lt1' : LT.lt (α := Nat) l s.heap.objs.size := lt1
  have W := WalksT.enumerate (prog := prog) (w := w) hh (s.heap.objs.size + 1) s.heap.objs.size l (Nat.succ_ne_self _) (Nat.ne_of_lt (Nat.lt_succ_of_lt lt1)) (Nat.ne_of_lt lt1) vs.toArray
  refine ⟨_, _, _, _, _, _, _, fun (i : Nat) v0 v1 => (∃ t, v0 = .int i t) ∧ vs[i]? = some v1, m, news, J, rfl, W, ?_, ?_, ?_, ?_, ⟨⟨_, by simpa using he⟩, hit, hl.at fun o e => hk _ o e⟩, F₁, N₁, h0, ?_, ?_⟩
  · rintro i vals ⟨t, x, hx, rfl⟩
    exact ⟨_, _, rfl, ⟨t, rfl⟩, by simpa using hx⟩
  · intro hb
    simp only [List.mem_cons, List.not_mem_nil, or_false] at hb
    have hLt' : LT.lt (α := Nat) env.locals s.heap.objs.size := hLt
    rcases hb with q | q | q
    · rw [q] at hLt'; omega
    · rw [q] at hLt'; omega
    · exact (N _ m1).2.1 q.symm
  · intro b hb
    refine ktu_new F ?_
    simp only [List.mem_cons, List.not_mem_nil, or_false] at hb
    rcases hb with q | q <;> rw [q]
    · exact Nat.le_succ _
    · exact Nat.le_refl _
  · intro p hp hb
    have := Heap.lt_size (N p hp).1
    simp only [List.mem_cons, List.not_mem_nil, or_false] at hb
    rcases hb with q | q <;> rw [q] at this
    · exact absurd this (Nat.not_lt.mpr (Nat.le_succ _))
    · exact Nat.lt_irrefl _ this
  · rintro i v0 v1 m₁ news₁ s₁ own ⟨h, tk, rfl⟩ hi ⟨⟨t, rfl⟩, hx⟩ hJ ha hb F₂ N₂
    refine wpAny_mono (step i v1 t m₁ news₁ h tk own hx hJ ha (fun p hp => ?_) F₂ N₂) (fun f s' hs => ?_) fun _ _ e => e
    · have := hb p hp
      simp only [List.mem_cons, List.not_mem_nil, or_false] at this
      rcases this with q | q | q
      · exact .inl (q ▸ Nat.le_succ _)
      · exact .inl (q ▸ Nat.le_refl _)
      · exact .inr q
    · obtain ⟨rfl, h₃, tk₃, m₂, news₂, rfl, F₃, N₃, hn, hJ'⟩ := hs
      exact ⟨rfl, h₃, tk₃, m₂, news₂, rfl, F₃, N₃, hn, hJ'⟩
  · intro h₃ tk m' news' F₃ N₃ ha hJ
    exact done h₃ tk m' news' F₃ N₃ ha (by simpa using hJ)
end
end
section
open PySem PySem.W PyProof.Rows
open PySem.Builtin PySem.Builtin.Str
open PySem.Builtin.ObjectAttr
set_option maxRecDepth 100000
set_option maxHeartbeats 8000000

theorem slot_fn_setattr : Slot "function" "__setattr__" "object.__setattr__" :=
  .of (owner := "object") (n := "__setattr__") (by rw [typeLookup_type, builtinLookup_eq_fast]; kernel_rfl) (by decide +kernel) (by decide +kernel) (by decide +kernel)
    (by first | exact .inl (by decide +kernel) | exact .inr (by decide +kernel)) (by rw [isSubtype_type]; kernel_rfl)
theorem slot_fn_getattr : Slot "function" "__getattribute__" "object.__getattribute__" :=
  .of (owner := "object") (n := "__getattribute__") (by rw [typeLookup_type, builtinLookup_eq_fast]; kernel_rfl) (by decide +kernel) (by decide +kernel) (by decide +kernel)
    (by first | exact .inl (by decide +kernel) | exact .inr (by decide +kernel)) (by rw [isSubtype_type]; kernel_rfl)
theorem look_fn_read : typeLookup (.type "function") (Str.ofString "read") = pure none := by
  rw [typeLookup_type, builtinLookup_eq_fast]; kernel_rfl
theorem look_fn_getattr : typeLookup (.type "function") (Str.ofString "__getattr__") = pure none := by
  rw [typeLookup_type, builtinLookup_eq_fast]; kernel_rfl
section
variable {prog : Program} {w : World} {A : Around} {s : Shared} {E : Value → Shared → Prop} {x : Addr} {o : Obj} {v : Value}
theorem typeHasDict_fn : typeHasDict (.type "function") = true := by kernel_rfl
theorem dictMade_fn (a d : Addr) : dictMade (.type "function") a d = pure (some d) := by
  unfold dictMade
  have e : finalisedInACycleAlone "function" = false := by decide +kernel
  simp only [e]
  rfl
theorem mro_fn : mroOf (.type "function") = pure [.type "function", .type "object"] := by kernel_rfl
theorem refuse_fn (self : Value) : refuseLoop self (Str.ofString "__setattr__") [.type "function", .type "object"] = pure () := by
  unfold refuseLoop; kernel_rfl
theorem setAttr_fn {Q : Unit → Shared → Prop} (hx : s.heap.get? x = some o) (hc : o.cls = .type "function") (hd : o.dict = none) {fd : FuncData} (hdt : o.data = .func fd)
    (h : ∀ h' tk, h'.get? x = some { o with dict := some s.heap.objs.size } → h'.Ns1 s.heap.objs.size (fun y => if y = Str.ofString "read" then some v else none) → (∀ b ob, b ≠ x → s.heap.get? b = some ob → h'.get? b = some ob) → Q () { s with heap := h', toks := tk }) :
    wpAny (model prog w) A (setAttr (.ref x) (Str.ofString "read") v) Q E s := by
  have hT : s.TypeIs (.ref x) "function" := ⟨_, hx, hc⟩
  unfold setAttr
  refine wpAny_bind (wpAny_mkText ?_)
  refine wpAny_bind (wpAny_callSpecial?_slot (name := Str.ofString "__setattr__") (T := "function") hT slot_fn_setattr (wpAny_call_entry slot_fn_setattr hT F.entry_object_setattr ?_ (F.args_object_setattr_3 _ _ _)))
  unfold Builtin.«object.__setattr__»
  show wpAny _ _ (ObjectAttr.refuseIfOverridden (.ref x) (Str.ofString "__setattr__") >>= fun _ => ObjectAttr.attrName (.str (Str.ofString "read") s.toks) >>= fun name => typeOf (.ref x) >>= fun tp => typeLookup tp name >>= fun attr => ObjectAttr.storeTaker? attr >>= fun t => match t with
          | some a => ObjectAttr.setByDescriptor a (.ref x) v
          | none => ObjectAttr.storeInOwnDict (.ref x) tp (.str (Str.ofString "read") s.toks) name v attr.isSome) _ _ _
  rw [refuse_eq]
  repeat (first | (with_reducible refine wpAny_loadPart_at hx ?_; rw [hc]) | rw [mro_fn] | rw [refuse_fn] | rw [look_fn_read] | wp_step)
  rw [hd, if_neg (by simp [typeHasDict_fn]), hdt]
  have hx₁ : (s.heap.push { cls := .type "dict", data := .dict #[] }).get? x = some o := Heap.get?_push_of_some _ hx
  have hxs : x ≠ s.heap.objs.size := Nat.ne_of_lt (Heap.lt_size hx)
  refine wpAny_bind (wpAny_alloc' ?_)
  refine wpAny_bind (wpAny_update' hx₁ ?_)
  rw [dictMade_fn]
  refine wpAny_pure ?_
  have hgd : ((s.heap.push { cls := .type "dict", data := .dict #[] }).update x fun o => { cls := o.cls, dict := some s.heap.objs.size, data := o.data, slots := o.slots }).get? s.heap.objs.size
      = some { cls := .type "dict", data := .dict #[] } :=
    (Heap.get?_update_ne _ _ _ _ hxs.symm).trans (Heap.get?_push_at rfl rfl)
  have hnd : ((s.heap.push { cls := .type "dict", data := .dict #[] }).update x fun o => { cls := o.cls, dict := some s.heap.objs.size, data := o.data, slots := o.slots }).Ns s.heap.objs.size (fun _ => none) :=
    ⟨_, #[], _, hgd, rfl, fun e he => absurd he (by simp), fun _ => rfl⟩
  show wpAny _ _ (ObjectAttr.storeInDict s.heap.objs.size (.str (Str.ofString "read") s.toks) (Str.ofString "read") v) _ _ _
  unfold storeInDict newKeyGuard
  refine wpAny_bind (wpAny_pure (wpAny_bind (wpAny_nsSet1 (Heap.Ns1.of_empty hnd) fun h' hn' hs => ?_)))
  obtain ⟨oD, esD, epD, hoD, hdD, hcD⟩ := hn'.count (Within.cons (Str.ofString "read") v Within.nil)
  refine wpAny_bind (wpAny_lookBehind hoD (by rw [hdD]; exact pastItsLine_dict (Nat.le_trans hcD (by rw [List.length_cons, List.length_nil, sizeLine_eq]; omega))) ?_)
  have hx' : h'.get? x = some { o with dict := some s.heap.objs.size } := by
    refine (hs.2 x hxs).trans (Heap.get?_update_self _ hx₁ ?_)
    rw [hdt]; rfl
  have hk : ∀ b ob, b ≠ x → s.heap.get? b = some ob → h'.get? b = some ob := fun b ob hbx hb =>
    (hs.2 b (Nat.ne_of_lt (Heap.lt_size hb))).trans ((Heap.get?_update_ne _ _ _ _ hbx).trans (Heap.get?_push_of_some _ hb))
  have key := fun tk => h h' tk hx' hn' hk
  wp_walk
  exact ⟨_, rfl, wpAny_pure (key _)⟩
/-- what a dict's object says of its names -/
noncomputable def DictIs (od : Obj) (m : Str → Option Value) : Prop := ∃ es ep, od.data = .dict es ep ∧ StrKeys es ∧ UniqKeys es ∧ ∀ name, nsFind es name = m name
theorem DictIs.ns {od : Obj} {m : Str → Option Value} {h : Heap} {a : Addr} (x : DictIs od m) (e : h.get? a = some od) : h.Ns a m := let ⟨es, ep, d, k, _, f⟩ := x; ⟨od, es, ep, e, d, k, f⟩
theorem setAttr_led {Q : Unit → Shared → Prop} {h₀ : Heap} {L : Addr} {m : Str → Option Value} {news rest : List (Addr × Obj)} {fd : FuncData} (F : Fr h₀ L s.heap m) (N : News h₀ L s.heap news) (hm : (x, o) ∈ news)
    (hr : ∀ p ∈ rest, p ∈ news) (hne : ∀ p ∈ rest, p.1 ≠ x) (hc : o.cls = .type "function") (hd : o.dict = none) (hdt : o.data = .func fd)
    (h : ∀ h' tk dx od, Fr h₀ L h' m → News h₀ L h' ((dx, od) :: (x, { o with dict := some dx }) :: rest) → DictIs od (fun y => if y = Str.ofString "read" then some v else none) → (∀ p ∈ (x, { o with dict := some dx }) :: rest, p.1 < dx) → Q () { s with heap := h', toks := tk }) :
    wpAny (model prog w) A (setAttr (.ref x) (Str.ofString "read") v) Q E s := by
  have hx := N _ hm
  refine setAttr_fn hx.1 hc hd hdt fun h' tk hx' hn hk => ?_
  obtain ⟨od, es, ep, e1, e2, e3, e4, e5⟩ := hn
  have lt : ∀ p ∈ (x, { o with dict := some s.heap.objs.size }) :: rest, p.1 < s.heap.objs.size := fun p hp => by
    rcases List.mem_cons.mp hp with rfl | hp
    · exact Heap.lt_size hx.1
    · exact Heap.lt_size (N p (hr p hp)).1
  refine h h' tk s.heap.objs.size od ⟨F.ns.at' fun ob e => hk _ ob (Ne.symm hx.2.1) e, fun b ob e => hk b ob (fun q => by rw [q, hx.2.2] at e; cases e) (F.keep b ob e), F.above⟩ (fun p hp => ?_) ⟨es, ep, e2, e3, e4, e5⟩ lt
  rcases List.mem_cons.mp hp with rfl | hp
  · exact ⟨e1, Nat.ne_of_gt F.ns.lt, next_is_new F⟩
  · rcases List.mem_cons.mp hp with rfl | hp
    · exact ⟨hx', hx.2⟩
    · exact ⟨hk _ _ (hne p hp) (N p (hr p hp)).1, (N p (hr p hp)).2⟩
theorem setAttr_led3 {Q : Unit → Shared → Prop} {h₀ : Heap} {L : Addr} {m : Str → Option Value} {a b : Addr × Obj} {rest : List (Addr × Obj)} {fd : FuncData} (F : Fr h₀ L s.heap m) (N : News h₀ L s.heap (a :: b :: (x, o) :: rest))
    (ha : a.1 ≠ x) (hb : b.1 ≠ x) (hne : ∀ p ∈ rest, p.1 ≠ x) (hc : o.cls = .type "function") (hd : o.dict = none) (hdt : o.data = .func fd)
    (h : ∀ h' tk dx od, Fr h₀ L h' m → News h₀ L h' ((dx, od) :: (x, { o with dict := some dx }) :: a :: b :: rest) → DictIs od (fun y => if y = Str.ofString "read" then some v else none) → (∀ p ∈ (x, { o with dict := some dx }) :: a :: b :: rest, p.1 < dx) → Q () { s with heap := h', toks := tk }) :
    wpAny (model prog w) A (setAttr (.ref x) (Str.ofString "read") v) Q E s :=
  setAttr_led (rest := a :: b :: rest) F N (.tail _ (.tail _ (.head _))) (fun p hp => by
    rcases List.mem_cons.mp hp with rfl | hp
    · exact .head _
    · rcases List.mem_cons.mp hp with rfl | hp
      · exact .tail _ (.head _)
      · exact .tail _ (.tail _ (.tail _ hp))) (fun p hp => by
    rcases List.mem_cons.mp hp with rfl | hp
    · exact ha
    · rcases List.mem_cons.mp hp with rfl | hp
      · exact hb
      · exact hne p hp) hc hd hdt h
end
end
section
open PySem PySem.W PyProof.Rows
open PySem.Builtin PySem.Builtin.Str
set_option maxRecDepth 100000
set_option maxHeartbeats 8000000

theorem cell_said {o : Obj} {v v' : Option Value} (h : o.data = .cell v) (e : v = v') : o.data = .cell v' := e ▸ h
theorem strs_of_car {vs : List Value} {xs : List Str} (h : CarriedAll vs (xs.map PyData.str)) : StrsAre vs xs := by
  induction xs generalizing vs with
  | nil => cases h; exact .nil
  | cons x xs ih =>
    cases h with
    | cons a r =>
      cases a
      exact .cons _ _ (ih r)
section
variable {prog : Program} {w : World} {A : Around} {s : Shared} {E : Value → Shared → Prop} {h₀ : Heap} {L : Addr} {m : Str → Option Value} {Q : Value → Shared → Prop}
theorem list_str_led {x : Str} {t : Tok} {news : List (Addr × Obj)} (hsz : x.length ≤ 10000) (hh : A.handled = none) (F : Fr h₀ L s.heap m) (N : News h₀ L s.heap news)
    (h : ∀ D ys k h' tk, Fr h₀ L h' m → News h₀ L h' ((D, W.listOf ys.toArray k) :: news) → StrsAre ys (signs x) → (∀ p ∈ news, p.1 < D) → Q (.ref D) { s with heap := h', toks := tk }) :
    wpAny (model prog w) A (call (.type "list") [.str x t]) Q E s := by
  refine list_strD hh F N (fun h' tk ys F' N' _ h0 _ np hc => ?_) (by unfold sizeLine; omega)
  obtain ⟨n, N2⟩ := made_enters np F' N' h0
  exact h _ ys n h' tk F' N2 (strs_of_car hc) fun p hp => Heap.lt_size (N p hp).1
end
section
variable {prog : Program} {w : World} {A : Around} {s : Shared} {E : Value → Shared → Prop} {h₀ : Heap} {L : Addr} {m : Str → Option Value} {Q : Value → Shared → Prop}
theorem pop_led {D : Addr} {v : Value} {vs : List Value} {k : Nat} {t : Tok} {rest : List (Addr × Obj)} (F : Fr h₀ L s.heap m) (N : News h₀ L s.heap ((D, W.listOf (v :: vs).toArray k) :: rest)) (hne : ∀ p ∈ rest, p.1 ≠ D) (hsz : vs.length ≤ 10000)
    (h : ∀ h' k', Fr h₀ L h' m → News h₀ L h' ((D, W.listOf vs.toArray k') :: rest) → Q v { s with heap := h' }) : wpAny (model prog w) A (call (.builtin "list.pop") [.ref D, .int 0 t]) Q E s := by
  have hk : seqIndex? 0 (v :: vs).toArray.size = some 0 := by
    rw [List.size_toArray]; exact StrLaws.seqIndex_nonneg (Int.le_refl _) (by simp)
  exact kl_popAt (p := []) (q := vs) (k := 0) F N (by decide +kernel) hk (by rfl) (Upd.head hne) (by simp only [List.length_cons]; unfold sizeLine; omega) fun h' F' N' => h h' _ F' N'
end
/-- the entries of the lexer's own dict -/
abbrev lxE (w : World) (k1 k2 k3 k4 tl tw : Tok) (ln : Int) (st pb : Addr) : List DictEntry :=
  [{ hash := PyData.keyHash w.params (Str.ofString "lineno"), key := .str (Str.ofString "lineno") k1, val := .int ln tl },
   { hash := PyData.keyHash w.params (Str.ofString "instream"), key := .str (Str.ofString "instream") k2, val := .ref st },
   { hash := PyData.keyHash w.params (Str.ofString "whitespace"), key := .str (Str.ofString "whitespace") k3, val := .str (Str.ofString "\n\t\r ") tw },
   { hash := PyData.keyHash w.params (Str.ofString "pushback"), key := .str (Str.ofString "pushback") k4, val := .ref pb }]
end
section
open PySem PySem.W PyProof.Rows
open PySem.Builtin PySem.Builtin.Str
set_option maxRecDepth 100000
set_option maxHeartbeats 8000000

theorem allLt_mono {a b : Nat} : ∀ {r : List (Addr × Obj)}, AllLt a r → a ≤ b → AllLt b r
  | [], _, _ => trivial
  | _ :: _, h, hab => ⟨Nat.lt_of_lt_of_le h.1 hab, allLt_mono h.2 hab⟩
theorem strsAre_head {vs : List Value} {x : Str} {xs : List Str} (h : StrsAre vs (x :: xs)) : ∃ t wr, vs = .str x t :: wr ∧ StrsAre wr xs := by
  cases h with
  | cons x t r => exact ⟨t, _, rfl, r⟩
theorem read_ne {a b c : Addr × Obj} {nws own : List (Addr × Obj)} {lf : Addr} {bad : List Addr} (h : ∀ p ∈ a :: b :: c :: nws, p.1 ≠ lf) (ho : ∀ p ∈ own, p.1 ∈ bad) (hl : lf ∉ bad) : ∀ p ∈ a :: b :: c :: (nws ++ own), p.1 ≠ lf := fun p hp e => by
  simp only [List.mem_cons, List.mem_append] at hp
  rcases hp with q | q | q | q | q
  · exact h p (by simp [q]) e
  · exact h p (by simp [q]) e
  · exact h p (by simp [q]) e
  · exact h p (by simp [q]) e
  · exact hl (e ▸ ho p q)
noncomputable def popHead (l : List (Addr × Obj)) (vs : List Value) (k : Nat) : List (Addr × Obj) := match l with
  | (a, _) :: r => (a, W.listOf vs.toArray k) :: r
  | [] => []
theorem assoc4 {h₀ h : Heap} {L : Addr} {a b c d : Addr × Obj} {r own : List (Addr × Obj)} (N : News h₀ L h (a :: b :: c :: d :: (r ++ own))) : News h₀ L h ((a :: b :: c :: d :: r) ++ own) := N
theorem popHead_off {l : List (Addr × Obj)} {vs : List Value} {k : Nat} {bad : List Addr} (h : ∀ p ∈ l, p.1 ∉ bad) : ∀ p ∈ popHead l vs k, p.1 ∉ bad := by
  cases l with
  | nil => intro p hp; cases hp
  | cons a r =>
    obtain ⟨a, o⟩ := a
    intro p hp
    rcases List.mem_cons.mp hp with rfl | hp
    · exact h (a, o) (.head _)
    · exact h p (.tail _ hp)
theorem join_one (c : Str) : Txt.join (Str.ofString "") [c] = c := by
  show glued _ _ = _
  rw [StrLaws.glued_eq_join, join_nil]
  simp [S_ls]
/-- what a call of the stream's read comes to -/
noncomputable def ReadOk (w : World) (mean : ExcName → Option Value) (mg mb : Str → Option Value) (rd : Addr) (ord : Obj) (cc : Addr) (occ : Obj) (cell : Addr) (ocell : Obj) (lf : Addr) : Prop :=
  (∃ fd, ord.data = .func fd) ∧ ∀ (ys : List Value) (xs : List Str) (k : Nat) (t : Tok) (news : List (Addr × Obj)), StrsAre ys xs → xs.length ≤ 1000 → (∀ x ∈ xs, x.length = 1) → (∀ p ∈ (rd, ord) :: (cc, occ) :: (cell, ocell) :: news, p.1 ≠ lf) →
    Ct 6 w mean mg mb rd ((lf, W.listOf ys.toArray k) :: (rd, ord) :: (cc, occ) :: (cell, ocell) :: news) [.int 1 t]
      (fun v news' g g' => g' = g ∧ (xs = [] → (∃ t, v = .str (Str.ofString "") t) ∧ news' = (lf, W.listOf ys.toArray k) :: (rd, ord) :: (cc, occ) :: (cell, ocell) :: news) ∧
        ∀ c r, xs = c :: r → (∃ t, v = .str c t) ∧ ∃ ys' k', StrsAre ys' r ∧ news' = (lf, W.listOf ys'.toArray k') :: (rd, ord) :: (cc, occ) :: (cell, ocell) :: news)
/-- the lexer, made -/
inductive LxI (w : World) (mean : ExcName → Option Value) (mg mb : Str → Option Value) (text : Str) (news : List (Addr × Obj)) (g : Array GenState) : Value → List (Addr × Obj) → Array GenState → Prop
  | mk (x dx pb st ds rd cc cell lf : Addr) (k1 k2 k3 k4 tl tw : Tok) (n kp kl : Nat) (ys : List Value) (ods ost ord occ ocell : Obj) (ps : Array Value)
    (h1 : StrsAre ys (signs text)) (h2 : DictIs ods (fun y => if y = Str.ofString "read" then some (.ref rd) else none)) (h3 : ost.cls = .type "function") (h4 : ost.dict = some ds) (h5 : ∃ fd, ost.data = .func fd) (h6 : ReadOk w mean mg mb rd ord cc occ cell ocell lf)
    (h7 : AllLt cell news ∧ LT.lt (α := Nat) cell lf ∧ LT.lt (α := Nat) lf st ∧ LT.lt (α := Nat) st cc ∧ LT.lt (α := Nat) cc rd ∧ LT.lt (α := Nat) rd ds ∧ LT.lt (α := Nat) ds dx ∧ LT.lt (α := Nat) dx x ∧ LT.lt (α := Nat) x pb) :
    LxI w mean mg mb text news g (.ref x) ((pb, W.listOf ([] : List Value).toArray kp) :: (x, instObj 66 dx) :: (dx, dictOf (lxE w k1 k2 k3 k4 tl tw 1 st pb) n) :: (lf, W.listOf ys.toArray kl) :: (rd, ord) :: (cc, occ) :: (cell, ocell) :: (ds, ods) :: (st, ost) :: (79, tabObj ps) :: news) g
noncomputable def LxPost (w : World) (mean : ExcName → Option Value) (mg mb : Str → Option Value) (text : Str) (news : List (Addr × Obj)) (v : Value) (news' : List (Addr × Obj)) (g g' : Array GenState) : Prop := LxI w mean mg mb text news g v news' g'
theorem lx_intro {w : World} {mean : ExcName → Option Value} {mg mb : Str → Option Value} {text : Str} {news : List (Addr × Obj)} {h₀ h' : Heap} {L : Addr} {m : Str → Option Value} {s : Shared} {Q : Value → Shared → Prop} {tk : Nat}
    (hret : ∀ v news' h' tk' g', LxPost w mean mg mb text news v news' s.gens g' → Fr h₀ L h' m → News h₀ L h' news' → Q v { s with heap := h', toks := tk', gens := g' })
    {x dx pb st ds rd cc cell lf : Addr} {k1 k2 k3 k4 tl tw : Tok} {n kp kl : Nat} {ys : List Value} {ods ost ord occ ocell : Obj} {q1 : Addr × Obj} {ps : Array Value}
    (F : Fr h₀ L h' m) (N : News h₀ L h' ((pb, W.listOf ([] : List Value).toArray kp) :: (x, instObj 66 dx) :: (dx, dictOf (lxE w k1 k2 k3 k4 tl tw 1 st pb) n) :: (ds, ods) :: (st, ost) :: (rd, ord) :: (cc, occ) :: q1 :: (lf, W.listOf ys.toArray kl) :: (cell, ocell) :: (79, tabObj ps) :: news))
    (h1 : StrsAre ys (signs text)) (h2 : DictIs ods (fun y => if y = Str.ofString "read" then some (.ref rd) else none)) (h3 : ost.cls = .type "function") (h4 : ost.dict = some ds) (h4' : ∃ fd, ost.data = .func fd) (h5 : ReadOk w mean mg mb rd ord cc occ cell ocell lf)
    (h6 : AllLt cell news ∧ LT.lt (α := Nat) cell lf ∧ LT.lt (α := Nat) lf st ∧ LT.lt (α := Nat) st cc ∧ LT.lt (α := Nat) cc rd ∧ LT.lt (α := Nat) rd ds ∧ LT.lt (α := Nat) ds dx ∧ LT.lt (α := Nat) dx x ∧ LT.lt (α := Nat) x pb) :
    Q (.ref x) { s with heap := h', toks := tk } :=
  hret _ _ h' tk _ (LxI.mk x dx pb st ds rd cc cell lf k1 k2 k3 k4 tl tw n kp kl ys ods ost ord occ ocell ps h1 h2 h3 h4 h4' h5 h6) F (news_sub N fun p hp => by
    simp only [List.mem_cons] at hp ⊢
    grind)
end
section
open PySem PySem.W PyProof.Rows
open PySem.Builtin PySem.Builtin.Str
open PySem.Builtin.ObjectAttr
set_option maxRecDepth 100000
set_option maxHeartbeats 8000000

section
variable {prog : Program} {w : World} {A : Around} {s : Shared} {E : Value → Shared → Prop} {x dx : Addr} {o : Obj} {v : Value}
theorem getAttr_fn {Q : Value → Shared → Prop} {mm : Str → Option Value} {b : Bool} (hx : s.heap.get? x = some o) (hc : o.cls = .type "function") (hd : o.dict = some dx) {fd : FuncData} (hdt : o.data = .func fd) (hn : s.heap.Ns dx mm) (hm : mm (Str.ofString "read") = some v) (hv : handedIn v = true)
    (h : ∀ tk, Q v { s with toks := tk }) :
    wpAny (model prog w) A (getAttr (.ref x) (Str.ofString "read") b) Q E s := by
  have hT : s.TypeIs (.ref x) "function" := ⟨_, hx, hc⟩
  unfold getAttr getAttrBy
  refine wpAny_bind (wpAny_mkText ?_)
  have e1 : typeLookup (.type "function") "__getattribute__" = pure (some (.builtin "object.__getattribute__")) := slot_fn_getattr.lookup
  repeat (first | (with_reducible refine wpAny_loadPart_at hx ?_; rw [hc]) | rw [look_fn_read] | rw [e1] | wp_step)
  rw [if_neg (by simp [onTheHeap])]
  unfold boundAndCalled
  refine wpAny_bind ?_
  rw [slot_fn_getattr.bind]
  refine wpAny_pure ?_
  refine wpAny_call_entry slot_fn_getattr hT F.entry_object_getattribute ?_ (F.args_object_getattribute_2 _ _)
  unfold Builtin.«object.__getattribute__»
  repeat (first | (with_reducible refine wpAny_loadPart_at hx ?_; rw [hc]) | rw [look_fn_read] | rw [e1] | wp_step)
  rw [hdt]
  show wpAny _ _ (instanceDict x false) _ _ _
  unfold instanceDict
  repeat (first | (with_reducible refine wpAny_nsGet hn ?_; rw [hm]) | (with_reducible refine wpAny_loadPart_at hx ?_; rw [hc]) | rw [hd] | wp_step)
  exact ⟨_, rfl, handed_on hv (h _)⟩
theorem getMethod_fn {Q : Value × List Value → Shared → Prop} {mm : Str → Option Value} {pl : Sem Bool} (hx : s.heap.get? x = some o) (hc : o.cls = .type "function") (hd : o.dict = some dx) {fd : FuncData} (hdt : o.data = .func fd) (hn : s.heap.Ns dx mm) (hm : mm (Str.ofString "read") = some v) (hv : handedIn v = true)
    (h : ∀ tk, Q (v, []) { s with toks := tk }) :
    wpAny (model prog w) A (getMethod (.ref x) (Str.ofString "read") pl) Q E s := by
  have hT : s.TypeIs (.ref x) "function" := ⟨_, hx, hc⟩
  unfold getMethod
  have e1 : typeLookup (.type "function") "__getattribute__" = pure (some (.builtin "object.__getattribute__")) := slot_fn_getattr.lookup
  refine wpAny_bind (wpAny_specialOf hT e1 ?_)
  have e2 : (Manifest.canonical "object.__getattribute__" != "object.__getattribute__") = false := by decide +kernel
  dsimp only
  rw [if_neg (by rw [e2]; decide)]
  refine wpAny_bind (wpAny_specialOf hT look_fn_getattr ?_)
  rw [if_neg (by decide)]
  refine wpAny_bind (wpAny_specialOf hT look_fn_read ?_)
  exact wpAny_bind (getAttr_fn hx hc hd hdt hn hm hv fun tk => wpAny_pure (h tk))
end
end
section
open PySem PySem.W PyProof.Rows
open PySem.Builtin PySem.Builtin.Str
set_option maxRecDepth 100000
set_option maxHeartbeats 8000000

/-- as Ct, of the call's code itself -/
noncomputable def CtC (k : Nat) (w : World) (mean : ExcName → Option Value) (mg mb : Str → Option Value) (f : Addr) (news : List (Addr × Obj)) (vs : List Value)
    (post : Value → List (Addr × Obj) → Array GenState → Array GenState → Prop) : Prop :=
  ∀ (dp un : Nat) (gd : Option (List Code)) (cn : Str) (cs : Scope) (a : Addr) (ccd : Value) (cl : List (Str × Addr)) (outer : List Env) (A₀ : Around) (base h₀ : Heap) (L : Addr) (m : Str → Option Value) (s : Shared) (Q E : Value → Shared → Prop),
    Below A₀ base outer h₀ → Fr h₀ L s.heap m → (Mine.hd.heap_39 w.params).In h₀ → News h₀ L s.heap news → Top topProg LLo mean mg mb h₀ → cs.kind = .function → dp + k < recursionLimit → un + 8 * k < cLine →
    (∀ v news' h' tk' g', post v news' s.gens g' → Fr h₀ L h' m → News h₀ L h' news' → Q v { s with heap := h', toks := tk', gens := g' }) →
    codeAny (model PySem.Challenge.rw_re0036_02.row.prog w) (ktrTop dp un gd cn cs L a ccd cl outer) (.call (.ref f) ⟨vs, []⟩) (fun r s' => match r with | .ok (.ret v) => Q v s' | .ok _ => False | .error e => E e s') s
section
variable {k : Nat} {w : World} {mean : ExcName → Option Value} {mg mb : Str → Option Value} {f : Addr} {news : List (Addr × Obj)} {vs : List Value} {post : Value → List (Addr × Obj) → Array GenState → Array GenState → Prop}
theorem CtC.ct (C : CtC k w mean mg mb f news vs post) : Ct k w mean mg mb f news vs post :=
  fun _ _ _ _ _ _ _ _ _ _ _ _ _ _ _ _ _ B F X N T hk hd hu ret => wpAny_call (C _ _ _ _ _ _ _ _ _ _ _ _ _ _ _ _ _ B F X N T hk hd hu ret)
end
theorem fnAt_of {h : Heap} {q : Addr} {o : Obj} {fd : FuncData} (e : h.get? q = some o) (hd : o.data = .func fd) : FnAt q h := by
  cases o
  cases hd
  exact ⟨_, _, _, _, e⟩
end
section
open PySem PySem.W PyProof.Rows
open PySem.Builtin PySem.Builtin.Str
set_option maxRecDepth 100000
set_option maxHeartbeats 8000000


theorem pow_eq (i : Nat) : ((2 : Int) ^ (0 + (i : Int)).toNat) = ((2 ^ i : Nat) : Int) := by
  have h0 : (0 + (i : Int)).toNat = i := by lia  
  rw [h0]; simp
theorem pow_size (i : Nat) : Builtin.Range.rangeSize 0 ((2 : Int) ^ (0 + (i : Int)).toNat) 1 = ((2 ^ i : Nat) : Int) := by
  rw [pow_eq]; exact range_size (by lia  )
theorem pow_small {i : Nat} (h : i ≤ 10) : Builtin.Range.small 0 ((2 : Int) ^ (0 + (i : Int)).toNat) 1 = true := by
  rw [pow_eq]
  have h2 : 2 ^ i ≤ 2 ^ 10 := Nat.pow_le_pow_right (by decide) h
  generalize 2 ^ i = q at h2
  exact range_small (by lia  ) (by lia  ) (by lia  ) (by lia  )
theorem item1 {x : Str} (h : x.length = 2) : Txt.item x 1 = S ((ls x).drop 1) := by
  rw [item_meets ⟨by decide, by lia  ⟩]
  apply str_ext
  rw [ls_S]
  show [x.cps.getD 1 0] = _
  obtain ⟨⟨l⟩⟩ := x
  obtain ⟨a, b, rfl⟩ := len_two h
  rfl
inductive LnI (g0 : Array GenState) (O : Prop) (pb : Addr) (R : List (Addr × Obj)) (xs : List Str) : List (Addr × Obj) → Array GenState → Prop
  | mk (ws : List Value) (kq : Nat) (hm : O) (hws : StrsAre ws xs) : LnI g0 O pb R xs ((pb, W.listOf ws.toArray kq) :: R) g0
theorem lnj_of {g0 g : Array GenState} {O : Prop} {pb : Addr} {R n : List (Addr × Obj)} {xs : List Str} (h : g = g0 ∧ O ∧ ∃ ws kq, n = (pb, W.listOf ws.toArray kq) :: R ∧ StrsAre ws xs) : LnI g0 O pb R xs n g := by
  obtain ⟨rfl, hm, ws, kq, rfl, hws⟩ := h
  exact .mk ws kq hm hws
theorem lnc_of {g0 g : Array GenState} {O : Prop} {pb : Addr} {R n : List (Addr × Obj)} {xs : List Str} (h : g = g0 ∧ (∃ ws kq, n = (pb, W.listOf ws.toArray kq) :: R ∧ StrsAre ws xs) ∧ O) : LnI g0 O pb R xs n g := by
  obtain ⟨rfl, ⟨ws, kq, rfl, hws⟩, hm⟩ := h
  exact .mk ws kq hm hws
theorem queue_len {p : List Nat} {C : List (List Nat)} {j : Nat} (hp : p.length = 2) (hC : C.length ≤ 32) : ((C.drop (j + 1)).map S ++ (C.take j).flatMap (stepF p)).length ≤ 100 := by
  have h2 : ((C.take j).flatMap (stepF p)).length = 2 * (C.take j).length := by
    rw [List.length_flatMap]
    have : (fun w => (stepF p w).length) = fun _ => 2 := by funext w; simp [stepF, hp]
    rw [this, List.map_const', List.sum_replicate_nat]; lia  
  rw [List.length_append, h2, List.length_map, List.length_drop, List.length_take]
  lia  
noncomputable def queueF (p : List Nat) (C : List (List Nat)) (j : Nat) : List Str := (C.drop j).map S ++ (C.take j).flatMap (stepF p)
theorem queue_start {p : List Nat} {C : List (List Nat)} {ws : List Value} (h : StrsAre ws (C.map S)) : StrsAre ws (queueF p C 0) := by
  unfold queueF; simpa using h
theorem strsAre_cons2 {vs : List Value} {x : Str} {xs : List Str} (h : StrsAre vs (x :: xs)) : ∃ t wr, vs = .str x t :: wr ∧ StrsAre wr xs := by
  cases h with
  | cons x t r => exact ⟨t, _, rfl, r⟩
theorem queue_get {p : List Nat} {C : List (List Nat)} {ws : List Value} {j : Nat} (h : StrsAre ws (queueF p C j)) (hj : j < C.length) : ∃ t vs, ws = .str (S C[j]) t :: vs ∧ StrsAre vs ((C.drop (j + 1)).map S ++ (C.take j).flatMap (stepF p)) := by
  unfold queueF at h
  rw [List.drop_eq_getElem_cons hj, List.map_cons, List.cons_append] at h
  exact strsAre_cons2 h
theorem off_eq2 {xs : List Str} {m₀ m m' : Str → Option Value} (h : Off xs m₀ m) (e : m = m') : Off xs m₀ m' := e ▸ h
theorem pow_size2 (i : Nat) : Builtin.Range.rangeSize 0 ((2 : Int) ^ i) 1 = ((2 ^ i : Nat) : Int) := by
  have := pow_size i
  have h0 : (0 + (i : Int)).toNat = i := by lia  
  rwa [h0] at this
theorem pow_small2 {i : Nat} (h : i ≤ 5) : Builtin.Range.small 0 ((2 : Int) ^ i) 1 = true := by
  have e : ((2 : Int) ^ i) = ((2 ^ i : Nat) : Int) := by simp
  rw [e]
  have h2 : 2 ^ i ≤ 2 ^ 5 := Nat.pow_le_pow_right (by decide) h
  generalize 2 ^ i = q at h2
  exact range_small (by lia  ) (by lia  ) (by lia  ) (by lia  )
theorem queue_push {p : List Nat} {C : List (List Nat)} {vs : List Value} {j : Nat} (hp : p.length = 2) (h : StrsAre vs ((C.drop (j + 1)).map S ++ (C.take j).flatMap (stepF p))) (hj : j < C.length) (t u : Tok) :
    StrsAre (vs ++ [.str (S C[j] ++ S (p.take 1)) t] ++ [.str (S C[j] ++ S (p.drop 1)) u]) (queueF p C (j + 1)) := by
  have e : queueF p C (j + 1) = ((C.drop (j + 1)).map S ++ (C.take j).flatMap (stepF p)) ++ [S C[j] ++ S (p.take 1)] ++ [S C[j] ++ S (p.drop 1)] := by
    unfold queueF
    rw [List.take_add_one, List.getElem?_eq_getElem hj, List.flatMap_append]
    obtain ⟨a, b, rfl⟩ := len_two hp
    simp [stepF, S_append]
  rw [e]
  exact strsAre_snoc (strsAre_snoc h _ _) _ _

theorem pair_item0 (p1 p2 : Nat) : Txt.item (S [p1, p2]) 0 = S [p1] := by
  rw [item0 (by rw [S_length]; rfl), ls_S]; rfl
theorem pair_item1 (p1 p2 : Nat) : Txt.item (S [p1, p2]) 1 = S [p2] := by
  rw [item1 (by rw [S_length]; rfl), ls_S]; rfl
/-- a sign as a text -/
noncomputable def so (d : Nat) : Str := S [d]
theorem so_eq {c d : Nat} : (so c == so d) = decide (c = d) := by
  rw [Bool.eq_iff_iff, beq_iff_eq, decide_eq_true_iff]
  exact ⟨fun e => by have := S_inj e; simpa using this, fun e => e ▸ rfl⟩
noncomputable def othF (a b c : Nat) : Nat := if c = a then b else a
noncomputable def thueF (a b : Nat) (w : List Nat) : List Nat := w.flatMap fun c => [c, othF a b c]
noncomputable def ledF (a b : Nat) (w : List Nat) : Nat → List Nat
  | 0 => w
  | n + 1 => thueF a b (ledF a b w n)
theorem thue_len (a b : Nat) (w : List Nat) : (thueF a b w).length = 2 * w.length := by
  unfold thueF
  rw [List.length_flatMap]
  have : (fun c => [c, othF a b c].length) = fun _ => 2 := rfl
  rw [this, List.map_const', List.sum_replicate_nat]; lia  
theorem led_len (a b : Nat) (w : List Nat) : ∀ n, (ledF a b w n).length = w.length * 2 ^ n
  | 0 => by simp [ledF]
  | n + 1 => by rw [ledF, thue_len, led_len a b w n, Nat.pow_succ, Nat.mul_comm (2 ^ n) 2, Nat.mul_left_comm]
noncomputable def lqF (a b : Nat) (C : List Nat) (j : Nat) : List Str := (C.drop j ++ thueF a b (C.take j)).map so
theorem lq_start {a b : Nat} {C : List Nat} {ws : List Value} (h : StrsAre ws (C.map so)) : StrsAre ws (lqF a b C 0) := by
  unfold lqF; simpa [thueF] using h
theorem lq_get {a b : Nat} {C : List Nat} {ws : List Value} {j : Nat} (h : StrsAre ws (lqF a b C j)) (hj : j < C.length) : ∃ t vs, ws = .str (so C[j]) t :: vs ∧ StrsAre vs ((C.drop (j + 1) ++ thueF a b (C.take j)).map so) := by
  unfold lqF at h
  rw [List.drop_eq_getElem_cons hj, List.cons_append, List.map_cons] at h
  exact strsAre_cons2 h
theorem lq_push {a b : Nat} {C : List Nat} {vs : List Value} {j : Nat} (h : StrsAre vs ((C.drop (j + 1) ++ thueF a b (C.take j)).map so)) (hj : j < C.length) (t u : Tok) :
    StrsAre (vs ++ [.str (so C[j]) t] ++ [.str (so (othF a b C[j])) u]) (lqF a b C (j + 1)) := by
  have e : lqF a b C (j + 1) = ((C.drop (j + 1) ++ thueF a b (C.take j)).map so) ++ [so C[j]] ++ [so (othF a b C[j])] := by
    unfold lqF
    have et : thueF a b (C.take (j + 1)) = thueF a b (C.take j) ++ [C[j], othF a b C[j]] := by
      unfold thueF
      rw [List.take_add_one, List.getElem?_eq_getElem hj, List.flatMap_append]; simp
    rw [et, List.map_append, List.map_append, List.map_append]
    simp
  rw [e]
  exact strsAre_snoc (strsAre_snoc h _ _) _ _
theorem lq_push' {a b c d : Nat} {C : List Nat} {vs : List Value} {j : Nat} (h : StrsAre vs ((C.drop (j + 1) ++ thueF a b (C.take j)).map so)) (hj : j < C.length) (hd : d = C[j]) (hc : othF a b d = c) (t u : Tok) :
    StrsAre (vs ++ [.str (so d) t] ++ [.str (S [c]) u]) (lqF a b C (j + 1)) := by
  subst hd; subst hc; exact lq_push h hj t u
theorem lq_end {a b : Nat} {C : List Nat} : lqF a b C C.length = (thueF a b C).map so := by
  unfold lqF; simp
theorem lq_len {a b : Nat} {C : List Nat} {j : Nat} (hC : C.length ≤ 100) : ((C.drop (j + 1) ++ thueF a b (C.take j)).map so).length ≤ 300 := by
  rw [List.length_map, List.length_append, thue_len, List.length_drop, List.length_take]; lia  
theorem flat_so (cs : List Nat) : (cs.map so).flatMap ls = cs := by
  induction cs with
  | nil => rfl
  | cons a l ih => rw [List.map_cons, List.flatMap_cons, ih]; rfl
theorem so_sum (cs : List Nat) : ((cs.map so).map (·.length)).sum = cs.length := by
  induction cs with
  | nil => rfl
  | cons a l ih => rw [List.map_cons, List.map_cons, List.sum_cons, ih, List.length_cons]; show 1 + l.length = _; lia  
theorem off_eqm {xs : List Str} {m₀ m m' : Str → Option Value} (h : Off xs m₀ m) (e : m = m') : Off xs m₀ m' := e ▸ h
/-- what two nested loops leave of the frame -/
theorem Off.sub {xs ys : List Str} {m₀ m m' : Str → Option Value} (h : Off xs m₀ m) (h' : Off ys m m') (hs : ∀ y ∈ ys, y ∈ xs) : Off xs m₀ m' := fun z hz => by
  rw [h' z fun q => hz (hs z q)]; exact h z hz
/-- a name that is as it was may be laid down anew -/
theorem Off.of_put {xs : List Str} {m₀ m : Str → Option Value} {x : Str} {v : Option Value} (h : Off xs (fun y => if y = x then v else m₀ y) m) (hx : m₀ x = v) : Off xs m₀ m := by
  have : (fun y => if y = x then v else m₀ y) = m₀ := by funext y; by_cases h : y = x <;> simp [h, hx]
  rwa [this] at h
theorem Off.at1 {x : Str} {m₀ m : Str → Option Value} (h : Off [x] m₀ m) : m = fun z => if z = x then m x else m₀ z := by
  funext z

  split
  next e => rw [e]
  exact h z (by simp [*])
theorem Off.at2 {x y : Str} {m₀ m : Str → Option Value} (h : Off [x, y] m₀ m) : m = fun z => if z = x then m x else if z = y then m y else m₀ z := by
  funext z

  split
  next e => rw [e]
  split
  next e => rw [e]
  exact h z (by simp [*])
theorem Off.at3 {x y u : Str} {m₀ m : Str → Option Value} (h : Off [x, y, u] m₀ m) : m = fun z => if z = x then m x else if z = y then m y else if z = u then m u else m₀ z := by
  funext z

  split
  next e => rw [e]
  split
  next e => rw [e]
  split
  next e => rw [e]
  exact h z (by simp [*])
theorem Off.at4 {x y u v : Str} {m₀ m : Str → Option Value} (h : Off [x, y, u, v] m₀ m) : m = fun z => if z = x then m x else if z = y then m y else if z = u then m u else if z = v then m v else m₀ z := by
  funext z

  split
  next e => rw [e]
  split
  next e => rw [e]
  split
  next e => rw [e]
  split
  next e => rw [e]
  exact h z (by simp [*])
inductive LnC (g0 : Array GenState) (O : Prop) (pb : Addr) (R : List (Addr × Obj)) (xs : List Str) : List (Addr × Obj) → Array GenState → Prop
  | mk (ws : List Value) (kq : Nat) (hm : O) (hws : StrsAre ws xs) : LnC g0 O pb R xs ((pb, W.listOf ws.toArray kq) :: R) g0
theorem take_get {C : List Nat} {ys : List Value} {i : Nat} (h : StrsAre ys ((C.take i).map so)) (hi : i < C.length) (t : Tok) : StrsAre (ys ++ [.str (so C[i]) t]) ((C.take (i + 1)).map so) := by
  rw [List.take_add_one, List.getElem?_eq_getElem hi, List.map_append]
  exact strsAre_snoc h _ _
theorem look1b (p : Str) (v : Value) : (fun y => List.lookup y [(p, v)]) = fun y => if y = p then some v else none := by
  funext y
  by_cases e : y = p
  · rw [if_pos e, e]; simp [List.lookup]
  · rw [if_neg e]
    have e1 : (y == p) = false := by simpa using e
    simp [List.lookup, e1]
theorem at_nat {w : List Nat} {i d : Nat} (h : (S w).cps[i]? = some d) : w[i]? = some d := by simpa [S] using h
theorem take_so {w : List Nat} {i d : Nat} {ys : List Value} (hw : w[i]? = some d) (h : StrsAre ys ((w.take i).map so)) (t : Tok) : StrsAre (ys ++ [.str ⟨#[d]⟩ t]) ((w.take (i + 1)).map so) := by
  rw [take_succ_map w so hw]; exact strsAre_snoc h _ _
end
section
local macro_rules | `(tactic| k_all) => `(tactic| first | exact all_ne (by assumption) (by omega) | exact all_ne (allLt_mem (by assumption)) (by omega))
local macro_rules | `(tactic| walk_at "LeaveK") => `(tactic| (refine stop_here ?_))
local macro_rules | `(tactic| walk_at "my leave") => `(tactic| (unfold Stop; (try dsimp only); (refine' leaveK_ ?k1 ?k2 ?_; (case k1 => k_asm); (case k2 => k_asm)); intro kF kN; (try dsimp only); (try (refine handed_on rfl ?_; try dsimp only))))
local macro_rules | `(tactic| walk_at "newList") => `(tactic| (k_here; k_dflt (refine' newList_K ?k1 ?k2 ?_; (case k1 => k_asm); (case k2 => k_asm); k_whole); intro l' h' F' N' l1; (try k_lt l1)))
section
open PySem PySem.W PyProof.Rows
open PySem.Builtin PySem.Builtin.Str
set_option maxRecDepth 100000
set_option maxHeartbeats 8000000


local macro_rules | `(tactic| k_all) => `(tactic| assumption)

theorem push_ct (w : World) (mean : ExcName → Option Value) (mg mb : Str → Option Value) (news : List (Addr × Obj)) (x dx pb st : Addr) (k1 k2 k3 k4 tl tw : Tok) (ln : Int) (n : Nat) (vs : List Value) (k : Nat) (v : Value) (h1 : pb ≠ x) (h2 : pb ≠ dx) (h3 : x ≠ dx) (hpb : ∀ p ∈ news, p.1 ≠ pb) (hl : vs.length ≤ 1000) :
   Ct 3 w mean mg mb 63 ((pb, W.listOf vs.toArray k) :: (x, instObj 66 dx) :: (dx, dictOf (lxE w k1 k2 k3 k4 tl tw ln st pb) n) :: news) [.ref x, v] (fun v' news' g g' => g' = g ∧ v' = .none ∧ ∃ k', news' = (pb, W.listOf (vs ++ [v]).toArray k') :: (x, instObj 66 dx) :: (dx, dictOf (lxE w k1 k2 k3 k4 tl tw ln st pb) n) :: news) := by
  w_top on
  w_on
  unfold Ct
  k_fill
  intro dp un gd cn cs a ccd cl outer A₀ base h₀ L m s Q E hB hF hX hN hT hK hDp hUn hret
  walk_at "my enter"
  clear hF hN
  k_steps
  have hne : ∀ p ∈ (x, instObj 66 dx) :: (dx, dictOf (lxE w k1 k2 k3 k4 tl tw ln st pb) n) :: news, p.1 ≠ pb := List.forall_mem_cons.mpr ⟨Ne.symm h1, List.forall_mem_cons.mpr ⟨Ne.symm h2, hpb⟩⟩
  refine' append_led (by k_asm) (by k_asm) hne (by omega) ?_
  intro h5 k5 F5 N5
  dsimp only
  k_steps
  walk_at "my leave"
  exact hret _ _ _ _ _ ⟨rfl, rfl, k5, rfl⟩ (by k_asm) (by k_asm)
end
section
open PySem PySem.W PyProof.Rows
open PySem.Builtin PySem.Builtin.Str
set_option maxRecDepth 100000
set_option maxHeartbeats 8000000


local macro_rules | `(tactic| walk_at "my none 0") => `(tactic| skip)
local macro_rules | `(tactic| k_all) => `(tactic| assumption)

theorem get_ct (w : World) (mean : ExcName → Option Value) (mg mb : Str → Option Value) (news : List (Addr × Obj)) (x dx pb st : Addr) (k1 k2 k3 k4 tl tw : Tok) (ln : Int) (n : Nat) (vs : List Value) (k : Nat) (v : Value) (h1 : pb ≠ x) (h2 : pb ≠ dx) (h3 : x ≠ dx) (hpb : ∀ p ∈ news, p.1 ≠ pb) (hl : vs.length ≤ 1000) :
   Ct 3 w mean mg mb 56 ((pb, W.listOf (v :: vs).toArray k) :: (x, instObj 66 dx) :: (dx, dictOf (lxE w k1 k2 k3 k4 tl tw ln st pb) n) :: news) [.ref x] (fun v' news' g g' => g' = g ∧ v' = v ∧ ∃ k', news' = (pb, W.listOf vs.toArray k') :: (x, instObj 66 dx) :: (dx, dictOf (lxE w k1 k2 k3 k4 tl tw ln st pb) n) :: news) := by
  w_top on
  w_on
  unfold Ct
  k_fill
  intro dp un gd cn cs a ccd cl outer A₀ base h₀ L m s Q E hB hF hX hN hT hK hDp hUn hret
  walk_at "my enter"
  clear hF hN
  k_steps
  have hne : ∀ p ∈ (x, instObj 66 dx) :: (dx, dictOf (lxE w k1 k2 k3 k4 tl tw ln st pb) n) :: news, p.1 ≠ pb := List.forall_mem_cons.mpr ⟨Ne.symm h1, List.forall_mem_cons.mpr ⟨Ne.symm h2, hpb⟩⟩
  refine' pop_led (by k_asm) (by k_asm) hne (by omega) ?_
  intro h5 k5 F5 N5
  dsimp only
  k_steps
  walk_at "my leave"
  exact hret _ _ _ _ _ ⟨rfl, rfl, k5, rfl⟩ (by k_asm) (by k_asm)
end
section
open PySem PySem.W PyProof.Rows
open PySem.Builtin PySem.Builtin.Str
set_option maxRecDepth 100000
set_option maxHeartbeats 8000000


local macro_rules | `(tactic| k_all) => `(tactic| assumption)
local macro_rules | `(tactic| walk_at "exec For Name Call cons nil") => `(tactic| (k_here; (rename Fr _ _ _ _ => lF'); (with_unfolding_all refine' For_S lF' ?k1 ?k2 ?_; (case k1 => exact rfl); (case k2 => exact rfl); k_whole)))

local macro_rules | `(tactic| walk_at "call ref") => `(tactic| (refine stop_here ?_))

inductive LdI (g0 : Array GenState) (O : Prop) (pb : Addr) (R : List (Addr × Obj)) (xs : List Str) (m' : Str → Option Value) (nw : Int) : List (Addr × Obj) → Array GenState → Prop
  | mk (ws : List Value) (kq : Nat) (tw : Tok) (hm : O) (hws : StrsAre ws xs) (hw : m' (Str.ofString "waiting") = some (.int nw tw)) : LdI g0 O pb R xs m' nw ((pb, W.listOf ws.toArray kq) :: R) g0
theorem ld_of {g0 : Array GenState} {O : Prop} {pb : Addr} {R : List (Addr × Obj)} {xs : List Str} {m' : Str → Option Value} {nw nv : Int} {ws : List Value} {kq : Nat} {tw : Tok} (hm : O) (hws : StrsAre ws xs) (hw : m' (Str.ofString "waiting") = some (.int nv tw)) (e : nv = nw) : LdI g0 O pb R xs m' nw ((pb, W.listOf ws.toArray kq) :: R) g0 :=
  .mk ws kq tw hm hws (e ▸ hw)

theorem led_ct (w : World) (mean : ExcName → Option Value) (mg mb : Str → Option Value) (news : List (Addr × Obj)) (x dx pb st : Addr) (k1 k2 k3 k4 tl tw : Tok) (ln : Int) (n : Nat) (k : Nat) (a b : Nat) (wd : List Nat) (t t2 t3 : Tok) (times : Nat) (hp : wd.length ≤ 6) (ht : times ≤ 2) (h1 : pb ≠ x) (h2 : pb ≠ dx) (h3 : x ≠ dx) (hpb : ∀ p ∈ news, p.1 ≠ pb) :
   Ct 8 w mean mg mb 101 ((pb, W.listOf ([] : List Value).toArray k) :: (x, instObj 66 dx) :: (dx, dictOf (lxE w k1 k2 k3 k4 tl tw ln st pb) n) :: news) [.ref x, .str (S [a, b]) t, .str (S wd) t2, .int (times : Int) t3] (fun v news' g g' => g' = g ∧ (∃ tv, v = .str (S (ledF a b wd times)) tv) ∧ ∃ k', news' = (pb, W.listOf ([] : List Value).toArray k') :: (x, instObj 66 dx) :: (dx, dictOf (lxE w k1 k2 k3 k4 tl tw ln st pb) n) :: news) := by
  w_top on
  w_on
  unfold Ct
  k_fill
  intro dp un gd cn cs aa ccd cl outer A₀ base h₀ L m s Q E hB hF hX hN hT hK hDp hUn hret
  walk_at "my enter"
  rename Fr _ _ _ _ => FF

  have FN := reframe (m' := fun y => if y = Str.ofString "times" then some (.int (times : Int) t3) else if y = Str.ofString "word" then some (.str (S wd) t2) else if y = Str.ofString "pair" then some (.str (S [a, b]) t) else none) FF (by with_unfolding_all rfl)
  clear FF
  clear hF hN
  rename_i gA Lc hA tkA FGA BA XA TA l1 oc d1 NA
  k_steps
  rename Fr _ _ _ _ => F0
  rename News _ _ _ _ => N0
  have dC := cell_said (v' := some (.ref x)) d1 (by with_unfolding_all rfl)
  clear d1
  have hcp : Lc + 1 ≠ pb := neN (by have := l1.1; lia  )
  have hR : ∀ p ∈ (Lc + 1, oc) :: news, p.1 ≠ pb := List.forall_mem_cons.mpr ⟨hcp, hpb⟩
  have N1 : News _ _ _ ((pb, W.listOf ([] : List Value).toArray k) :: (x, instObj 66 dx) :: (dx, dictOf (lxE w k1 k2 k3 k4 tl tw ln st pb) n) :: (Lc + 1, oc) :: news) := news_sub N0 (by walk_at "my sub")
  clear N0
  refine' iter_strG (fun i m' news' g => LnI _ (Off [Str.ofString "sign"] _ m') pb _ ((wd.take i).map so) news' g) rfl F0 N1 (.mk [] k Off.refl .nil) ?step ?done
  case step =>
    rintro I i d tv m₁ news₁ h tk g own hI hd ⟨ws, kq, hm, hws⟩ hoff hown F N
    rw [Off.eq1 hm] at F
    simp only [List.cons_append] at N
    have hd' := at_nat hd
    have hoI : pb ≠ I := hoff _ (.head _)
    have hR2 : ∀ p ∈ (Lc + 1, oc) :: (news ++ own), p.1 ≠ pb := List.forall_mem_cons.mpr ⟨hcp, fun p hp => (List.mem_append.mp hp).elim (hpb p) fun q => by rw [hown p q]; exact Ne.symm hoI⟩
    have hlen2 : ws.length ≤ 100 := by rw [hws.len_eq, List.length_map, List.length_take]; lia  
    clear F0 N1
    dsimp only
    k_steps
    unfold Stop
    refine' Ct.useK (push_ct _ _ _ _ ((Lc + 1, oc) :: (news ++ own)) x dx pb st k1 k2 k3 k4 tl tw ln n ws _ _ h1 h2 h3 hR2 (by lia  )) ?B ?F ?X ?N ?T ?K ?d ?u ?_
    walk_at "my uses"
    intro kq h' tk' F' N'
    dsimp only

    k_steps
    refine ⟨_, _, _, _, (pb, W.listOf (ws ++ [_]).toArray _) :: (x, instObj 66 dx) :: (dx, dictOf (lxE w k1 k2 k3 k4 tl tw ln st pb) n) :: (Lc + 1, oc) :: news, rfl, by k_asm, by k_asm, ?off, .mk _ _ ?offm ?q⟩
    case off =>
      intro p hp
      rcases List.mem_cons.mp hp with rfl | hp
      · exact fun q => hoI (List.mem_singleton.mp q)
      · exact fun q => hoff p (.tail _ hp) (List.mem_singleton.mp q)
    case offm => (intro z hz; simp only [List.mem_cons, List.not_mem_nil, or_false, not_or] at hz; simp only [hz, if_false])
    case q => exact take_so hd' hws _
  case done =>
    rintro h' tk g m' news' F N ⟨ws, kq, hm, hws⟩
    rw [Off.at1 hm] at F
    have hwl : (S wd).length = wd.length := S_length wd
    rw [S_length, List.take_length] at hws
    clear F0 N1
    dsimp only
    k_steps
    rename IsRange _ _ _ _ _ _ _ _ => hr
    rename Fr _ _ _ _ => F1
    rename News _ _ _ _ => N1
    revert hr F1 N1
    repeat (rename Fr _ (envOfC _ _ _ _ _).locals _ _ => Fz; clear Fz)
    intro hr F1 N1
    refine' iter_rangeS (n := times) (fun i m' news' g => LdI _ (Off [Str.ofString "done", Str.ofString "turn", Str.ofString "sign", Str.ofString "waiting"] _ m') pb _ ((ledF a b wd i).map so) m' ((ledF a b wd i).length : Int) news' g) rfl hr (range_size (by lia  )) (range_small (by lia  ) (by lia  ) (by lia  ) (by lia  )) F1 N1 (.mk ws _ _ Off.refl hws ?w0) ?step ?done
    case w0 => exact if_pos rfl
    case step =>
      rintro I i tv m₁ news₁ h tk g own hI hin ⟨ws, kq, twt, hm, hws, hwt⟩ hoff hown hIlt F N
      rw [hm.at4, hwt] at F
      dsimp only at F
      simp only [List.cons_append] at N
      have hl := led_len a b wd i
      obtain ⟨C, hC⟩ : ∃ C, C = ledF a b wd i := ⟨_, rfl⟩
      rw [← hC] at hws hl F
      have hi2 : 2 ^ i ≤ 2 := Nat.pow_le_pow_right (n := 2) (by decide) (show i ≤ 1 by lia  )
      have hCl : C.length ≤ 12 := by rw [hl]; exact Nat.mul_le_mul hp hi2
      have hoI : pb ≠ I := hoff _ (.head _)
      have hR2 : ∀ p ∈ (Lc + 1, oc) :: (news ++ own), p.1 ≠ pb := List.forall_mem_cons.mpr ⟨hcp, fun p hp => (List.mem_append.mp hp).elim (hpb p) fun q => by rw [hown p q]; exact Ne.symm hoI⟩
      clear hr F1 N1
      dsimp only
      k_steps
      rename IsRange _ _ _ _ _ _ _ _ => hr2
      rename Fr _ _ _ _ => F1
      rename News _ _ _ _ => N1
      refine' iter_rangeS (n := C.length) (fun j m' news' g => LnI _ (Off [Str.ofString "turn", Str.ofString "sign"] _ m') pb _ (lqF a b C j) news' g) rfl hr2 (range_size (by lia  )) (range_small (by lia  ) (by lia  ) (by lia  ) (by lia  )) F1 N1 (.mk ws _ Off.refl (lq_start hws)) ?step2 ?done2
      case step2 =>
        rintro I2 j tv2 m₂ news₂ h tk g own2 hI2 hin2 ⟨ws2, kq2, hm2, hws2⟩ hoff2 hown2 hIlt2 F N
        rw [hm2.at2] at F
        dsimp only at F
        simp only [List.cons_append] at N
        obtain ⟨t5, vs, rfl, hvs⟩ := lq_get hws2 hin2
        obtain ⟨d, hd⟩ : ∃ d, d = C[j] := ⟨_, rfl⟩
        rw [← hd] at N hoff2 hws2
        have hoI2 : pb ≠ I2 := hoff2 _ (.head _)
        have hR3 : ∀ p ∈ (Lc + 1, oc) :: ((news ++ own) ++ own2), p.1 ≠ pb := List.forall_mem_cons.mpr ⟨hcp, fun p hp => (List.mem_append.mp hp).elim (fun q => hR2 p (.tail _ q)) fun q => by rw [hown2 p q]; exact Ne.symm hoI2⟩
        clear hr2 F1 N1
        have hlen2 : vs.length ≤ 300 := by rw [hvs.len_eq]; exact lq_len (by lia  )
        dsimp only
        k_steps
        unfold Stop
        refine' Ct.useK (get_ct _ _ _ _ ((Lc + 1, oc) :: ((news ++ own) ++ own2)) x dx pb st k1 k2 k3 k4 tl tw ln n vs _ _ h1 h2 h3 hR3 (by lia  )) ?B ?F ?X ?N ?T ?K ?d ?u ?_
        walk_at "my uses"
        intro kq h' tk' F' N'
        dsimp only

        k_steps
        unfold Stop
        refine' Ct.useK (push_ct _ _ _ _ ((Lc + 1, oc) :: ((news ++ own) ++ own2)) x dx pb st k1 k2 k3 k4 tl tw ln n vs _ _ h1 h2 h3 hR3 (by lia  )) ?B ?F ?X ?N ?T ?K ?d ?u ?_
        walk_at "my uses"
        intro kq h' tk' F' N'
        dsimp only

        k_steps

        · rename (_ == _) = true => hc
          rename 1 ≤ Str.length _ ∧ _ => hil
          clear hil
          rw [pair_item1]
          unfold Stop
          refine' Ct.useK (push_ct _ _ _ _ ((Lc + 1, oc) :: ((news ++ own) ++ own2)) x dx pb st k1 k2 k3 k4 tl tw ln n (vs ++ [_]) _ _ h1 h2 h3 hR3 (by rw [List.length_append]; simp; lia  )) ?B ?F ?X ?N ?T ?K ?d ?u ?_
          walk_at "my uses"
          intro kq h' tk' F' N'
          dsimp only

          k_steps
          refine ⟨_, _, _, _, (pb, W.listOf (vs ++ [_] ++ [_]).toArray _) :: (x, instObj 66 dx) :: (dx, dictOf (lxE w k1 k2 k3 k4 tl tw ln st pb) n) :: (Lc + 1, oc) :: (news ++ own), rfl, by k_asm, by k_asm, ?off, .mk _ _ ?offm ?q⟩
          case off =>
            intro p hp
            rcases List.mem_cons.mp hp with rfl | hp
            · exact fun q => hoI2 (List.mem_singleton.mp q)
            · exact fun q => hoff2 p (.tail _ hp) (List.mem_singleton.mp q)
          case offm => (intro z hz; simp only [List.mem_cons, List.not_mem_nil, or_false, not_or] at hz; simp only [hz, if_false])
          case q =>
            have ho : othF a b d = b := by
              rw [pair_item0] at hc
              have hc' : decide (d = a) = true := by rw [← so_eq]; exact hc
              unfold othF
              simp at hc'
              simp [hc']
            exact lq_push' hvs hin2 hd ho _ _

        · rename (_ == _) = false => hc
          rename 1 ≤ Str.length _ ∧ _ => hil
          clear hil
          rw [pair_item0]
          unfold Stop
          refine' Ct.useK (push_ct _ _ _ _ ((Lc + 1, oc) :: ((news ++ own) ++ own2)) x dx pb st k1 k2 k3 k4 tl tw ln n (vs ++ [_]) _ _ h1 h2 h3 hR3 (by rw [List.length_append]; simp; lia  )) ?B ?F ?X ?N ?T ?K ?d ?u ?_
          walk_at "my uses"
          intro kq h' tk' F' N'
          dsimp only

          k_steps
          refine ⟨_, _, _, _, (pb, W.listOf (vs ++ [_] ++ [_]).toArray _) :: (x, instObj 66 dx) :: (dx, dictOf (lxE w k1 k2 k3 k4 tl tw ln st pb) n) :: (Lc + 1, oc) :: (news ++ own), rfl, by k_asm, by k_asm, ?off, .mk _ _ ?offm ?q⟩
          case off =>
            intro p hp
            rcases List.mem_cons.mp hp with rfl | hp
            · exact fun q => hoI2 (List.mem_singleton.mp q)
            · exact fun q => hoff2 p (.tail _ hp) (List.mem_singleton.mp q)
          case offm => (intro z hz; simp only [List.mem_cons, List.not_mem_nil, or_false, not_or] at hz; simp only [hz, if_false])
          case q =>
            have ho : othF a b d = a := by
              rw [pair_item0] at hc
              have hc' : decide (d = a) = false := by rw [← so_eq]; exact hc
              unfold othF
              simp at hc'
              simp [hc']
            exact lq_push' hvs hin2 hd ho _ _

      case done2 =>
        rintro h' tk g m' news' F N ⟨ws2, kq2, hm2, hws2⟩
        rw [hm2.at2] at F
        rw [lq_end] at hws2
        clear hr2 F1 N1
        dsimp only
        k_steps
        rename Fr _ _ _ _ => F2
        refine ⟨_, _, _, _, (pb, W.listOf ws2.toArray _) :: (x, instObj 66 dx) :: (dx, dictOf (lxE w k1 k2 k3 k4 tl tw ln st pb) n) :: (Lc + 1, oc) :: news, rfl, F2, by k_asm, ?off, ld_of ?offm ?q (if_pos rfl) ?wt⟩
        case off =>
          intro p hp
          rcases List.mem_cons.mp hp with rfl | hp
          · exact fun q => hoI (List.mem_singleton.mp q)
          · exact fun q => hoff p (.tail _ hp) (List.mem_singleton.mp q)
        case offm => (intro z hz; simp only [List.mem_cons, List.not_mem_nil, or_false, not_or] at hz; simp only [hz, if_false])
        case q => rw [ledF, ← hC]; exact hws2
        case wt =>
          rw [ledF, ← hC, thue_len]; lia  
    case done =>
      rintro h' tk g m' news' F N ⟨ws, kq, twt, hm, hws, hwt⟩
      rw [hm.at4, hwt] at F
      dsimp only at F
      have hl := led_len a b wd times
      obtain ⟨C, hC⟩ : ∃ C, C = ledF a b wd times := ⟨_, rfl⟩
      rw [← hC] at hws hl F
      have hi2 : 2 ^ times ≤ 2 ^ 2 := Nat.pow_le_pow_right (n := 2) (by decide) ht
      have hCl : C.length ≤ 24 := by rw [hl]; exact Nat.mul_le_mul hp hi2
      clear hr F1 N1
      dsimp only
      k_steps
      rename IsRange _ _ _ _ _ _ _ _ => hr3
      rename Fr _ _ _ _ => F1
      rename News _ _ _ _ => N1
      refine' citer_range (n := C.length) (fun _ _ => true) (fun i ys news' g => LnC _ (StrsAre ys ((C.take i).map so)) pb _ ((C.drop i).map so) news' g) rfl hr3 (range_size (by lia  )) (range_small (by lia  ) (by lia  ) (by lia  ) (by lia  )) F1 N1 ?hsz (.mk ws _ .nil (by rw [List.drop_zero]; exact hws)) ?skip ?tests ?elt3 ?done3
      case hsz => lia  
      case skip => intro i t ys news₁ g _ q; exact absurd q (by decide)
      case tests => intro C D I i tv ys news₁ h tk g own mC _ _ _ _ _ _ _ F N _ _ E'; exact wpAny_pure ⟨rfl, _, _, rfl, F, N⟩
      case elt3 =>
        rintro Cc D I3 i tv ys news₁ h tk g own mC hCc hD hI3 hi _ ⟨ws3, kq3, hys, hws3⟩ hoff hown F N hn hmC E'
        have cE := InElt.start h
        clear hr3 F1 N1
        rw [List.drop_eq_getElem_cons hi, List.map_cons] at hws3
        obtain ⟨t5, vs, rfl, hvs⟩ := strsAre_cons2 hws3
        have hv100 : vs.length ≤ 100 := by rw [hvs.len_eq, List.length_map, List.length_drop]; lia  
        have ho3 := hoff (pb, _) (.head _)
        have hR3 : ∀ p ∈ (Lc + 1, oc) :: (news ++ own), p.1 ≠ pb := List.forall_mem_cons.mpr ⟨hcp, fun p hp => (List.mem_append.mp hp).elim (hpb p) fun q e => ho3 (by have := hown p q; rw [e] at this; exact this)⟩
        dsimp only
        k_steps
        unfold Stop
        refine' Ct.useK (get_ct _ _ _ _ ((Lc + 1, oc) :: (news ++ own)) x dx pb st k1 k2 k3 k4 tl tw ln n vs _ _ h1 h2 h3 hR3 (by lia  )) ?B ?F ?X ?N ?T ?K ?d ?u ?_
        walk_at "my uses"
        intro kq h' tk' F' N'
        dsimp only

        k_steps
        refine ⟨_, _, _, (pb, W.listOf vs.toArray _) :: (x, instObj 66 dx) :: (dx, dictOf (lxE w k1 k2 k3 k4 tl tw ln st pb) n) :: (Lc + 1, oc) :: news, rfl, by k_asm, by k_asm, ?off, .mk _ _ ?ys hvs⟩
        case off =>
          intro p hp
          rcases List.mem_cons.mp hp with rfl | hp
          · exact ho3
          · exact hoff p (.tail _ hp)
        case ys => exact take_get hys hi _
      case done3 =>
        rintro D h' tk g news' ys kd hD F N hoff ⟨ws3, kq3, hys, hws3⟩
        clear hr3 F1 N1
        rw [List.drop_length] at hws3
        rw [List.take_length] at hys
        cases hws3
        have hsum : ((C.map so).map (·.length)).sum ≤ 100000 := by rw [so_sum]; lia  
        dsimp only
        k_steps
        refine' join_led ?jN ?jm ?jh ?jt ?_
        case jN => k_asm
        case jm => k_mem
        case jh => assumption
        case jt => exact hsum
        intro xx _ _ ex hx1
        rw [flat_so] at ex
        subst ex
        k_steps
        walk_at "my leave"
        exact hret _ _ _ _ _ ⟨rfl, ⟨_, by rw [hC]⟩, kq3, rfl⟩ (by k_asm) (news_sub (by k_asm) (by walk_at "my sub"))
end
section
open PySem PySem.W PyProof.Rows
open PySem.Builtin PySem.Builtin.Str
set_option maxRecDepth 100000
set_option maxHeartbeats 8000000


local macro_rules | `(tactic| k_all) => `(tactic| assumption)
local macro_rules | `(tactic| walk_at "exec For Name Call cons nil") => `(tactic| (k_here; (rename Fr _ _ _ _ => lF'); (with_unfolding_all refine' For_S lF' ?k1 ?k2 ?_; (case k1 => exact rfl); (case k2 => exact rfl); k_whole)))

noncomputable def blockF (a b c : Nat) : Nat → List Nat
  | 0 => [c]
  | n + 1 => blockF a b c n ++ (blockF a b c n).map (othF a b)
theorem block_len (a b c : Nat) : ∀ n, (blockF a b c n).length = 2 ^ n
  | 0 => rfl
  | n + 1 => by rw [blockF, List.length_append, List.length_map, block_len a b c n, Nat.pow_succ]; lia  
inductive BkI (g0 : Array GenState) (R : List (Addr × Obj)) (O : Prop) (x : Str) (m' : Str → Option Value) : List (Addr × Obj) → Array GenState → Prop
  | mk (tb : Tok) (hm : O) (hb : m' (Str.ofString "block") = some (.str x tb)) : BkI g0 R O x m' R g0
inductive BkE (g0 : Array GenState) (R : List (Addr × Obj)) (O : Prop) : List (Addr × Obj) → Array GenState → Prop
  | mk (hm : O) : BkE g0 R O R g0
theorem bk_of {g0 : Array GenState} {R : List (Addr × Obj)} {O : Prop} {x y : Str} {m' : Str → Option Value} {tb : Tok} (hm : O) (hb : m' (Str.ofString "block") = some (.str y tb)) (e : y = x) : BkI g0 R O x m' R g0 := .mk tb hm (e ▸ hb)
theorem oth_take {a b d e : Nat} {w : List Nat} {i : Nat} {ys : List Value} (hw : w[i]? = some d) (h : StrsAre ys ((w.take i).map fun c => so (othF a b c))) (he : othF a b d = e) (t : Tok) : StrsAre (ys ++ [.str (S [e]) t]) ((w.take (i + 1)).map fun c => so (othF a b c)) := by
  subst he
  rw [take_succ_map w (fun c => so (othF a b c)) hw]; exact strsAre_snoc h _ _
theorem oth_t {a b d : Nat} (h : (so d == S [a]) = true) : othF a b d = b := by
  have hc : decide (d = a) = true := by rw [← so_eq]; exact h
  unfold othF; simp at hc; simp [hc]
theorem oth_f {a b d : Nat} (h : (so d == S [a]) = false) : othF a b d = a := by
  have hc : decide (d = a) = false := by rw [← so_eq]; exact h
  unfold othF; simp at hc; simp [hc]
theorem map_so (a b : Nat) (w : List Nat) : (w.map fun c => so (othF a b c)) = (w.map (othF a b)).map so := by rw [List.map_map]; rfl

theorem block_ct (w : World) (mean : ExcName → Option Value) (mg mb : Str → Option Value) (news : List (Addr × Obj)) (a b c : Nat) (t t2 t3 : Tok) (times : Nat) (ht : times ≤ 2) :
   Ct 2 w mean mg mb 106 news [.str (S [c]) t, .str (S [a, b]) t2, .int (times : Int) t3] (isS (S (blockF a b c times)) news) := by
  w_top on
  w_on
  unfold Ct
  k_fill
  intro dp un gd cn cs aa ccd cl outer A₀ base h₀ L m s Q E hB hF hX hN hT hK hDp hUn hret
  walk_at "my enter"
  rename Fr _ _ _ _ => FF

  have FN := reframe (m' := fun y => if y = Str.ofString "times" then some (.int (times : Int) t3) else if y = Str.ofString "sign" then some (.str (S [c]) t) else none) FF (by with_unfolding_all rfl)
  clear FF
  clear hF hN
  rename_i gA Lc hA tkA FGA BA XA TA l1 oc d1 NA
  k_steps
  rename IsRange _ _ _ _ _ _ _ _ => hr
  rename Fr _ _ _ _ => F0
  rename News _ _ _ _ => N0
  have dC := cell_said (v' := some (.str (S [a, b]) t2)) d1 (by with_unfolding_all rfl)
  clear d1
  refine' iter_rangeS (n := times) (fun i m' news' g => BkI _ _ (Off [Str.ofString "done", Str.ofString "block"] _ m') (S (blockF a b c i)) m' news' g) rfl hr (range_size (by lia  )) (range_small (by lia  ) (by lia  ) (by lia  ) (by lia  )) F0 N0 (.mk _ Off.refl (if_pos rfl)) ?step ?done
  case step =>
    rintro I i tv m₁ news₁ h tk g own hI hin ⟨tb, hm, hb⟩ hoff hown hIlt F N
    rw [hm.at2, hb] at F
    dsimp only at F
    have hl := block_len a b c i
    obtain ⟨B, hB⟩ : ∃ B, B = blockF a b c i := ⟨_, rfl⟩
    rw [← hB] at hl F
    have hi2 : 2 ^ i ≤ 2 := Nat.pow_le_pow_right (n := 2) (by decide) (show i ≤ 1 by lia  )
    have hSB : (S B).length = B.length := S_length B
    simp only [List.cons_append] at N
    clear hr F0 N0
    dsimp only
    k_steps
    rename Fr _ _ _ _ => F1
    rename News _ _ _ _ => N1
    refine' citer_str (fun _ _ => true) (fun j ys news' g => BkE _ _ (StrsAre ys ((B.take j).map fun c => so (othF a b c))) news' g) rfl F1 N1 (by lia  ) (.mk .nil) (fun _ _ _ _ _ _ _ h => absurd h (by decide)) ?tests ?elt ?done2
    case tests => intro C D I i d tv ys news₁ h tk g own mC _ _ _ _ _ _ _ F N _ _ E'; exact wpAny_pure ⟨rfl, _, _, rfl, F, N⟩
    case elt =>
      rintro C D I2 j d tv ys news₂ h tk g own2 mC hC hD hI2 hd _ ⟨hJ⟩ hoff2 hown2 F N hn hmC E'
      have cE := InElt.start h
      have hd' := at_nat hd
      clear F1 N1
      dsimp only
      k_steps
      · rename (_ == _) = true => hc
        rw [pair_item0] at hc
        refine ⟨_, _, _, _, rfl, by k_asm, by k_asm, hoff2, .mk ?q⟩
        case q => rw [pair_item1]; exact oth_take hd' hJ (oth_t hc) _
      · rename (_ == _) = false => hc
        rw [pair_item0] at hc
        refine ⟨_, _, _, _, rfl, by k_asm, by k_asm, hoff2, .mk ?q⟩
        case q => rw [pair_item0]; exact oth_take hd' hJ (oth_f hc) _
    case done2 =>
      rintro D h' tk g news' ys kd hD F N hoff2 ⟨hJ⟩
      rw [S_length, List.take_length, map_so] at hJ
      have hsum : (((B.map (othF a b)).map so).map (·.length)).sum ≤ 100000 := by rw [so_sum, List.length_map]; lia  
      clear F1 N1
      dsimp only
      k_steps
      refine' join_led ?jN ?jm ?jh ?jt ?_
      case jN => k_asm
      case jm => k_mem
      case jh => assumption
      case jt => exact hsum
      intro xx _ _ ex hx1
      rw [flat_so] at ex
      subst ex
      have hSB2 : (S (B.map (othF a b))).length = B.length := by rw [S_length, List.length_map]
      k_steps
      rename Fr _ _ _ _ => F2
      rename News _ _ _ _ => N2
      refine ⟨_, _, _, _, (Lc + 1, oc) :: news, rfl, F2, news_sub N2 (fun p hp => .tail _ hp), fun p hp e => hoff p hp (List.mem_singleton.mp e), bk_of ?offm (if_pos rfl) ?q⟩
      case offm => (intro z hz; simp only [List.mem_cons, List.not_mem_nil, or_false, not_or] at hz; simp only [hz, if_false])
      case q => rw [S_append, blockF, ← hB]
  case done =>
    rintro h' tk g m' news' F N ⟨tb, hm, hb⟩
    rw [hm.at2, hb] at F
    clear hr F0 N0
    dsimp only
    k_steps
    walk_at "my leave"
    exact hret _ _ _ _ _ ⟨⟨tb, rfl⟩, rfl, rfl⟩ (by k_asm) (news_sub (by k_asm) (by walk_at "my sub"))
end
section
open PySem PySem.W PyProof.Rows
open PySem.Builtin PySem.Builtin.Str
set_option maxRecDepth 100000
set_option maxHeartbeats 8000000


local macro_rules | `(tactic| k_all) => `(tactic| assumption)
local macro_rules | `(tactic| walk_at "exec For Name Call cons nil") => `(tactic| (k_here; (rename Fr _ _ _ _ => lF'); (with_unfolding_all refine' For_S lF' ?k1 ?k2 ?_; (case k1 => exact rfl); (case k2 => exact rfl); k_whole)))
local macro_rules | `(tactic| walk_at "pyIter ref") => `(tactic| (refine stop_here ?_))

noncomputable def alF (w : List Nat) (s : Nat) : Nat → Nat
  | 0 => 0
  | j + 1 => if w.getD (s + j) 0 = w.getD j 0 then alF w s j + 1 else 0
noncomputable def lgF (w : List Nat) (s : Nat) : Nat → Nat
  | 0 => 0
  | j + 1 => max (lgF w s j) (alF w s (j + 1))
theorem al_le (w : List Nat) (s : Nat) : ∀ j, alF w s j ≤ j
  | 0 => Nat.le_refl _
  | j + 1 => by rw [alF]; split; exact Nat.succ_le_succ (al_le w s j); exact Nat.zero_le _
theorem lg_le (w : List Nat) (s : Nat) : ∀ j, lgF w s j ≤ j
  | 0 => Nat.le_refl _
  | j + 1 => by rw [lgF]; exact Nat.max_le.mpr ⟨Nat.le_succ_of_le (lg_le w s j), al_le w s (j + 1)⟩
noncomputable def lapP (w : List Nat) (s : Nat) : Bool := decide (s < lgF w s (w.length - s))
noncomputable def lapsF (w : List Nat) : List Nat := ((List.range ((w.length - 1) / 2)).map (· + 1)).filter (lapP w)
inductive LpO (g0 : Array GenState) (O : Prop) (D : Addr) (R : List (Addr × Obj)) (xs : List Int) : List (Addr × Obj) → Array GenState → Prop
  | mk (ws : List Value) (kq : Nat) (hm : O) (hws : IntsAre ws xs) : LpO g0 O D R xs ((D, W.listOf ws.toArray kq) :: R) g0
inductive LpI (g0 : Array GenState) (R : List (Addr × Obj)) (O : Prop) (a l : Int) (m' : Str → Option Value) : List (Addr × Obj) → Array GenState → Prop
  | mk (ta tl : Tok) (hm : O) (ha : m' (Str.ofString "alike") = some (.int a ta)) (hl : m' (Str.ofString "longest") = some (.int l tl)) : LpI g0 R O a l m' R g0
theorem lp_of {g0 : Array GenState} {R : List (Addr × Obj)} {O : Prop} {a l a' l' : Int} {m' : Str → Option Value} {ta tl : Tok} (hm : O) (ha : m' (Str.ofString "alike") = some (.int a' ta)) (hl : m' (Str.ofString "longest") = some (.int l' tl)) (ea : a' = a) (el : l' = l) : LpI g0 R O a l m' R g0 := .mk ta tl hm (ea ▸ ha) (el ▸ hl)
theorem item_nat {w : List Nat} {k : Nat} {z : Int} (e : z = (k : Int)) (h : k < w.length) : Txt.item (S w) z = so (w.getD k 0) := by
  subst e
  rw [item_meets ⟨Int.natCast_nonneg _, by rw [S_length]; lia  ⟩]
  show (⟨#[(S w).cps.getD (Int.toNat (k : Int)) 0]⟩ : Str) = ⟨#[w.getD k 0]⟩
  have : (S w).cps.getD (Int.toNat (k : Int)) 0 = w.getD k 0 := by
    show (w.toArray).getD k 0 = w.getD k 0
    simp [Array.getD_eq_getD_getElem?, List.getD_eq_getElem?_getD]
  rw [this]
theorem lap_at {w : List Nat} {s j : Nat} {z1 z2 : Int} {b : Bool} (hc : (Txt.item (S w) z1 == Txt.item (S w) z2) = b) (e1 : z1 = ((s + j : Nat) : Int)) (e2 : z2 = (j : Int)) (h : s + j < w.length) : decide (w.getD (s + j) 0 = w.getD j 0) = b := by
  rw [item_nat e1 h, item_nat e2 (by lia  ), so_eq] at hc
  exact hc
theorem al_t {w : List Nat} {s j : Nat} (h : decide (w.getD (s + j) 0 = w.getD j 0) = true) : alF w s (j + 1) = alF w s j + 1 := by
  rw [alF, if_pos (of_decide_eq_true h)]
theorem al_f {w : List Nat} {s j : Nat} (h : decide (w.getD (s + j) 0 = w.getD j 0) = false) : alF w s (j + 1) = 0 := by
  rw [alF, if_neg (of_decide_eq_false h)]
theorem lg_if {a l : Int} {a' l' : Nat} (ea : a = (a' : Int)) (el : l = (l' : Int)) : (if a > l then a else l) = ((max l' a' : Nat) : Int) := by
  subst ea; subst el
  split <;> lia  
theorem half_size {n : Nat} : Builtin.Range.rangeSize 1 (((n : Int) - 1).fdiv 2 + 1) 1 = (((n - 1) / 2 : Nat) : Int) := by
  rw [Int.fdiv_eq_ediv_of_nonneg _ (by decide)]
  by_cases h : n = 0
  · subst h; decide
  · exact range_size (by lia  )
theorem half_small {n : Nat} (h : n ≤ 100) (h1 : 1 ≤ n) : Builtin.Range.small 1 (((n : Int) - 1).fdiv 2 + 1) 1 = true := by
  rw [Int.fdiv_eq_ediv_of_nonneg _ (by decide)]
  exact range_small (by lia  ) (by lia  ) (by lia  ) (by lia  )
theorem flt_no {p : Nat → Bool} {i : Nat} (h : p (i + 1) = false) : ((List.range (i + 1)).map (· + 1)).filter p = ((List.range i).map (· + 1)).filter p := by
  rw [List.range_succ, List.map_append, List.filter_append]
  simp [h]
theorem flt_yes {p : Nat → Bool} {i : Nat} (h : p (i + 1) = true) : ((List.range (i + 1)).map (· + 1)).filter p = ((List.range i).map (· + 1)).filter p ++ [i + 1] := by
  rw [List.range_succ, List.map_append, List.filter_append]
  simp [h]
theorem flt_snoc {p : Nat → Bool} {i : Nat} {ys : List Value} (hp : p (i + 1) = true) (h : IntsAre ys ((((List.range i).map (· + 1)).filter p).map Int.ofNat)) (t : Tok) : IntsAre (ys ++ [.int (1 + (i : Int)) t]) ((((List.range (i + 1)).map (· + 1)).filter p).map Int.ofNat) := by
  rw [flt_yes hp, List.map_append]
  have e : (1 + (i : Int)) = Int.ofNat (i + 1) := by show _ = ((i + 1 : Nat) : Int); lia  
  rw [e]
  exact ints_snoc h _ _
theorem flt_same {p : Nat → Bool} {i : Nat} {ys : List Value} (hp : p (i + 1) = false) (h : IntsAre ys ((((List.range i).map (· + 1)).filter p).map Int.ofNat)) : IntsAre ys ((((List.range (i + 1)).map (· + 1)).filter p).map Int.ofNat) := by
  rw [flt_no hp]; exact h
theorem flt_len {p : Nat → Bool} {i : Nat} : ((((List.range i).map (· + 1)).filter p).map Int.ofNat).length ≤ i := by
  rw [List.length_map]
  have := List.length_filter_le p ((List.range i).map (· + 1))
  rwa [List.length_map, List.length_range] at this

theorem laps_ct (w : World) (mean : ExcName → Option Value) (mg mb : Str → Option Value) (news : List (Addr × Obj)) (wd : List Nat) (t : Tok) (h1 : 1 ≤ wd.length) (h2 : wd.length ≤ 100) :
   Ct 2 w mean mg mb 120 news [.str (S wd) t] (fun v news' g g' => g' = g ∧ ∃ D ws k, v = .ref D ∧ news' = (D, W.listOf ws.toArray k) :: news ∧ IntsAre ws ((lapsF wd).map Int.ofNat) ∧ ∀ p ∈ news, p.1 < D) := by
  w_top on
  w_on
  unfold Ct
  k_fill
  intro dp un gd cn cs aa ccd cl outer A₀ base h₀ L m s Q E hB hF hX hN hT hK hDp hUn hret
  walk_at "my enter"
  rename Fr _ _ _ _ => FF

  have FN := reframe (m' := fun y => if y = Str.ofString "word" then some (.str (S wd) t) else none) FF (by with_unfolding_all exact look1b _ _)
  clear FF
  clear hF hN
  have hSl : (S wd).length = wd.length := S_length wd
  generalize s.toks + List.length _ + 1 = tk0
  k_steps
  dsimp only at *
  unfold Stop
  rename IsRange _ _ _ _ _ _ _ _ => hr
  rename Fr _ _ _ _ => F0
  rename News _ _ _ _ => N0
  with_reducible rename (∀ p ∈ _, _) => l1
  refine' iter_rangeS (n := (wd.length - 1) / 2) (fun i m' news' g => LpO _ (Off [Str.ofString "step", Str.ofString "place", Str.ofString "alike", Str.ofString "longest"] _ m') _ _ ((((List.range i).map (· + 1)).filter (lapP wd)).map Int.ofNat) news' g) rfl hr ?z1 ?z2 F0 N0 (.mk [] _ Off.refl .nil) ?step ?done
  case z1 => exact half_size
  case z2 => exact half_small h2 h1
  case step =>
    rintro I i tv m₁ news₁ h tk g own hI hin ⟨ws, kq, hm, hws⟩ hoff hown hIlt F N
    rw [hm.at4] at F
    have hlen : ws.length ≤ 100 := by rw [hws.length]; exact Nat.le_trans flt_len (by lia  )
    simp only [List.cons_append] at N
    clear hr F0 N0 hI
    dsimp only
    k_steps
    unfold Stop
    rename IsRange _ _ _ _ _ _ _ _ => hr2
    rename Fr _ _ _ _ => F1
    rename News _ _ _ _ => N1
    rename IntsAre _ _ => hws
    refine' iter_rangeS (n := wd.length - (i + 1)) (fun j m' news' g => LpI _ _ (Off [Str.ofString "place", Str.ofString "alike", Str.ofString "longest"] _ m') (alF wd (i + 1) j : Int) (lgF wd (i + 1) j : Int) m' news' g) rfl hr2 (range_size (by lia  )) (range_small (by lia  ) (by lia  ) (by lia  ) (by lia  )) F1 N1 (lp_of Off.refl ((if_neg (by decide)).trans (if_pos rfl)) (if_pos rfl) rfl rfl) ?step2 ?done2
    case step2 =>
      rintro I2 j tv2 m₂ news₂ h tk g own2 hI2 hin2 ⟨ta, tl, hm2, ha, hl⟩ hoff2 hown2 hIlt2 F N
      rw [hm2.at3, ha, hl] at F
      dsimp only at F
      simp only [List.cons_append] at N
      have hal := al_le wd (i + 1) j
      have hlg := lg_le wd (i + 1) j
      clear hr2 F1 N1
      dsimp only
      k_steps
      · rename (_ == _) = true => hc
        have hd := lap_at (s := i + 1) (j := j) hc (by lia  ) (by lia  ) (by lia  )
        rename Fr _ _ _ _ => F2
        rename News _ _ _ _ => N2
        refine ⟨_, _, _, _, (_, W.listOf ws.toArray kq) :: (news ++ own), rfl, F2, N2, fun p hp e => hoff2 p hp (List.mem_singleton.mp e), lp_of ?offm ((if_neg (by decide)).trans (if_pos rfl)) (if_pos rfl) ?ea ?el⟩
        case offm => (intro z hz; simp only [List.mem_cons, List.not_mem_nil, or_false, not_or] at hz; simp only [hz, if_false])
        case ea => rw [al_t hd]; rfl
        case el => rw [lgF, al_t hd]; exact lg_if rfl rfl
      · rename (_ == _) = false => hc
        have hd := lap_at (s := i + 1) (j := j) hc (by lia  ) (by lia  ) (by lia  )
        rename Fr _ _ _ _ => F2
        rename News _ _ _ _ => N2
        refine ⟨_, _, _, _, (_, W.listOf ws.toArray kq) :: (news ++ own), rfl, F2, N2, fun p hp e => hoff2 p hp (List.mem_singleton.mp e), lp_of ?offm ((if_neg (by decide)).trans (if_pos rfl)) (if_pos rfl) ?ea ?el⟩
        case offm => (intro z hz; simp only [List.mem_cons, List.not_mem_nil, or_false, not_or] at hz; simp only [hz, if_false])
        case ea => rw [al_f hd]; rfl
        case el => rw [lgF, al_f hd]; exact lg_if rfl rfl
    case done2 =>
      rintro h' tk g m' news' F N ⟨ta, tl, hm2, ha, hl⟩
      rw [hm2.at3, ha, hl] at F
      dsimp only at F
      clear hr2 F1 N1
      dsimp only
      k_steps
      · have hp : lapP wd (i + 1) = true := by
          unfold lapP; rw [decide_eq_true_iff]; lia  
        refine' append_led (by k_asm) (by k_asm) ?hne (by lia  ) ?_
        case hne =>
          intro p hp e
          rcases List.mem_append.mp hp with q | q
          · have := l1 p q; rw [e] at this; exact Nat.lt_irrefl _ this
          · exact hoff _ (.head _) (e ▸ hown p q)
        intro h5 k5 F5 N5
        dsimp only
        k_steps
        refine ⟨_, _, _, _, (_, W.listOf (ws ++ [Value.int (1 + (i : Int)) tv]).toArray k5) :: news, rfl, F5, N5, ?off, .mk _ _ ?offm (flt_snoc hp hws _)⟩
        case off =>
          intro p hp e
          rcases List.mem_cons.mp hp with rfl | hp
          · exact hoff _ (.head _) (List.mem_singleton.mp e)
          · exact hoff p (.tail _ hp) (List.mem_singleton.mp e)
        case offm => (intro z hz; simp only [List.mem_cons, List.not_mem_nil, or_false, not_or] at hz; simp only [hz, if_false])
      · have hp : lapP wd (i + 1) = false := by
          unfold lapP; rw [decide_eq_false_iff_not]; lia  
        refine ⟨_, _, _, _, (_, W.listOf ws.toArray kq) :: news, rfl, F, N, ?off2, .mk _ _ ?offm2 (flt_same hp hws)⟩
        case off2 =>
          intro p hp e
          exact hoff p hp (List.mem_singleton.mp e)
        case offm2 => (intro z hz; simp only [List.mem_cons, List.not_mem_nil, or_false, not_or] at hz; simp only [hz, if_false])
  case done =>
    rintro h' tk g m' news' F N ⟨ws, kq, hm, hws⟩
    rw [hm.at4] at F
    clear hr F0 N0
    dsimp only
    k_steps
    walk_at "my leave"
    exact hret _ _ _ _ _ ⟨rfl, _, ws, kq, rfl, rfl, hws, l1⟩ (by k_asm) (by k_asm)
end
section
open PySem PySem.W PyProof.Rows
open PySem.Builtin PySem.Builtin.Str
set_option maxRecDepth 100000
set_option maxHeartbeats 8000000

/-- a text and its first sign again -/
noncomputable def lapW (p : List Nat) : List Nat := p ++ p ++ p.take 1
noncomputable def lapIn (wd p : List Nat) : Bool := (List.range (wd.length + 1)).any fun i => decide (i + (lapW p).length ≤ wd.length) && ((wd.drop i).take (lapW p).length == lapW p)
theorem find_lap (u l : Nat) (wd p : List Nat) : decide (0 ≤ find4 (S ([u] ++ wd ++ [l])) (S (lapW p)) ((S [u]).length : Nat) (((S ([u] ++ wd ++ [l])).length : Int) - ((S [l]).length : Nat))) = lapIn wd p := by
  have hx : (S ([u] ++ wd ++ [l])).length = wd.length + 2 := by rw [S_length]; simp
  have e1 : ((S [u]).length : Nat) = 1 := S_length _
  have e2 : ((S [l]).length : Nat) = 1 := S_length _
  have e3 : ((((S ([u] ++ wd ++ [l])).length : Nat) : Int) - ((S [l]).length : Nat)) = ((wd.length + 1 : Nat) : Int) := by rw [hx, e2]; lia  
  rw [Bool.eq_iff_iff, decide_eq_true_iff, e3, find4_nonneg, fromIndex_nat, fromIndex_nat, hx, e1]
  unfold lapIn
  rw [List.any_eq_true]
  have key : ∀ k, k + (lapW p).length ≤ wd.length → (subAt (S ([u] ++ wd ++ [l])) (S (lapW p)) (k + 1) = true ↔ (wd.drop k).take (lapW p).length = lapW p) := fun k hk => by
    rw [StrLaws.subAt_eq, beq_iff_eq]
    show (([u] ++ wd ++ [l]).drop (k + 1)).take (S (lapW p)).length = lapW p ↔ _
    rw [S_length]
    have : (([u] ++ wd ++ [l]).drop (k + 1)).take (lapW p).length = (wd.drop k).take (lapW p).length := by
      show ((wd ++ [l]).drop k).take (lapW p).length = _
      rw [List.drop_append_of_le_length (by lia  ), List.take_append_of_le_length (by rw [List.length_drop]; lia  )]
    rw [this]
  constructor
  · rintro ⟨k, h1, h2, h3⟩
    rw [S_length] at h2
    obtain ⟨j, rfl⟩ : ∃ j, k = j + 1 := ⟨k - 1, by lia  ⟩
    have hk : j + (lapW p).length ≤ wd.length := by lia  
    refine ⟨j, List.mem_range.mpr (by lia  ), ?_⟩
    rw [Bool.and_eq_true, decide_eq_true_iff, beq_iff_eq]
    exact ⟨hk, (key j hk).mp h3⟩
  · rintro ⟨j, _, h⟩
    rw [Bool.and_eq_true, decide_eq_true_iff, beq_iff_eq] at h
    exact ⟨j + 1, by lia  , by rw [S_length]; lia  , (key j h.1).mpr h.2⟩
section
variable (w : World) (mean : ExcName → Option Value) (mg mb : Str → Option Value) (news : List (Addr × Obj)) (t1 t2 : Tok)
theorem EMlap {u l : Nat} {wd p : List Nat} {b : Bool} (hu : u ≠ 46) (hl : l ≠ 46) (hp1 : 1 ≤ p.length) (hp2 : p.length ≤ 10) (hw : wd.length ≤ 100) (hnd : nodot p) (hb : b = lapIn wd p) :
    Ct 1 w mean mg mb 21 news [.str (S [u] ++ Str.ofString "..." ++ S p ++ S p ++ S (p.take 1) ++ Str.ofString "..." ++ S [l]) t1, .str (S ([u] ++ wd ++ [l])) t2] (isB b news) := by
  have hlw : (lapW p).length ≤ 30 := by unfold lapW; simp; lia  
  have hlw1 : 1 ≤ (lapW p).length := by unfold lapW; simp; lia  
  have hx : (S ([u] ++ wd ++ [l])).length = wd.length + 2 := by rw [S_length]; simp
  have hn : nodot (lapW p) := fun q => by
    unfold lapW at q
    rcases List.mem_append.mp q with q | q
    · rcases List.mem_append.mp q with q | q <;> exact hnd q
    · exact hnd (List.mem_of_mem_take q)
  have C := EMamb w mean mg mb news t1 t2 (a := S [u]) (c := S (lapW p)) (b := S [l]) (got := S ([u] ++ wd ++ [l])) (by rw [ls_S]; simp [nodot]; exact Ne.symm hu) (by rw [ls_S]; exact hn) (by rw [ls_S]; simp [nodot]; exact Ne.symm hl) (by rw [S_length]; simp) (by rw [S_length]; simp) (by rw [S_length]; simp) (by rw [S_length]; simp) (by rw [S_length]; exact hlw1) (by rw [S_length]; lia  ) (by lia  )
  rw [find_lap, ← hb] at C
  have e1 : Txt.startswith (S ([u] ++ wd ++ [l])) (S [u]) = true := by
    rw [starts_ls, ls_S, ls_S]; simp [List.isPrefixOf]
  have e2 : Txt.endswith (S ([u] ++ wd ++ [l])) (S [l]) = true := by
    rw [ends_ls, ls_S, ls_S, List.isSuffixOf_iff_suffix]; exact ⟨[u] ++ wd, rfl⟩
  have e3 : decide ((S [u]).length + (S [l]).length ≤ (S ([u] ++ wd ++ [l])).length) = true := by
    rw [hx, S_length, S_length]; simp
  rw [e1, e2, e3, Bool.true_and, Bool.true_and, Bool.true_and] at C
  have es : S [u] ++ Str.ofString "..." ++ S p ++ S p ++ S (p.take 1) = S [u] ++ Str.ofString "..." ++ S (lapW p) := by
    unfold lapW
    simp only [← S_append, Str.append_assoc]
  rw [es]
  exact C
end
end
section
open PySem PySem.W PyProof.Rows
open PySem.Builtin PySem.Builtin.Str
set_option maxRecDepth 100000
set_option maxHeartbeats 8000000


local macro_rules | `(tactic| k_all) => `(tactic| assumption)
local macro_rules | `(tactic| walk_at "exec For Name Call cons nil") => `(tactic| (k_here; (rename Fr _ _ _ _ => lF'); (with_unfolding_all refine' For_S lF' ?k1 ?k2 ?_; (case k1 => exact rfl); (case k2 => exact rfl); k_whole)))

local macro_rules | `(tactic| walk_at "call ref") => `(tactic| (refine stop_here ?_))
local macro_rules | `(tactic| walk_at "pyIter ref") => `(tactic| (refine stop_here ?_))
local macro_rules | `(tactic| walk_at "execs cons") => `(tactic| ((with_reducible show wpAny _ _ (execs (Stmt.If _ _ _ _ :: _) _) _ _ _); refine stop_here ?_))

inductive IntMid (h₀ : Heap) (L : Addr) (m : Str → Option Value) (news : List (Addr × Obj)) (x : Str) (v : Int) (s s' : Shared) : Prop
  | mk (h' : Heap) (tk : Nat) (t : Tok) (e : s' = { s with heap := h', toks := tk }) (F : Fr h₀ L h' (fun y => if y = x then some (.int v t) else m y)) (N : News h₀ L h' news) : IntMid h₀ L m news x v s s'
section
variable {prog : Program} {w : World} {A : Around} {s : Shared} {env : Env} {h₀ : Heap} {E : Value → Shared → Prop}
theorem cut_int {st : Stmt} {rest : List Stmt} {Q : Flow → Shared → Prop} {L : Addr} {m : Str → Option Value} {news : List (Addr × Obj)} (x : Str) (v : Int)
    (_F : Fr h₀ L s.heap m) (_N : News h₀ L s.heap news)
    (h1 : wpAny (model prog w) A (exec st env) (fun f s' => f = .next ∧ IntMid h₀ L m news x v s s') E s)
    (h2 : ∀ h' tk t, Fr h₀ L h' (fun y => if y = x then some (.int v t) else m y) → News h₀ L h' news → wpAny (model prog w) A (execs rest env) Q E { s with heap := h', toks := tk }) : wpAny (model prog w) A (execs (st :: rest) env) Q E s := by
  refine wpAny_execs_cons (wpAny_mono h1 (fun f s' h => ?_) fun _ _ e => e)
  obtain ⟨rfl, h', tk, t, rfl, F, N⟩ := h
  exact h2 h' tk t F N
theorem mid_keep {h' : Heap} {L : Addr} {m : Str → Option Value} {news : List (Addr × Obj)} {x : Str} {v : Int} {t : Tok} {tk : Nat} (F : Fr h₀ L h' m) (N : News h₀ L h' news) (hm : m x = some (.int v t)) : IntMid h₀ L m news x v s { s with heap := h', toks := tk } :=
  .mk h' tk t rfl (reframe F (frame_at hm)) N
end
noncomputable def allF (a b : Nat) : Nat → List (List Nat)
  | 0 => [[]]
  | n + 1 => (allF a b n).flatMap fun w => [a, b].map fun d => w ++ [d]
theorem all_len (a b : Nat) : ∀ n, (allF a b n).length = 2 ^ n ∧ ∀ w ∈ allF a b n, w.length = n ∧ ∀ c ∈ w, c = a ∨ c = b
  | 0 => ⟨rfl, fun w hw => by simp only [allF, List.mem_singleton] at hw; subst hw; exact ⟨rfl, fun c hc => nomatch hc⟩⟩
  | n + 1 => by
    obtain ⟨h1, h2⟩ := all_len a b n
    constructor
    · show ((allF a b n).flatMap fun w => [a, b].map fun d => w ++ [d]).length = _
      rw [List.length_flatMap]
      simp only [List.length_map, List.length_cons, List.length_nil]
      rw [List.map_const', List.sum_replicate_nat, h1, Nat.pow_succ]
    · intro w hw
      simp only [allF, List.mem_flatMap, List.mem_map] at hw
      obtain ⟨u, hu, d, hd, rfl⟩ := hw
      obtain ⟨e1, e2⟩ := h2 u hu
      refine ⟨by rw [List.length_append, e1]; rfl, fun c hc => ?_⟩
      rcases List.mem_append.mp hc with hc | hc
      · exact e2 c hc
      · rw [List.mem_singleton.mp hc]
        simpa using hd
theorem all_end {a b n : Nat} : queueF [a, b] (allF a b n) (allF a b n).length = (allF a b (n + 1)).map S := by
  unfold queueF
  rw [List.drop_length, List.take_length, List.map_nil, List.nil_append]
  simp only [allF, List.map_flatMap, List.map_map]; rfl
/-- the queue in the midst of a step: what is longer is pushed just ahead of the last step -/
noncomputable def qL (a b : Nat) (C : List (List Nat)) (more : Bool) (j : Nat) : List Str := if more then queueF [a, b] C j else (C.drop j).map S
noncomputable def qO (a b last i : Nat) : List Str := if i < last then (allF a b (i + 1)).map S else []
/-- what waits once a text is taken -/
noncomputable def qR (a b : Nat) (C : List (List Nat)) (more : Bool) (j : Nat) : List Str := (C.drop (j + 1)).map S ++ (if more then (C.take j).flatMap (stepF [a, b]) else [])
theorem qo_start {a b last : Nat} (h : 0 < last) (t u : Tok) : StrsAre ([] ++ [Value.str (S [a]) t] ++ [Value.str (S [b]) u]) (qO a b last 0) := by
  unfold qO
  rw [if_pos h]
  exact .cons _ _ (.cons _ _ .nil)
theorem stepF_two {a b : Nat} {w : List Nat} : stepF [a, b] w = [S w ++ S [a], S w ++ S [b]] := by simp [stepF, S_append]
theorem ql_get {a b : Nat} {C : List (List Nat)} {more : Bool} {ws : List Value} {j : Nat} (h : StrsAre ws (qL a b C more j)) (hj : j < C.length) : ∃ t vs, ws = .str (S C[j]) t :: vs ∧ StrsAre vs (qR a b C more j) := by
  unfold qL at h
  unfold qR
  cases more
  · rw [if_neg (by decide), List.drop_eq_getElem_cons hj, List.map_cons] at h
    rw [if_neg (by decide), List.append_nil]
    exact strsAre_cons2 h
  · rw [if_pos rfl] at h ⊢
    exact queue_get h hj
theorem ql_push {a b : Nat} {C : List (List Nat)} {vs : List Value} {j : Nat} {more : Bool} (hm : more = true) (h : StrsAre vs (qR a b C more j)) (hj : j < C.length) (t u : Tok) :
    StrsAre (vs ++ [.str (S C[j] ++ S [a]) t] ++ [.str (S C[j] ++ S [b]) u]) (qL a b C more (j + 1)) := by
  subst hm
  exact queue_push (p := [a, b]) rfl h hj t u
theorem ql_stay {a b : Nat} {C : List (List Nat)} {vs : List Value} {j : Nat} {more : Bool} (hm : more = false) (h : StrsAre vs (qR a b C more j)) : StrsAre vs (qL a b C more (j + 1)) := by
  subst hm
  unfold qR at h
  rw [if_neg (by decide), List.append_nil] at h
  exact h
theorem qr_len {a b : Nat} {C : List (List Nat)} {j : Nat} {more : Bool} (hC : C.length ≤ 32) : (qR a b C more j).length ≤ 100 := by
  unfold qR
  have := queue_len (p := [a, b]) (j := j) rfl hC
  cases more
  · rw [if_neg (by decide), List.append_nil, List.length_map, List.length_drop]; lia  
  · exact this
theorem ql_start {a b : Nat} {C : List (List Nat)} {more : Bool} {ws : List Value} (h : StrsAre ws (C.map S)) : StrsAre ws (qL a b C more 0) := by
  cases more
  · exact h
  · exact queue_start h
theorem ql_end {a b last i : Nat} (hi : i < last) {more : Bool} (hm : more = decide (i + 1 < last)) : qL a b (allF a b (i + 1)) more (allF a b (i + 1)).length = qO a b last (i + 1) := by
  subst hm
  unfold qL qO
  by_cases h : i + 1 < last
  · rw [decide_eq_true h, if_pos rfl, if_pos h]; exact all_end
  · rw [decide_eq_false h, if_neg (by decide), if_neg h, List.drop_length]; rfl
noncomputable def hits (a b : Nat) (wd : List Nat) (C : List (List Nat)) (j : Nat) : Nat := (C.take j).countP (lapIn wd)
theorem hits_next {a b : Nat} {wd : List Nat} {C : List (List Nat)} {j : Nat} (hj : j < C.length) : (hits a b wd C (j + 1) : Int) = hits a b wd C j + (if lapIn wd C[j] then 1 else 0) := by
  unfold hits
  rw [List.take_add_one, List.getElem?_eq_getElem hj, List.countP_append]
  simp only [Option.toList, List.countP_singleton]
  split <;> simp_all
noncomputable def stepP (a b : Nat) (wd : List Nat) (s : Nat) : Bool := (allF a b s).any (lapIn wd)
theorem hits_pos {a b s : Nat} {wd : List Nat} : decide (0 < hits a b wd (allF a b s) (allF a b s).length) = stepP a b wd s := by
  unfold hits stepP
  rw [List.take_length, Bool.eq_iff_iff, decide_eq_true_iff, List.countP_pos_iff, List.any_eq_true]
noncomputable def stepsF (a b : Nat) (wd : List Nat) : List Nat := ((List.range ((wd.length - 1) / 2)).map (· + 1)).filter (stepP a b wd)
theorem half_eq {n : Nat} (h : 1 ≤ n) : ((n : Int) - 1).fdiv 2 = (((n - 1) / 2 : Nat) : Int) := by
  rw [Int.fdiv_eq_ediv_of_nonneg _ (by decide)]; lia  
theorem pow1_eq (i : Nat) : ((2 : Int) ^ (1 + (i : Int)).toNat) = ((2 ^ (i + 1) : Nat) : Int) := by
  have h0 : (1 + (i : Int)).toNat = i + 1 := by lia  
  rw [h0]; simp
theorem pow1_size (i : Nat) : Builtin.Range.rangeSize 0 ((2 : Int) ^ (1 + (i : Int)).toNat) 1 = ((2 ^ (i + 1) : Nat) : Int) := by
  rw [pow1_eq]; exact range_size (by lia  )
theorem pow1_small {i : Nat} (h : i ≤ 10) : Builtin.Range.small 0 ((2 : Int) ^ (1 + (i : Int)).toNat) 1 = true := by
  rw [pow1_eq]
  have h2 : 2 ^ (i + 1) ≤ 2 ^ 11 := Nat.pow_le_pow_right (by decide) (by lia  )
  generalize 2 ^ (i + 1) = q at h2
  exact range_small (by lia  ) (by lia  ) (by lia  ) (by lia  )
theorem steps_frame {G0 h : Heap} {LL : Addr} {A B : Str} {u l : Nat} {wd : List Nat} {tt tz : Tok} {m : Str → Option Value}
    (F : Fr G0 LL h (fun y => if y = Str.ofString "laid" then some (.str (A ++ S wd ++ B) tt) else if y = Str.ofString "last" then some (.int ((((S wd).length : Nat) - 1 : Int).fdiv 2) tz) else m y)) (hA : A = S [u]) (hB : B = S [l]) (h1 : 1 ≤ wd.length) :
    ∃ tt' tz', Fr G0 LL h (fun y => if y = Str.ofString "laid" then some (.str (S (u :: (wd ++ [l]))) tt') else if y = Str.ofString "last" then some (.int (((wd.length - 1) / 2 : Nat) : Int) tz') else m y) := by
  refine ⟨tt, tz, ?_⟩
  rw [S_length, half_eq h1, hA, hB, S_append, S_append] at F
  exact F
inductive StO (g0 : Array GenState) (O : Prop) (pb D : Addr) (p1 p2 : Addr × Obj) (R : List (Addr × Obj)) (qs : List Str) (xs : List Int) : List (Addr × Obj) → Array GenState → Prop
  | mk (wq : List Value) (kp : Nat) (ws : List Value) (kq : Nat) (hm : O) (hq : StrsAre wq qs) (hws : IntsAre ws xs) : StO g0 O pb D p1 p2 R qs xs ((pb, W.listOf wq.toArray kp) :: p1 :: p2 :: (D, W.listOf ws.toArray kq) :: R) g0
inductive StI (g0 : Array GenState) (O : Prop) (pb : Addr) (R : List (Addr × Obj)) (qs : List Str) (m' : Str → Option Value) (c : Int) : List (Addr × Obj) → Array GenState → Prop
  | mk (wq : List Value) (kp : Nat) (tf : Tok) (hm : O) (hq : StrsAre wq qs) (hf : m' (Str.ofString "found") = some (.int c tf)) : StI g0 O pb R qs m' c ((pb, W.listOf wq.toArray kp) :: R) g0
theorem sti_of {g0 : Array GenState} {O : Prop} {pb : Addr} {R : List (Addr × Obj)} {qs : List Str} {m' : Str → Option Value} {c v : Int} {wq : List Value} {kp : Nat} {tf : Tok} (hm : O) (hq : StrsAre wq qs) (hf : m' (Str.ofString "found") = some (.int v tf)) (e : v = c) : StI g0 O pb R qs m' c ((pb, W.listOf wq.toArray kp) :: R) g0 := .mk wq kp tf hm hq (e ▸ hf)

theorem look3 (p q r : Str) (v w x : Value) : (fun y => List.lookup y [(p, v), (q, w), (r, x)]) = fun y => if y = p then some v else if y = q then some w else if y = r then some x else none := by
  funext y
  by_cases e : y = p
  · rw [if_pos e, e]; simp [List.lookup]
  · have e1 : (y == p) = false := by simpa using e
    rw [if_neg e, List.lookup, e1]
    exact congrFun (look2 q r w x) y
theorem item_fst {w : List Nat} (h : 1 ≤ w.length) : ∃ u, Txt.item (S w) 0 = S [u] ∧ u ∈ w := by
  match w, h with
  | a :: w, _ => exact ⟨a, by rw [item_first (by rw [S_length]; exact Nat.le_add_left 1 _), ls_S]; rfl, .head _⟩
theorem item_lst {w : List Nat} (h : 1 ≤ w.length) : ∃ u, Txt.item (S w) (-1) = S [u] ∧ u ∈ w := by
  rw [item_last (by rw [S_length]; exact h), ls_S, S_length]
  have hl : w.length - 1 < w.length := by lia  
  refine ⟨w[w.length - 1], ?_, List.getElem_mem _⟩
  rw [List.drop_eq_getElem_cons hl, List.drop_of_length_le (by lia  )]

theorem steps_ct (w : World) (mean : ExcName → Option Value) (mg mb : Str → Option Value) (news : List (Addr × Obj)) (x dx pb st : Addr) (k1 k2 k3 k4 tl tw : Tok) (ln : Int) (n : Nat) (k : Nat) (a b : Nat) (wd : List Nat) (t t2 : Tok) (ha : a ≠ 46) (hb : b ≠ 46) (hwd : nodot wd) (hw1 : 3 ≤ wd.length) (hw2 : wd.length ≤ 12) (h1 : pb ≠ x) (h2 : pb ≠ dx) (h3 : x ≠ dx) (hpb : ∀ p ∈ news, p.1 ≠ pb) :
   Ct 8 w mean mg mb 113 ((pb, W.listOf ([] : List Value).toArray k) :: (x, instObj 66 dx) :: (dx, dictOf (lxE w k1 k2 k3 k4 tl tw ln st pb) n) :: news) [.ref x, .str (S [a, b]) t, .str (S wd) t2] (fun v news' g g' => g' = g ∧ ∃ D ws kd k', v = .ref D ∧ IntsAre ws ((stepsF a b wd).map Int.ofNat) ∧ news' = (D, W.listOf ws.toArray kd) :: (pb, W.listOf ([] : List Value).toArray k') :: (x, instObj 66 dx) :: (dx, dictOf (lxE w k1 k2 k3 k4 tl tw ln st pb) n) :: news) := by
  w_top on
  w_on
  unfold Ct
  k_fill
  intro dp un gd cn cs aa ccd cl outer A₀ base h₀ L m s Q E hB hF hX hN hT hK hDp hUn hret
  walk_at "my enter"
  rename Fr _ _ _ _ => FF

  have FN := reframe (m' := fun y => if y = Str.ofString "word" then some (.str (S wd) t2) else if y = Str.ofString "pair" then some (.str (S [a, b]) t) else if y = Str.ofString "lexer" then some (.ref x) else none) FF (by with_unfolding_all exact look3 _ _ _ _ _ _)
  clear FF
  clear hF hN
  have hSl : (S wd).length = wd.length := S_length wd
  obtain ⟨u, hu, hum⟩ : ∃ u, Txt.item (S wd) 0 = S [u] ∧ u ∈ wd := item_fst (by lia  )
  obtain ⟨l, hl, hlm⟩ : ∃ l, Txt.item (S wd) (-1) = S [l] ∧ l ∈ wd := item_lst (by lia  )
  k_steps
  rename Fr _ _ _ _ => F0
  rename News _ _ _ _ => N0
  obtain ⟨tt, tz, F1⟩ := steps_frame F0 hu hl (by lia  )
  have e0 := pair_item0 a b
  have e1 := pair_item1 a b
  clear F0
  repeat (rename _ ≤ (_ : Str).length ∧ (_ : Str).length ≤ _ => hx1; clear hx1)
  (try dsimp only at F1 N0)
  rw [e0]
  have hu46 : u ≠ 46 := fun e => hwd (e ▸ hum)
  have hl46 : l ≠ 46 := fun e => hwd (e ▸ hlm)
  rename_i gA LA hA0 FG BA XA TA D hA1 l1 hA2 hA3 ta0 ka0 ta1 ka1 hA
  have hDpb : pb ≠ D := neN (by lia  )
  have hxD : x ≠ D := neN (by lia  )
  have hdD : dx ≠ D := neN (by lia  )
  have hnD : ∀ p ∈ news, p.1 ≠ D := all_ne (allLt_mem l1.2.2.2) (Nat.le_refl _)
  have hR : ∀ p ∈ (D, W.listOf ([] : List Value).toArray 0) :: news, p.1 ≠ pb := List.forall_mem_cons.mpr ⟨Ne.symm hDpb, hpb⟩
  have N1 : News _ _ _ ((pb, W.listOf ([] : List Value).toArray k) :: (x, instObj 66 dx) :: (dx, dictOf (lxE w k1 k2 k3 k4 tl tw ln st pb) n) :: (D, W.listOf ([] : List Value).toArray 0) :: news) := news_sub N0 (by walk_at "my sub")
  clear N0
  unfold Stop
  refine' Ct.useK (push_ct _ _ _ _ ((D, W.listOf ([] : List Value).toArray 0) :: news) x dx pb st k1 k2 k3 k4 tl tw ln n [] _ _ h1 h2 h3 hR (Nat.zero_le _)) ?B ?F ?X ?N ?T ?K ?d ?u ?_
  walk_at "my uses"
  intro kq h' tk' F' N'
  dsimp only

  clear N1 F1
  k_steps
  unfold Stop
  refine' Ct.useK (push_ct _ _ _ _ ((D, W.listOf ([] : List Value).toArray 0) :: news) x dx pb st k1 k2 k3 k4 tl tw ln n ([] ++ [.str (S [a]) _]) _ _ h1 h2 h3 hR (by show (1 : Nat) ≤ 1000; decide)) ?B ?F ?X ?N ?T ?K ?d ?u ?_
  walk_at "my uses"
  intro kq h' tk' F' N'
  dsimp only

  k_steps
  unfold Stop
  rename IsRange _ _ _ _ _ _ _ _ => hr
  rename Fr _ _ _ _ => F1
  rename News _ _ _ _ => N1
  rw [e1] at N1
  with_reducible rename (∀ (b : Addr) (o : Obj), _ → _) => hk0
  clear hk0
  dsimp only at hr F1 N1 ⊢
  refine' iter_rangeS (n := (wd.length - 1) / 2) (fun i m' news' g => StO _ (Off [Str.ofString "step", Str.ofString "found", Str.ofString "turn", Str.ofString "part"] _ m') pb D _ _ news (qO a b ((wd.length - 1) / 2) i) ((((List.range i).map (· + 1)).filter (stepP a b wd)).map Int.ofNat) news' g) rfl hr (range_size (by lia  )) (range_small (by lia  ) (by lia  ) (by lia  ) (by lia  )) F1 N1 (.mk _ _ [] 0 Off.refl ?q0 .nil) ?step ?done
  case q0 => exact qo_start (by lia  ) _ _
  case step =>
    rintro I i tv m₁ news₁ h tk g own hI hin ⟨wq, kp, ws, kD, hm, hq, hws⟩ hoff hown hIlt F N
    rw [hm.at4] at F
    (try dsimp only at F)
    simp only [List.cons_append] at N
    rw [qO, if_pos hin] at hq
    obtain ⟨hl1, hl2⟩ := all_len a b (i + 1)
    have hqe := @ql_end a b ((wd.length - 1) / 2) i hin
    obtain ⟨hits0, hst⟩ : ∃ c, c = hits a b wd (allF a b (i + 1)) (allF a b (i + 1)).length ∧ decide (0 < c) = stepP a b wd (i + 1) := ⟨_, rfl, hits_pos⟩
    obtain ⟨C, hC⟩ : ∃ C, C = allF a b (i + 1) := ⟨_, rfl⟩
    rw [← hC] at hq hl1 hl2 hqe hst
    clear hC
    have hp2 : 2 ^ (i + 1) ≤ 2 ^ 5 := Nat.pow_le_pow_right (by decide) (by lia  )
    have hCl : C.length ≤ 32 := by rw [hl1]; exact hp2
    obtain ⟨more, hmore⟩ : ∃ more, more = decide (i + 1 < (wd.length - 1) / 2) := ⟨_, rfl⟩
    have hoI : pb ≠ I := hoff _ (.head _)
    have hR2 : ∀ p ∈ (D, W.listOf ws.toArray kD) :: (news ++ own), p.1 ≠ pb := List.forall_mem_cons.mpr ⟨Ne.symm hDpb, fun p hp => (List.mem_append.mp hp).elim (hpb p) fun q => by rw [hown p q]; exact Ne.symm hoI⟩
    clear hr F1 N1 hI
    dsimp only
    k_steps
    unfold Stop
    rename IsRange _ _ _ _ _ _ _ _ => hr2
    rename Fr _ _ _ _ => F1
    rename News _ _ _ _ => N1
    dsimp only at hr2 F1 N1 ⊢
    refine' iter_rangeS (n := C.length) (fun j m' news' g => StI _ (Off [Str.ofString "turn", Str.ofString "part", Str.ofString "found"] _ m') pb _ (qL a b C more j) m' (hits a b wd C j : Int) news' g) rfl hr2 (by rw [hl1]; exact pow1_size i) (pow1_small (by lia  )) F1 N1 (sti_of Off.refl (ql_start hq) (if_pos rfl) rfl) ?step2 ?done2
    case step2 =>
      rintro I2 j tv2 m₂ news₂ h tk g own2 hI2 hin2 ⟨wq2, kp2, tf, hm2, hq2, hf⟩ hoff2 hown2 hIlt2 F N
      rw [hm2.at3, hf] at F
      (try dsimp only at F)
      simp only [List.cons_append] at N
      obtain ⟨t5, vs, rfl, hvs⟩ := ql_get hq2 hin2
      have hnx := hits_next (a := a) (b := b) (wd := wd) hin2
      have hpush := fun hm => @ql_push a b C vs j more hm hvs hin2
      have hstay := fun hm => @ql_stay a b C vs j more hm hvs
      obtain ⟨hPl, hPm⟩ := hl2 _ (List.getElem_mem hin2)
      obtain ⟨P, hP⟩ : ∃ P, P = C[j] := ⟨_, rfl⟩
      rw [← hP] at N hoff2 hq2 hnx hpush hPl hPm
      have hSP : (S P).length = i + 1 := by rw [S_length]; exact hPl
      have eP : Txt.item (S P) 0 = S (P.take 1) := item_first (by lia  )
      have hPn : nodot P := fun q => (hPm 46 q).elim (fun e => ha e.symm) fun e => hb e.symm
      have hoI2 : pb ≠ I2 := hoff2 _ (.head _)
      have hR3 : ∀ p ∈ (D, W.listOf ws.toArray kD) :: ((news ++ own) ++ own2), p.1 ≠ pb := List.forall_mem_cons.mpr ⟨Ne.symm hDpb, fun p hp => (List.mem_append.mp hp).elim (fun q => hR2 p (.tail _ q)) fun q => by rw [hown2 p q]; exact Ne.symm hoI2⟩
      have hlen2 : vs.length ≤ 100 := by rw [hvs.len_eq]; exact qr_len hCl
      clear hr2 F1 N1 hI2 hP
      dsimp only
      k_steps
      unfold Stop
      refine' Ct.useK (get_ct _ _ _ _ ((D, W.listOf ws.toArray kD) :: ((news ++ own) ++ own2)) x dx pb st k1 k2 k3 k4 tl tw ln n vs _ _ h1 h2 h3 hR3 (by lia  )) ?B ?F ?X ?N ?T ?K ?d ?u ?_
      walk_at "my uses"
      intro kq h' tk' F' N'
      dsimp only

      k_steps
      unfold Stop
      rename Fr _ _ _ _ => F2
      rename News _ _ _ _ => N2
      obtain ⟨bb, hbb⟩ : ∃ bb, bb = lapIn wd P := ⟨_, rfl⟩
      rw [← hbb] at hnx
      refine' cut_int (Str.ofString "found") ((hits a b wd C (j + 1) : Nat) : Int) F2 N2 ?hit ?rest
      case hit =>
        k_steps
        unfold Stop
        rw [hu, hl, eP]
        repeat (rename _ ≤ (_ : Str).length ∧ (_ : Str).length ≤ _ => hx1; clear hx1)
        refine' Ct.useB (EMlap _ _ _ _ _ _ _ hu46 hl46 (by lia  ) (by lia  ) (by lia  ) hPn hbb) ?B ?F ?X ?N ?T ?K ?d ?u ?_
        walk_at "my uses"
        intro h' tk' F' N'
        dsimp only
        clear F2 N2
        cases bb
        · have e9 : ((hits a b wd C (j + 1) : Nat) : Int) = hits a b wd C j := by simpa using hnx
          rw [e9]
          k_steps
          exact mid_keep F' N' ((if_neg (by decide)).trans ((if_neg (by decide)).trans ((if_neg (by decide)).trans ((if_neg (by decide)).trans (if_pos rfl)))))
        · have e9 : ((hits a b wd C (j + 1) : Nat) : Int) = hits a b wd C j + 1 := by simpa using hnx
          rw [e9]
          k_steps
          rename Fr _ _ _ _ => F9
          rename News _ _ _ _ => N9
          exact .mk _ _ _ rfl F9 N9
      case rest =>
        intro hh3 tk3 t3 F3 N3
        (try dsimp only at F3)
        clear F2 N2
        cases more
        · have hnl : ¬ (i + 1 < (wd.length - 1) / 2) := of_decide_eq_false hmore.symm
          refine wpAny_execs_cons ?_
          k_steps
          refine ⟨_, _, _, _, (pb, W.listOf vs.toArray _) :: (x, instObj 66 dx) :: (dx, dictOf (lxE w k1 k2 k3 k4 tl tw ln st pb) n) :: (D, W.listOf ws.toArray kD) :: (news ++ own), rfl, F3, N3, ?off, sti_of ?offm (hstay rfl) (if_pos rfl) rfl⟩
          case off =>
            intro p hp
            rcases List.mem_cons.mp hp with rfl | hp
            · exact fun q => hoI2 (List.mem_singleton.mp q)
            · exact fun q => hoff2 p (.tail _ hp) (List.mem_singleton.mp q)
          case offm => (intro z hz; simp only [List.mem_cons, List.not_mem_nil, or_false, not_or] at hz; simp only [hz, if_false])
        · have hnl : i + 1 < (wd.length - 1) / 2 := of_decide_eq_true hmore.symm
          refine wpAny_execs_cons ?_
          k_steps
          rw [e0]
          unfold Stop
          refine' Ct.useK (push_ct _ _ _ _ ((D, W.listOf ws.toArray kD) :: ((news ++ own) ++ own2)) x dx pb st k1 k2 k3 k4 tl tw ln n vs _ _ h1 h2 h3 hR3 (by lia  )) ?B ?F ?X ?N ?T ?K ?d ?u ?_
          walk_at "my uses"
          intro kq h' tk' F' N'
          dsimp only

          k_steps
          rw [e1]
          unfold Stop
          refine' Ct.useK (push_ct _ _ _ _ ((D, W.listOf ws.toArray kD) :: ((news ++ own) ++ own2)) x dx pb st k1 k2 k3 k4 tl tw ln n (vs ++ [_]) _ _ h1 h2 h3 hR3 (by rw [List.length_append]; simp; lia  )) ?B ?F ?X ?N ?T ?K ?d ?u ?_
          walk_at "my uses"
          intro kq h' tk' F' N'
          dsimp only

          k_steps
          rename Fr _ _ _ _ => F9
          rename News _ _ _ _ => N9
          refine ⟨_, _, _, _, (pb, W.listOf (vs ++ [_] ++ [_]).toArray _) :: (x, instObj 66 dx) :: (dx, dictOf (lxE w k1 k2 k3 k4 tl tw ln st pb) n) :: (D, W.listOf ws.toArray kD) :: (news ++ own), rfl, F9, by k_asm, ?off2, sti_of ?offm2 (hpush rfl _ _) (if_pos rfl) rfl⟩
          case off2 =>
            intro p hp
            rcases List.mem_cons.mp hp with rfl | hp
            · exact fun q => hoI2 (List.mem_singleton.mp q)
            · exact fun q => hoff2 p (.tail _ hp) (List.mem_singleton.mp q)
          case offm2 => (intro z hz; simp only [List.mem_cons, List.not_mem_nil, or_false, not_or] at hz; simp only [hz, if_false])
    case done2 =>
      rintro h' tk g m' news' F N ⟨wq2, kp2, tf, hm2, hq2, hf⟩
      rw [hm2.at3, hf] at F
      (try dsimp only at F)
      rw [hqe hmore] at hq2
      obtain ⟨hs1, hs2⟩ := hst
      rw [← hs1] at F
      rename IntsAre _ _ => hws
      have hlen : ws.length ≤ 100 := by rw [hws.length]; exact Nat.le_trans flt_len (by lia  )
      clear hr2 F1 N1
      dsimp only
      k_steps
      unfold Stop
      refine wpAny_execs_cons ?_
      k_steps
      · have hp : stepP a b wd (i + 1) = true := by rw [← hs2, decide_eq_true_iff]; lia  
        have NA : News _ _ _ ((D, W.listOf ws.toArray kD) :: (pb, W.listOf wq2.toArray kp2) :: (x, instObj 66 dx) :: (dx, dictOf (lxE w k1 k2 k3 k4 tl tw ln st pb) n) :: (news ++ own)) := news_sub N (by walk_at "my sub")
        refine' append_led (by k_asm) NA ?hne (by lia  ) ?_
        case hne =>
          intro p hp e
          rcases List.mem_cons.mp hp with rfl | hp
          · exact hDpb e
          · rcases List.mem_cons.mp hp with rfl | hp
            · exact hxD e
            · rcases List.mem_cons.mp hp with rfl | hp
              · exact hdD e
              · rcases List.mem_append.mp hp with q | q
                · exact hnD p q e
                · exact hoff (D, _) (.tail _ (.tail _ (.tail _ (.head _)))) (e ▸ hown p q)
        intro h5 k5 F5 N5
        dsimp only
        k_steps
        have N6 : News _ _ _ ((pb, W.listOf wq2.toArray kp2) :: (x, instObj 66 dx) :: (dx, dictOf (lxE w k1 k2 k3 k4 tl tw ln st pb) n) :: (D, W.listOf (ws ++ [Value.int (1 + (i : Int)) tv]).toArray k5) :: news ++ own) := news_sub N5 (by walk_at "my sub")
        refine ⟨_, _, _, _, (pb, W.listOf wq2.toArray kp2) :: (x, instObj 66 dx) :: (dx, dictOf (lxE w k1 k2 k3 k4 tl tw ln st pb) n) :: (D, W.listOf (ws ++ [Value.int (1 + (i : Int)) tv]).toArray k5) :: news, rfl, F5, N6, ?off, .mk _ _ _ _ ?offm hq2 (flt_snoc hp hws _)⟩
        case off =>
          intro p hp e
          have e' := List.mem_singleton.mp e
          rcases List.mem_cons.mp hp with rfl | hp
          · exact hoI e'
          · rcases List.mem_cons.mp hp with rfl | hp
            · exact hoff (x, _) (.tail _ (.head _)) e'
            · rcases List.mem_cons.mp hp with rfl | hp
              · exact hoff (dx, _) (.tail _ (.tail _ (.head _))) e'
              · rcases List.mem_cons.mp hp with rfl | hp
                · exact hoff (D, _) (.tail _ (.tail _ (.tail _ (.head _)))) e'
                · exact hoff p (.tail _ (.tail _ (.tail _ (.tail _ hp)))) e'
        case offm => (intro z hz; simp only [List.mem_cons, List.not_mem_nil, or_false, not_or] at hz; simp only [hz, if_false])
      · have hp : stepP a b wd (i + 1) = false := by rw [← hs2, decide_eq_false_iff_not]; lia  
        refine ⟨_, _, _, _, (pb, W.listOf wq2.toArray kp2) :: (x, instObj 66 dx) :: (dx, dictOf (lxE w k1 k2 k3 k4 tl tw ln st pb) n) :: (D, W.listOf ws.toArray kD) :: news, rfl, F, N, ?off2, .mk _ _ _ _ ?offm2 hq2 (flt_same hp hws)⟩
        case off2 =>
          intro p hp e
          have e' := List.mem_singleton.mp e
          rcases List.mem_cons.mp hp with rfl | hp
          · exact hoI e'
          · exact hoff p (.tail _ hp) e'
        case offm2 => (intro z hz; simp only [List.mem_cons, List.not_mem_nil, or_false, not_or] at hz; simp only [hz, if_false])
  case done =>
    rintro h' tk g m' news' F N ⟨wq, kp, ws, kD, hm, hq, hws⟩
    rw [hm.at4] at F
    (try dsimp only at F)
    rw [qO, if_neg (Nat.lt_irrefl _)] at hq
    cases hq
    clear hr F1 N1
    dsimp only
    k_steps
    walk_at "my leave"
    exact hret _ _ _ _ _ ⟨rfl, D, ws, kD, kp, rfl, hws, rfl⟩ (by k_asm) (news_sub (by k_asm) (by walk_at "my sub"))
end
section
open PySem PySem.W PyProof.Rows
open PySem.Builtin PySem.Builtin.Str
set_option maxRecDepth 100000
set_option maxHeartbeats 8000000



local macro_rules | `(tactic| walk_at "call type:enumerate") => `(tactic| (refine stop_here ?_))
local macro_rules | `(tactic| k_all) => `(tactic| assumption)

theorem reord2 {h₀ h : Heap} {L : Addr} {own r : List (Addr × Obj)} {d e : Addr × Obj} {sz : Nat} (N : News h₀ L h (own ++ d :: e :: r)) (h1 : ∀ p ∈ own, LE.le (α := Nat) sz p.1 ∨ p.1 = d.1) (hl : e.1 < sz) (hd : e.1 < d.1) (hr : ∀ p ∈ r, p.1 ≠ e.1) :
    News h₀ L h (e :: (own ++ d :: r)) ∧ ∀ p ∈ own ++ d :: r, p.1 ≠ e.1 := by
  refine ⟨news_sub N fun p hp => ?_, fun p hp => ?_⟩
  · rcases List.mem_cons.mp hp with rfl | hp
    · exact List.mem_append_right _ (.tail _ (.head _))
    · rcases List.mem_append.mp hp with hp | hp
      · exact List.mem_append_left _ hp
      · rcases List.mem_cons.mp hp with rfl | hp
        · exact List.mem_append_right _ (.head _)
        · exact List.mem_append_right _ (.tail _ (.tail _ hp))
  · rcases List.mem_append.mp hp with hp | hp
    · rcases h1 p hp with q | q
      · exact Nat.ne_of_gt (Nat.lt_of_lt_of_le hl q)
      · rw [q]; exact Nat.ne_of_gt hd
    · rcases List.mem_cons.mp hp with rfl | hp
      · exact Nat.ne_of_gt hd
      · exact hr p hp
theorem off_eq3 {xs : List Str} {m₀ m m' : Str → Option Value} (h : Off xs m₀ m) (e : m = m') : Off xs m₀ m' := e ▸ h
theorem pair_back2 {m₁ m : Str → Option Value} {xi xc : Str} {v w : Option Value} (h : Off [xi, xc] m m₁) : Off [xi, xc] m (fun y => if y = xc then v else if y = xi then w else m₁ y) := pair_back h
theorem reord_back {h₀ h : Heap} {L : Addr} {own r : List (Addr × Obj)} {d e : Addr × Obj} (N : News h₀ L h (e :: (own ++ d :: r))) : News h₀ L h (own ++ d :: e :: r) := news_sub N fun p hp => by
  rcases List.mem_append.mp hp with hp | hp
  · exact .tail _ (List.mem_append_left _ hp)
  · rcases List.mem_cons.mp hp with rfl | hp
    · exact .tail _ (List.mem_append_right _ (.head _))
    · rcases List.mem_cons.mp hp with rfl | hp
      · exact .head _
      · exact .tail _ (List.mem_append_right _ (.tail _ hp))

inductive SumL (l : Addr) (news : List (Addr × Obj)) : List (Addr × Obj) → Prop
  | mk (a b : Int) (ta tb : Tok) (k : Nat) (ha : 0 ≤ a ∧ a ≤ 100000000) (hb : 0 ≤ b ∧ b ≤ 100000000) : SumL l news ((l, W.listOf [.int a ta, .int b tb].toArray k) :: news)
inductive SumJ (l : Addr) (M : Int) (q : Addr × Obj) (news : List (Addr × Obj)) : List (Addr × Obj) → Prop
  | mk (a b : Int) (ta tb : Tok) (k : Nat) (ha : 0 ≤ a ∧ a ≤ M) (hb : 0 ≤ b ∧ b ≤ M) : SumJ l M q news (q :: (l, W.listOf [.int a ta, .int b tb].toArray k) :: news)
theorem sums_ct (w : World) (mean : ExcName → Option Value) (mg mb : Str → Option Value) (news : List (Addr × Obj)) (sc l : Addr) (vs : List Value) (ns : List Int) (k : Nat) (a b : Int) (ta tb : Tok) (hi : IntsAre vs ns) (hn : ns.length ≤ 63) (ha : 0 ≤ a ∧ a ≤ 10000) (hb : 0 ≤ b ∧ b ≤ 10000) (hl : ∀ p ∈ news, p.1 ≠ l) :
   CtP 8 w mean mg mb (fun h => h.IsList sc vs.toArray) 77 ((l, W.listOf [.int a ta, .int b tb].toArray k) :: news) [.ref sc, .ref l]
     (fun v news' g g' => g' = g ∧ v = .ref l ∧ SumL l news news') := by
  w_top on
  w_on
  unfold CtP
  k_fill
  intro dp un gd cn cs a1 ccd cl outer A₀ base h₀ L m s Q E hP hB hF hX hN hT hK hDp hUn hret
  replace hP : h₀.IsList sc vs.toArray := hP
  walk_at "my enter"
  rename Fr _ _ _ _ => FF
  clear hF hN
  rename Fr h₀ L _ m => FG
  have hP' := hP.at fun o e => FG.keep sc o e

  have FN := reframe (m' := fun y => if y = Str.ofString "sums" then some (.ref l) else if y = Str.ofString "script" then some (.ref sc) else none) FF (by with_unfolding_all exact look2 _ _ _ _)
  clear FF
  k_steps
  unfold Stop
  rename Fr _ _ _ _ => F0
  rename News _ _ _ _ => N0
  rename IntsAre _ (List.take 60 ns) => hI
  rename List Value => ws0
  rename (_ ∧ AllLt _ _) => l1
  have hls := Heap.lt_size (N0 _ (.tail _ (.head _))).1
  refine' enum_loop (fun i m₁ news₁ => Off [Str.ofString "place", Str.ofString "number"] _ m₁ ∧ SumJ l (10000 + 1000003 * (i : Int)) (_, _) news news₁) rfl F0 N0 (.head _) ⟨Off.refl, a, b, ta, tb, k, by lia  , by lia  ⟩ ?step ?done
  case step =>
    rintro i v ti m₁ news₁ h tk own hv ⟨hm, a', b', ta', tb', k', ha', hb'⟩ hadr hown F N
    obtain ⟨z, tz, rfl, hz⟩ := ints_item hI hv
    have hsu : m₁ (Str.ofString "sums") = some (.ref l) := hm _ (by decide)
    rw [frame_at hsu] at F
    obtain ⟨N1, hne⟩ := reord2 N hown hls l1.1 hl
    clear F0 N0 N
    have hmod : (i : Int).fmod 2 = 0 ∨ (i : Int).fmod 2 = 1 := by
      rw [Int.fmod_eq_emod_of_nonneg _ (by decide)]; lia  
    have hi60 : i < 60 := by
      have := (List.getElem?_eq_some_iff.mp hz).1
      rw [List.length_take] at this; lia  
    have hz0 : 0 ≤ z.fmod 1000003 := Int.fmod_nonneg_of_pos _ (by decide)
    have hz1 : z.fmod 1000003 < 1000003 := Int.fmod_lt_of_pos _ (by decide)
    dsimp only
    k_steps
    rcases hmod with hmod | hmod
    all_goals rw [hmod]
    · k_steps
      refine ⟨rfl, _, _, _, _ :: (l, W.listOf [.int (a' + z.fmod 1000003) _, .int b' _].toArray _) :: news, rfl, by k_asm, reord_back (by k_asm), rfl, pair_back2 (off_eq3 hm (frame_at hsu)), (a' + z.fmod 1000003), b', _, _, _, by lia  , by lia  ⟩
    · k_steps
      refine ⟨rfl, _, _, _, _ :: (l, W.listOf [.int a' _, .int (b' + z.fmod 1000003) _].toArray _) :: news, rfl, by k_asm, reord_back (by k_asm), rfl, pair_back2 (off_eq3 hm (frame_at hsu)), a', (b' + z.fmod 1000003), _, _, _, by lia  , by lia  ⟩
  case done =>
    rintro h' tk m' news' F N _ ⟨hm, a', b', ta', tb', k', ha', hb'⟩
    have hsu : m' (Str.ofString "sums") = some (.ref l) := hm _ (by decide)
    rw [frame_at hsu] at F
    have hlen : ws0.length ≤ 60 := by rw [hI.length, List.length_take]; lia  
    clear F0 N0
    dsimp only
    k_steps
    walk_at "my leave"
    exact hret _ _ _ _ _ ⟨rfl, rfl, a', b', ta', tb', k', by lia  , by lia  ⟩ (by k_asm) (news_sub (by k_asm) (by walk_at "my sub"))
end
section
open PySem PySem.W PyProof.Rows
open PySem.Builtin PySem.Builtin.Str
set_option maxRecDepth 100000
set_option maxHeartbeats 8000000


local macro_rules | `(tactic| walk_at "my leave2") => `(tactic| ((refine' leaveK_ ?k1 ?k2 ?_; (case k1 => k_asm); (case k2 => k_asm)); intro kF kN; (try dsimp only); (try (refine handed_on rfl ?_; try dsimp only))))
local macro_rules | `(tactic| walk_at "call type:list") => `(tactic| (k_dflt (refine' list_str_led ?lz ?lh ?lF ?lN ?_; (case lz => omega); (case lh => exact rfl); (case lF => k_asm); (case lN => k_asm); intro D' ys' k' h' tk' F' N' hys l1; (try k_lt l1))))
local macro_rules | `(tactic| k_all) => `(tactic| assumption)

theorem lexer_ct (w : World) (mean : ExcName → Option Value) (mg mb : Str → Option Value) (news : List (Addr × Obj)) (text : Str) (t : Tok) (hw : text.length ≤ 1000) (hn79 : ∀ p ∈ news, p.1 ≠ 79) :
   CtP 8 w mean mg mb (fun h => CodeHd h 83 79) 84 ((79, tabObj #[]) :: news) [.str text t] (LxPost w mean mg mb text news) := by
  w_top on
  w_on
  unfold CtP
  k_fill
  intro dp un gd cn cs a ccd cl outer A₀ base h₀ L m s Q E hP hB hF hX hN hT hK hDp hUn hret
  replace hP : CodeHd h₀ 83 79 := hP
  walk_at "my enter"
  rename Fr _ _ _ _ => FF
  have FN := reframe (m' := fun y => if y = Str.ofString "text" then some (.str text t) else none) FF (by with_unfolding_all rfl)
  clear FF hF hN
  rename Fr h₀ L _ m => FG
  have hC := CodeHd.keeps hP FG.keep
  k_steps
  rename Fr _ _ _ _ => F0
  rename News _ _ _ _ => N0
  have hlt0 := led_lt (news := news) (o := tabObj #[]) (by assumption)
  refine' setAttr_led3 F0 N0 ?ha ?hb ?hne rfl rfl rfl ?_
  case ha => exact neN (by dsimp only; lia  )
  case hb => exact neN (by dsimp only; lia  )
  case hne =>
    intro p hp
    rcases List.mem_cons.mp hp with rfl | hp
    · exact neN (by dsimp only; lia  )
    · rcases List.mem_cons.mp hp with rfl | hp
      · exact neN (by dsimp only; lia  )
      · rcases List.mem_cons.mp hp with rfl | hp
        · exact neN (by dsimp only; lia  )
        rcases List.mem_cons.mp hp with rfl | hp
        · exact neN (by dsimp only; lia  )
        · have : LT.lt (α := Nat) p.1 _ := hlt0 p (.tail _ hp)
          exact neN (by lia  )
  intro h1' tk1' dx od1 F' N' hod l1
  clear F0 N0
  simp only [List.cons_append, List.nil_append] at N'
  k_lt l1
  k_steps
  refine' call_cls ?k1 ?k2 ?k3 ?k4 ?k5 ?k6 ?_
  case k1 => k_asm
  case k2 => k_asm
  case k3 => k_asm
  case k4 => k_is
  case k5 => k_is
  case k6 => k_is
  intro x' d' h' F' N' l1 l2
  (try k_lt l1)
  (try k_lt2 l2)
  refine' code_def ?k1 ?k2 ?k3 ?k4 ?k5 ?kA ?kF ?kK ?k6 ?k7 ?k8 ?k9 ?kB ?_ ?c2 ?c3 ?c4 ?c5
  case kA => exact rfl
  case kF => exact rfl
  case kK => exact rfl
  case k1 => k_asm
  case k2 => k_asm
  case k3 => k_asm
  case k4 => k_asm
  case k5 => k_asm
  case k6 => k_is
  case k7 => k_is
  case k8 => (simp only [depth_under_make, depth_in1, depth_deeper]; (try dsimp only [ktrTop]); lia  )
  case k9 => exact BindsTo.of_eq rfl
  case c5 => decide
  case kB => exact locs rfl
  case c2 => exact rfl
  case c3 => exact rfl
  case c4 => exact rfl
  intro g' L' h' FG' F' N' B' X' T'
  k_steps
  walk_at "my leave"
  unfold InitBack
  dsimp only
  refine ⟨rfl, ?_⟩
  walk_at "my leave2"
  refine' lx_intro hret ?lF ?lN ?hys ?hod ?hc ?hd ?hfd ?read ?lts
  case lF => k_asm
  case lN => k_asm
  case hys => assumption
  case hod => assumption
  case hc => exact rfl
  case hd => exact rfl
  case hfd => exact ⟨_, rfl⟩
  case lts => exact ⟨allLt_of fun p hp => Nat.lt_succ_of_lt (hlt0 p (.tail _ hp)), by lia  , by lia  , by lia  , by lia  , by lia  , by lia  , by lia  , by lia  ⟩
  case read =>
    rename _ = Data.cell (some (Value.ref _)) => dC
    rename _ = Data.fields _ => dF
    rename _ = some (Value.str _ _) => dQ
    refine ⟨⟨_, rfl⟩, ?_⟩
    intro ys xs kk t9 nws hy hx1 hx2 hne9
    unfold Ct
    intro dp2 un2 gd2 cn2 cs2 a2 ccd2 cl2 outer2 A₂ base2 h₂ L₂ m₂ s₂ Q₂ E₂ B F X N T hK2 hd2 hu2 hret2
    refine wpAny_call ?_
    refine' kla_code B F X N T ?hA ?hf ?hke (.tail _ (.head _)) ?hcd ?room ?bind ?loc ?_ ?c1 ?c2 ?c3 ?c4
    case hA => exact rfl
    case hf => exact rfl
    case hke => assumption
    case hcd => exact codeRec_news N (.tail _ (.tail _ (.head _))) dF dQ
    case room => dsimp only [ktrTop]; lia  
    case bind => exact rfl
    case loc => exact locs rfl
    case c1 => exact rfl
    case c2 => exact rfl
    case c3 => exact rfl
    case c4 => decide
    intro g3 L3 h3 FG3 F3 N3 B3 X3 T3
    clear F N B X T
    have hyl : ys.length = xs.length := hy.len_eq
    rcases xs with _ | ⟨c, rs⟩
    · cases hy
      dsimp only
      k_steps
      rename IsRange _ _ _ _ _ _ _ _ => hr3
      rename Fr _ _ _ _ => F1
      rename News _ _ _ _ => N1
      refine' citer_range (n := 0) (fun _ _ => true) (fun i ys' news' g => g = _ ∧ news' = _ ∧ ys' = []) rfl hr3 (by decide +kernel) (by decide +kernel) F1 N1 (by lia  ) ⟨rfl, rfl, rfl⟩ ?skip ?tests ?elt ?done
      case skip => intro i t ys news₁ g q; exact absurd q (Nat.not_lt_zero _)
      case tests => intro C D I i tv ys news₁ h tk g own mC _ _ _ q; exact absurd q (Nat.not_lt_zero _)
      case elt => intro C D I i tv ys news₁ h tk g own mC _ _ _ q; exact absurd q (Nat.not_lt_zero _)
      case done =>
        rintro D h' tk g news' ys kd hD F N hoff ⟨rfl, rfl, rfl⟩
        dsimp only
        k_steps
        walk_at "my leave"
        exact hret2 _ _ _ _ _ ⟨rfl, fun _ => ⟨⟨_, congrArg (Value.str · _) (by decide +kernel)⟩, rfl⟩, fun c r q => nomatch q⟩ (by k_asm) (news_sub (by k_asm) (by walk_at "my sub"))
    · obtain ⟨tc, wr, rfl, hr⟩ := strsAre_head hy
      have hc1 := hx1
      rw [List.length_cons] at hc1
      have hcl := hx2 c (.head _)
      rw [List.length_cons, List.length_cons] at hyl
      dsimp only
      k_steps
      rename IsRange _ _ _ _ _ _ _ _ => hr3
      rename Fr _ _ _ _ => F1
      rename News _ _ _ _ => N1
      have hne5 := hne9
      refine' citer_range (n := 1) (fun _ _ => true) (fun i ys' news' g => g = _ ∧ ∃ n0, n0 = _ ∧ (i = 0 → ys' = [] ∧ news' = n0) ∧ (i = 1 → ys' = [.str c tc] ∧ ∃ k', news' = popHead n0 wr k')) rfl hr3 (range_size (by rw [if_neg (by simp only [List.length_cons]; lia  )]; rfl)) (by rw [if_neg (by simp only [List.length_cons]; lia  )]; decide +kernel) F1 N1 (by lia  ) ⟨rfl, _, rfl, fun _ => ⟨rfl, rfl⟩, fun q => absurd q (by decide)⟩ ?skip ?tests ?elt ?done
      case skip => intro i t ys news₁ g _ q; exact absurd q (by decide)
      case tests => intro C D I i tv ys news₁ h tk g own mC _ _ _ _ _ _ _ F N _ _ E'; exact wpAny_pure ⟨rfl, _, _, rfl, F, N⟩
      case elt =>
        rintro C D I3 i tv ys' news₁ h tk g own mC hC hD hI3 hi _ ⟨rfl, n0, rfl, hJ0, _⟩ hoff hown F N hn hmC E'
        obtain rfl : i = 0 := by lia  
        obtain ⟨rfl, rfl⟩ := hJ0 rfl
        have cE := InElt.start h
        clear hr3 hJ0
        simp only [List.cons_append] at N
        dsimp only
        k_steps
        refine' pop_led (by k_asm) (by k_asm) (read_ne hne9 hown (fun q => hoff (_, _) (.head _) q)) (by lia  ) ?_
        intro h5 k5 F5 N5
        exact ⟨_, _, _, _, rfl, F5, assoc4 N5, popHead_off (vs := wr) (k := k5) hoff, rfl, _, rfl, fun q => absurd q (by decide), fun _ => ⟨rfl, k5, rfl⟩⟩
      case done =>
        rintro D h' tk g news' ys' kd hD F N hoff ⟨rfl, n0, rfl, _, hJ1⟩
        obtain ⟨rfl, k', rfl⟩ := hJ1 rfl
        simp only [popHead] at N
        clear hr3 hJ1
        dsimp only
        k_steps
        walk_at "my leave"
        refine hret2 _ _ _ _ _ ⟨rfl, fun q => (nomatch q), fun c' r' q => ?pp⟩ (by k_asm) (news_sub (by k_asm) (fun p hp => List.Mem.tail _ hp))
        obtain ⟨rfl, rfl⟩ := List.cons.inj q
        exact ⟨⟨_, congrArg (Value.str · _) (join_one c)⟩, wr, _, hr, rfl⟩
end
section
open PySem PySem.W PyProof.Rows
open PySem.Builtin PySem.Builtin.Str
set_option maxRecDepth 100000
set_option maxHeartbeats 8000000

/-! a loop over an iterator whose turns read texts from the ledger -/
section
variable {prog : Program} {w : World} {A : Around} {s : Shared} {env : Env} {h₀ : Heap} {E : Value → Shared → Prop}
/-- what a turn of the iterator at I does to the ledger -/
noncomputable def ReadsI (prog : Program) (w : World) (A : Around) (h₀ : Heap) (L : Addr) (I : Addr) (s₀ : Shared) (LS : List Str → List (Addr × Obj) → Prop) (LE : List (Addr × Obj) → Prop) : Prop :=
  ∀ (xs : List Str) (news : List (Addr × Obj)) (m : Str → Option Value) (h : Heap) (tk : Nat) (Q : Option Value → Shared → Prop) (E : Value → Shared → Prop), LS xs news → Fr h₀ L h m → News h₀ L h news →
    (xs = [] → ∀ news' h' tk', LE news' → Fr h₀ L h' m → News h₀ L h' news' → Q none { s₀ with heap := h', toks := tk' }) →
    (∀ c r t news' h' tk', xs = c :: r → LS r news' → Fr h₀ L h' m → News h₀ L h' news' → Q (some (.str c t)) { s₀ with heap := h', toks := tk' }) →
    wpAny (model prog w) A (pyNext (.ref I)) Q E { s₀ with heap := h, toks := tk }
inductive TurnRI (h₀ : Heap) (L : Addr) (g : Array GenState) (dr : Drawn) (os : OsState) (LS : List Str → List (Addr × Obj) → Prop) (J : List Str → (Str → Option Value) → Prop) (k : Nat) (s' : Shared) : Prop
  | mk (r' : List Str) (m' : Str → Option Value) (news' : List (Addr × Obj)) (h' : Heap) (tk' : Nat) (e : s' = ⟨h', g, dr, tk', os⟩) (hk : r'.length ≤ k) (hL : LS r' news') (hJ : J r' m') (F : Fr h₀ L h' m') (N : News h₀ L h' news') : TurnRI h₀ L g dr os LS J k s'
noncomputable def TurnR (h₀ : Heap) (L : Addr) (s₀ : Shared) (LS : List Str → List (Addr × Obj) → Prop) (J : List Str → (Str → Option Value) → Prop) (k : Nat) (s' : Shared) : Prop := TurnRI h₀ L s₀.gens s₀.drawn s₀.os LS J k s'
noncomputable def BodyR (h₀ : Heap) (L : Addr) (s₀ : Shared) (LS : List Str → List (Addr × Obj) → Prop) (J : List Str → (Str → Option Value) → Prop) (k : Nat) (Q : Flow → Shared → Prop) (f : Flow) (s' : Shared) : Prop := match f with
  | .next | .cont => TurnR h₀ L s₀ LS J k s'
  | .brk => Q .next s'
  | .ret v => Q (.ret v) s'
inductive ForRI (LS : List Str → List (Addr × Obj) → Prop) (J : List Str → (Str → Option Value) → Prop) (h₀ : Heap) (L : Addr) (s : Shared) (k : Nat) (s' : Shared) : Prop
  | mk (h' : Heap) (tk : Nat) (m' : Str → Option Value) (news' : List (Addr × Obj)) (xs' : List Str) (e : s' = { s with heap := h', toks := tk }) (hL : LS xs' news') (hJ : J xs' m') (F : Fr h₀ L h' m') (N : News h₀ L h' news') (hk : k = xs'.length) : ForRI LS J h₀ L s k s'
theorem forR {Q : Flow → Shared → Prop} {x : Str} {px : Pos} {body : List Stmt} {I : Addr} {LS : List Str → List (Addr × Obj) → Prop} {LE : List (Addr × Obj) → Prop} {J : List Str → (Str → Option Value) → Prop}
    {xs : List Str} {m : Str → Option Value} {news : List (Addr × Obj)} (hx : env.kindOf x = some .local)
    (hp : (env.scope.kind == .class || (env.scope.kind == .module && env.locals != env.globals)) = false)
    (hr : ReadsI prog w A h₀ env.locals I s LS LE) (hL : LS xs news) (F : Fr h₀ env.locals s.heap m) (N : News h₀ env.locals s.heap news) (hJ : J xs m)
    (step : ∀ c r t m₁ news₁ h tk, J (c :: r) m₁ → LS r news₁ → Fr h₀ env.locals h (fun y => if y = x then some (.str c t) else m₁ y) → News h₀ env.locals h news₁ →
      wpAny (model prog w) A (execs body env) (BodyR h₀ env.locals s LS J r.length Q) E { s with heap := h, toks := tk })
    (done : ∀ m' news' h' tk', J [] m' → LE news' → Fr h₀ env.locals h' m' → News h₀ env.locals h' news' → Q .next { s with heap := h', toks := tk' })
    (hE : PassesOwn (model prog w) A env E) :
    codeAny (model prog w) A (.forLoop (.Name x px) (.ref I) body [] env) (fun r s' => match r with | .ok f => Q f s' | .error e => cameBackBy (model prog w) A env E e s') s := by
  refine codeAny_forLoop
    (ForRI LS J h₀ env.locals s) ?_ xs.length
    ⟨s.heap, s.toks, m, news, xs, rfl, hL, hJ, F, N, rfl⟩
  rintro k s' ⟨h', tk, m', news', xs', rfl, hL', hJ', F', N', rfl⟩
  refine hr xs' news' m' h' tk _ _ hL' F' N' (fun he news₁ h₁ tk₁ hLE F₁ N₁ => ?_) fun c r t news₁ h₁ tk₁ he hL₁ F₁ N₁ => ?_
  · subst he
    exact wpAny_execs_nil (done m' news₁ h₁ tk₁ hJ' hLE F₁ N₁)
  · subst he
    refine wpAny_assign_Name (wpAny_storeName_local hx F₁.ns (fun h₂ hn₂ hs₂ => ?_) hp)
    have F₂ := F₁.set hn₂ hs₂
    refine wpAny_passesOwn hE (wpAny_mono (step c r t m' news₁ h₂ _ hJ' hL₁ F₂ (N₁.set hs₂)) (fun f s₃ h₃ => ?_) fun _ _ q => q)
    have fin : TurnR h₀ env.locals s LS J r.length s₃ → ∃ k', k' < (c :: r).length ∧ ForRI LS J h₀ env.locals s k' s₃ := by
      rintro ⟨r', m₂, news₂, h₃', tk₃, rfl, hle, a, b, F₃, N₃⟩
      exact ⟨r'.length, by rw [List.length_cons]; omega, h₃', tk₃, m₂, news₂, r', rfl, a, b, F₃, N₃, rfl⟩
    cases f with
    | ret v => exact h₃
    | brk => exact h₃
    | cont => exact fin h₃
    | next => exact fin h₃
noncomputable def LoopR (prog : Program) (w : World) (A : Around) (env : Env) (x : Str) (px : Pos) (body : List Stmt) (Q : Flow → Shared → Prop) (E : Value → Shared → Prop) (it : Value) (s₂ : Shared) : Prop :=
  ∃ I, it = .ref I ∧ codeAny (model prog w) A (.forLoop (.Name x px) (.ref I) body [] env) (fun r s' => match r with | .ok f => Q f s' | .error e => cameBackBy (model prog w) A env E e s') s₂
theorem For_R {Q : Flow → Shared → Prop} {x : Str} {px pos : Pos} {iter : Expr} {body : List Stmt}
    (h : wpAny (model prog w) A (eval iter env) (fun xv s₁ => wpAny (model prog w) A (pyIter xv) (fun it s₂ => LoopR prog w A env x px body Q E it s₂) E s₁) E s)
    (hs : ∀ x, foldedSetIterable iter env x = pure x := by intro _; rfl) :
    wpAny (model prog w) A (exec (.For (.Name x px) iter body [] pos) env) Q E s := by
  refine wpAny_For (wpAny_mono h (fun xv s₁ h₁ => wpAny_mono h₁ (fun it s₂ h₂ => ?_) fun _ _ e => e) fun _ _ e => e) hs
  obtain ⟨I, rfl, G⟩ := h₂
  exact G
/-- the loop, from where the walk meets the iterator -/
theorem iter_R {Q : Flow → Shared → Prop} {x : Str} {px : Pos} {body : List Stmt} {I b : Addr} {ti : Tok} {LS : List Str → List (Addr × Obj) → Prop} {LE : List (Addr × Obj) → Prop} {xs : List Str} {m : Str → Option Value} {news : List (Addr × Obj)}
    (J : List Str → (Str → Option Value) → Prop)
    (hx : env.kindOf x = some .local) (hp : (env.scope.kind == .class || (env.scope.kind == .module && env.locals != env.globals)) = false)
    (hI : (I, ciObj b ti) ∈ news)
    (hr : ReadsI prog w A h₀ env.locals I s LS LE) (hL : LS xs news) (F : Fr h₀ env.locals s.heap m) (N : News h₀ env.locals s.heap news) (hJ : J xs m)
    (step : ∀ c r t m₁ news₁ h tk, J (c :: r) m₁ → LS r news₁ → Fr h₀ env.locals h (fun y => if y = x then some (.str c t) else m₁ y) → News h₀ env.locals h news₁ →
      wpAny (model prog w) A (execs body env) (BodyR h₀ env.locals s LS J r.length Q) E { s with heap := h, toks := tk })
    (done : ∀ m' news' h' tk', J [] m' → LE news' → Fr h₀ env.locals h' m' → News h₀ env.locals h' news' → Q .next { s with heap := h', toks := tk' })
    (hE : PassesOwn (model prog w) A env E := by passes_own) :
    wpAny (model prog w) A (pyIter (.ref I)) (fun it s₂ => LoopR prog w A env x px body Q E it s₂) E s :=
  wpAny_pyIter_ci (N _ hI).1 ⟨I, rfl, forR hx hp hr hL F N hJ step done hE⟩
theorem ReadsI.at {L I : Addr} {LS : List Str → List (Addr × Obj) → Prop} {LE : List (Addr × Obj) → Prop} {h : Heap} {tk : Nat} (hr : ReadsI prog w A h₀ L I s LS LE) : ReadsI prog w A h₀ L I { s with heap := h, toks := tk } LS LE := hr
end
end
section
open PySem PySem.W PyProof.Rows
open PySem.Builtin PySem.Builtin.Str
set_option maxRecDepth 100000
set_option maxHeartbeats 8000000


local macro_rules | `(tactic| k_all) => `(tactic| assumption)

local macro_rules | `(tactic| walk_at "getMethod ref") => `(tactic| (refine stop_here ?_))
local macro_rules | `(tactic| walk_at "call ref") => `(tactic| (refine stop_here ?_))
local macro_rules | `(tactic| walk_at "my enterD") => `(tactic| (first | k_dflt cell_enter | k_dflt (walk_at "my enterC") | fail "not entered"))

theorem rc_ctc (w : World) (mean : ExcName → Option Value) (mg mb : Str → Option Value) (news : List (Addr × Obj)) (x dx pb st ds rd cc cell lf : Addr) (k1 k2 k3 k4 tl tw : Tok) (ln : Int) (n kl : Nat) (ys : List Value) (xs : List Str) (ods ost ord occ ocell : Obj) (hy : StrsAre ys xs) (hx1 : xs.length ≤ 1000) (hx2 : ∀ x ∈ xs, x.length = 1) (hod : DictIs ods (fun y => if y = Str.ofString "read" then some (.ref rd) else none)) (hc : ost.cls = .type "function") (hd : ost.dict = some ds) (hfd : ∃ fd, ost.data = .func fd) (hr : ReadOk w mean mg mb rd ord cc occ cell ocell lf)
   (hlf : ∀ p ∈ (x, instObj 66 dx) :: (rd, ord) :: (cc, occ) :: (cell, ocell) :: (ds, ods) :: (st, ost) :: news, p.1 ≠ lf) (hdl : dx ≠ lf) (hdx : ∀ p ∈ (x, instObj 66 dx) :: (rd, ord) :: (cc, occ) :: (cell, ocell) :: (ds, ods) :: (st, ost) :: news, p.1 ≠ dx) :
   CtC 12 w mean mg mb 49 ((x, instObj 66 dx) :: (dx, dictOf (lxE w k1 k2 k3 k4 tl tw ln st pb) n) :: (lf, W.listOf ys.toArray kl) :: (rd, ord) :: (cc, occ) :: (cell, ocell) :: (ds, ods) :: (st, ost) :: news) [.ref x] (fun v news' g g' => g' = g ∧ (xs = [] → (∃ t, v = .str (Str.ofString "") t) ∧ news' = (x, instObj 66 dx) :: (dx, dictOf (lxE w k1 k2 k3 k4 tl tw ln st pb) n) :: (lf, W.listOf ys.toArray kl) :: (rd, ord) :: (cc, occ) :: (cell, ocell) :: (ds, ods) :: (st, ost) :: news) ∧ ∀ c r, xs = c :: r → (∃ t, v = .str c t) ∧ ∃ ys' kl' tl' n', StrsAre ys' r ∧ news' = (x, instObj 66 dx) :: (dx, dictOf (lxE w k1 k2 k3 k4 tl' tw (ln + (if c = Str.ofString (String.singleton (Char.ofNat 10)) then 1 else 0)) st pb) n') :: (lf, W.listOf ys'.toArray kl') :: (rd, ord) :: (cc, occ) :: (cell, ocell) :: (ds, ods) :: (st, ost) :: news) := by
  w_top on
  w_on
  unfold CtC
  k_fill
  intro dp un gd cn cs a ccd cl outer A₀ base h₀ L m s Q E hB hF hX hN hT hK hDp hUn hret
  walk_at "my enterD"
  clear hF hN

  k_steps
  unfold Stop
  rename Fr _ _ _ _ => F0
  rename News _ _ _ _ => N0
  obtain ⟨fd, hfd⟩ := hfd
  obtain ⟨⟨fr, hfr⟩, hr⟩ := hr
  refine' getMethod_fn (N0 (st, ost) ?m1).1 hc hd hfd (hod.ns (N0 (ds, ods) ?m2).1) (if_pos rfl) rfl ?_
  case m1 => k_mem
  case m2 => k_mem
  intro tk'
  dsimp only
  refine' callWith_F ?k1 ?_
  case k1 => exact fnAt_of (N0 (rd, ord) (by k_mem)).1 hfr
  k_steps
  · exact fnAt_of (N0 (rd, ord) (by k_mem)).1 hfr
  unfold Stop
  have N1 : News _ _ _ ((lf, W.listOf ys.toArray kl) :: (rd, ord) :: (cc, occ) :: (cell, ocell) :: (x, instObj 66 dx) :: (dx, dictOf (lxE w k1 k2 k3 k4 tl tw ln st pb) n) :: (ds, ods) :: (st, ost) :: news) := news_sub N0 (by walk_at "my sub")
  have hne9 : ∀ p ∈ (rd, ord) :: (cc, occ) :: (cell, ocell) :: (x, instObj 66 dx) :: (dx, dictOf (lxE w k1 k2 k3 k4 tl tw ln st pb) n) :: (ds, ods) :: (st, ost) :: news, p.1 ≠ lf := by
    intro p hp
    simp only [List.mem_cons] at hp
    have hq : p = (dx, dictOf (lxE w k1 k2 k3 k4 tl tw ln st pb) n) ∨ p ∈ (x, instObj 66 dx) :: (rd, ord) :: (cc, occ) :: (cell, ocell) :: (ds, ods) :: (st, ost) :: news := by
      simp only [List.mem_cons]
      grind
    rcases hq with rfl | hq
    · exact hdl
    · exact hlf p hq
  clear N0
  dsimp only [List.nil_append]
  refine' Ct.use (hr ys xs kl _ _ hy hx1 hx2 hne9) ?B ?F ?X ?N ?T ?K ?d ?u ?_
  walk_at "my uses"
  rintro v' n' h' tk' g' ⟨rfl, he, hne⟩ F' N'
  clear F0 N1
  rcases xs with _ | ⟨c, r⟩
  · obtain ⟨⟨t, rfl⟩, rfl⟩ := he rfl
    clear he hne
    dsimp only
    k_steps
    walk_at "my leave"
    exact hret _ _ _ _ _ ⟨rfl, fun _ => ⟨⟨_, rfl⟩, rfl⟩, fun c r q => (nomatch q)⟩ (by k_asm) (news_sub (by k_asm) (by walk_at "my sub"))
  · obtain ⟨⟨t, rfl⟩, ys', kl', hy', rfl⟩ := hne c r rfl
    have hcl := hx2 c (.head _)
    clear he hne
    dsimp only
    have hdx' : ∀ p ∈ (lf, W.listOf ys'.toArray kl') :: (x, instObj 66 dx) :: (rd, ord) :: (cc, occ) :: (cell, ocell) :: (ds, ods) :: (st, ost) :: news, p.1 ≠ dx := by
      intro p hp
      rcases List.mem_cons.mp hp with rfl | hp
      · exact Ne.symm hdl
      · exact hdx p hp
    have N2 : News _ _ _ ((dx, dictOf (lxE w k1 k2 k3 k4 tl tw ln st pb) n) :: (lf, W.listOf ys'.toArray kl') :: (x, instObj 66 dx) :: (rd, ord) :: (cc, occ) :: (cell, ocell) :: (ds, ods) :: (st, ost) :: news) := news_sub N' (by walk_at "my sub")
    clear N'
    k_steps
    · refine' set_dict (es' := lxE w k1 k2 k3 k4 _ tw (ln + 1) st pb) (n' := n) ?k1 ?k2 ?k3 ?k4 ?k5 ?k6 ?k7 ?k8 ?k9 ?k10 ?k11 ?k12 ?k13 ?_
      case k1 => k_asm
      case k2 => k_asm
      case k3 => k_asm
      case k4 => k_inst
      case k5 => exact rfl
      case k6 => k_is
      case k7 => k_is
      case k8 => k_is
      case k9 => k_is
      case k10 => k_get
      case k11 => with_unfolding_all rfl
      case k12 => k_upd
      case k13 => exact Nat.le_of_ble_eq_true rfl
      intro h' F' N'
      dsimp only
      k_steps
      walk_at "my leave"
      rename (c == _) = true => hcn
      have key : ∀ (t9 : Tok) (g9 h9 : Heap) (L9 : Addr), News g9 L9 h9 ((dx, dictOf (lxE w k1 k2 k3 k4 t9 tw (ln + 1) st pb) n) :: (lf, W.listOf ys'.toArray kl') :: (x, instObj 66 dx) :: (rd, ord) :: (cc, occ) :: (cell, ocell) :: (ds, ods) :: (st, ost) :: news) → News g9 L9 h9 ((x, instObj 66 dx) :: (dx, dictOf (lxE w k1 k2 k3 k4 t9 tw (ln + 1) st pb) n) :: (lf, W.listOf ys'.toArray kl') :: (rd, ord) :: (cc, occ) :: (cell, ocell) :: (ds, ods) :: (st, ost) :: news) := fun t9 g9 h9 L9 N9 => news_sub N9 (by walk_at "my sub")
      rename News _ _ _ _ => NK
      refine hret _ _ _ _ _ ⟨rfl, fun q => (nomatch q), fun c' r' q => ?pp⟩ (by k_asm) (key _ _ _ _ NK)
      obtain ⟨rfl, rfl⟩ := List.cons.inj q
      exact ⟨⟨_, rfl⟩, ys', kl', _, n, hy', by rw [if_pos (by simpa using hcn)]⟩
    · walk_at "my leave"
      rename (c == _) = false => hcn
      refine hret _ ((x, instObj 66 dx) :: (dx, dictOf (lxE w k1 k2 k3 k4 tl tw ln st pb) n) :: (lf, W.listOf ys'.toArray kl') :: (rd, ord) :: (cc, occ) :: (cell, ocell) :: (ds, ods) :: (st, ost) :: news) _ _ _ ⟨rfl, fun q => (nomatch q), fun c' r' q => ?pp2⟩ (by k_asm) (news_sub (by k_asm) (by walk_at "my sub"))
      obtain ⟨rfl, rfl⟩ := List.cons.inj q
      exact ⟨⟨_, rfl⟩, ys', kl', tl, n, hy', by rw [if_neg (by simpa using hcn), Int.add_zero]⟩
end
section
open PySem PySem.W PyProof.Rows
open PySem.Builtin PySem.Builtin.Str
set_option maxRecDepth 100000
set_option maxHeartbeats 8000000

noncomputable def StrsOne (xs : List Str) : Prop := xs.length ≤ 1000 ∧ ∀ x ∈ xs, x.length = 1
noncomputable def nls : List Str → Int
  | [] => 0
  | c :: r => (if c = Str.ofString (String.singleton (Char.ofNat 10)) then 1 else 0) + nls r
/-- the lexer's ledger with the texts xs to read; K: lineno when all is read -/
noncomputable def LXS (w : World) (k1 k2 k3 k4 tw : Tok) (x dx pb st ds rd cc cell lf : Addr) (ods ost ord occ ocell : Obj) (K : Int) (R : List (Addr × Obj)) (xs : List Str) (news : List (Addr × Obj)) : Prop :=
  StrsOne xs ∧ ∃ (tl : Tok) (ln : Int) (n kl : Nat) (ys : List Value), StrsAre ys xs ∧ ln + nls xs = K ∧
    news = (x, instObj 66 dx) :: (dx, dictOf (lxE w k1 k2 k3 k4 tl tw ln st pb) n) :: (lf, W.listOf ys.toArray kl) :: (rd, ord) :: (cc, occ) :: (cell, ocell) :: (ds, ods) :: (st, ost) :: R
theorem fn_at {K : Frag} {f : Addr} {h : Heap} (hf : fnIn K f = true) (X : K.In h) : ∃ fo fd, h.get? f = some fo ∧ fo.data = .func fd := by
  unfold fnIn at hf
  split at hf
  · rename_i e
    exact ⟨_, _, X _ _ e, rfl⟩
  · cases hf
section
variable {w : World} {mean : ExcName → Option Value} {mg mb : Str → Option Value} {k1 k2 k3 k4 tw : Tok} {x dx pb st ds rd cc cell lf : Addr} {ods ost ord occ ocell : Obj} {K : Int} {R : List (Addr × Obj)}
theorem fn49 : fnIn (Mine.hd.heap_39 w.params) 49 = true := by first | kernel_rfl | (w_top on; w_on; k_is) | (w_top on; w_on; k_fill; k_is)
theorem one_ne {c : Str} (h : c.length = 1) : c ≠ Str.ofString "" := fun e => by
  rw [e] at h
  exact absurd h (by decide +kernel)
theorem reads_ci {I b : Addr} {ti : Tok} {s₀ : Shared} {dp un : Nat} {gd : Option (List Code)} {cn : Str} {cs : Scope} {a : Addr} {ccd : Value} {cl : List (Str × Addr)} {outer : List Env} {A₀ : Around} {base h₀ : Heap} {L : Addr}
    (hB : Below A₀ base outer h₀) (hX : (Mine.hd.heap_39 w.params).In h₀) (hT : Top topProg LLo mean mg mb h₀) (hk : cs.kind = .function) (hd' : dp + 12 < recursionLimit) (hu : un + 1 + 8 * 12 < cLine)
    (hod : DictIs ods (fun y => if y = Str.ofString "read" then some (.ref rd) else none)) (hc : ost.cls = .type "function") (hd : ost.dict = some ds) (hfd : ∃ fd, ost.data = .func fd) (hr : ReadOk w mean mg mb rd ord cc occ cell ocell lf)
    (hlf : ∀ p ∈ (x, instObj 66 dx) :: (rd, ord) :: (cc, occ) :: (cell, ocell) :: (ds, ods) :: (st, ost) :: (I, ciObj b ti) :: (b, methodObj (.ref 49) (.ref x)) :: R, p.1 ≠ lf) (hdl : dx ≠ lf)
    (hdx : ∀ p ∈ (x, instObj 66 dx) :: (rd, ord) :: (cc, occ) :: (cell, ocell) :: (ds, ods) :: (st, ost) :: (I, ciObj b ti) :: (b, methodObj (.ref 49) (.ref x)) :: R, p.1 ≠ dx)
    (hI : ∀ p ∈ (x, instObj 66 dx) :: (rd, ord) :: (cc, occ) :: (cell, ocell) :: (ds, ods) :: (st, ost) :: (b, methodObj (.ref 49) (.ref x)) :: R, p.1 ≠ I) :
    ReadsI PySem.Challenge.rw_re0036_02.row.prog w (ktrTop dp un gd cn cs L a ccd cl outer) h₀ L I s₀
      (LXS w k1 k2 k3 k4 tw x dx pb st ds rd cc cell lf ods ost ord occ ocell K ((I, ciObj b ti) :: (b, methodObj (.ref 49) (.ref x)) :: R))
      (LXS w k1 k2 k3 k4 tw x dx pb st ds rd cc cell lf ods ost ord occ ocell K ((b, methodObj (.ref 49) (.ref x)) :: R) []) := by
  rintro xs news m h tk Q E ⟨⟨hx1, hx2⟩, tl, ln, n, kl, ys, hy, hK, rfl⟩ F N hnil hcons
  have hIn := N (I, ciObj b ti) (by k_mem)
  have hbn := N (b, methodObj (.ref 49) (.ref x)) (by k_mem)
  obtain ⟨fo, fd, hfo, hfod⟩ := fn_at fn49 hX
  refine next_ci rfl hIn.1 hbn.1 (F.keep _ _ hfo) hfod ?_
  refine codeAny_mono (rc_ctc w mean mg mb _ x dx pb st ds rd cc cell lf k1 k2 k3 k4 tl tw ln n kl ys xs ods ost ord occ ocell hy hx1 hx2 hod hc hd hfd hr hlf hdl hdx dp (un + 1) gd cn cs a ccd cl outer A₀ base h₀ L m _
    (fun v s' => ∃ c t', v = .str c t' ∧ s'.heap.get? I = some (ciObj b ti) ∧ s'.heap.get? b = some (methodObj (.ref 49) (.ref x)) ∧ s'.heap.get? 49 = some fo ∧
          ((c ≠ Str.ofString "" ∧ Q (some v) s') ∨ (c = Str.ofString "" ∧ ∀ h', Heap.ExtBut I s'.heap h' → Q none { s' with heap := h' }))) (fun _ _ => False) hB F hX N hT hk hd' hu ?_) ?_
  · rintro v news' h' tk' g' ⟨rfl, hn, hcs⟩ F' N'
    rcases xs with _ | ⟨c, r⟩
    · obtain ⟨⟨t, rfl⟩, rfl⟩ := hn rfl
      refine ⟨_, _, rfl, (N' (I, ciObj b ti) (by k_mem)).1, (N' (b, methodObj (.ref 49) (.ref x)) (by k_mem)).1, F'.keep _ _ hfo, .inr ⟨rfl, fun h2 e2 => ?_⟩⟩
      have hsub : News h₀ L h2 ((x, instObj 66 dx) :: (dx, dictOf (lxE w k1 k2 k3 k4 tl tw ln st pb) n) :: (lf, W.listOf ys.toArray kl) :: (rd, ord) :: (cc, occ) :: (cell, ocell) :: (ds, ods) :: (st, ost) :: (b, methodObj (.ref 49) (.ref x)) :: R) := by
        intro p hp
        have hp' : p = (dx, dictOf (lxE w k1 k2 k3 k4 tl tw ln st pb) n) ∨ p = (lf, W.listOf ys.toArray kl) ∨ p ∈ (x, instObj 66 dx) :: (rd, ord) :: (cc, occ) :: (cell, ocell) :: (ds, ods) :: (st, ost) :: (b, methodObj (.ref 49) (.ref x)) :: R := by
          simp only [List.mem_cons] at hp ⊢
          grind
        have hpn := N' p (by simp only [List.mem_cons] at hp ⊢; grind)
        have hne : p.1 ≠ I := by
          rcases hp' with rfl | rfl | hp'
          · exact Ne.symm (hdx (I, ciObj b ti) (by k_mem))
          · exact Ne.symm (hlf (I, ciObj b ti) (by k_mem))
          · exact hI p hp'
        exact ⟨e2 _ _ hne hpn.1, hpn.2⟩
      have F2 : Fr h₀ L h2 m := ⟨F'.ns.at' fun o e => e2 _ _ (Ne.symm hIn.2.1) e, fun q o e => e2 q o (fun hq => by rw [hq, hIn.2.2] at e; cases e) (F'.keep q o e), F'.above⟩
      exact hnil rfl _ h2 tk' ⟨⟨Nat.zero_le _, fun _ hq => (nomatch hq)⟩, tl, ln, n, kl, ys, hy, hK, rfl⟩ F2 hsub
    · obtain ⟨⟨t, rfl⟩, ys', kl', tl', n', hy', rfl⟩ := hcs c r rfl
      refine ⟨_, _, rfl, (N' (I, ciObj b ti) (by k_mem)).1, (N' (b, methodObj (.ref 49) (.ref x)) (by k_mem)).1, F'.keep _ _ hfo, .inl ⟨one_ne (hx2 c (.head _)), ?_⟩⟩
      refine hcons c r t _ h' tk' rfl ⟨⟨by rw [List.length_cons] at hx1; omega, fun y hy => hx2 y (.tail _ hy)⟩, tl', _, n', kl', ys', hy', ?_, rfl⟩ F' N'
      rw [← hK, nls]
      omega
  · intro r s' hr
    cases r with
    | error e => exact hr
    | ok f => cases f <;> exact hr
end
end
section
open PySem PySem.W PyProof.Rows
open PySem.Builtin PySem.Builtin.Str
set_option maxRecDepth 100000
set_option maxHeartbeats 8000000

abbrev sg (c : Nat) : Str := ⟨#[c]⟩
noncomputable def isWs (c : Nat) : Bool := decide (c ∈ [10, 9, 13, 32])
/-- a token in quotation marks, behind the first one -/
noncomputable def inQ : List Nat → List Nat → Option (List Nat × List Nat)
  | [], _ => none
  | [c], tok => if c = 34 then some (tok, []) else none
  | c :: d :: r, tok => if c = 34 then some (tok, d :: r) else if c = 92 then inQ r (tok ++ [d]) else inQ (d :: r) (tok ++ [c])
/-- a bare token -/
noncomputable def inB : List Nat → List Nat → Option (List Nat × List Nat)
  | [], _ => none
  | [c], tok => if isWs c then some (tok, []) else none
  | c :: d :: r, tok => if isWs c then some (tok, d :: r) else if c = 92 then inB r (tok ++ [d]) else inB (d :: r) (tok ++ [c])
/-- what get_token reads, the queue being empty -/
noncomputable def rdT : List Nat → Option (List Nat × List Nat)
  | [] => some ([], [])
  | [_] => none
  | c :: d :: r => if isWs c then none else if c = 34 then inQ (d :: r) [] else if c = 92 then inB r [d] else inB (d :: r) [c]
theorem ls_ws : ls (Str.ofString "\n\t\x0d ") = [10, 9, 13, 32] := by decide +kernel
theorem sg_ws {c : Nat} {b : Bool} (h : (occurrences (Str.ofString "\n\t\x0d ") (sg c) 0 (Str.ofString "\n\t\x0d ").length 1).isEmpty = b) : isWs c = !b := by
  rw [occ_char, ls_ws] at h
  unfold isWs
  rw [← h]; simp
theorem sg_eq {c d : Nat} : (sg c == sg d) = decide (c = d) := by
  by_cases h : c = d
  · subst h; simp
  · rw [decide_eq_false h]
    refine beq_eq_false_iff_ne.mpr fun e => h ?_
    have := congrArg ls e
    simpa [ls] using this
theorem sg_q : Str.ofString "\"" = sg 34 := by decide +kernel
theorem sg_b : Str.ofString "\\" = sg 92 := by decide +kernel
theorem map_sg_cons {xs : List Nat} {c : Str} {r : List Str} (h : xs.map sg = c :: r) : ∃ d ds, xs = d :: ds ∧ c = sg d ∧ r = ds.map sg := by
  cases xs with
  | nil => cases h
  | cons d ds => obtain ⟨rfl, rfl⟩ := List.cons.inj h; exact ⟨d, ds, rfl, rfl, rfl⟩
theorem S_add (l : List Nat) (d : Nat) : S l ++ sg d = S (l ++ [d]) := by
  apply str_ext
  rw [ls_append, ls_S, ls_S]
theorem S_nil : Str.ofString "" = S [] := by decide +kernel
section
variable {prog : Program} {w : World} {A : Around} {s : Shared} {E : Value → Shared → Prop} {h₀ : Heap} {L : Addr} {m : Str → Option Value} {news : List (Addr × Obj)}
theorem iter2_led {Q : Value → Shared → Prop} {b f : Addr} {y : Value} {t : Tok} (F : Fr h₀ L s.heap m) (N : News h₀ L s.heap news) (hm : (b, methodObj (.ref f) y) ∈ news)
    (h : ∀ I h', Fr h₀ L h' m → News h₀ L h' ((I, ciObj b t) :: news) → (∀ p ∈ news, p.1 < I) → Q (.ref I) { s with heap := h' }) :
    wpAny (model prog w) A (call (.builtin "iter") [.ref b, .str (Str.ofString "") t]) Q E s :=
  call_iter2 (N _ hm).1 (h s.heap.objs.size _ (F.push _) (N.push F _) fun p hp => Heap.lt_size (N p hp).1)
end
section
variable {h₀ h : Heap} {L : Addr} {a1 a2 a3 a4 a5 a6 a7 a8 i b : Addr × Obj} {r : List (Addr × Obj)} {z : Addr}
theorem iter_order (N : News h₀ L h (i :: b :: a1 :: a2 :: a3 :: a4 :: a5 :: a6 :: a7 :: a8 :: r)) : News h₀ L h (a1 :: a2 :: a3 :: a4 :: a5 :: a6 :: a7 :: a8 :: i :: b :: r) := news_sub N fun p hp => by
  simp only [List.mem_cons] at hp ⊢
  grind
theorem led_nei (h : ∀ p ∈ a1 :: a4 :: a5 :: a6 :: a7 :: a8 :: r, p.1 ≠ z) (hi : i.1 ≠ z) (hb : b.1 ≠ z) : ∀ p ∈ a1 :: a4 :: a5 :: a6 :: a7 :: a8 :: i :: b :: r, p.1 ≠ z := fun p hp => by
  simp only [List.mem_cons] at hp
  have : p = i ∨ p = b ∨ p ∈ a1 :: a4 :: a5 :: a6 :: a7 :: a8 :: r := by simp only [List.mem_cons]; grind
  rcases this with rfl | rfl | q
  · exact hi
  · exact hb
  · exact h p q
end
theorem look1 (p : Str) (v : Value) : (fun y => List.lookup y [(p, v)]) = fun y => if y = p then some v else none := by
  funext y
  by_cases e : y = p
  · rw [if_pos e, e]; simp [List.lookup]
  · rw [if_neg e]
    have e1 : (y == p) = false := by simpa using e
    rw [List.lookup, e1]; rfl
section
variable {d d2 : Nat} {r tok T R : List Nat}
theorem rdT_q (h : rdT (d :: d2 :: r) = some (T, R)) (hw : isWs d = false) (hq : d = 34) : inQ (d2 :: r) [] = some (T, R) := by
  rw [rdT, hw, if_neg (by decide), if_pos hq] at h; exact h
theorem rdT_b (h : rdT (d :: d2 :: r) = some (T, R)) (hw : isWs d = false) (hq : d ≠ 34) (hb : d = 92) : inB r [d2] = some (T, R) := by
  rw [rdT, hw, if_neg (by decide), if_neg hq, if_pos hb] at h; exact h
theorem rdT_o (h : rdT (d :: d2 :: r) = some (T, R)) (hw : isWs d = false) (hq : d ≠ 34) (hb : d ≠ 92) : inB (d2 :: r) [d] = some (T, R) := by
  rw [rdT, hw, if_neg (by decide), if_neg hq, if_neg hb] at h; exact h
theorem inQ_end (h : inQ (d :: r) tok = some (T, R)) (hq : d = 34) : T = tok ∧ R = r := by
  cases r with
  | nil => rw [inQ, if_pos hq] at h; injection h with h; injection h with a b; exact ⟨a.symm, b.symm⟩
  | cons e r => rw [inQ, if_pos hq] at h; injection h with h; injection h with a b; exact ⟨a.symm, b.symm⟩
theorem inQ_more (h : inQ (d :: r) tok = some (T, R)) (hq : d ≠ 34) : ∃ e r', r = e :: r' ∧ (d = 92 → inQ r' (tok ++ [e]) = some (T, R)) ∧ (d ≠ 92 → inQ r (tok ++ [d]) = some (T, R)) := by
  cases r with
  | nil => rw [inQ, if_neg hq] at h; cases h
  | cons e r =>
    rw [inQ, if_neg hq] at h
    refine ⟨e, r, rfl, fun hb => ?_, fun hb => ?_⟩
    · rw [if_pos hb] at h; exact h
    · rw [if_neg hb] at h; exact h
theorem inB_end (h : inB (d :: r) tok = some (T, R)) (hq : isWs d = true) : T = tok ∧ R = r := by
  cases r with
  | nil => rw [inB, if_pos hq] at h; injection h with h; injection h with a b; exact ⟨a.symm, b.symm⟩
  | cons e r => rw [inB, if_pos hq] at h; injection h with h; injection h with a b; exact ⟨a.symm, b.symm⟩
theorem inB_more (h : inB (d :: r) tok = some (T, R)) (hq : isWs d = false) : ∃ e r', r = e :: r' ∧ (d = 92 → inB r' (tok ++ [e]) = some (T, R)) ∧ (d ≠ 92 → inB r (tok ++ [d]) = some (T, R)) := by
  cases r with
  | nil => rw [inB, hq, if_neg (by decide)] at h; cases h
  | cons e r =>
    rw [inB, hq, if_neg (by decide)] at h
    refine ⟨e, r, rfl, fun hb => ?_, fun hb => ?_⟩
    · rw [if_pos hb] at h; exact h
    · rw [if_neg hb] at h; exact h
theorem sgq_t (h : (sg d == Str.ofString "\"") = true) : d = 34 := by rw [sg_q, sg_eq] at h; simpa using h
theorem sgq_f (h : (sg d == Str.ofString "\"") = false) : d ≠ 34 := by rw [sg_q, sg_eq] at h; simpa using h
theorem sgb_t (h : (sg d == Str.ofString "\\") = true) : d = 92 := by rw [sg_b, sg_eq] at h; simpa using h
theorem sgb_f (h : (sg d == Str.ofString "\\") = false) : d ≠ 92 := by rw [sg_b, sg_eq] at h; simpa using h
theorem S_len (l : List Nat) : (S l).length = l.length := S_length l
theorem sg_S (d : Nat) : sg d = S [d] := rfl
theorem S_nil_add (d : Nat) : Str.ofString "" ++ sg d = S [d] := by rw [S_nil, S_add]; rfl
end
end
section
open PySem PySem.W PyProof.Rows
open PySem.Builtin PySem.Builtin.Str
set_option maxRecDepth 100000
set_option maxHeartbeats 8000000


local macro_rules | `(tactic| k_all) => `(tactic| assumption)

local macro_rules | `(tactic| walk_at "call ref") => `(tactic| (refine stop_here ?_))
local macro_rules | `(tactic| walk_at "call builtin:iter") => `(tactic| (refine' iter2_led ?kF ?kN ?km ?_; (case kF => k_asm); (case kN => k_asm); (case km => k_mem); k_whole; intro I' h' F' N' l1; (try k_lt l1)))
local macro_rules | `(tactic| walk_at "exec For Name Name cons nil") => `(tactic| (k_here; (with_unfolding_all refine' For_R ?_)))


inductive LXI (w : World) (k1 k2 k3 k4 tw : Tok) (x dx pb st ds rd cc cell lf : Addr) (ods ost ord occ ocell : Obj) (K : Int) (R : List (Addr × Obj)) (xs : List Str) : List (Addr × Obj) → Prop
  | mk (hz1 : xs.length ≤ 1000) (hz2 : ∀ x ∈ xs, x.length = 1) (tl : Tok) (ln : Int) (n kl : Nat) (ys : List Value) (hy : StrsAre ys xs) (hK : ln + nls xs = K) : LXI w k1 k2 k3 k4 tw x dx pb st ds rd cc cell lf ods ost ord occ ocell K R xs ((x, instObj 66 dx) :: (dx, dictOf (lxE w k1 k2 k3 k4 tl tw ln st pb) n) :: (lf, W.listOf ys.toArray kl) :: (rd, ord) :: (cc, occ) :: (cell, ocell) :: (ds, ods) :: (st, ost) :: R)
inductive RcI (w : World) (k1 k2 k3 k4 tw : Tok) (x dx pb st ds rd cc cell lf : Addr) (ods ost ord occ ocell : Obj) (R : List (Addr × Obj)) (ln : Int) (g : Array GenState) (c : Str) (r : List Str) : Value → List (Addr × Obj) → Array GenState → Prop
  | mk (t : Tok) (ys' : List Value) (kl' : Nat) (tl' : Tok) (n' : Nat) (hy : StrsAre ys' r) : RcI w k1 k2 k3 k4 tw x dx pb st ds rd cc cell lf ods ost ord occ ocell R ln g c r (.str c t) ((x, instObj 66 dx) :: (dx, dictOf (lxE w k1 k2 k3 k4 tl' tw (ln + (if c = Str.ofString (String.singleton (Char.ofNat 10)) then 1 else 0)) st pb) n') :: (lf, W.listOf ys'.toArray kl') :: (rd, ord) :: (cc, occ) :: (cell, ocell) :: (ds, ods) :: (st, ost) :: R) g
inductive JrI (O : Prop) (PI : List Nat → List Nat → Prop) (TK : List Nat → Tok → Prop) : Str → List Str → Prop
  | mk (d : Nat) (ds tok : List Nat) (t : Tok) (hm : O) (hi : PI (d :: ds) tok) (hl : tok.length + (d :: ds).length ≤ 1000) (ht : TK tok t) : JrI O PI TK (sg d) (ds.map sg)
inductive JoI (O : Prop) (PI : List Nat → Prop) (TK : Tok → Prop) : Str → List Str → Prop
  | mk (d : Nat) (ds : List Nat) (t : Tok) (hm : O) (hi : PI (d :: ds)) (hl : (d :: ds).length ≤ 1000) (ht : TK t) : JoI O PI TK (sg d) (ds.map sg)
section
variable {w : World} {k1 k2 k3 k4 tw : Tok} {x dx pb st ds rd cc cell lf : Addr} {ods ost ord occ ocell : Obj} {K : Int} {R : List (Addr × Obj)}
theorem lx_of {xs : List Str} {news : List (Addr × Obj)} (h : LXS w k1 k2 k3 k4 tw x dx pb st ds rd cc cell lf ods ost ord occ ocell K R xs news) : LXI w k1 k2 k3 k4 tw x dx pb st ds rd cc cell lf ods ost ord occ ocell K R xs news := by
  obtain ⟨⟨a, b⟩, tl, ln, n, kl, ys, hy, hK, rfl⟩ := h
  exact .mk a b tl ln n kl ys hy hK
theorem rc_of {v : Value} {news' : List (Addr × Obj)} {g g' : Array GenState} {c : Str} {r : List Str} {B : Prop} {ln : Int}
    (h : g' = g ∧ B ∧ ∀ c0 r0, c :: r = c0 :: r0 → (∃ t, v = .str c0 t) ∧ ∃ ys' kl' tl' n', StrsAre ys' r0 ∧ news' = (x, instObj 66 dx) :: (dx, dictOf (lxE w k1 k2 k3 k4 tl' tw (ln + (if c0 = Str.ofString (String.singleton (Char.ofNat 10)) then 1 else 0)) st pb) n') :: (lf, W.listOf ys'.toArray kl') :: (rd, ord) :: (cc, occ) :: (cell, ocell) :: (ds, ods) :: (st, ost) :: R) : RcI w k1 k2 k3 k4 tw x dx pb st ds rd cc cell lf ods ost ord occ ocell R ln g c r v news' g' := by
  obtain ⟨rfl, -, hcs⟩ := h
  obtain ⟨⟨t, rfl⟩, ys, kl, tl, n', hy, rfl⟩ := hcs _ _ rfl
  exact .mk t ys kl tl n' hy
end
theorem jr_of {O : Prop} {PI : List Nat → List Nat → Prop} {TK : List Nat → Tok → Prop} {c : Str} {r : List Str}
    (h : O ∧ ∃ cs' tok', c :: r = cs'.map sg ∧ PI cs' tok' ∧ tok'.length + cs'.length ≤ 1000 ∧ ∃ t, TK tok' t) : JrI O PI TK c r := by
  obtain ⟨hm, cs, tok, he, hi, hl, t, ht⟩ := h
  obtain ⟨d, ds, rfl, rfl, rfl⟩ := map_sg_cons he.symm
  exact .mk d ds tok t hm hi hl ht
theorem jo_of {O : Prop} {PI : List Nat → Prop} {TK : Tok → Prop} {c : Str} {r : List Str}
    (h : O ∧ ∃ cs', c :: r = cs'.map sg ∧ PI cs' ∧ cs'.length ≤ 1000 ∧ ∃ t, TK t) : JoI O PI TK c r := by
  obtain ⟨hm, cs, he, hi, hl, t, ht⟩ := h
  obtain ⟨d, ds, rfl, rfl, rfl⟩ := map_sg_cons he.symm
  exact .mk d ds t hm hi hl ht
section
variable {d e : Nat} {r tok T R : List Nat}
theorem inQ_one (hq : d ≠ 34) (h : inQ [d] tok = some (T, R)) : False := by
  obtain ⟨_, _, he, -⟩ := inQ_more h hq
  cases he
theorem inB_one (hq : isWs d = false) (h : inB [d] tok = some (T, R)) : False := by
  obtain ⟨_, _, he, -⟩ := inB_more h hq
  cases he
theorem inQ_two (h : inQ (d :: e :: r) tok = some (T, R)) (hq : d ≠ 34) : (d = 92 → inQ r (tok ++ [e]) = some (T, R)) ∧ (d ≠ 92 → inQ (e :: r) (tok ++ [d]) = some (T, R)) := by
  obtain ⟨_, _, he, h1, h2⟩ := inQ_more h hq
  cases he
  exact ⟨h1, h2⟩
theorem inB_two (h : inB (d :: e :: r) tok = some (T, R)) (hq : isWs d = false) : (d = 92 → inB r (tok ++ [e]) = some (T, R)) ∧ (d ≠ 92 → inB (e :: r) (tok ++ [d]) = some (T, R)) := by
  obtain ⟨_, _, he, h1, h2⟩ := inB_more h hq
  cases he
  exact ⟨h1, h2⟩
end
theorem ch_skip {m : Str → Option Value} {a : Str} {v w : Option Value} : (fun y => if y = a then v else if y = a then w else m y) = fun y => if y = a then v else m y := by
  funext y
  by_cases e : y = a
  · rw [if_pos e, if_pos e]
  · rw [if_neg e, if_neg e, if_neg e]
inductive ChMid (h₀ : Heap) (L : Addr) (m : Str → Option Value) (x : Str) (PP : Value → List Str → Prop) (LS : List Str → List (Addr × Obj) → Prop) (s s' : Shared) : Prop
  | mk (h' : Heap) (tk : Nat) (v : Value) (xs : List Str) (news' : List (Addr × Obj)) (e : s' = { s with heap := h', toks := tk }) (F : Fr h₀ L h' (fun y => if y = x then some v else m y)) (N : News h₀ L h' news') (hp : PP v xs) (hL : LS xs news') : ChMid h₀ L m x PP LS s s'
theorem cut_ch {prog : Program} {w : World} {A : Around} {s : Shared} {env : Env} {h₀ : Heap} {E : Value → Shared → Prop} {st : Stmt} {rest : List Stmt} {Q : Flow → Shared → Prop} {L : Addr} {v₀ : Option Value} {m : Str → Option Value} (x : Str)
    (PP : Value → List Str → Prop) (LS : List Str → List (Addr × Obj) → Prop) (_F : Fr h₀ L s.heap (fun y => if y = x then v₀ else m y))
    (h1 : wpAny (model prog w) A (exec st env) (fun f s' => f = .next ∧ ChMid h₀ L m x PP LS s s') E s)
    (h2 : ∀ h' tk v xs news', Fr h₀ L h' (fun y => if y = x then some v else m y) → News h₀ L h' news' → PP v xs → LS xs news' → wpAny (model prog w) A (execs rest env) Q E { s with heap := h', toks := tk }) :
    wpAny (model prog w) A (execs (st :: rest) env) Q E s := by
  refine wpAny_execs_cons (wpAny_mono h1 (fun f s' h => ?_) fun _ _ e => e)
  obtain ⟨rfl, h', tk, v, xs, news', rfl, F, N, hp, hl⟩ := h
  exact h2 h' tk v xs news' F N hp hl
local macro_rules | `(tactic| walk_at "execs cons") => `(tactic| ((with_reducible show wpAny _ _ (execs (Stmt.If (Expr.Compare _ [CmpOp.Eq] _ _) _ [] _ :: _ :: _) _) _ _ _); refine stop_here ?_))
theorem getr_ct (w : World) (mean : ExcName → Option Value) (mg mb : Str → Option Value) (news : List (Addr × Obj)) (x dx pb st ds rd cc cell lf : Addr) (k1 k2 k3 k4 tw : Tok) (K : Int) (kp : Nat) (ods ost ord occ ocell : Obj) (cs T Rst : List Nat) (led : List (Addr × Obj)) (hod : DictIs ods (fun y => if y = Str.ofString "read" then some (.ref rd) else none)) (hc : ost.cls = .type "function") (hd : ost.dict = some ds) (hfd : ∃ fd, ost.data = .func fd) (hr : ReadOk w mean mg mb rd ord cc occ cell ocell lf)
   (hlf : ∀ p ∈ (x, instObj 66 dx) :: (rd, ord) :: (cc, occ) :: (cell, ocell) :: (ds, ods) :: (st, ost) :: (pb, W.listOf ([] : List Value).toArray kp) :: news, p.1 ≠ lf) (hdl : dx ≠ lf)
   (hdx : ∀ p ∈ (x, instObj 66 dx) :: (rd, ord) :: (cc, occ) :: (cell, ocell) :: (ds, ods) :: (st, ost) :: (pb, W.listOf ([] : List Value).toArray kp) :: news, p.1 ≠ dx)
   (ht : rdT cs = some (T, Rst)) (hL : LXS w k1 k2 k3 k4 tw x dx pb st ds rd cc cell lf ods ost ord occ ocell K ((pb, W.listOf ([] : List Value).toArray kp) :: news) (cs.map sg) led) :
   Ct 20 w mean mg mb 56 led [.ref x] (fun v news' g g' => g' = g ∧ (∃ t, v = .str (S T) t) ∧ LXS w k1 k2 k3 k4 tw x dx pb st ds rd cc cell lf ods ost ord occ ocell K ((pb, W.listOf ([] : List Value).toArray kp) :: news) (Rst.map sg) news') := by
  obtain ⟨⟨hx1, hx2⟩, tl, ln, n, kl, ys, hy, hK, rfl⟩ := hL
  w_top on
  w_on
  unfold Ct
  k_fill
  intro dp un gd cn cs0 a ccd cl outer A₀ base h₀ L m s Q E hB hF hX hN hT hK0 hDp hUn hret
  walk_at "my enter"
  rename Fr _ _ _ _ => FF
  have FN := reframe (m' := fun y => if y = Str.ofString "self" then some (.ref x) else none) FF (by with_unfolding_all exact look1 _ _)
  clear FF hF hN

  k_steps
  rename_i gA LA hA0 FG BA XA TA hA2 bm hA3 l1 I hA4 l2 hA5 FA NA

  obtain ⟨ti, NB⟩ : ∃ ti, News gA LA hA5 ((I, ciObj bm ti) :: (bm, methodObj (.ref 49) (.ref x)) :: (x, instObj 66 dx) :: (dx, dictOf (lxE w k1 k2 k3 k4 tl tw ln st pb) n) :: (lf, W.listOf ys.toArray kl) :: (rd, ord) :: (cc, occ) :: (cell, ocell) :: (ds, ods) :: (st, ost) :: (pb, W.listOf ([] : List Value).toArray kp) :: news) := ⟨_, NA⟩
  clear NA
  have N1 : News _ _ _ ((x, instObj 66 dx) :: (dx, dictOf (lxE w k1 k2 k3 k4 tl tw ln st pb) n) :: (lf, W.listOf ys.toArray kl) :: (rd, ord) :: (cc, occ) :: (cell, ocell) :: (ds, ods) :: (st, ost) :: (I, ciObj bm ti) :: (bm, methodObj (.ref 49) (.ref x)) :: (pb, W.listOf ([] : List Value).toArray kp) :: news) := iter_order NB
  clear NB
  have hlf' := led_nei (i := (I, ciObj bm ti)) (b := (bm, methodObj (.ref 49) (.ref x))) hlf (neN (by lia  )) (neN (by lia  ))
  have hdx' := led_nei (i := (I, ciObj bm ti)) (b := (bm, methodObj (.ref 49) (.ref x))) hdx (neN (by lia  )) (neN (by lia  ))
  have hI' : ∀ p ∈ (x, instObj 66 dx) :: (rd, ord) :: (cc, occ) :: (cell, ocell) :: (ds, ods) :: (st, ost) :: (bm, methodObj (.ref 49) (.ref x)) :: (pb, W.listOf ([] : List Value).toArray kp) :: news, p.1 ≠ I := all_ne (allLt_mem (D := I) ⟨by lia  , by lia  , by lia  , by lia  , by lia  , by lia  , by lia  , by lia  , l2.2.2.2.2.2.2.2.2.2.2⟩) (Nat.le_refl _)
  have hIm : ∀ (tl : Tok) (ln : Int) (n kl : Nat) (ys : List Value), (I, ciObj bm ti) ∈ (x, instObj 66 dx) :: (dx, dictOf (lxE w k1 k2 k3 k4 tl tw ln st pb) n) :: (lf, W.listOf ys.toArray kl) :: (rd, ord) :: (cc, occ) :: (cell, ocell) :: (ds, ods) :: (st, ost) :: (I, ciObj bm ti) :: (bm, methodObj (.ref 49) (.ref x)) :: (pb, W.listOf ([] : List Value).toArray kp) :: news := fun _ _ _ _ _ => .tail _ (.tail _ (.tail _ (.tail _ (.tail _ (.tail _ (.tail _ (.tail _ (.head _))))))))
  refine' iter_R (xs := cs.map sg) (fun xs m₁ => Off [Str.ofString "ch", Str.ofString "token"] _ m₁ ∧ ∃ cs', xs = cs'.map sg ∧ rdT cs' = some (T, Rst) ∧ cs'.length ≤ 1000 ∧ ∃ t, m₁ (Str.ofString "token") = some (.str (Str.ofString "") t)) rfl rfl (hIm _ _ _ _ _) (reads_ci (K := K) (x := x) (lf := lf) (R := (pb, W.listOf ([] : List Value).toArray kp) :: news) ?rB ?rX ?rT ?rK ?rd ?ru hod hc hd hfd hr hlf' hdl hdx' hI') ⟨⟨hx1, hx2⟩, tl, ln, n, kl, ys, hy, hK, rfl⟩ ?rF ?rN ⟨Off.refl, cs, rfl, ht, by simpa using hx1, ?rJ⟩ ?step ?done
  case rB => k_asm
  case rX => k_asm
  case rT => k_asm
  case rK => exact rfl
  case rd => first | exact room_d (by assumption) (by rfl) | lia   | ((try simp only [depth_deeper]); (try dsimp only [ktrTop]); lia  )
  case ru => first | exact room_u (by assumption) (by rfl) | lia   | ((try simp only [Around.deeper_units]); (try dsimp only [ktrTop]); lia  )
  case rF => k_asm
  case rN => k_asm
  case rJ => exact ⟨_, rfl⟩
  case step =>
    intro c r t m₁ news₁ h tk1 hJ9
    have hJ := jo_of hJ9
    clear hJ9 FA N1
    obtain ⟨d, ds', t0, hm, hrd, hl, htk⟩ := hJ
    intro hL9
    have hL := lx_of hL9
    clear hL9
    obtain ⟨hz1, hz2, tl', ln', n', kl', ys', hy', hK'⟩ := hL
    intro F N
    rw [Off.eq2 hm htk] at F
    clear hm htk
    rcases ds' with _ | ⟨d2, ds2⟩
    · exact absurd hrd (by simp [rdT])
    have hdl1 : (sg d).length = 1 := rfl
    dsimp only
    k_steps
    · rename List.isEmpty _ = true => hws
      rename (sg d == _) = true => hq
      have hin := rdT_q hrd (by simpa using sg_ws hws) (sgq_t hq)
      refine' iter_R (xs := (d2 :: ds2).map sg) (fun xs m₁ => Off [Str.ofString "ch", Str.ofString "token"] _ m₁ ∧ ∃ cs' tok', xs = cs'.map sg ∧ inQ cs' tok' = some (T, Rst) ∧ tok'.length + cs'.length ≤ 1000 ∧ ∃ t, m₁ (Str.ofString "token") = some (.str (S tok') t)) rfl rfl (hIm _ _ _ _ _) (reads_ci (K := K) (x := x) (lf := lf) (R := (pb, W.listOf ([] : List Value).toArray kp) :: news) ?i_rB ?i_rX ?i_rT ?i_rK ?i_rd ?i_ru hod hc hd hfd hr hlf' hdl hdx' hI') ⟨⟨hz1, hz2⟩, tl', ln', n', kl', ys', hy', hK', rfl⟩ ?i_rF ?i_rN ⟨Off.refl, _, [], rfl, hin, ?i_rl, ?i_rJ⟩ ?i_step ?i_done
      case i_rB => k_asm
      case i_rX => k_asm
      case i_rT => k_asm
      case i_rK => exact rfl
      case i_rd => first | exact room_d (by assumption) (by rfl) | lia   | ((try simp only [depth_deeper]); (try dsimp only [ktrTop]); lia  )
      case i_ru => first | exact room_u (by assumption) (by rfl) | lia   | ((try simp only [Around.deeper_units]); (try dsimp only [ktrTop]); lia  )
      case i_rF => k_asm
      case i_rN => k_asm
      case i_rl => simp only [List.length_cons, List.length_nil] at hl ⊢; lia  
      case i_rJ => first | exact ⟨_, rfl⟩ | exact ⟨_, congrArg (fun z => some (Value.str z _)) (S_nil_add _)⟩
      case i_done =>
        rintro m' news' h' tk' ⟨hm9, cs9, tok9, he9, hin9, hl9, t0', htk9⟩ hLS9 F9 N9
        cases cs9 with
        | nil => exact absurd hin9 (by simp [inQ])
        | cons _ _ => cases he9
      case i_step =>
        intro c r t m₂ news₂ h2 tk2 hJ9
        have hJ := jr_of hJ9
        clear hJ9
        obtain ⟨d9, ds9, tok9, t0', hm9, hin9, hl9, htk9⟩ := hJ
        intro hL9
        have hL := lx_of hL9
        clear hL9
        obtain ⟨hz1', hz2', tl9, ln9, n9, kl9, ys9, hy9, hK9⟩ := hL
        intro F9 N9
        rw [Off.eq2 hm9 htk9] at F9
        clear hm9 htk9
        have hdl9 : (sg d9).length = 1 := rfl
        have htl9 : (S tok9).length ≤ 1000 := by rw [S_len]; lia  
        dsimp only
        k_steps
        · rename (sg d9 == Str.ofString "\"") = true => hq
          have eE := inQ_end hin9 (sgq_t hq)
          dsimp only [BodyR]
          refine stop_here ?_
          walk_at "my leave"
          refine hret _ _ _ _ _ ⟨rfl, ⟨_, congrArg (fun z => Value.str (S z) _) eE.1.symm⟩, by rw [eE.2]; exact ⟨⟨hz1', hz2'⟩, tl9, ln9, n9, kl9, ys9, hy9, hK9, rfl⟩⟩ (by k_asm) (news_sub (by k_asm) (by walk_at "my sub"))
        · rename (sg d9 == Str.ofString "\"") = false => hq
          rcases ds9 with _ | ⟨e9, r9⟩
          · exact (inQ_one (sgq_f hq) hin9).elim
          have hb := inQ_two hin9 (sgq_f hq)
          rename (sg d9 == Str.ofString "\\") = true => hbs
          have hin2 := hb.1 (sgb_t hbs)
          have hle9 : (sg e9).length = 1 := rfl
          unfold Stop
          dsimp only
          refine' Ct.use ((rc_ctc w mean mg mb ((I, ciObj bm ti) :: (bm, methodObj (.ref 49) (.ref x)) :: (pb, W.listOf ([] : List Value).toArray kp) :: news) x dx pb st ds rd cc cell lf k1 k2 k3 k4 tl9 tw ln9 n9 kl9 ys9 _ ods ost ord occ ocell hy9 hz1' hz2' hod hc hd hfd hr hlf' hdl hdx').ct) ?i_B ?i_F ?i_X ?i_N ?i_T ?i_K ?i_d ?i_u ?_
          case i_B => k_asm
          case i_F => k_asm
          case i_X => k_asm
          case i_N => k_asm
          case i_T => k_asm
          case i_K => first | exact rfl | assumption
          case i_d => first | exact room_d (by assumption) (by rfl) | lia   | ((try simp only [depth_deeper]); (try dsimp only [ktrTop]); lia  )
          case i_u => first | exact room_u (by assumption) (by rfl) | lia   | ((try simp only [Around.deeper_units]); (try dsimp only [ktrTop]); lia  )
          intro v8 n8 h8 tk8 g8 hp8
          have hq8 := rc_of hp8
          clear hp8
          obtain ⟨t8, ys8, kl8, tl8, n8', hy8⟩ := hq8
          intro F8 N8
          clear N9 F9
          have hK8 : ln9 + (if sg e9 = Str.ofString (String.singleton (Char.ofNat 10)) then 1 else 0) + nls (r9.map sg) = K := by
            have := hK9
            simp only [List.map_cons, nls] at this
            lia  
          dsimp only
          k_steps
          refine' ⟨r9.map sg, _, _, _, _, rfl, ?g0, ⟨⟨?g00, fun y hy => hz2' y (.tail _ hy)⟩, tl8, _, n8', kl8, ys8, hy8, hK8, rfl⟩, ⟨?g1, r9, tok9 ++ [e9], rfl, hin2, ?g2, ?g3⟩, ?g4, ?g5⟩
          case g4 => k_asm
          case g5 => k_asm
          case g0 => simp
          case g00 => simp only [List.map_cons, List.length_cons] at hz1' ⊢; lia  
          case g1 => repeat (first | exact Off.refl | refine Off.put ?_ (by simp))
          case g2 => simp only [List.length_append, List.length_cons, List.length_nil] at hl9 ⊢; lia  
          case g3 => exact ⟨_, congrArg (fun z => some (Value.str z _)) (S_add _ _)⟩
        · rename (sg d9 == Str.ofString "\"") = false => hq
          rcases ds9 with _ | ⟨e9, r9⟩
          · exact (inQ_one (sgq_f hq) hin9).elim
          have hb := inQ_two hin9 (sgq_f hq)
          rename (sg d9 == Str.ofString "\\") = false => hbs
          have hin2 := hb.2 (sgb_f hbs)
          refine' ⟨(e9 :: r9).map sg, _, _, _, _, rfl, Nat.le_refl _, ⟨⟨hz1', hz2'⟩, tl9, ln9, n9, kl9, ys9, hy9, hK9, rfl⟩, ⟨?g1, e9 :: r9, tok9 ++ [d9], rfl, hin2, ?g2, ?g3⟩, ?g4, ?g5⟩
          case g4 => k_asm
          case g5 => k_asm
          case g1 => repeat (first | exact Off.refl | refine Off.put ?_ (by simp))
          case g2 => simp only [List.length_append, List.length_cons, List.length_nil] at hl9 ⊢; lia  
          case g3 => exact ⟨_, congrArg (fun z => some (Value.str z _)) (S_add _ _)⟩

    · rename List.isEmpty _ = true => hws
      rename (sg d == Str.ofString "\"") = false => hq
      unfold Stop
      rename Fr _ _ _ _ => F0
      refine' cut_ch (Str.ofString "ch") (fun v xs => ∃ c r t, v = .str (sg c) t ∧ xs = r.map sg ∧ inB r [c] = some (T, Rst) ∧ r.length + 1 ≤ 1000) (LXS w k1 k2 k3 k4 tw x dx pb st ds rd cc cell lf ods ost ord occ ocell K ((I, ciObj bm ti) :: (bm, methodObj (.ref 49) (.ref x)) :: (pb, W.listOf ([] : List Value).toArray kp) :: news)) F0 ?cutA ?cutB
      case cutA =>
        k_steps
        · rename (sg d == Str.ofString "\\") = true => hbs
          have hin := rdT_b hrd (by simpa using sg_ws hws) (sgq_f hq) (sgb_t hbs)
          have hle9 : (sg d2).length = 1 := rfl
          unfold Stop
          dsimp only
          refine' Ct.use ((rc_ctc w mean mg mb ((I, ciObj bm ti) :: (bm, methodObj (.ref 49) (.ref x)) :: (pb, W.listOf ([] : List Value).toArray kp) :: news) x dx pb st ds rd cc cell lf k1 k2 k3 k4 tl' tw ln' n' kl' ys' _ ods ost ord occ ocell hy' hz1 hz2 hod hc hd hfd hr hlf' hdl hdx').ct) ?i_B ?i_F ?i_X ?i_N ?i_T ?i_K ?i_d ?i_u ?_
          case i_B => k_asm
          case i_F => k_asm
          case i_X => k_asm
          case i_N => k_asm
          case i_T => k_asm
          case i_K => first | exact rfl | assumption
          case i_d => first | exact room_d (by assumption) (by rfl) | lia   | ((try simp only [depth_deeper]); (try dsimp only [ktrTop]); lia  )
          case i_u => first | exact room_u (by assumption) (by rfl) | lia   | ((try simp only [Around.deeper_units]); (try dsimp only [ktrTop]); lia  )
          intro v8 n8 h8 tk8 g8 hp8
          have hq8 := rc_of hp8
          clear hp8
          obtain ⟨t8, ys8, kl8, tl8, n8', hy8⟩ := hq8
          intro F8 N8
          clear N F0
          have hK8 : ln' + (if sg d2 = Str.ofString (String.singleton (Char.ofNat 10)) then 1 else 0) + nls (ds2.map sg) = K := by
            have := hK'
            simp only [List.map_cons, nls] at this
            lia  
          have hz8 : StrsOne (ds2.map sg) := ⟨by simp only [List.map_cons, List.length_cons] at hz1 ⊢; lia  , fun y hy => hz2 y (.tail _ hy)⟩
          dsimp only
          k_steps
          refine' ⟨_, _, _, _, _, rfl, ?z1, ?z2, ⟨d2, ds2, t8, rfl, rfl, hin, ?z3⟩, ⟨hz8, tl8, _, n8', kl8, ys8, hy8, hK8, rfl⟩⟩
          case z1 => (rename Fr _ _ _ _ => Fq; first | exact Fq | exact reframe Fq ch_skip)
          case z2 => k_asm
          case z3 => simp only [List.length_cons] at hl ⊢; lia  
        · rename (sg d == Str.ofString "\\") = false => hbs
          have hin := rdT_o hrd (by simpa using sg_ws hws) (sgq_f hq) (sgb_f hbs)
          refine' ⟨_, _, _, _, _, rfl, ?z1, ?z2, ⟨d, d2 :: ds2, t, rfl, rfl, hin, ?z3⟩, ⟨⟨hz1, hz2⟩, tl', ln', n', kl', ys', hy', hK', rfl⟩⟩
          case z1 => (rename Fr _ _ _ _ => Fq; first | exact Fq | exact reframe Fq ch_skip)
          case z2 => k_asm
          case z3 => simp only [List.length_cons] at hl ⊢; lia  
      case cutB =>
        rintro h7 tk7 v7 xs7 news7 F7 N7 ⟨c7, r7, t7, rfl, rfl, hin, hl7⟩ ⟨⟨hz17, hz27⟩, tl7, ln7, n7, kl7, ys7, hy7, hK7, rfl⟩
        clear N F0 hrd hl hz1 hz2 hy' hK' hws hq
        have hdl7 : (sg c7).length = 1 := rfl
        dsimp only
        k_steps
        refine' iter_R (xs := r7.map sg) (fun xs m₁ => Off [Str.ofString "ch", Str.ofString "token"] _ m₁ ∧ ∃ cs' tok', xs = cs'.map sg ∧ inB cs' tok' = some (T, Rst) ∧ tok'.length + cs'.length ≤ 1000 ∧ ∃ t, m₁ (Str.ofString "token") = some (.str (S tok') t)) rfl rfl (hIm _ _ _ _ _) (reads_ci (K := K) (x := x) (lf := lf) (R := (pb, W.listOf ([] : List Value).toArray kp) :: news) ?i_rB ?i_rX ?i_rT ?i_rK ?i_rd ?i_ru hod hc hd hfd hr hlf' hdl hdx' hI') ⟨⟨hz17, hz27⟩, tl7, ln7, n7, kl7, ys7, hy7, hK7, rfl⟩ ?i_rF ?i_rN ⟨Off.refl, _, [c7], rfl, hin, ?i_rl, ?i_rJ⟩ ?i_step ?i_done
        case i_rB => k_asm
        case i_rX => k_asm
        case i_rT => k_asm
        case i_rK => exact rfl
        case i_rd => first | exact room_d (by assumption) (by rfl) | lia   | ((try simp only [depth_deeper]); (try dsimp only [ktrTop]); lia  )
        case i_ru => first | exact room_u (by assumption) (by rfl) | lia   | ((try simp only [Around.deeper_units]); (try dsimp only [ktrTop]); lia  )
        case i_rF => k_asm
        case i_rN => k_asm
        case i_rl => simp only [List.length_cons, List.length_nil] at ⊢; lia  
        case i_rJ => first | exact ⟨_, rfl⟩ | exact ⟨_, congrArg (fun z => some (Value.str z _)) (S_nil_add _)⟩
        case i_done =>
          rintro m' news' h' tk' ⟨hm9, cs9, tok9, he9, hin9, hl9, t0', htk9⟩ hLS9 F9 N9
          cases cs9 with
          | nil => exact absurd hin9 (by simp [inB])
          | cons _ _ => cases he9
        case i_step =>
          intro c r t m₂ news₂ h2 tk2 hJ9
          have hJ := jr_of hJ9
          clear hJ9
          obtain ⟨d9, ds9, tok9, t0', hm9, hin9, hl9, htk9⟩ := hJ
          intro hL9
          have hL := lx_of hL9
          clear hL9
          obtain ⟨hz1', hz2', tl9, ln9, n9, kl9, ys9, hy9, hK9⟩ := hL
          intro F9 N9
          rw [Off.eq2 hm9 htk9] at F9
          clear hm9 htk9
          have hdl9 : (sg d9).length = 1 := rfl
          have htl9 : (S tok9).length ≤ 1000 := by rw [S_len]; lia  
          dsimp only
          k_steps
          · rename List.isEmpty _ = true => hws9
            rcases ds9 with _ | ⟨e9, r9⟩
            · exact (inB_one (by simpa using sg_ws hws9) hin9).elim
            have hb := inB_two hin9 (by simpa using sg_ws hws9)
            rename (sg d9 == Str.ofString "\\") = true => hbs
            have hin2 := hb.1 (sgb_t hbs)
            have hle9 : (sg e9).length = 1 := rfl
            unfold Stop
            dsimp only
            refine' Ct.use ((rc_ctc w mean mg mb ((I, ciObj bm ti) :: (bm, methodObj (.ref 49) (.ref x)) :: (pb, W.listOf ([] : List Value).toArray kp) :: news) x dx pb st ds rd cc cell lf k1 k2 k3 k4 tl9 tw ln9 n9 kl9 ys9 _ ods ost ord occ ocell hy9 hz1' hz2' hod hc hd hfd hr hlf' hdl hdx').ct) ?i_B ?i_F ?i_X ?i_N ?i_T ?i_K ?i_d ?i_u ?_
            case i_B => k_asm
            case i_F => k_asm
            case i_X => k_asm
            case i_N => k_asm
            case i_T => k_asm
            case i_K => first | exact rfl | assumption
            case i_d => first | exact room_d (by assumption) (by rfl) | lia   | ((try simp only [depth_deeper]); (try dsimp only [ktrTop]); lia  )
            case i_u => first | exact room_u (by assumption) (by rfl) | lia   | ((try simp only [Around.deeper_units]); (try dsimp only [ktrTop]); lia  )
            intro v8 n8 h8 tk8 g8 hp8
            have hq8 := rc_of hp8
            clear hp8
            obtain ⟨t8, ys8, kl8, tl8, n8', hy8⟩ := hq8
            intro F8 N8
            clear N9 F9
            have hK8 : ln9 + (if sg e9 = Str.ofString (String.singleton (Char.ofNat 10)) then 1 else 0) + nls (r9.map sg) = K := by
              have := hK9
              simp only [List.map_cons, nls] at this
              lia  
            dsimp only
            k_steps
            refine' ⟨r9.map sg, _, _, _, _, rfl, ?g0, ⟨⟨?g00, fun y hy => hz2' y (.tail _ hy)⟩, tl8, _, n8', kl8, ys8, hy8, hK8, rfl⟩, ⟨?g1, r9, tok9 ++ [e9], rfl, hin2, ?g2, ?g3⟩, ?g4, ?g5⟩
            case g4 => k_asm
            case g5 => k_asm
            case g0 => simp
            case g00 => simp only [List.map_cons, List.length_cons] at hz1' ⊢; lia  
            case g1 => repeat (first | exact Off.refl | refine Off.put ?_ (by simp))
            case g2 => simp only [List.length_append, List.length_cons, List.length_nil] at hl9 ⊢; lia  
            case g3 => exact ⟨_, congrArg (fun z => some (Value.str z _)) (S_add _ _)⟩
          · rename List.isEmpty _ = true => hws9
            rcases ds9 with _ | ⟨e9, r9⟩
            · exact (inB_one (by simpa using sg_ws hws9) hin9).elim
            have hb := inB_two hin9 (by simpa using sg_ws hws9)
            rename (sg d9 == Str.ofString "\\") = false => hbs
            have hin2 := hb.2 (sgb_f hbs)
            refine' ⟨(e9 :: r9).map sg, _, _, _, _, rfl, Nat.le_refl _, ⟨⟨hz1', hz2'⟩, tl9, ln9, n9, kl9, ys9, hy9, hK9, rfl⟩, ⟨?g1, e9 :: r9, tok9 ++ [d9], rfl, hin2, ?g2, ?g3⟩, ?g4, ?g5⟩
            case g4 => k_asm
            case g5 => k_asm
            case g1 => repeat (first | exact Off.refl | refine Off.put ?_ (by simp))
            case g2 => simp only [List.length_append, List.length_cons, List.length_nil] at hl9 ⊢; lia  
            case g3 => exact ⟨_, congrArg (fun z => some (Value.str z _)) (S_add _ _)⟩
          · rename List.isEmpty _ = false => hws9
            have eE := inB_end hin9 (by simpa using sg_ws hws9)
            dsimp only [BodyR]
            refine stop_here ?_
            walk_at "my leave"
            refine hret _ _ _ _ _ ⟨rfl, ⟨_, congrArg (fun z => Value.str (S z) _) eE.1.symm⟩, by rw [eE.2]; exact ⟨⟨hz1', hz2'⟩, tl9, ln9, n9, kl9, ys9, hy9, hK9, rfl⟩⟩ (by k_asm) (news_sub (by k_asm) (by walk_at "my sub"))

    · exfalso
      rename List.isEmpty _ = false => hws
      have := sg_ws hws
      simp [rdT, this] at hrd
  case done =>
    rintro m' news' h' tk' ⟨hm, cs', he, hrd, hl, t0, htk⟩ hLS F N
    have hc0 : cs' = [] := by cases cs' with | nil => rfl | cons _ _ => cases he
    subst hc0
    obtain ⟨rfl, rfl⟩ : [] = T ∧ [] = Rst := by simpa [rdT] using hrd
    rw [frame_at htk] at F
    obtain ⟨⟨hz1, hz2⟩, tl', ln', n', kl', ys', hy', hK', rfl⟩ := hLS
    clear FA N1 hm he
    dsimp only
    k_steps
    walk_at "my leave"
    refine hret _ _ _ _ _ ⟨rfl, ⟨_, rfl⟩, ⟨hz1, hz2⟩, tl', ln', n', kl', ys', hy', hK', rfl⟩ (by k_asm) (news_sub (by k_asm) (by walk_at "my sub"))
end
section
open PySem PySem.W PyProof.Rows
open PySem.Builtin PySem.Builtin.Str
set_option maxRecDepth 100000
set_option maxHeartbeats 8000000

/-! what is written is read -/
theorem inQ_cons {c e : Nat} {r tok : List Nat} : inQ (c :: e :: r) tok = if c = 34 then some (tok, e :: r) else if c = 92 then inQ r (tok ++ [e]) else inQ (e :: r) (tok ++ [c]) := by rw [inQ]
theorem inQ_written (w : List Nat) : ∀ (tok R : List Nat), inQ (w.flatMap escQ ++ 34 :: R) tok = some (tok ++ w, R) := by
  induction w with
  | nil =>
    intro tok R
    rw [List.flatMap_nil, List.nil_append, List.append_nil]
    cases R with
    | nil => rw [inQ, if_pos rfl]
    | cons e r => rw [inQ_cons, if_pos rfl]
  | cons c w ih =>
    intro tok R
    rw [List.flatMap_cons, List.append_assoc]
    have e : tok ++ c :: w = (tok ++ [c]) ++ w := by rw [List.append_assoc]; rfl
    rw [e, ← ih (tok ++ [c]) R]
    by_cases h : c = 34 ∨ c = 92
    · have : escQ c = [92, c] := if_pos h
      rw [this]
      show inQ (92 :: c :: (w.flatMap escQ ++ 34 :: R)) tok = _
      rw [inQ_cons, if_neg (by decide), if_pos rfl]
    · have : escQ c = [c] := if_neg h
      rw [this]
      show inQ (c :: (w.flatMap escQ ++ 34 :: R)) tok = _
      obtain ⟨f, g, hf⟩ : ∃ f g, w.flatMap escQ ++ 34 :: R = f :: g := by
        cases hx : w.flatMap escQ with
        | nil => exact ⟨34, R, rfl⟩
        | cons f g => exact ⟨f, g ++ 34 :: R, rfl⟩
      rw [hf, inQ_cons, if_neg (fun q => h (.inl q)), if_neg (fun q => h (.inr q))]
theorem inB_cons {c e : Nat} {r tok : List Nat} : inB (c :: e :: r) tok = if isWs c then some (tok, e :: r) else if c = 92 then inB r (tok ++ [e]) else inB (e :: r) (tok ++ [c]) := by rw [inB]
theorem wsAt_ws (i : Int) : isWs (wsAt i) = true := by
  unfold wsAt
  split
  · decide
  · split
    · decide
    · split <;> decide
theorem inB_written (w : List Nat) (s : Nat) (hs : isWs s = true) : ∀ (tok R : List Nat), inB (w.flatMap escB ++ s :: R) tok = some (tok ++ w, R) := by
  induction w with
  | nil =>
    intro tok R
    rw [List.flatMap_nil, List.nil_append, List.append_nil]
    cases R with
    | nil => rw [inB, if_pos hs]
    | cons e r => rw [inB_cons, if_pos hs]
  | cons c w ih =>
    intro tok R
    have e : tok ++ c :: w = (tok ++ [c]) ++ w := by rw [List.append_assoc]; rfl
    rw [e, ← ih (tok ++ [c]) R]
    show inB (92 :: c :: (w.flatMap escB ++ s :: R)) tok = _
    rw [inB_cons, if_neg (by decide), if_pos rfl]
theorem rdT_cons {c e : Nat} {r : List Nat} : rdT (c :: e :: r) = if isWs c then none else if c = 34 then inQ (e :: r) [] else if c = 92 then inB r [e] else inB (e :: r) [c] := by rw [rdT]
theorem rdT_written {w : List Nat} (hw : w ≠ []) (way : Int) (R : List Nat) : rdT (writtenF w way ++ R) = some (w, R) := by
  unfold writtenF
  split
  · have e : [34] ++ w.flatMap escQ ++ [34] ++ R = 34 :: (w.flatMap escQ ++ 34 :: R) := by simp
    rw [e]
    obtain ⟨f, g, hf⟩ : ∃ f g, w.flatMap escQ ++ 34 :: R = f :: g := by
      cases hx : w.flatMap escQ with
      | nil => exact ⟨34, R, rfl⟩
      | cons f g => exact ⟨f, g ++ 34 :: R, rfl⟩
    rw [hf, rdT_cons, if_neg (by decide), if_pos rfl, ← hf, inQ_written, List.nil_append]
  · cases w with
    | nil => exact absurd rfl hw
    | cons c w =>
      have e : (c :: w).flatMap escB ++ [wsAt ((way.fdiv 2).fmod 4)] ++ R = 92 :: c :: (w.flatMap escB ++ wsAt ((way.fdiv 2).fmod 4) :: R) := by simp [escB]
      rw [e, rdT_cons, if_neg (by decide), if_neg (by decide), if_pos rfl, inB_written w _ (wsAt_ws _)]; rfl
/-- the four tokens, and what is left behind each -/
noncomputable def tokAt (a b c : List Nat) : Nat → List Nat
  | 0 => a | 1 => b | 2 => c | _ => []
noncomputable def leftAt (A B C : List Nat) : Nat → List Nat
  | 0 => A ++ B ++ C | 1 => B ++ C | 2 => C | _ => []
theorem reads4 {a b c : List Nat} (ha : a ≠ []) (hb : b ≠ []) (hc : c ≠ []) (x y z : Int) {i : Nat} (hi : i < 4) :
    rdT (leftAt (writtenF a x) (writtenF b y) (writtenF c z) i) = some (tokAt a b c i, leftAt (writtenF a x) (writtenF b y) (writtenF c z) (i + 1)) := by
  match i, hi with
  | 0, _ => show rdT (writtenF a x ++ writtenF b y ++ writtenF c z) = _; rw [List.append_assoc, rdT_written ha]; rfl
  | 1, _ => exact rdT_written hb _ _
  | 2, _ => show rdT (writtenF c z) = _; rw [← List.append_nil (writtenF c z), rdT_written hc]; rfl
  | 3, _ => rfl
/-- the ledger's tail may be longer -/
theorem LXS.app {w : World} {k1 k2 k3 k4 tw : Tok} {x dx pb st ds rd cc cell lf : Addr} {ods ost ord occ ocell : Obj} {K : Int} {R own led : List (Addr × Obj)} {xs : List Str} (h : LXS w k1 k2 k3 k4 tw x dx pb st ds rd cc cell lf ods ost ord occ ocell K R xs led) :
    LXS w k1 k2 k3 k4 tw x dx pb st ds rd cc cell lf ods ost ord occ ocell K (R ++ own) xs (led ++ own) := by
  obtain ⟨h1, tl, ln, n, kl, ys, hy, hK, rfl⟩ := h
  exact ⟨h1, tl, ln, n, kl, ys, hy, hK, rfl⟩
theorem LXS.cut {w : World} {k1 k2 k3 k4 tw : Tok} {x dx pb st ds rd cc cell lf : Addr} {ods ost ord occ ocell : Obj} {K : Int} {R own led : List (Addr × Obj)} {xs : List Str} (h : LXS w k1 k2 k3 k4 tw x dx pb st ds rd cc cell lf ods ost ord occ ocell K (R ++ own) xs led) :
    ∃ led', LXS w k1 k2 k3 k4 tw x dx pb st ds rd cc cell lf ods ost ord occ ocell K R xs led' ∧ led = led' ++ own := by
  obtain ⟨h1, tl, ln, n, kl, ys, hy, hK, rfl⟩ := h
  exact ⟨_, ⟨h1, tl, ln, n, kl, ys, hy, hK, rfl⟩, rfl⟩
theorem signs_S (l : List Nat) : signs (S l) = l.map sg := rfl
end
section
open PySem PySem.W PyProof.Rows
open PySem.Builtin PySem.Builtin.Str
set_option maxRecDepth 100000
set_option maxHeartbeats 8000000

/-- the law's end: True is told, what lay there lies there, tables of code have grown at most -/
noncomputable def Fin1 (h₀ : Heap) (os : OsState) (tabs : List (Addr × Addr)) (r : Result) (s' : Shared) : Prop :=
  r = .ok (.ret (.bool true)) ∧ (∀ b o, h₀.get? b = some o → s'.heap.get? b = some o) ∧ s'.os = os ∧ AllBare s'.gens ∧ GrownAll tabs s'.heap
theorem lw_post {M : Model} {A : Around} {cd : Code} {s s₁ : Shared} {cw : ClaimW} {cl : Str → Option Addr} {mean : ExcName → Option Value} {args : List WData} {tabs : List (Addr × Addr)} (hT : TabsAt tabs s₁.heap) (hr : ∀ x, cw.raises args x = false)
    (hp : cw.post args (.bool true) args = true) (h : codeAny M A cd (Fin1 (ghostOf s₁.heap tabs) s₁.os tabs) s) : codeAny M A cd (GoodWG cw cl mean args s₁) s := by
  refine codeAny_mono h ?_
  rintro r s' ⟨rfl, hk, ho, hb, hg⟩
  have away : ∀ b o, s₁.heap.get? b = some o → b ∉ tabs.map (·.2) → s'.heap.get? b = some o := fun b o e hn => hk b o (ghost_ne e hn)
  have onTab : ∀ b o, s₁.heap.get? b = some o → b ∈ tabs.map (·.2) → isCodeTable s₁.heap b ∧ o = tabObj #[] ∧ ∃ ps, s'.heap.get? b = some (tabObj ps) := by
    intro b o e hm
    obtain ⟨q, hq, rfl⟩ := List.mem_map.mp hm
    obtain ⟨c1, c2⟩ := hT q hq
    refine ⟨(c1.tab c2).isCodeTable, ?_, hg.get q hq⟩
    rw [e] at c2
    exact Option.some.inj c2
  refine ⟨.inl ⟨_, _, [], rfl, hr, ReadsW.bool true, hp, fun _ => ⟨List.nodup_nil, fun _ hm => (nomatch hm)⟩⟩, ⟨fun b o e => ?_, fun b o e => ?_⟩, ho, hb⟩
  · by_cases hm : b ∈ tabs.map (·.2)
    · obtain ⟨c, rfl, ps, hps⟩ := onTab b o e hm
      exact .inr (.inl ⟨c, rfl, #[], ps, rfl, by rw [hps, Array.empty_append]⟩)
    · exact .inl (away b o e hm)
  · by_cases hm : b ∈ tabs.map (·.2)
    · obtain ⟨_, _, ps, hps⟩ := onTab b o e hm
      exact ⟨_, hps⟩
    · exact ⟨_, away b o e hm⟩
/-- the two ends of a walk as names, so that no step copies them -/
theorem abs_qe {M : Model} {A : Around} {α : Type} {c : Sem α} {Q : α → Shared → Prop} {E : Value → Shared → Prop} {s : Shared} (h : let qk := Q; let ek := E; wpAny M A c qk ek s) : wpAny M A c Q E s := h
end
section
open PySem PySem.W PyProof.Rows
open PySem.Builtin PySem.Builtin.Str
set_option maxRecDepth 100000
set_option maxHeartbeats 8000000

theorem str_said {o : Obj} {x : Str} {t : Tok} (h : o.data = .cell (some (.str x t))) : ∃ t', o.data = .cell (some (.str x t')) := ⟨t, h⟩
noncomputable def rowL : List Nat := [9, 10, 32, 34, 35, 77, 92, 122]
theorem row_S : Str.ofString "\t\n \"#M\\z" = S rowL := by decide +kernel
theorem row_item (i : Int) (h0 : 0 ≤ i) (h8 : i < 8) : ∃ d ∈ rowL, Txt.item (Str.ofString "\t\n \"#M\\z") i = sg d := by
  have : i = 0 ∨ i = 1 ∨ i = 2 ∨ i = 3 ∨ i = 4 ∨ i = 5 ∨ i = 6 ∨ i = 7 := by lia  
  rcases this with h | h | h | h | h | h | h | h <;> subst h
  · exact ⟨9, by decide, by decide +kernel⟩
  · exact ⟨10, by decide, by decide +kernel⟩
  · exact ⟨32, by decide, by decide +kernel⟩
  · exact ⟨34, by decide, by decide +kernel⟩
  · exact ⟨35, by decide, by decide +kernel⟩
  · exact ⟨77, by decide, by decide +kernel⟩
  · exact ⟨92, by decide, by decide +kernel⟩
  · exact ⟨122, by decide, by decide +kernel⟩
theorem flat_sg (cs : List Nat) : (cs.map sg).flatMap ls = cs := by
  induction cs with
  | nil => rfl
  | cons a l ih => rw [List.map_cons, List.flatMap_cons, ih]; rfl
theorem sg_snoc {ys : List Value} {cs : List Nat} {y : Str} {t : Tok} {d : Nat} (h : StrsAre ys (cs.map sg)) (e : y = sg d) : StrsAre (ys ++ [.str y t]) ((cs ++ [d]).map sg) := by
  rw [List.map_append, e]; exact strsAre_snoc h _ _
theorem sg_sum (cs : List Nat) : ((cs.map sg).map (·.length)).sum = cs.length := by
  induction cs with
  | nil => rfl
  | cons a l ih => rw [List.map_cons, List.map_cons, List.sum_cons, ih, List.length_cons]; show 1 + l.length = _; lia  
theorem row_at (i : Int) (h0 : 0 ≤ i) (h8 : i < 8) : Txt.item (Str.ofString "\t\n \"#M\\z") i = sg (rowL.getD i.toNat 0) := by
  have : i = 0 ∨ i = 1 ∨ i = 2 ∨ i = 3 ∨ i = 4 ∨ i = 5 ∨ i = 6 ∨ i = 7 := by lia  
  rcases this with h | h | h | h | h | h | h | h <;> subst h <;> decide +kernel
theorem row_ne : ∀ i j : Fin 8, i ≠ j → rowL.getD i.val 0 ≠ rowL.getD j.val 0 := by decide
theorem row_mem : ∀ i : Fin 8, rowL.getD i.val 0 ∈ rowL := by decide
theorem pair_said (x y : Int) : ∃ p1 p2, p1 ∈ rowL ∧ p2 ∈ rowL ∧ p1 ≠ p2 ∧ Txt.item (Str.ofString "\t\n \"#M\\z") (x.fmod 8) = sg p1 ∧ Txt.item (Str.ofString "\t\n \"#M\\z") ((x + 1 + y.fmod 7).fmod 8) = sg p2 := by
  have h0 := Int.fmod_nonneg_of_pos x (show (0 : Int) < 8 by decide)
  have h1 := Int.fmod_lt_of_pos x (show (0 : Int) < 8 by decide)
  have h2 := Int.fmod_nonneg_of_pos (x + 1 + y.fmod 7) (show (0 : Int) < 8 by decide)
  have h3 := Int.fmod_lt_of_pos (x + 1 + y.fmod 7) (show (0 : Int) < 8 by decide)
  have hne : x.fmod 8 ≠ (x + 1 + y.fmod 7).fmod 8 := by
    have h4 := Int.fmod_nonneg_of_pos y (show (0 : Int) < 7 by decide)
    have h5 := Int.fmod_lt_of_pos y (show (0 : Int) < 7 by decide)
    rw [Int.fmod_eq_emod_of_nonneg _ (show (0 : Int) ≤ 8 by decide), Int.fmod_eq_emod_of_nonneg _ (show (0 : Int) ≤ 8 by decide)]
    lia  
  refine ⟨_, _, ?_, ?_, ?_, row_at _ h0 h1, row_at _ h2 h3⟩
  · exact row_mem ⟨(x.fmod 8).toNat, by lia  ⟩
  · exact row_mem ⟨((x + 1 + y.fmod 7).fmod 8).toNat, by lia  ⟩
  · exact row_ne ⟨(x.fmod 8).toNat, by lia  ⟩ ⟨((x + 1 + y.fmod 7).fmod 8).toNat, by lia  ⟩ fun e => hne (by have := congrArg Fin.val e; simp at this; lia  )
theorem written2_ct (w : World) (mean : ExcName → Option Value) (mg mb : Str → Option Value) (news : List (Addr × Obj)) (l : List Nat) (t t2 : Tok) (way : Int) (hw : l.length ≤ 6) :
   Ct 1 w mean mg mb 89 news [.str (S l) t, .int way t2] (isS (S (writtenF l way)) news) := by
  have := written_ct w mean mg mb news (S l) t t2 way (by rw [S_len]; lia  )
  rwa [ls_S] at this
theorem flat_le (f : Nat → List Nat) (hf : ∀ c, (f c).length ≤ 2) (l : List Nat) : (l.flatMap f).length ≤ 2 * l.length := by
  induction l with
  | nil => exact Nat.zero_le _
  | cons a l ih => rw [List.flatMap_cons, List.length_append, List.length_cons]; have := hf a; lia  
theorem written_len (l : List Nat) (way : Int) (h : l.length ≤ 6) : (S (writtenF l way)).length ≤ 20 := by
  rw [S_len]
  unfold writtenF
  split
  · have := flat_le escQ escQ_le l
    simp only [List.length_append, List.length_cons, List.length_nil]; lia  
  · have := flat_le escB escB_le l
    simp only [List.length_append, List.length_cons, List.length_nil]; lia  
theorem written3_ct (w : World) (mean : ExcName → Option Value) (mg mb : Str → Option Value) (news : List (Addr × Obj)) (l : List Nat) (t t2 : Tok) (way : Int) (hw : l.length ≤ 6) :
   Ct 1 w mean mg mb 89 news [.str (S l) t, .int way t2] (fun v news' g g' => ∃ wy, isS (S (writtenF l wy)) news v news' g g') :=
  fun _ _ _ _ _ _ _ _ _ _ _ _ _ _ _ _ _ B F X N T hk hd hu ret => written2_ct w mean mg mb news l t t2 way hw _ _ _ _ _ _ _ _ _ _ _ _ _ _ _ _ _ B F X N T hk hd hu fun v news' h' tk' g' hp => ret v news' h' tk' g' ⟨way, hp⟩
theorem text_frame {G0 h : Heap} {LL : Addr} {A B C : List Nat} {t : Tok} {m : Str → Option Value}
    (F : Fr G0 LL h (fun y => if y = Str.ofString "text" then some (.str (S A ++ S B ++ S C) t) else m y)) :
    ∃ t', Fr G0 LL h (fun y => if y = Str.ofString "text" then some (.str (S (A ++ B ++ C)) t') else m y) := by
  refine ⟨t, ?_⟩
  rw [S_append, S_append] at F
  exact F
theorem S_three (A B C : List Nat) : S A ++ S B ++ S C = S (A ++ B ++ C) := by rw [S_append, S_append]
theorem ne_own {base own news₁ : List (Addr × Obj)} {z : Addr} {o : Obj} {bad : List Addr} (h : ∀ p ∈ base, p.1 ≠ z) (hz : (z, o) ∈ news₁) (hoff : ∀ q ∈ news₁, q.1 ∉ bad) (hown : ∀ q ∈ own, q.1 ∈ bad) : ∀ p ∈ base ++ own, p.1 ≠ z := fun p hp e => by
  rcases List.mem_append.mp hp with hp | hp
  · exact h p hp e
  · exact hoff _ hz (e ▸ hown p hp)
theorem LXS.fst {w : World} {k1 k2 k3 k4 tw : Tok} {x dx pb st ds rd cc cell lf : Addr} {ods ost ord occ ocell : Obj} {K : Int} {R led : List (Addr × Obj)} {xs : List Str} (h : LXS w k1 k2 k3 k4 tw x dx pb st ds rd cc cell lf ods ost ord occ ocell K R xs led) :
    led.map Prod.fst = [x, dx, lf, rd, cc, cell, ds, st] ++ R.map Prod.fst := by
  obtain ⟨h1, tl, ln, n, kl, ys, hy, hK, rfl⟩ := h
  rfl
theorem off_same {l l' : List (Addr × Obj)} {bad : List Addr} (h : ∀ q ∈ l, q.1 ∉ bad) (e : l'.map Prod.fst = l.map Prod.fst) : ∀ q ∈ l', q.1 ∉ bad := fun q hq => by
  have : q.1 ∈ l.map Prod.fst := e ▸ List.mem_map_of_mem hq
  obtain ⟨p, hp, e'⟩ := List.mem_map.mp this
  exact e' ▸ h p hp
theorem pb_move {h₀ h : Heap} {L : Addr} {p a1 a2 a3 a4 a5 a6 a7 a8 : Addr × Obj} {r : List (Addr × Obj)} (N : News h₀ L h (p :: a1 :: a2 :: a3 :: a4 :: a5 :: a6 :: a7 :: a8 :: r)) : News h₀ L h (a1 :: a2 :: a3 :: a4 :: a5 :: a6 :: a7 :: a8 :: p :: r) := news_sub N fun q hq => by
  simp only [List.mem_cons] at hq ⊢
  grind
theorem strs_more {ys : List Value} {f : Nat → List Nat} {i : Nat} (h : StrsAre ys ((List.range i).map fun j => S (f j))) (t : Tok) : StrsAre (ys ++ [.str (S (f i)) t]) ((List.range (i + 1)).map fun j => S (f j)) := by
  rw [List.range_succ, List.map_append]
  exact strsAre_snoc h _ _
theorem nls_one {l : List Nat} (h : l.length ≤ 1000) : StrsOne (l.map sg) := ⟨by rw [List.length_map]; exact h, fun x hx => by
  obtain ⟨d, _, rfl⟩ := List.mem_map.mp hx
  rfl⟩
theorem four_eq (cs : List Nat) (p1 p2 : Nat) : ((List.range 4).map fun j => S (tokAt cs [p1] [p2] j)) = [S cs, Txt.item (S [p1, p2]) 0, Txt.item (S [p1, p2]) 1, Str.ofString ""] := by
  rw [pair_item0, pair_item1, S_nil]; rfl
theorem row_lt : ∀ c ∈ rowL, c < 0x110000 := by decide
theorem strOk_S {l : List Nat} (h : ∀ c ∈ l, c ∈ rowL) : PyData.strOk (S l) = true := by
  unfold PyData.strOk S
  show (Array.all ⟨l⟩ _) = true
  rw [List.all_toArray]
  exact List.all_eq_true.mpr fun c hc => decide_eq_true (row_lt c (h c hc))
theorem four_ok {cs : List Nat} {p1 p2 : Nat} (h : ∀ c ∈ cs, c ∈ rowL) (h1 : p1 ∈ rowL) (h2 : p2 ∈ rowL) : ∀ x ∈ [S cs, S [p1], S [p2], S []], PyData.strOk x = true := fun x hx => by
  simp only [List.mem_cons, List.not_mem_nil, or_false] at hx
  rcases hx with rfl | rfl | rfl | rfl
  · exact strOk_S h
  · exact strOk_S (by simpa using h1)
  · exact strOk_S (by simpa using h2)
  · exact strOk_S (fun _ hc => nomatch hc)
theorem LXS.cut2 {w : World} {k1 k2 k3 k4 tw : Tok} {x dx pb st ds rd cc cell lf : Addr} {ods ost ord occ ocell : Obj} {K : Int} {a : Addr × Obj} {R own led : List (Addr × Obj)} {xs : List Str} (h : LXS w k1 k2 k3 k4 tw x dx pb st ds rd cc cell lf ods ost ord occ ocell K (a :: (R.append own)) xs led) :
    ∃ led', LXS w k1 k2 k3 k4 tw x dx pb st ds rd cc cell lf ods ost ord occ ocell K (a :: R) xs led' ∧ led = led' ++ own := LXS.cut (R := a :: R) h
theorem nl_S : Str.ofString "\n" = ⟨#[10]⟩ := by decide +kernel
theorem nl_char : Str.ofString (String.singleton (Char.ofNat 10)) = sg 10 := by decide +kernel
theorem sg_inj {a b : Nat} : sg a = sg b ↔ a = b := ⟨fun e => by
  have := congrArg ls e
  simpa [ls] using this, fun e => e ▸ rfl⟩
theorem nls_cnt (l : List Nat) : nls (l.map sg) = cnt 10 l := by
  induction l with
  | nil => rw [cnt_nil]; rfl
  | cons d l ih =>
    rw [List.map_cons, nls, cnt_cons, ih, nl_char]
    by_cases h : d = 10
    · rw [if_pos (sg_inj.mpr h), if_pos h]
    · rw [if_neg (fun e => h (sg_inj.mp e)), if_neg h]
theorem count_nls (l : List Nat) : Txt.count (S l) (Str.ofString "\n") = nls (l.map sg) := by
  rw [nl_S, count_cnt, nls_cnt]
theorem drop1 {h₀ h : Heap} {L : Addr} {a : Addr × Obj} {r : List (Addr × Obj)} (N : News h₀ L h (a :: r)) : News h₀ L h r := fun p hp => N p (.tail _ hp)
theorem drop2 {h₀ h : Heap} {L : Addr} {a b : Addr × Obj} {r : List (Addr × Obj)} (N : News h₀ L h (a :: b :: r)) : News h₀ L h r := fun p hp => N p (.tail _ (.tail _ hp))
theorem row_nodot : ∀ c ∈ rowL, c ≠ 46 := by decide
theorem nodot_row {l : List Nat} (h : ∀ d ∈ l, d ∈ rowL) : nodot l := fun q => row_nodot 46 (h 46 q) rfl
end
section
open PySem PySem.W PyProof.Rows
open PySem.Builtin PySem.Builtin.Str
set_option maxRecDepth 100000
set_option maxHeartbeats 8000000

theorem three_four (x : Int) : 3 ≤ 3 + x.fmod 4 ∧ 3 + x.fmod 4 ≤ 6 := by
  have h0 := Int.fmod_nonneg_of_pos x (show (0 : Int) < 4 by decide)
  have h1 := Int.fmod_lt_of_pos x (show (0 : Int) < 4 by decide)
  lia  
theorem pair_cell {o : Obj} {A B : Str} {t : Tok} {p1 p2 : Nat} (h : o.data = .cell (some (.str (A ++ B) t))) (hA : A = sg p1) (hB : B = sg p2) : ∃ t', o.data = .cell (some (.str (S [p1, p2]) t')) := by
  subst hA; subst hB
  exact ⟨t, h⟩
theorem which_any {G0 h : Heap} {LL : Addr} {wv : Int} {tw : Tok} {m : Str → Option Value}
    (F : Fr G0 LL h (fun y => if y = Str.ofString "which" then some (.int wv tw) else m y)) : ∃ wh tw', Fr G0 LL h (fun y => if y = Str.ofString "which" then some (.int wh tw') else m y) := ⟨wv, tw, F⟩
theorem pow2_ne (i : Nat) : ((2 : Int) ^ (0 + (i : Int)).toNat) ≠ 0 := Int.ne_of_gt (Int.pow_pos (by decide))
theorem pow2_le {i : Nat} (h : i < 6) : 0 < ((2 : Int) ^ (0 + (i : Int)).toNat) ∧ ((2 : Int) ^ (0 + (i : Int)).toNat) ≤ 32 := by
  have h0 : (0 + (i : Int)).toNat = i := by lia  
  rw [h0]
  have : i = 0 ∨ i = 1 ∨ i = 2 ∨ i = 3 ∨ i = 4 ∨ i = 5 := by lia  
  rcases this with h | h | h | h | h | h <;> subst h <;> decide
theorem pair_idx (p1 p2 : Nat) (z : Int) : ∃ d, (d = p1 ∨ d = p2) ∧ Txt.item (S [p1, p2]) (z.fmod 2) = sg d := by
  have h0 := Int.fmod_nonneg_of_pos z (show (0 : Int) < 2 by decide)
  have h1 := Int.fmod_lt_of_pos z (show (0 : Int) < 2 by decide)
  have : z.fmod 2 = 0 ∨ z.fmod 2 = 1 := by lia  
  rcases this with h | h <;> rw [h]
  · exact ⟨p1, .inl rfl, pair_item0 p1 p2⟩
  · exact ⟨p2, .inr rfl, pair_item1 p1 p2⟩
theorem allLt_gt {LL lS : Nat} {oS o4 o3 o2 o1 : Obj} {p : Addr × Obj} (h1 : 79 < LL) (h2 : 79 < lS) (hp : p ∈ [((lS : Addr), oS), (LL + 1 + 1 + 1 + 1, o4), (LL + 1 + 1 + 1, o3), (LL + 1 + 1, o2), (LL + 1, o1)]) : LT.lt (α := Nat) 79 p.1 := by
  simp only [List.mem_cons, List.not_mem_nil, or_false] at hp
  rcases hp with rfl | rfl | rfl | rfl | rfl
  · exact h2
  · show 79 < LL + 1 + 1 + 1 + 1; lia  
  · show 79 < LL + 1 + 1 + 1; lia  
  · show 79 < LL + 1 + 1; lia  
  · show 79 < LL + 1; lia  
theorem tab_first {h₀ h : Heap} {L : Addr} {a1 a2 a3 a4 a5 z : Addr × Obj} (N : News h₀ L h [a1, a2, a3, a4, a5, z]) : News h₀ L h (z :: [a1, a2, a3, a4, a5]) := news_sub N fun p hp => by
  simp only [List.mem_cons, List.not_mem_nil, or_false] at hp ⊢
  grind
theorem apart_lf {LL lS x pb dx lf rd cc cell ds st : Nat} {ox op ord occ oce ods ost ot oS o4 o3 o2 o1 : Obj} (h0 : 79 < LL)
    (hl : (lS < cell ∧ LL + 1 + 1 + 1 + 1 < cell ∧ LL + 1 + 1 + 1 < cell ∧ LL + 1 + 1 < cell ∧ LL + 1 < cell ∧ True) ∧ cell < lf ∧ lf < st ∧ st < cc ∧ cc < rd ∧ rd < ds ∧ ds < dx ∧ dx < x ∧ x < pb) :
    ∀ p ∈ [((x : Addr), ox), (rd, ord), (cc, occ), (cell, oce), (ds, ods), (st, ost), (pb, op), (79, ot), (lS, oS), (LL + 1 + 1 + 1 + 1, o4), (LL + 1 + 1 + 1, o3), (LL + 1 + 1, o2), (LL + 1, o1)], p.1 ≠ lf := by
  obtain ⟨⟨a1, a2, a3, a4, a5, -⟩, b1, b2, b3, b4, b5, b6, b7, b8⟩ := hl
  have c3 := Nat.lt_trans b2 b3
  have c4 := Nat.lt_trans c3 b4
  have c5 := Nat.lt_trans c4 b5
  have c7 := Nat.lt_trans (Nat.lt_trans c5 b6) b7
  have d0 : 79 < cell := Nat.lt_trans h0 (Nat.lt_of_succ_lt a5)
  exact List.forall_mem_cons.mpr ⟨Nat.ne_of_gt c7, List.forall_mem_cons.mpr ⟨Nat.ne_of_gt c4, List.forall_mem_cons.mpr ⟨Nat.ne_of_gt c3, List.forall_mem_cons.mpr ⟨Nat.ne_of_lt b1, List.forall_mem_cons.mpr ⟨Nat.ne_of_gt c5, List.forall_mem_cons.mpr ⟨Nat.ne_of_gt b2, List.forall_mem_cons.mpr ⟨Nat.ne_of_gt (Nat.lt_trans c7 b8), List.forall_mem_cons.mpr ⟨Nat.ne_of_lt (Nat.lt_trans d0 b1), List.forall_mem_cons.mpr ⟨Nat.ne_of_lt (Nat.lt_trans a1 b1), List.forall_mem_cons.mpr ⟨Nat.ne_of_lt (Nat.lt_trans a2 b1), List.forall_mem_cons.mpr ⟨Nat.ne_of_lt (Nat.lt_trans a3 b1), List.forall_mem_cons.mpr ⟨Nat.ne_of_lt (Nat.lt_trans a4 b1), List.forall_mem_cons.mpr ⟨Nat.ne_of_lt (Nat.lt_trans a5 b1), List.forall_mem_nil _⟩⟩⟩⟩⟩⟩⟩⟩⟩⟩⟩⟩⟩
theorem apart_dx {LL lS x pb dx lf rd cc cell ds st : Nat} {ox op ord occ oce ods ost ot oS o4 o3 o2 o1 : Obj} (h0 : 79 < LL)
    (hl : (lS < cell ∧ LL + 1 + 1 + 1 + 1 < cell ∧ LL + 1 + 1 + 1 < cell ∧ LL + 1 + 1 < cell ∧ LL + 1 < cell ∧ True) ∧ cell < lf ∧ lf < st ∧ st < cc ∧ cc < rd ∧ rd < ds ∧ ds < dx ∧ dx < x ∧ x < pb) :
    ∀ p ∈ [((x : Addr), ox), (rd, ord), (cc, occ), (cell, oce), (ds, ods), (st, ost), (pb, op), (79, ot), (lS, oS), (LL + 1 + 1 + 1 + 1, o4), (LL + 1 + 1 + 1, o3), (LL + 1 + 1, o2), (LL + 1, o1)], p.1 ≠ dx := by
  obtain ⟨⟨a1, a2, a3, a4, a5, -⟩, b1, b2, b3, b4, b5, b6, b7, b8⟩ := hl
  have e5 := Nat.lt_trans b5 b6
  have e4 := Nat.lt_trans b4 e5
  have e3 := Nat.lt_trans b3 e4
  have e1 := Nat.lt_trans b1 (Nat.lt_trans b2 e3)
  have d0 : 79 < cell := Nat.lt_trans h0 (Nat.lt_of_succ_lt a5)
  exact List.forall_mem_cons.mpr ⟨Nat.ne_of_gt b7, List.forall_mem_cons.mpr ⟨Nat.ne_of_lt e5, List.forall_mem_cons.mpr ⟨Nat.ne_of_lt e4, List.forall_mem_cons.mpr ⟨Nat.ne_of_lt e1, List.forall_mem_cons.mpr ⟨Nat.ne_of_lt b6, List.forall_mem_cons.mpr ⟨Nat.ne_of_lt e3, List.forall_mem_cons.mpr ⟨Nat.ne_of_gt (Nat.lt_trans b7 b8), List.forall_mem_cons.mpr ⟨Nat.ne_of_lt (Nat.lt_trans d0 e1), List.forall_mem_cons.mpr ⟨Nat.ne_of_lt (Nat.lt_trans a1 e1), List.forall_mem_cons.mpr ⟨Nat.ne_of_lt (Nat.lt_trans a2 e1), List.forall_mem_cons.mpr ⟨Nat.ne_of_lt (Nat.lt_trans a3 e1), List.forall_mem_cons.mpr ⟨Nat.ne_of_lt (Nat.lt_trans a4 e1), List.forall_mem_cons.mpr ⟨Nat.ne_of_lt (Nat.lt_trans a5 e1), List.forall_mem_nil _⟩⟩⟩⟩⟩⟩⟩⟩⟩⟩⟩⟩⟩
theorem times_nat {times size : Int} {cs : List Nat} (h : (times = 1 ∧ 3 ≤ size ∧ size ≤ 6) ∨ (times = 2 ∧ size = 3)) (hcl : cs.length = size.toNat) : ∃ tn : Nat, times = (tn : Int) ∧ tn ≤ 2 ∧ ((tn = 1 ∧ 3 ≤ cs.length ∧ cs.length ≤ 6) ∨ (tn = 2 ∧ cs.length = 3)) := by
  rcases h with ⟨rfl, h1, h2⟩ | ⟨rfl, rfl⟩
  · exact ⟨1, rfl, by decide, .inl ⟨rfl, by lia  , by lia  ⟩⟩
  · exact ⟨2, rfl, by decide, .inr ⟨rfl, by lia  ⟩⟩
theorem pb_lt {pb : Nat} {LL lS x dx lf rd cc cell ds st : Nat} {olf ord occ oce ods ost ot oS o4 o3 o2 o1 : Obj} (h0 : 79 < LL)
    (hl : (lS < cell ∧ LL + 1 + 1 + 1 + 1 < cell ∧ LL + 1 + 1 + 1 < cell ∧ LL + 1 + 1 < cell ∧ LL + 1 < cell ∧ True) ∧ cell < lf ∧ lf < st ∧ st < cc ∧ cc < rd ∧ rd < ds ∧ ds < dx ∧ dx < x ∧ x < pb) :
    ∀ p ∈ [((lf : Addr), olf), (rd, ord), (cc, occ), (cell, oce), (ds, ods), (st, ost), (79, ot), (lS, oS), (LL + 1 + 1 + 1 + 1, o4), (LL + 1 + 1 + 1, o3), (LL + 1 + 1, o2), (LL + 1, o1)], LT.lt (α := Nat) p.1 pb := by
  obtain ⟨⟨a1, a2, a3, a4, a5, -⟩, b1, b2, b3, b4, b5, b6, b7, b8⟩ := hl
  have e6 := Nat.lt_trans b6 (Nat.lt_trans b7 b8)
  have e5 := Nat.lt_trans b5 e6
  have e4 := Nat.lt_trans b4 e5
  have e3 := Nat.lt_trans b3 e4
  have e2 := Nat.lt_trans b2 e3
  have e1 := Nat.lt_trans b1 e2
  have d0 : 79 < cell := Nat.lt_trans h0 (Nat.lt_of_succ_lt a5)
  exact List.forall_mem_cons.mpr ⟨e2, List.forall_mem_cons.mpr ⟨e5, List.forall_mem_cons.mpr ⟨e4, List.forall_mem_cons.mpr ⟨e1, List.forall_mem_cons.mpr ⟨e6, List.forall_mem_cons.mpr ⟨e3, List.forall_mem_cons.mpr ⟨Nat.lt_trans d0 e1, List.forall_mem_cons.mpr ⟨Nat.lt_trans a1 e1, List.forall_mem_cons.mpr ⟨Nat.lt_trans a2 e1, List.forall_mem_cons.mpr ⟨Nat.lt_trans a3 e1, List.forall_mem_cons.mpr ⟨Nat.lt_trans a4 e1, List.forall_mem_cons.mpr ⟨Nat.lt_trans a5 e1, List.forall_mem_nil _⟩⟩⟩⟩⟩⟩⟩⟩⟩⟩⟩⟩
section
variable {h₀ h : Heap} {L : Addr} {x dx lf rd cc ce ds st pb r1 r2 r3 r4 r5 r6 : Addr × Obj}
theorem led_order (N : News h₀ L h [x, dx, lf, rd, cc, ce, ds, st, pb, r1, r2, r3, r4, r5, r6]) : News h₀ L h (pb :: x :: dx :: [lf, rd, cc, ce, ds, st, r1, r2, r3, r4, r5, r6]) := news_sub N fun p hp => by
  simp only [List.mem_cons, List.not_mem_nil, or_false] at hp ⊢
  grind
end
inductive TwoMid (h₀ : Heap) (L : Addr) (m : Str → Option Value) (R : Obj → List (Addr × Obj)) (x : Str) (P : Int → Int → Prop) (s s' : Shared) : Prop
  | mk (h' : Heap) (tk : Nat) (o : Obj) (t1 t2 : Tok) (a b : Int) (e : s' = { s with heap := h', toks := tk }) (F : Fr h₀ L h' (fun y => if y = x then some (.int b t2) else m y)) (N : News h₀ L h' (R o)) (hd : o.data = .cell (some (.int a t1))) (hp : P a b) : TwoMid h₀ L m R x P s s'
section
variable {prog : Program} {w : World} {A : Around} {s : Shared} {env : Env} {h₀ : Heap} {E : Value → Shared → Prop}
theorem cut_two {st1 st2 : Stmt} {rest : List Stmt} {Q : Flow → Shared → Prop} {L : Addr} {m : Str → Option Value} {news : List (Addr × Obj)} (x : Str) (R : Obj → List (Addr × Obj)) (P : Int → Int → Prop)
    (_F : Fr h₀ L s.heap m) (_N : News h₀ L s.heap news)
    (h1 : wpAny (model prog w) A (exec st1 env) (fun f s1 => match f with | .next => wpAny (model prog w) A (exec st2 env) (fun f s' => f = .next ∧ TwoMid h₀ L m R x P s s') E s1 | _ => False) E s)
    (h2 : ∀ h' tk o t1 t2 a b, Fr h₀ L h' (fun y => if y = x then some (.int b t2) else m y) → News h₀ L h' (R o) → o.data = .cell (some (.int a t1)) → P a b → wpAny (model prog w) A (execs rest env) Q E { s with heap := h', toks := tk }) : wpAny (model prog w) A (execs (st1 :: st2 :: rest) env) Q E s := by
  refine wpAny_execs_cons (wpAny_mono h1 (fun f s1 h => ?_) fun _ _ e => e)
  cases f with
  | next =>
    refine wpAny_execs_cons (wpAny_mono h (fun f s' h => ?_) fun _ _ e => e)
    obtain ⟨rfl, h', tk, o, t1, t2, a, b, rfl, F, N, hd, hp⟩ := h
    exact h2 h' tk o t1 t2 a b F N hd hp
  | ret v => exact absurd h (fun q => q)
  | brk => exact absurd h (fun q => q)
  | cont => exact absurd h (fun q => q)
end
end
section
open PySem PySem.W PyProof.Rows
open PySem.Builtin PySem.Builtin.Str
set_option maxRecDepth 100000
set_option maxHeartbeats 8000000

/-! the plain law of law 2 -/
theorem all_mem {a b : Nat} : ∀ (n : Nat) (w : List Nat), w.length = n → (∀ c ∈ w, c = a ∨ c = b) → w ∈ allF a b n
  | 0, w, h, _ => by rw [List.length_eq_zero_iff.mp h]; exact .head _
  | n + 1, w, h, hm => by
    rcases List.eq_nil_or_concat w with rfl | ⟨u, d, rfl⟩
    · cases h
    · have hu : u.length = n := by simpa using h
      have := all_mem n u hu fun c hc => hm c (by simp [hc])
      simp only [allF, List.mem_flatMap, List.mem_map]
      refine ⟨u, this, d, ?_, by simp⟩
      have := hm d (by simp)
      simpa using this
/-- a lap at some place: the window's first signs, written twice and the first of them again -/
noncomputable def lapQ (w : List Nat) (s : Nat) : Bool := (List.range (w.length + 1)).any fun i => decide (i + (s + s + 1) ≤ w.length) && ((w.drop i).take (s + s + 1) == lapW ((w.drop i).take s))
theorem lapW_len {p : List Nat} (h : 1 ≤ p.length) : (lapW p).length = p.length + p.length + 1 := by
  unfold lapW
  rw [List.length_append, List.length_append, List.length_take]; lia  
theorem step_lap {a b : Nat} {w : List Nat} {s : Nat} (hs : 1 ≤ s) (hm : ∀ c ∈ w, c = a ∨ c = b) : stepP a b w s = lapQ w s := by
  rw [Bool.eq_iff_iff]
  unfold stepP lapQ
  rw [List.any_eq_true, List.any_eq_true]
  constructor
  · rintro ⟨p, hp, hl⟩
    obtain ⟨hpl, _⟩ := (all_len a b s).2 p hp
    unfold lapIn at hl
    rw [List.any_eq_true] at hl
    obtain ⟨i, hi, h⟩ := hl
    rw [lapW_len (by lia  ), hpl] at h
    rw [Bool.and_eq_true, beq_iff_eq, decide_eq_true_iff] at h
    refine ⟨i, hi, ?_⟩
    rw [Bool.and_eq_true, beq_iff_eq, decide_eq_true_iff]
    refine ⟨h.1, ?_⟩
    have e : (w.drop i).take s = p := by
      have := congrArg (List.take s) h.2
      rw [List.take_take, Nat.min_eq_left (by lia  )] at this
      rw [this]
      unfold lapW
      rw [List.append_assoc, ← hpl, List.take_left]
    rw [e]; exact h.2
  · rintro ⟨i, hi, h⟩
    rw [Bool.and_eq_true, beq_iff_eq, decide_eq_true_iff] at h
    have hl : ((w.drop i).take s).length = s := by rw [List.length_take, List.length_drop]; lia  
    refine ⟨(w.drop i).take s, all_mem s _ hl fun c hc => hm c (List.mem_of_mem_drop (List.mem_of_mem_take hc)), ?_⟩
    unfold lapIn
    rw [List.any_eq_true]
    refine ⟨i, hi, ?_⟩
    rw [lapW_len (by lia  ), hl, Bool.and_eq_true, beq_iff_eq, decide_eq_true_iff]
    exact h
section
variable {a b : Nat}
noncomputable def ren (a b x : Nat) : Nat := if x = 0 then a else b
noncomputable def bin (l : List Nat) : Prop := ∀ c ∈ l, c = 0 ∨ c = 1
theorem ren_inj (h : a ≠ b) {x y : Nat} (hx : x = 0 ∨ x = 1) (hy : y = 0 ∨ y = 1) : ren a b x = ren a b y ↔ x = y := by
  rcases hx with rfl | rfl <;> rcases hy with rfl | rfl <;> simp [ren, h, Ne.symm h]
theorem map_ren (h : a ≠ b) : ∀ {l m : List Nat}, bin l → bin m → (l.map (ren a b) = m.map (ren a b) ↔ l = m)
  | [], [], _, _ => by simp
  | [], _ :: _, _, _ => by simp
  | _ :: _, [], _, _ => by simp
  | x :: l, y :: m, hl, hm => by
    have ih := map_ren h (l := l) (m := m) (fun c hc => hl c (.tail _ hc)) fun c hc => hm c (.tail _ hc)
    rw [List.map_cons, List.map_cons, List.cons.injEq, List.cons.injEq, ih, ren_inj h (hl x (.head _)) (hm y (.head _))]
theorem bin_take {l : List Nat} (h : bin l) (n : Nat) : bin (l.take n) := fun c hc => h c (List.mem_of_mem_take hc)
theorem bin_drop {l : List Nat} (h : bin l) (n : Nat) : bin (l.drop n) := fun c hc => h c (List.mem_of_mem_drop hc)
theorem bin_lapW {p : List Nat} (h : bin p) : bin (lapW p) := fun c hc => by
  unfold lapW at hc
  rcases List.mem_append.mp hc with hc | hc
  · exact (List.mem_append.mp hc).elim (h c) (h c)
  · exact bin_take h _ c hc
theorem lapW_ren (p : List Nat) : lapW (p.map (ren a b)) = (lapW p).map (ren a b) := by
  unfold lapW
  rw [List.map_append, List.map_append, List.map_take]
theorem lapQ_ren (h : a ≠ b) {w : List Nat} (hw : bin w) (s : Nat) : lapQ (w.map (ren a b)) s = lapQ w s := by
  unfold lapQ
  rw [List.length_map]
  congr 1
  funext i
  congr 1
  rw [← List.map_drop, ← List.map_take, ← List.map_take, lapW_ren, Bool.eq_iff_iff, beq_iff_eq, beq_iff_eq]
  exact map_ren h (bin_take (bin_drop hw i) _) (bin_lapW (bin_take (bin_drop hw i) _))
theorem getD_ren {w : List Nat} {i : Nat} (hi : i < w.length) : (w.map (ren a b)).getD i 0 = ren a b (w.getD i 0) := by
  simp [List.getD_eq_getElem?_getD, List.getElem?_map, List.getElem?_eq_getElem hi]
theorem bin_get {w : List Nat} (hw : bin w) {i : Nat} (hi : i < w.length) : w.getD i 0 = 0 ∨ w.getD i 0 = 1 := by
  have : w.getD i 0 = w[i] := by simp [List.getD_eq_getElem?_getD, List.getElem?_eq_getElem hi]
  rw [this]; exact hw _ (List.getElem_mem hi)
theorem al_ren (h : a ≠ b) {w : List Nat} (hw : bin w) (s : Nat) : ∀ j, s + j ≤ w.length → alF (w.map (ren a b)) s j = alF w s j
  | 0, _ => rfl
  | j + 1, hj => by
    have ih := al_ren h hw s j (by lia  )
    rw [alF, alF, ih, getD_ren (by lia  ), getD_ren (by lia  )]
    by_cases e : w.getD (s + j) 0 = w.getD j 0
    · rw [if_pos e, if_pos ((ren_inj h (bin_get hw (by lia  )) (bin_get hw (by lia  ))).mpr e)]
    · rw [if_neg e, if_neg fun q => e ((ren_inj h (bin_get hw (by lia  )) (bin_get hw (by lia  ))).mp q)]
theorem lg_ren (h : a ≠ b) {w : List Nat} (hw : bin w) (s : Nat) : ∀ j, s + j ≤ w.length → lgF (w.map (ren a b)) s j = lgF w s j
  | 0, _ => rfl
  | j + 1, hj => by rw [lgF, lgF, lg_ren h hw s j (by lia  ), al_ren h hw s (j + 1) hj]
theorem laps_ren (h : a ≠ b) {w : List Nat} (hw : bin w) : lapsF (w.map (ren a b)) = lapsF w := by
  unfold lapsF
  rw [List.length_map]
  refine List.filter_congr fun s hs => ?_
  obtain ⟨i, hi, rfl⟩ := List.mem_map.mp hs
  have := List.mem_range.mp hi
  unfold lapP
  rw [List.length_map, lg_ren h hw (i + 1) _ (by lia  )]
noncomputable def qsF (w : List Nat) : List Nat := ((List.range ((w.length - 1) / 2)).map (· + 1)).filter (lapQ w)
theorem steps_ren (h : a ≠ b) {w : List Nat} (hw : bin w) : stepsF a b (w.map (ren a b)) = qsF w := by
  unfold stepsF qsF
  rw [List.length_map]
  refine List.filter_congr fun s hs => ?_
  obtain ⟨i, hi, rfl⟩ := List.mem_map.mp hs
  rw [step_lap (by lia  ) fun c hc => ?_, lapQ_ren h hw]
  obtain ⟨d, hd, rfl⟩ := List.mem_map.mp hc
  rcases hw d hd with rfl | rfl
  · exact .inl rfl
  · exact .inr rfl
theorem oth_ren (h : a ≠ b) {c : Nat} (hc : c = 0 ∨ c = 1) : othF a b (ren a b c) = ren a b (othF 0 1 c) := by
  rcases hc with rfl | rfl
  · simp [ren, othF]
  · simp [ren, othF, Ne.symm h]
theorem bin_thue {w : List Nat} (hw : bin w) : bin (thueF 0 1 w) := fun c hc => by
  unfold thueF at hc
  obtain ⟨d, hd, hc⟩ := List.mem_flatMap.mp hc
  rcases hw d hd with rfl | rfl <;> simp [othF] at hc <;> lia  
theorem thue_ren (h : a ≠ b) : ∀ {w : List Nat}, bin w → thueF a b (w.map (ren a b)) = (thueF 0 1 w).map (ren a b)
  | [], _ => rfl
  | c :: w, hw => by
    have ih := thue_ren h (w := w) fun c hc => hw c (.tail _ hc)
    unfold thueF at ih ⊢
    rw [List.map_cons, List.flatMap_cons, List.flatMap_cons, List.map_append, ih, oth_ren h (hw c (.head _))]
    rfl
theorem led_ren (h : a ≠ b) {w : List Nat} (hw : bin w) : ∀ n, ledF a b (w.map (ren a b)) n = (ledF 0 1 w n).map (ren a b) ∧ bin (ledF 0 1 w n)
  | 0 => ⟨rfl, hw⟩
  | n + 1 => by
    obtain ⟨e, hb⟩ := led_ren h hw n
    exact ⟨by rw [ledF, ledF, e, thue_ren h hb], bin_thue hb⟩
theorem bin_word (h : a ≠ b) {wd : List Nat} (hm : ∀ c ∈ wd, c = a ∨ c = b) : ∃ w, bin w ∧ w.length = wd.length ∧ wd = w.map (ren a b) := by
  refine ⟨wd.map fun c => if c = a then 0 else 1, fun c hc => ?_, List.length_map .., ?_⟩
  · obtain ⟨d, _, rfl⟩ := List.mem_map.mp hc
    split
    · exact .inl rfl
    · exact .inr rfl
  · have : ∀ c ∈ wd, ((ren a b) ∘ fun c => if c = a then 0 else 1) c = c := fun c hc => by
      rcases hm c hc with rfl | rfl
      · simp [ren]
      · simp [ren, Ne.symm h]
    rw [List.map_map]
    exact ((List.map_congr_left this).trans (List.map_id' wd)).symm
end
noncomputable def plainB (w : List Nat) (t : Nat) : Bool := (qsF w == lapsF w) && (qsF (ledF 0 1 w t) == (lapsF w).map (· * 2 ^ t))
theorem plain3 : (allF 0 1 3).all (fun w => plainB w 1 && plainB w 2) = true := by decide +kernel
theorem plain4 : (allF 0 1 4).all (fun w => plainB w 1) = true := by decide +kernel
theorem plain5 : (allF 0 1 5).all (fun w => plainB w 1) = true := by decide +kernel
theorem plain6 : (allF 0 1 6).all (fun w => plainB w 1) = true := by decide +kernel
theorem law2_plain {a b tn : Nat} {wd : List Nat} (h : a ≠ b) (hm : ∀ c ∈ wd, c = a ∨ c = b) (ht : (tn = 1 ∧ 3 ≤ wd.length ∧ wd.length ≤ 6) ∨ (tn = 2 ∧ wd.length = 3)) :
    stepsF a b wd = lapsF wd ∧ stepsF a b (ledF a b wd tn) = (lapsF wd).map (· * 2 ^ tn) := by
  obtain ⟨w, hb, hl, rfl⟩ := bin_word h hm
  rw [List.length_map] at ht
  clear hm
  obtain ⟨e, hb2⟩ := led_ren h hb tn
  rw [e, steps_ren h hb, steps_ren h hb2, laps_ren h hb]
  have hw : plainB w tn = true := by
    rcases ht with ⟨rfl, h1, h2⟩ | ⟨rfl, h1⟩
    · have : w.length = 3 ∨ w.length = 4 ∨ w.length = 5 ∨ w.length = 6 := by lia  
      rcases this with q | q | q | q
      · exact (Bool.and_eq_true _ _ ▸ List.all_eq_true.mp plain3 w (all_mem 3 w q hb)).1
      · exact List.all_eq_true.mp plain4 w (all_mem 4 w q hb)
      · exact List.all_eq_true.mp plain5 w (all_mem 5 w q hb)
      · exact List.all_eq_true.mp plain6 w (all_mem 6 w q hb)
    · exact (Bool.and_eq_true _ _ ▸ List.all_eq_true.mp plain3 w (all_mem 3 w h1 hb)).2
  unfold plainB at hw
  rw [Bool.and_eq_true, beq_iff_eq, beq_iff_eq] at hw
  exact hw
theorem pieces_plain {a b tn : Nat} {wd : List Nat} (ht : (tn = 1 ∧ 3 ≤ wd.length ∧ wd.length ≤ 6) ∨ (tn = 2 ∧ wd.length = 3)) : piecesF (ledF a b wd tn) (2 ^ tn) = wd.reverse.map fun c => blockF a b c tn := by
  rcases ht with ⟨rfl, h1, h2⟩ | ⟨rfl, h1⟩
  · match wd, h1, h2 with
    | [c1, c2, c3], _, _ => kernel_rfl
    | [c1, c2, c3, c4], _, _ => kernel_rfl
    | [c1, c2, c3, c4, c5], _, _ => kernel_rfl
    | [c1, c2, c3, c4, c5, c6], _, _ => kernel_rfl
    | _ :: _ :: _ :: _ :: _ :: _ :: _ :: _, _, h => exact absurd h (by simp)
  · match wd, h1 with
    | [c1, c2, c3], _ => kernel_rfl
end
section
open PySem PySem.W PyProof.Rows
open PySem.Builtin PySem.Builtin.Str
set_option maxRecDepth 100000
set_option maxHeartbeats 8000000

theorem pow_nat (n : Nat) : ((2 : Int) ^ ((n : Int).toNat)) = ((2 ^ n : Nat) : Int) := by simp
theorem led_facts {tn n m : Nat} (h : (tn = 1 ∧ 3 ≤ n ∧ n ≤ 6) ∨ (tn = 2 ∧ n = 3)) (hm : m = n * 2 ^ tn) : 1 ≤ 2 ^ tn ∧ 2 ^ tn < m ∧ m ≤ 12 ∧ 6 ≤ m := by
  rcases h with ⟨rfl, h1, h2⟩ | ⟨rfl, rfl⟩
  · have : (2 : Nat) ^ 1 = 2 := rfl
    lia  
  · subst hm; decide
theorem rev_S (cs : List Nat) (tq : Tok) : Txt.sliceBy (S cs) none none (-1, tq) = S cs.reverse := by
  apply str_ext
  rw [ls_S]
  refine (step_rev_list (S cs) tq).trans ?_
  rw [S_length]
  apply List.ext_getElem
  · simp
  · intro i h1 h2
    have hi : i < cs.length := by simpa using h2
    rw [List.getElem_map, List.getElem_range, List.getElem_reverse]
    show (cs.toArray).getD (cs.length - 1 - i) 0 = _
    have : cs.length - 1 - i < cs.length := by lia  
    simp [Array.getD_eq_getD_getElem?, this]
section
variable {h₀ h : Heap} {L : Addr} {D x dx lf rd cc ce ds st pb r1 r2 r3 r4 r5 r6 : Addr × Obj}
theorem steps_order (N : News h₀ L h [D, pb, x, dx, lf, rd, cc, ce, ds, st, r1, r2, r3, r4, r5, r6]) : News h₀ L h (pb :: x :: dx :: [lf, rd, cc, ce, ds, st, r1, r2, r3, r4, r5, r6, D]) := news_sub N fun p hp => by
  simp only [List.mem_cons, List.not_mem_nil, or_false] at hp ⊢
  grind
end
theorem pb_ne2 {pb Dl : Nat} {LL lS x dx lf rd cc cell ds st : Nat} {olf ord occ oce ods ost ot oS o4 o3 o2 o1 oD : Obj} (h0 : 79 < LL) (hD : pb < Dl)
    (hl : (lS < cell ∧ LL + 1 + 1 + 1 + 1 < cell ∧ LL + 1 + 1 + 1 < cell ∧ LL + 1 + 1 < cell ∧ LL + 1 < cell ∧ True) ∧ cell < lf ∧ lf < st ∧ st < cc ∧ cc < rd ∧ rd < ds ∧ ds < dx ∧ dx < x ∧ x < pb) :
    ∀ p ∈ [((lf : Addr), olf), (rd, ord), (cc, occ), (cell, oce), (ds, ods), (st, ost), (79, ot), (lS, oS), (LL + 1 + 1 + 1 + 1, o4), (LL + 1 + 1 + 1, o3), (LL + 1 + 1, o2), (LL + 1, o1), (Dl, oD)], p.1 ≠ pb := fun p hp => by
  rcases List.mem_append.mp (show p ∈ [((lf : Addr), olf), (rd, ord), (cc, occ), (cell, oce), (ds, ods), (st, ost), (79, ot), (lS, oS), (LL + 1 + 1 + 1 + 1, o4), (LL + 1 + 1 + 1, o3), (LL + 1 + 1, o2), (LL + 1, o1)] ++ [(Dl, oD)] from hp) with q | q
  · exact Nat.ne_of_lt (pb_lt h0 hl p q)
  · rw [List.mem_singleton.mp q]; exact Nat.ne_of_gt hD
theorem nodot_pair {p1 p2 : Nat} {l : List Nat} (h1 : p1 ∈ rowL) (h2 : p2 ∈ rowL) (hm : ∀ d ∈ l, d = p1 ∨ d = p2) : nodot l := nodot_row fun d hd => (hm d hd).elim (fun e => e ▸ h1) fun e => e ▸ h2
theorem led_mem {a b : Nat} {w : List Nat} (hw : ∀ d ∈ w, d = a ∨ d = b) : ∀ n, ∀ d ∈ ledF a b w n, d = a ∨ d = b
  | 0, d, h => hw d h
  | n + 1, d, h => by
    rw [ledF] at h
    unfold thueF at h
    obtain ⟨c, hc, h⟩ := List.mem_flatMap.mp h
    rcases List.mem_cons.mp h with rfl | h
    · exact led_mem hw n _ hc
    · rw [List.mem_singleton.mp h]
      unfold othF
      split
      · exact .inr rfl
      · exact .inl rfl
theorem laps_len (w : List Nat) : (lapsF w).length ≤ (w.length - 1) / 2 := by
  unfold lapsF
  have := List.length_filter_le (lapP w) ((List.range ((w.length - 1) / 2)).map (· + 1))
  rwa [List.length_map, List.length_range] at this
theorem laps_get {l : List Nat} {j : Nat} {z : Int} (h : (l.map Int.ofNat)[j]? = some z) : ∃ s, l[j]? = some s ∧ z = Int.ofNat s := by
  rw [List.getElem?_map] at h
  cases hl : l[j]? with
  | none => rw [hl] at h; cases h
  | some s => rw [hl] at h; cases h; exact ⟨s, rfl, rfl⟩
theorem laps_next {l : List Nat} {j s tn : Nat} {ys : List Value} (h : l[j]? = some s) (hJ : IntsAre ys ((l.take j).map fun s => ((s * 2 ^ tn : Nat) : Int))) {z : Int} (hz : z = ((s * 2 ^ tn : Nat) : Int)) (t : Tok) : IntsAre (ys ++ [.int z t]) ((l.take (j + 1)).map fun s => ((s * 2 ^ tn : Nat) : Int)) := by
  subst hz
  rw [take_succ_map l (fun s => ((s * 2 ^ tn : Nat) : Int)) h]
  exact ints_snoc hJ _ _
theorem laps_twice (l : List Nat) (tn : Nat) : (l.map (· * 2 ^ tn)).map Int.ofNat = l.map fun s => ((s * 2 ^ tn : Nat) : Int) := by
  rw [List.map_map]; rfl
theorem mul_ok {x : Int} {tn : Nat} (h : tn ≤ 2) : IntMulOk x ((2 ^ tn : Nat) : Int) := by
  have : tn = 0 ∨ tn = 1 ∨ tn = 2 := by lia  
  rcases this with rfl | rfl | rfl
  · exact .of_right (by decide)
  · exact .of_right (by decide)
  · exact .of_right (by decide)
theorem drop_snd {h₀ h : Heap} {L : Addr} {a b : Addr × Obj} {r : List (Addr × Obj)} (N : News h₀ L h (a :: b :: r)) : News h₀ L h (a :: r) := fun p hp => N p (by
  rcases List.mem_cons.mp hp with rfl | hp
  · exact .head _
  · exact .tail _ (.tail _ hp))
theorem blocks_next {a b tn d i : Nat} {w : List Nat} {ys : List Value} (hw : w[i]? = some d) (h : StrsAre ys ((w.take i).map fun c => S (blockF a b c tn))) (t : Tok) : StrsAre (ys ++ [.str (S (blockF a b d tn)) t]) ((w.take (i + 1)).map fun c => S (blockF a b c tn)) := by
  rw [take_succ_map w (fun c => S (blockF a b c tn)) hw]; exact strsAre_snoc h _ _
theorem block_mem {a b c : Nat} : ∀ (n : Nat), ∀ d ∈ blockF a b c n, d = a ∨ d = b ∨ d = c
  | 0, d, h => .inr (.inr (List.mem_singleton.mp h))
  | n + 1, d, h => by
    rw [blockF] at h
    rcases List.mem_append.mp h with h | h
    · exact block_mem n d h
    · obtain ⟨e, _, rfl⟩ := List.mem_map.mp h
      unfold othF
      split
      · exact .inr (.inl rfl)
      · exact .inl rfl
theorem blocks_ok {p1 p2 tn : Nat} {cs : List Nat} (h1 : p1 ∈ rowL) (h2 : p2 ∈ rowL) (hc : ∀ d ∈ cs, d ∈ rowL) : ∀ x ∈ cs.reverse.map (fun c => S (blockF p1 p2 c tn)), PyData.strOk x = true := fun x hx => by
  obtain ⟨c, hc', rfl⟩ := List.mem_map.mp hx
  refine strOk_S fun d hd => ?_
  rcases block_mem tn d hd with rfl | rfl | rfl
  · exact h1
  · exact h2
  · exact hc _ (List.mem_reverse.mp hc')
theorem pieces_S {a b tn : Nat} {wd : List Nat} (ht : (tn = 1 ∧ 3 ≤ wd.length ∧ wd.length ≤ 6) ∨ (tn = 2 ∧ wd.length = 3)) : (piecesF (ledF a b wd tn) (2 ^ tn)).map S = wd.reverse.map fun c => S (blockF a b c tn) := by
  rw [pieces_plain ht, List.map_map]; rfl
end
section
open PySem PySem.W PyProof.Rows
open PySem.Builtin PySem.Builtin.Str
set_option maxRecDepth 100000
set_option maxHeartbeats 8000000


local macro_rules | `(tactic| k_all) => `(tactic| assumption)

local macro_rules | `(tactic| walk_at "call ref") => `(tactic| (refine stop_here ?_))
structure Box (P : Prop) : Prop where
  un : P
noncomputable def st0 : (P : Prop) ×' (Box P → PySem.Challenge.rw_re0036_02.Holds) := by
  refine' ⟨_, fun hP => hd ?main⟩
  case main =>
    w_top on
    w_on

    k_fill
    intro w s₀ s₁ mg mb G Y fa o pm cd doc dV kV ho hd0 hcd hD hmg hg args vals as hpre hlay hrd hwl hlo
    have KX := km_in_of Y
    km_tabs Y
    have X := (Ground.X G).1
    have V := (Ground.X G).2
    refine Ground.open G ?_
    intro T B D TE TW
    try (refine guard_noD D (by decide +kernel) ?_; clear D)
    km_lay T hmg ho hd0 cd
    clear hmg
    wrow_args hpre hlay hrd hwl hlo
    all_goals (first | refine callC_kw (enter_call ?_) | refine enter_call ?_)
    w_top on
    refine lw_post hT9 (fun _ => rfl) ?hp ?_
    case hp => first | rfl | wrow_post
    w_call any ho hd0 hcd hD T F
    clear hd0
    kn_ghosts F T
    k_drop
    skip

    rename_i ns hs1 hs2 hs3 hs4 hs5 wa wb sc vs wc hL0 hra hw1 hr0 hI hr1 hlen hco h1 tk1 o4 o3 o2 o1 q4 q3 q2 q1 X0 XA TA KA FA NA l0
    have d4 := cell_said (v' := none) q4 (by with_unfolding_all rfl)
    have d3 := cell_said (v' := none) q3 (by with_unfolding_all rfl)
    have d2 := cell_said (v' := none) q2 (by with_unfolding_all rfl)
    have d1 := cell_said (v' := none) q1 (by with_unfolding_all rfl)
    have FN := reframe (m' := fun y => if y = Str.ofString "script" then some (.ref sc) else none) FA (by with_unfolding_all rfl)
    have hn63 : ns.length ≤ 63 := by simp at hlen; lia  
    have hgh : GrownAll [(83, 79)] h1 := ⟨⟨_, (NA (79, tabObj #[]) (by simp)).1⟩, trivial⟩
    clear q4 q3 q2 q1 X0 FA hs1 hs2 hs3 hs4 hs5 hra hw1 hr0 hr1 hlen hco hL0 hD hcd ho hT8 X V T B TE TW hgh
    clear G Y hT9
    generalize ghostOf s₁.heap [(83, 79)] = G0 at *
    generalize s₁.heap.objs.size = LL at *
    refine abs_qe ?_
    intro qk ek
    revert w s₀ s₁ mg mb fa o pm cd doc hg ns wa wb sc vs wc hI h1 tk1 o4 o3 o2 o1 d4 d3 d2 d1 hn63 G0 XA TA KA lifted codeHd LL l0 NA FN qk ek
    exact hP.un
section
local macro_rules | `(tactic| walk_at "execs cons") => `(tactic| ((with_reducible show wpAny _ _ (execs (Stmt.Assign [Expr.Name _ _] (Expr.IfExp _ _ _ _) _ :: _) _) _ _ _); refine stop_here ?_))
noncomputable def st1 : (P : Prop) ×' (Box P → st0.1) := by
  refine' ⟨_, fun hP => ?main⟩
  case main =>
    w_top on
    w_on
    intro w s₀ s₁ mg mb fa o pm cd doc hg ns wa wb sc vs wc hI h1 tk1 o4 o3 o2 o1 d4 d3 d2 d1 hn63 G0 XA TA KA lifted codeHd LL l0 NA FN qk ek
    k_fill

    k_steps
    unfold Stop
    rename_i lS hA1 F1 N1 l1
    refine' CtP.use (sums_ct _ _ _ _ _ sc lS vs ns _ 1930 1112 _ _ hI hn63 (by lia  ) (by lia  ) ?hl) ?P ?B ?F ?X ?N ?T ?K ?d ?u ?_
    case B => exact KA
    case F => k_asm
    case X => k_asm
    case N => k_asm
    case T => k_asm
    case K => first | exact rfl | assumption
    case d => first | decide +kernel | lia  
    case u => first | decide +kernel | lia  

    case P => exact lifted
    case hl => exact all_ne (allLt_mem (D := lS) ⟨by lia  , by lia  , by lia  , by lia  , by lia  , trivial⟩) (Nat.le_refl _)
    rintro v' n' h' tk' g' ⟨rfl, rfl, a, b, ta, tb, kS, ha, hb⟩ F' N'
    clear F1 N1 FN NA
    dsimp only
    k_steps
    unfold Stop
    rename_i hS o1' F1 N1 dS
    refine' cut_two (Str.ofString "size") (fun o => [(lS, W.listOf [Value.int a ta, Value.int b tb].toArray kS), (LL + 1 + 1 + 1 + 1, o4), (LL + 1 + 1 + 1, o3), (LL + 1 + 1, o), (LL + 1, o1'), (79, tabObj #[])]) (fun t z => (t = 1 ∧ 3 ≤ z ∧ z ≤ 6) ∨ (t = 2 ∧ z = 3)) F1 N1 ?two ?rest
    case two =>
      k_steps
      · rename Fr _ _ _ _ => F9
        rename News _ _ _ _ => N9
        rename _ = Data.cell (some (Value.int _ _)) => d9
        exact .mk _ _ _ _ _ _ _ rfl F9 N9 d9 (Or.inr ⟨rfl, by decide⟩)
      · rename Fr _ _ _ _ => F9
        rename News _ _ _ _ => N9
        rename _ = Data.cell (some (Value.int _ _)) => d9
        exact .mk _ _ _ _ _ _ _ rfl F9 N9 d9 (Or.inl ⟨rfl, three_four _⟩)
    case rest =>
      intro hT tkT oT tt1 tt2 times size FT NT dT hts
      clear F1 N1
      dsimp only
      k_steps
      rename IsRange _ _ _ _ _ _ _ _ => hrg
      rename Fr _ _ _ _ => F1
      rename News _ _ _ _ => N1
      rename _ = Data.cell (some (Value.str _ _)) => dP
      revert hrg F1 N1
      repeat (rename Fr _ _ _ _ => Fz; clear Fz)
      repeat (rename News _ _ _ _ => Nz; clear Nz)
      intro hrg F1 N1
      repeat (rename _ ≤ (_ : Str).length ∧ (_ : Str).length ≤ _ => hx1; clear hx1)
      repeat (rename (_ : Str).length + _ ≤ (_ : Str).length ∧ (_ : Str).length ≤ _ => hx1; clear hx1)
      obtain ⟨p1, p2, hp1, hp2, hp12, he1, he2⟩ := pair_said (([a, b].getD (Int.toNat 0) 0).fdiv 64) ((([a, b].getD (Int.toNat 0) 0).fdiv 64).fdiv 8)
      obtain ⟨tp, dQ⟩ := pair_cell dP he1 he2
      clear dP he1 he2
      obtain ⟨wh, tw, FM⟩ := which_any F1
      clear F1
      rename vs.length = ns.length => he0
      rename (∀ b o, _ → _) => hk0
      rename IntsAre _ _ => hI
      clear he0 hk0 hI lifted
      rename_i u1 u2 u3 u4 u5 u6 u7 u8 u9 u10 u11 u12
      revert w s₀ s₁ mg mb fa o pm cd doc hg ns wa wb sc vs wc h1 tk1 o4 o3 o2 o1 d4 d3 d2 d1 hn63 G0 XA TA KA codeHd LL l0 qk ek lS hA1 l1 h' tk' a b ta tb kS ha hb hS o1' dS hT tkT oT tt1 tt2 times size dT hts u1 u2 u3 u4 u5 u6 u7 u8 u9 u10 u11 u12 hrg N1 p1 p2 hp1 hp2 hp12 tp dQ wh tw FM
      exact hP.un
end
noncomputable def st2 : (P : Prop) ×' (Box P → st1.1) := by
  refine' ⟨_, fun hP => ?main⟩
  case main =>
    w_top on
    w_on
    intro w s₀ s₁ mg mb fa o pm cd doc hg ns wa wb sc vs wc h1 tk1 o4 o3 o2 o1 d4 d3 d2 d1 hn63 G0 XA TA KA codeHd LL l0 qk ek lS hA1 l1 h' tk' a b ta tb kS ha hb hS o1' dS hT tkT oT tt1 tt2 times size dT hts _ _ _ _ _ _ _ _ _ _ _ _ hrg N1 p1 p2 hp1 hp2 hp12 tp dQ wh tw FM
    k_fill

    have hs36 : 3 ≤ size ∧ size ≤ 6 := by lia  
    have hSp2 : (S [p1, p2]).length = 2 := S_length _
    refine' citer_range (n := size.toNat) (fun _ _ => true) (fun i ys news' g => g = _ ∧ news' = _ ∧ ∃ cs : List Nat, cs.length = i ∧ (∀ d ∈ cs, d = p1 ∨ d = p2) ∧ StrsAre ys (cs.map sg)) rfl hrg (range_size (by lia  )) (range_small (by lia  ) (by lia  ) (by lia  ) (by lia  )) FM N1 ?hlt ⟨rfl, rfl, [], rfl, (fun _ h => nomatch h), .nil⟩ ?skip ?tests ?elt ?done
    case hlt => lia  
    case skip => intro i t ys news₁ g _ q; exact absurd q (by decide)
    case tests => intro C D I i tv ys news₁ h tk g own mC _ _ _ _ _ _ _ F N _ _ E'; exact wpAny_pure ⟨rfl, _, _, rfl, F, N⟩
    case elt =>
      rintro C D I i tv ys news₁ h tk g own mC hC hD hI hi _ ⟨rfl, rfl, cs, hcl, hcr, hcs⟩ hoff hown F N hn hmC E'
      have cE := InElt.start h
      have hi6 : i < 6 := by lia  
      dsimp only
      k_steps
      obtain ⟨d, hdr, hde⟩ := pair_idx p1 p2 (([a, b].getD (Int.toNat 0) 0).fdiv (2 ^ (0 + (i : Int)).toNat))
      have hz0 := Int.fmod_nonneg_of_pos (([a, b].getD (Int.toNat 0) 0).fdiv (2 ^ (0 + (i : Int)).toNat)) (show (0 : Int) < 2 by decide)
      have hz1 := Int.fmod_lt_of_pos (([a, b].getD (Int.toNat 0) 0).fdiv (2 ^ (0 + (i : Int)).toNat)) (show (0 : Int) < 2 by decide)
      generalize (([a, b].getD (Int.toNat 0) 0).fdiv (2 ^ (0 + (i : Int)).toNat)).fmod 2 = z at hde hz0 hz1 ⊢
      dsimp only
      k_steps
      exact ⟨_, _, _, _, rfl, by k_asm, by k_asm, hoff, rfl, rfl, cs ++ [d], by rw [List.length_append, hcl]; rfl, fun e he => (List.mem_append.mp he).elim (hcr e) (fun q => by rw [List.mem_singleton.mp q]; exact hdr), sg_snoc hcs hde⟩
    case done =>
      rintro D h' tk g news' ys kD hD F N hoff ⟨rfl, rfl, cs, hcl, hcr, hcs⟩
      have hcm : cs.length ≤ 6 := by lia  
      have hsum : ((cs.map sg).map (·.length)).sum ≤ 100000 := by rw [sg_sum]; lia  
      clear FM N1 hrg
      dsimp only
      k_steps
      refine' join_led ?jN ?jm ?jh ?jt ?_
      case jN => k_asm
      case jm => k_mem
      case jh => assumption
      case jt => assumption
      intro x _ _ ex hx1
      rw [flat_sg] at ex
      subst ex
      clear hx1 hsum hcs
      have hword : (S cs).length = size.toNat := by rw [S_length]; exact hcl
      dsimp only
      k_steps
      rename_i u1 u2 u3 u4 u5 u6 u7 u8 u9 u10 u11 u12 u13 u14 u15 u16 u17 u18 u19 u20
      revert w s₀ s₁ mg mb fa o pm cd doc hg ns wa wb sc vs wc h1 tk1 o4 o3 o2 o1 d4 d3 d2 d1 hn63 G0 XA TA KA codeHd LL l0 qk ek lS hA1 l1 u1 tk' a b ta tb kS ha hb hS o1' dS hT tkT oT tt1 tt2 times size dT hts u2 u3 u4 u5 u6 u7 u8 u9 u10 u11 u12 u13 p1 p2 hp1 hp2 hp12 tp dQ wh tw hs36 hSp2 D h' u14 ys kD hD F N hoff cs hcl hcr hcm u15 u16 hword u17 u18 u19 tk u20
      exact hP.un
noncomputable def st3 : (P : Prop) ×' (Box P → st2.1) := by
  refine' ⟨_, fun hP => ?main⟩
  case main =>
    w_top on
    w_on
    intro w s₀ s₁ mg mb fa o pm cd doc hg ns wa wb sc vs wc h1 tk1 o4 o3 o2 o1 d4 d3 d2 d1 hn63 G0 XA TA KA codeHd LL l0 qk ek lS hA1 l1 _ tk' a b ta tb kS ha hb hS o1' dS hT tkT oT tt1 tt2 times size dT hts _ _ _ _ _ _ _ _ _ _ _ _ p1 p2 hp1 hp2 hp12 tp dQ wh tw hs36 hSp2 D h' _ ys kD hD F N hoff cs hcl hcr hcm _ _ hword _ _ _ tk _
    k_fill

    rename Fr _ _ _ _ => F3
    rename News _ _ _ _ => N3
    have N2 := drop1 N3
    repeat (rename _ ≤ (_ : Str).length ∧ (_ : Str).length ≤ _ => hx1; clear hx1)
    clear F N hD hoff N3
    have hcl6 : cs.length ≤ 6 := by lia  

    unfold Stop
    refine' Ct.use (written3_ct _ _ _ _ _ cs _ _ _ hcl6) ?B ?F ?X ?N ?T ?K ?d ?u ?_
    case B => exact KA
    case F => k_asm
    case X => k_asm
    case N => k_asm
    case T => k_asm
    case K => first | exact rfl | assumption
    case d => first | decide +kernel | lia  
    case u => first | decide +kernel | lia  

    rintro v' n' h' tk' g' ⟨way1, ⟨tt1, rfl⟩, rfl, rfl⟩ F' N'
    have hlw1 := written_len cs way1 hcl6
    dsimp only

    clear F3 N2
    k_steps

    unfold Stop
    rw [pair_item0]
    refine' Ct.use (written3_ct _ _ _ _ _ [p1] _ _ _ (Nat.le_add_left 1 5)) ?B ?F ?X ?N ?T ?K ?d ?u ?_
    case B => exact KA
    case F => k_asm
    case X => k_asm
    case N => k_asm
    case T => k_asm
    case K => first | exact rfl | assumption
    case d => first | decide +kernel | lia  
    case u => first | decide +kernel | lia  

    rintro v' n' h' tk' g' ⟨way2, ⟨tt2, rfl⟩, rfl, rfl⟩ F' N'
    have hlw2 := written_len [p1] way2 (Nat.le_add_left 1 5)
    dsimp only

    k_steps

    unfold Stop
    rw [pair_item1]
    refine' Ct.use (written3_ct _ _ _ _ _ [p2] _ _ _ (Nat.le_add_left 1 5)) ?B ?F ?X ?N ?T ?K ?d ?u ?_
    case B => exact KA
    case F => k_asm
    case X => k_asm
    case N => k_asm
    case T => k_asm
    case K => first | exact rfl | assumption
    case d => first | decide +kernel | lia  
    case u => first | decide +kernel | lia  

    rintro v' n' h' tk' g' ⟨way3, ⟨tt3, rfl⟩, rfl, rfl⟩ F' N'
    have hlw3 := written_len [p2] way3 (Nat.le_add_left 1 5)
    dsimp only

    k_steps
    rename Fr _ _ _ _ => F1
    rename News _ _ _ _ => N1
    obtain ⟨ttx, F2⟩ := text_frame F1
    have N2 := tab_first N1
    clear F1 N1
    repeat (rename _ ≤ (_ : Str).length ∧ (_ : Str).length ≤ _ => hx1; clear hx1)
    have hl1 : (writtenF cs way1).length ≤ 20 := by rw [← S_length]; exact hlw1
    have hl2 : (writtenF [p1] way2).length ≤ 20 := by rw [← S_length]; exact hlw2
    have hl3 : (writtenF [p2] way3).length ≤ 20 := by rw [← S_length]; exact hlw3
    clear hlw1 hlw2 hlw3
    have hlx : (writtenF cs way1 ++ writtenF [p1] way2 ++ writtenF [p2] way3).length ≤ 60 := by simp only [List.length_append]; lia  
    unfold Stop
    rw [S_three (writtenF cs way1) (writtenF [p1] way2) (writtenF [p2] way3)]
    refine' CtP.use (lexer_ct _ _ _ _ _ _ _ (by rw [S_length]; lia  ) ?hn79) ?P ?B ?F ?X ?N ?T ?K ?d ?u ?_
    case B => exact KA
    case F => k_asm
    case X => k_asm
    case N => k_asm
    case T => k_asm
    case K => first | exact rfl | assumption
    case d => first | decide +kernel | lia  
    case u => first | decide +kernel | lia  

    case P => exact codeHd
    case hn79 => exact fun p hp => Nat.ne_of_gt (allLt_gt (by lia  ) (by lia  ) hp)
    rintro v' n' h' tk' g' ⟨xL, dxL, pbL, stL, dsL, rdL, ccL, ceL, lfL, k1, k2, k3, k4, tl, twL, nL, kp, kl, yl, ods, ost, ord, occ, ocell, ps, hyl, hod, hcls, hdict, hfd, hread, hlts⟩ F' N'
    simp only [AllLt] at hlts
    clear F2 N2
    dsimp only
    k_steps
    rename IsRange _ _ _ _ _ _ _ _ => hrg
    rename Fr _ _ _ _ => F1
    rename News _ _ _ _ => N1
    revert hrg F1 N1
    repeat (rename Fr _ _ _ _ => Fz; clear Fz)
    repeat (rename News _ _ _ _ => Nz; clear Nz)
    intro hrg F1 N1
    rename (∀ b o, _ → _) => hk0
    clear hk0
    rename _ = Data.cell (some (Value.ref xL)) => dx5
    rw [signs_S] at hyl
    rename_i u1 u2 u3 u4 u5 u6 u7 u8 u9 u10 u11 u12 u13 u14 u15 u16 u17 u18 u19 u20 u21 u22 u23 u24 u25 u26 u27 u28 u29 u30 u31 u32 u33 u34 u35 u36 u37 u38 u39 u40 u41 u42 u43 u44
    revert w s₀ s₁ mg mb fa o pm cd doc hg ns wa wb sc vs wc h1 tk1 o4 o3 o2 o1 d4 d3 d2 d1 hn63 G0 XA TA KA codeHd LL l0 qk ek lS hA1 l1 u1 u2 a b ta tb kS ha hb hS o1' dS hT tkT oT u3 u4 times size dT hts u5 u6 u7 u8 u9 u10 u11 u12 u13 u14 u15 u16 p1 p2 hp1 hp2 hp12 tp dQ wh tw hs36 hSp2 D u17 u18 ys kD cs hcl hcr hcm u19 u20 hword u21 u22 u23 hcl6 u24 u25 way1 tt1 u26 u27 u28 way2 tt2 u29 u30 u31 u32 u33 way3 tt3 u34 u35 u36 u37 ttx hl1 hl2 hl3 hlx h' tk' xL dxL pbL stL dsL rdL ccL ceL lfL k1 k2 k3 k4 tl twL nL kp kl yl ods ost ord occ ocell ps hyl hod hcls hdict hfd hread hlts u38 u39 dx5 tk u40 u41 u42 u43 u44 hrg F1 N1
    exact hP.un
noncomputable def st4 : (P : Prop) ×' (Box P → st3.1) := by
  refine' ⟨_, fun hP => ?main⟩
  case main =>
    w_top on
    w_on
    intro w s₀ s₁ mg mb fa o pm cd doc hg ns wa wb sc vs wc h1 tk1 o4 o3 o2 o1 d4 d3 d2 d1 hn63 G0 XA TA KA codeHd LL l0 qk ek lS hA1 l1 _ _ a b ta tb kS ha hb hS o1' dS hT tkT oT _ _ times size dT hts _ _ _ _ _ _ _ _ _ _ _ _ p1 p2 hp1 hp2 hp12 tp dQ wh tw hs36 hSp2 D _ _ ys kD cs hcl hcr hcm _ _ hword _ _ _ hcl6 _ _ way1 tt1 _ _ _ way2 tt2 _ _ _ _ _ way3 tt3 _ _ _ _ ttx hl1 hl2 hl3 hlx h' tk' xL dxL pbL stL dsL rdL ccL ceL lfL k1 k2 k3 k4 tl twL nL kp kl yl ods ost ord occ ocell ps hyl hod hcls hdict hfd hread hlts _ _ dx5 tk _ _ _ _ _ hrg F1 N1
    k_fill

    have N2 := pb_move N1
    have hcR : ∀ d ∈ cs, d ∈ rowL := fun d hd => (hcr d hd).elim (fun e => e ▸ hp1) fun e => e ▸ hp2
    have hcs0 : cs ≠ [] := fun e => by rw [e] at hcl; simp at hcl; lia  
    have hrd4 := fun i hi => reads4 (i := i) hcs0 (List.cons_ne_nil p1 []) (List.cons_ne_nil p2 []) way1 way2 way3 hi
    have hone0 := nls_one (l := writtenF cs way1 ++ writtenF [p1] way2 ++ writtenF [p2] way3) (by lia  )
    refine' citer_range (n := 4) (fun _ _ => true) (fun i ys news' g => g = _ ∧ StrsAre ys ((List.range i).map fun j => S (tokAt cs [p1] [p2] j)) ∧ LXS w k1 k2 k3 k4 twL xL dxL pbL stL dsL rdL ccL ceL lfL ods ost ord occ ocell (1 + nls ((leftAt (writtenF cs way1) (writtenF [p1] way2) (writtenF [p2] way3) 0).map sg)) _ ((leftAt (writtenF cs way1) (writtenF [p1] way2) (writtenF [p2] way3) i).map sg) news') rfl hrg (by decide +kernel) (by decide +kernel) F1 N2 ?hlt ⟨rfl, .nil, hone0, tl, 1, nL, kl, yl, hyl, rfl, rfl⟩ ?skip ?tests ?elt ?done
    case hlt => lia  
    case skip => intro i t ys news₁ g _ q; exact absurd q (by decide)
    case tests => intro C D I i tv ys news₁ h tk g own mC _ _ _ _ _ _ _ F N _ _ E'; exact wpAny_pure ⟨rfl, _, _, rfl, F, N⟩
    case elt =>
      rintro C D I i tv ys9 news₁ h tk g own mC hC hD hI hi _ ⟨rfl, hys, hL⟩ hoff hown F N hn hmC E'
      have cE := InElt.start h
      have hL0 := hL
      have hLI := lx_of hL
      clear hL
      obtain ⟨hone1, hone2, tl9, ln9, n9, kl9, yl9, hy9, hK9⟩ := hLI
      simp only [List.cons_append] at N
      dsimp only
      k_steps
      unfold Stop
      dsimp only [List.append_nil]
      refine' Ct.use (getr_ct w _ mg mb _ xL dxL pbL stL dsL rdL ccL ceL lfL k1 k2 k3 k4 twL _ kp ods ost ord occ ocell _ _ _ _ hod hcls hdict hfd hread ?hlf (neN (by lia  )) ?hdx (hrd4 i hi) (hL0.app (own := own))) ?B ?F ?X ?N ?T ?K ?d ?u ?_
      case B => exact KA
      case F => k_asm
      case X => k_asm
      case N => k_asm
      case T => k_asm
      case K => first | exact rfl | assumption
      case d => first | decide +kernel | lia  
      case u => first | decide +kernel | lia  

      case hlf => exact ne_own (apart_lf l0 hlts) (.tail _ (.tail _ (.head _))) hoff hown
      case hdx => exact ne_own (apart_dx l0 hlts) (.tail _ (.head _)) hoff hown
      rintro v' n' h' tk' g' ⟨rfl, ⟨t9, rfl⟩, hL'⟩ F' N'
      obtain ⟨led', hL2, rfl⟩ := LXS.cut2 hL'
      dsimp only
      exact ⟨_, _, _, led', rfl, F', N', off_same hoff (hL2.fst.trans hL0.fst.symm), rfl, strs_more hys t9, hL2⟩
    case done =>
      rintro D h' tk g news' ys9 kD hD F N hoff ⟨rfl, hys, hLd⟩
      obtain ⟨hone1, hone2, tl9, ln9, n9, kl9, yl9, hy9, hK9⟩ := lx_of hLd
      clear hLd
      clear F1 N1 N2 hrg
      dsimp only
      k_steps

      repeat (rename _ ≤ (_ : Str).length ∧ (_ : Str).length ≤ _ => hx1; clear hx1)
      rename Fr _ _ _ _ => F1
      rename News _ _ _ _ => N1
      rw [four_eq] at hys
      refine ne_strs N1 (.tail _ (.head _)) (.head _) hys (.cons _ _ (.cons _ _ (.cons _ _ (.cons _ _ .nil)))) ?ox ?oy ?hu ?_
      case ox => rw [pair_item0, pair_item1, S_nil]; exact four_ok hcR hp1 hp2
      case oy => rw [pair_item0, pair_item1, S_nil]; exact four_ok hcR hp1 hp2
      case hu => exact Nat.le_of_ble_eq_true rfl
      rw [decide_eq_true rfl]
      dsimp only [Bool.not_true]
      rename _ = Data.cell (some (Value.ref xL)) => dx5
      clear F N hoff hys hone1 hone2 hone0 hD hrd4
      rename_i u1 u2 u3 u4 u5 u6 u7 u8 u9 u10 u11 u12 u13 u14 u15 u16 u17 u18 u19 u20 u21 u22 u23 u24 u25 u26 u27 u28 u29 u30 u31 u32 u33 u34 u35 u36 u37 u38 u39 u40 u41 u42 u43 u44 u45 u46 u47 u48 u49 u50 u51
      revert w s₀ s₁ mg mb fa o pm cd doc hg ns wa wb sc vs wc h1 tk1 o4 o3 o2 o1 d4 d3 d2 d1 hn63 G0 XA TA KA codeHd LL l0 qk ek lS hA1 l1 u1 u2 a b ta tb kS ha hb hS o1' dS hT tkT oT u3 u4 times size dT hts u5 u6 u7 u8 u9 u10 u11 u12 u13 u14 u15 u16 p1 p2 hp1 hp2 hp12 tp dQ wh tw hs36 hSp2 u17 u18 u19 ys u20 cs hcl hcr hcm u21 u22 hword u23 u24 u25 hcl6 u26 u27 way1 tt1 u28 u29 u30 way2 tt2 u31 u32 u33 u34 u35 way3 tt3 u36 u37 u38 u39 ttx hl1 hl2 hl3 hlx u40 tk' xL dxL pbL stL dsL rdL ccL ceL lfL k1 k2 k3 k4 tl twL nL kp kl yl ods ost ord occ ocell ps hyl hod hcls hdict hfd hread hlts u41 u42 dx5 u43 u44 u45 u46 u47 u48 hcR hcs0 D h' tk ys9 kD tl9 ln9 n9 kl9 yl9 hy9 hK9 u49 u50 F1 N1 u51
      exact hP.un
noncomputable def st5 : (P : Prop) ×' (Box P → st4.1) := by
  refine' ⟨_, fun hP => ?main⟩
  case main =>
    w_top on
    w_on
    intro w s₀ s₁ mg mb fa o pm cd doc hg ns wa wb sc vs wc h1 tk1 o4 o3 o2 o1 d4 d3 d2 d1 hn63 G0 XA TA KA codeHd LL l0 qk ek lS hA1 l1 _ _ a b ta tb kS ha hb hS o1' dS hT tkT oT _ _ times size dT hts _ _ _ _ _ _ _ _ _ _ _ _ p1 p2 hp1 hp2 hp12 tp dQ wh tw hs36 hSp2 _ _ _ ys _ cs hcl hcr hcm _ _ hword _ _ _ hcl6 _ _ way1 tt1 _ _ _ way2 tt2 _ _ _ _ _ way3 tt3 _ _ _ _ ttx hl1 hl2 hl3 hlx _ tk' xL dxL pbL stL dsL rdL ccL ceL lfL k1 k2 k3 k4 tl twL nL kp kl yl ods ost ord occ ocell ps hyl hod hcls hdict hfd hread hlts _ _ dx5 _ _ _ _ _ _ hcR hcs0 D h' tk ys9 kD tl9 ln9 n9 kl9 yl9 hy9 hK9 _ _ F1 N1 _
    k_fill

    have hln : ln9 = 1 + Txt.count (S (writtenF cs way1 ++ writtenF [p1] way2 ++ writtenF [p2] way3)) (Str.ofString "\n") := by
      rw [count_nls]
      have e : nls ((leftAt (writtenF cs way1) (writtenF [p1] way2) (writtenF [p2] way3) 4).map sg) = 0 := rfl
      rw [e, Int.add_zero] at hK9
      exact hK9
    have hcs3 : 3 ≤ cs.length := by lia  
    obtain ⟨tn, rfl, htn, htm⟩ := times_nat hts hcl
    k_steps
    · exact absurd hln (by assumption)
    rename Fr _ _ _ _ => F1
    rename News _ _ _ _ => N1
    revert F1 N1
    repeat (rename Fr _ _ _ _ => Fz; clear Fz)
    repeat (rename News _ _ _ _ => Nz; clear Nz)
    intro F1 N1
    clear hK9 hy9 hyl hlx hl1 hl2 hl3
    repeat (rename (_ : Int) = 1 + Txt.count _ _ => hz; clear hz)
    repeat (rename (_ : Str).length ≤ (_ : Str).length => hz; clear hz)
    rename_i u1 u2 u3 u4 u5 u6 u7 u8 u9 u10 u11 u12 u13 u14 u15 u16 u17 u18 u19 u20 u21 u22 u23 u24 u25 u26 u27 u28 u29 u30 u31 u32 u33 u34 u35 u36 u37 u38 u39 u40 u41 u42 u43 u44 u45 u46 u47 u48 u49 u50 u51 u52 u53
    revert w s₀ s₁ mg mb fa o pm cd doc hg ns wa wb sc vs wc h1 tk1 o4 o3 o2 o1 d4 d3 d2 d1 hn63 G0 XA TA KA codeHd LL l0 qk ek lS hA1 l1 u1 u2 a b ta tb kS ha hb hS o1' dS hT tkT oT u3 u4 size u5 u6 u7 u8 u9 u10 u11 u12 u13 u14 u15 u16 p1 p2 hp1 hp2 hp12 tp dQ wh tw hs36 hSp2 u17 u18 u19 ys u20 cs hcl hcr hcm u21 u22 hword u23 u24 u25 hcl6 u26 u27 way1 tt1 u28 u29 u30 way2 tt2 u31 u32 u33 u34 u35 way3 tt3 u36 u37 u38 u39 ttx u40 tk' xL dxL pbL stL dsL rdL ccL ceL lfL k1 k2 k3 k4 tl twL nL kp kl yl ods ost ord occ ocell ps hod hcls hdict hfd hread hlts u41 u42 dx5 u43 u44 u45 u46 u47 u48 hcR hcs0 D h' u49 ys9 kD tl9 ln9 n9 kl9 yl9 u50 u51 u52 hcs3 tn dT hts htn htm u53 tk F1 N1
    exact hP.un
noncomputable def st6 : (P : Prop) ×' (Box P → st5.1) := by
  refine' ⟨_, fun hP => ?main⟩
  case main =>
    w_top on
    w_on
    intro w s₀ s₁ mg mb fa o pm cd doc hg ns wa wb sc vs wc h1 tk1 o4 o3 o2 o1 d4 d3 d2 d1 hn63 G0 XA TA KA codeHd LL l0 qk ek lS hA1 l1 _ _ a b ta tb kS ha hb hS o1' dS hT tkT oT _ _ size _ _ _ _ _ _ _ _ _ _ _ _ p1 p2 hp1 hp2 hp12 tp dQ wh tw hs36 hSp2 _ _ _ ys _ cs hcl hcr hcm _ _ hword _ _ _ hcl6 _ _ way1 tt1 _ _ _ way2 tt2 _ _ _ _ _ way3 tt3 _ _ _ _ ttx _ tk' xL dxL pbL stL dsL rdL ccL ceL lfL k1 k2 k3 k4 tl twL nL kp kl yl ods ost ord occ ocell ps hod hcls hdict hfd hread hlts _ _ dx5 _ _ _ _ _ _ hcR hcs0 D h' _ ys9 kD tl9 ln9 n9 kl9 yl9 _ _ _ hcs3 tn dT hts htn htm _ tk F1 N1
    k_fill

    unfold Stop
    have N2 := led_order (drop2 N1)
    clear N1
    refine' Ct.use (led_ct _ _ _ _ _ xL dxL pbL stL k1 k2 k3 k4 _ twL _ _ _ p1 p2 cs _ _ _ tn hcm htn (neN (by lia  )) (neN (by lia  )) (neN (by lia  )) ?hpb) ?B ?F ?X ?N ?T ?K ?d ?u ?_
    case B => exact KA
    case F => k_asm
    case X => k_asm
    case N => k_asm
    case T => k_asm
    case K => first | exact rfl | assumption
    case d => first | decide +kernel | lia  
    case u => first | decide +kernel | lia  

    case hpb => exact fun p hp => Nat.ne_of_lt (pb_lt l0 hlts p hp)
    rintro v' n' h' tk' g' ⟨rfl, ⟨tv0, rfl⟩, kp2, rfl⟩ F' N'
    clear N2 F1
    have hll := led_len p1 p2 cs tn
    obtain ⟨LG, hLG⟩ : ∃ LG, LG = ledF p1 p2 cs tn := ⟨_, rfl⟩
    rw [← hLG] at hll ⊢
    dsimp only
    k_steps
    rename_i u1 u2 u3 u4 u5 u6 u7 u8 u9 u10 u11 u12 u13 u14 u15 u16 u17 u18 u19 u20 u21 u22 u23 u24 u25 u26 u27 u28 u29 u30 u31 u32 u33 u34 u35 u36 u37 u38 u39 u40 u41 u42 u43 u44 u45 u46 u47 u48 u49 u50 u51 u52 u53 u54 u55 u56 u57 u58 u59 u60 u61 u62 u63 u64
    revert w s₀ s₁ mg mb fa o pm cd doc hg ns wa wb sc vs wc h1 tk1 o4 o3 o2 o1 d4 d3 d2 d1 hn63 G0 XA TA KA codeHd LL l0 qk ek lS hA1 l1 u1 u2 a b ta tb kS ha hb hS o1' dS hT tkT oT u3 u4 size u5 u6 u7 u8 u9 u10 u11 u12 u13 u14 u15 u16 p1 p2 hp1 hp2 hp12 tp dQ wh tw hs36 hSp2 u17 u18 u19 ys u20 cs hcl hcr hcm u21 u22 hword u23 u24 u25 hcl6 u26 u27 way1 tt1 u28 u29 u30 way2 tt2 u31 u32 u33 u34 u35 way3 tt3 u36 u37 u38 u39 ttx u40 u41 xL dxL pbL stL dsL rdL ccL ceL lfL k1 k2 k3 k4 tl twL nL kp kl yl ods ost ord occ ocell ps hod hcls hdict hfd hread hlts u42 u43 dx5 u44 u45 u46 u47 u48 u49 hcR hcs0 D u50 u51 ys9 kD tl9 ln9 n9 kl9 yl9 u52 u53 u54 hcs3 tn dT hts htn htm u55 u56 h' tk' tv0 kp2 LG hll hLG u57 u58 u59 tk u60 u61 u62 u63 u64
    exact hP.un
noncomputable def st7 : (P : Prop) ×' (Box P → st6.1) := by
  refine' ⟨_, fun hP => ?main⟩
  case main =>
    w_top on
    w_on
    intro w s₀ s₁ mg mb fa o pm cd doc hg ns wa wb sc vs wc h1 tk1 o4 o3 o2 o1 d4 d3 d2 d1 hn63 G0 XA TA KA codeHd LL l0 qk ek lS hA1 l1 _ _ a b ta tb kS ha hb hS o1' dS hT tkT oT _ _ size _ _ _ _ _ _ _ _ _ _ _ _ p1 p2 hp1 hp2 hp12 tp dQ wh tw hs36 hSp2 _ _ _ ys _ cs hcl hcr hcm _ _ hword _ _ _ hcl6 _ _ way1 tt1 _ _ _ way2 tt2 _ _ _ _ _ way3 tt3 _ _ _ _ ttx _ _ xL dxL pbL stL dsL rdL ccL ceL lfL k1 k2 k3 k4 tl twL nL kp kl yl ods ost ord occ ocell ps hod hcls hdict hfd hread hlts _ _ dx5 _ _ _ _ _ _ hcR hcs0 D _ _ ys9 kD tl9 ln9 n9 kl9 yl9 _ _ _ hcs3 tn dT hts htn htm _ _ h' tk' tv0 kp2 LG hll hLG _ _ _ tk _ _ _ _ _
    k_fill

    unfold Stop
    rename Fr _ _ _ _ => F1
    rename News _ _ _ _ => N1
    revert F1 N1
    repeat (rename Fr _ _ _ _ => Fz; clear Fz)
    repeat (rename News _ _ _ _ => Nz; clear Nz)
    intro F1 N1
    obtain ⟨hq1, hq2, hq3, hq4⟩ := led_facts htm hll
    rw [pow_nat] at N1
    refine' Ct.use (piecesA_ct _ _ _ _ _ (S LG) _ _ _ (2 ^ tn) _ _ _ (by rw [S_length]; lia  ) hq1 (by rw [S_length]; exact hq2)) ?B ?F ?X ?N ?T ?K ?d ?u ?_
    case B => exact KA
    case F => k_asm
    case X => k_asm
    case N => k_asm
    case T => k_asm
    case K => first | exact rfl | assumption
    case d => first | decide +kernel | lia  
    case u => first | decide +kernel | lia  

    rintro v' n' h' tk' g' ⟨Dp, wp, kp3, rfl, rfl, hwp, hbk, hlp⟩ F' N'
    clear N1 F1
    dsimp only
    k_steps
    rename_i u1 u2 u3 u4 u5 u6 u7 u8 u9 u10 u11 u12 u13 u14 u15 u16 u17 u18 u19 u20 u21 u22 u23 u24 u25 u26 u27 u28 u29 u30 u31 u32 u33 u34 u35 u36 u37 u38 u39 u40 u41 u42 u43 u44 u45 u46 u47 u48 u49 u50 u51 u52 u53 u54 u55 u56 u57 u58 u59 u60 u61 u62 u63 u64 u65 u66 u67 u68 u69
    revert w s₀ s₁ mg mb fa o pm cd doc hg ns wa wb sc vs wc h1 tk1 o4 o3 o2 o1 d4 d3 d2 d1 hn63 G0 XA TA KA codeHd LL l0 qk ek lS hA1 l1 u1 u2 a b ta tb kS ha hb hS o1' dS hT tkT oT u3 u4 size u5 u6 u7 u8 u9 u10 u11 u12 u13 u14 u15 u16 p1 p2 hp1 hp2 hp12 tp dQ wh tw hs36 hSp2 u17 u18 u19 ys u20 cs hcl hcr hcm u21 u22 hword u23 u24 u25 hcl6 u26 u27 way1 tt1 u28 u29 u30 way2 tt2 u31 u32 u33 u34 u35 way3 tt3 u36 u37 u38 u39 ttx u40 u41 xL dxL pbL stL dsL rdL ccL ceL lfL k1 k2 k3 k4 tl twL nL kp kl yl ods ost ord occ ocell ps hod hcls hdict hfd hread hlts u42 u43 dx5 u44 u45 u46 u47 u48 u49 hcR hcs0 D u50 u51 ys9 kD tl9 ln9 n9 kl9 yl9 u52 u53 u54 hcs3 tn dT hts htn htm u55 u56 u57 u58 tv0 kp2 LG hll hLG u59 tk u60 u61 u62 hq1 hq2 hq3 hq4 h' tk' g' Dp wp kp3 hwp hbk hlp u63 u64 u65 u66 u67 u68 u69
    exact hP.un
noncomputable def st8 : (P : Prop) ×' (Box P → st7.1) := by
  refine' ⟨_, fun hP => ?main⟩
  case main =>
    w_top on
    w_on
    intro w s₀ s₁ mg mb fa o pm cd doc hg ns wa wb sc vs wc h1 tk1 o4 o3 o2 o1 d4 d3 d2 d1 hn63 G0 XA TA KA codeHd LL l0 qk ek lS hA1 l1 _ _ a b ta tb kS ha hb hS o1' dS hT tkT oT _ _ size _ _ _ _ _ _ _ _ _ _ _ _ p1 p2 hp1 hp2 hp12 tp dQ wh tw hs36 hSp2 _ _ _ ys _ cs hcl hcr hcm _ _ hword _ _ _ hcl6 _ _ way1 tt1 _ _ _ way2 tt2 _ _ _ _ _ way3 tt3 _ _ _ _ ttx _ _ xL dxL pbL stL dsL rdL ccL ceL lfL k1 k2 k3 k4 tl twL nL kp kl yl ods ost ord occ ocell ps hod hcls hdict hfd hread hlts _ _ dx5 _ _ _ _ _ _ hcR hcs0 D _ _ ys9 kD tl9 ln9 n9 kl9 yl9 _ _ _ hcs3 tn dT hts htn htm _ _ _ _ tv0 kp2 LG hll hLG _ tk _ _ _ hq1 hq2 hq3 hq4 h' tk' g' Dp wp kp3 hwp hbk hlp _ _ _ _ _ _ _
    k_fill

    rename Fr _ _ _ _ => F1
    rename News _ _ _ _ => N1
    revert F1 N1
    repeat (rename Fr _ _ _ _ => Fz; clear Fz)
    repeat (rename News _ _ _ _ => Nz; clear Nz)
    intro F1 N1
    rw [rev_S]
    dsimp only
    rw [ls_S, hLG, pieces_S htm] at hwp
    have N2 := drop_snd N1
    clear N1
    have hrl : (S cs.reverse).length = cs.length := by rw [S_length, List.length_reverse]
    refine' citer_str (fun _ _ => true) (fun i ys news' g => BkE _ _ (StrsAre ys ((cs.reverse.take i).map fun c => S (blockF p1 p2 c tn))) news' g) rfl F1 N2 (by lia  ) (.mk .nil) (fun _ _ _ _ _ _ _ h => absurd h (by decide)) ?tests ?elt ?done
    case tests => intro C D I i d tv ys news₁ h tk g own mC _ _ _ _ _ _ _ F N _ _ E'; exact wpAny_pure ⟨rfl, _, _, rfl, F, N⟩
    case elt =>
      rintro C D I2 j d tv ys news₂ h tk g own2 mC hC hD hI2 hd _ ⟨hJ⟩ hoff2 hown2 F N hn hmC E'
      have cE := InElt.start h
      have hd' := at_nat hd
      clear F1 N2
      dsimp only
      k_steps
      unfold Stop
      refine' Ct.use (block_ct _ _ _ _ _ p1 p2 d _ _ _ tn htn) ?B ?F ?X ?N ?T ?K ?d ?u ?_
      case B => exact KA
      case F => k_asm
      case X => k_asm
      case N => k_asm
      case T => k_asm
      case K => first | exact rfl | assumption
      case d => first | decide +kernel | lia  
      case u => first | decide +kernel | lia  

      rintro v' n' h' tk' g' ⟨⟨t9, rfl⟩, rfl, rfl⟩ F' N'
      dsimp only
      exact ⟨_, _, _, _, rfl, F', N', hoff2, .mk (blocks_next hd' hJ t9)⟩
    case done =>
      rintro D h' tk g news' ys kd hD F N hoff2 ⟨hJ⟩
      rw [hrl, ← List.length_reverse (as := cs), List.take_length] at hJ
      clear F1 N2
      refine ne_strs N (.tail _ (.head _)) (.head _) hwp hJ (blocks_ok hp1 hp2 hcR) (blocks_ok hp1 hp2 hcR) (Nat.le_of_ble_eq_true rfl) ?_
      rw [decide_eq_true rfl]
      dsimp only [Bool.not_true]
      have N1 := drop2 N
      clear hlp N hoff2 hJ hwp hD hrl ys
      k_steps
      rename_i u1 u2 u3 u4 u5 u6 u7 u8 u9 u10 u11 u12 u13 u14 u15 u16 u17 u18 u19 u20 u21 u22 u23 u24 u25 u26 u27 u28 u29 u30 u31 u32 u33 u34 u35 u36 u37 u38 u39 u40 u41 u42 u43 u44 u45 u46 u47 u48 u49 u50 u51 u52 u53 u54 u55 u56 u57 u58 u59 u60 u61 u62 u63 u64 u65 u66 u67 u68
      revert w s₀ s₁ mg mb fa o pm cd doc hg ns wa wb sc vs wc h1 tk1 o4 o3 o2 o1 d4 d3 d2 d1 hn63 G0 XA TA KA codeHd LL l0 qk ek lS hA1 l1 u1 u2 a b ta tb kS ha hb hS o1' dS hT tkT oT u3 u4 size u5 u6 u7 u8 u9 u10 u11 u12 u13 u14 u15 u16 p1 p2 hp1 hp2 hp12 tp dQ wh tw hs36 hSp2 u17 u18 u19 ys u20 cs hcl hcr hcm u21 u22 hword u23 u24 u25 hcl6 u26 u27 way1 tt1 u28 u29 u30 way2 tt2 u31 u32 u33 u34 u35 way3 tt3 u36 u37 u38 u39 ttx u40 u41 xL dxL pbL stL dsL rdL ccL ceL lfL k1 k2 k3 k4 tl twL nL kp kl yl ods ost ord occ ocell ps hod hcls hdict hfd hread hlts u42 u43 dx5 u44 u45 u46 u47 u48 u49 hcR hcs0 u50 u51 u52 ys9 kD tl9 ln9 n9 kl9 yl9 u53 u54 u55 hcs3 tn dT hts htn htm u56 u57 u58 u59 tv0 kp2 LG hll hLG u60 u61 u62 u63 u64 hq1 hq2 hq3 hq4 u65 tk' g' Dp wp kp3 hbk u66 u67 u68 D h' tk kd F N1
      exact hP.un
section
local macro_rules | `(tactic| walk_at "compareOp NotEq ref ref") => `(tactic| (refine stop_here ?_))
local macro_rules | `(tactic| walk_at "compareOp Eq ref ref") => `(tactic| (refine stop_here ?_))
local macro_rules | `(tactic| walk_at "pyIter ref") => `(tactic| (refine stop_here ?_))
noncomputable def st9 : (P : Prop) ×' (Box P → st8.1) := by
  refine' ⟨_, fun hP => ?main⟩
  case main =>
    w_top on
    w_on
    intro w s₀ s₁ mg mb fa o pm cd doc hg ns wa wb sc vs wc h1 tk1 o4 o3 o2 o1 d4 d3 d2 d1 hn63 G0 XA TA KA codeHd LL l0 qk ek lS hA1 l1 _ _ a b ta tb kS ha hb hS o1' dS hT tkT oT _ _ size _ _ _ _ _ _ _ _ _ _ _ _ p1 p2 hp1 hp2 hp12 tp dQ wh tw hs36 hSp2 _ _ _ ys _ cs hcl hcr hcm _ _ hword _ _ _ hcl6 _ _ way1 tt1 _ _ _ way2 tt2 _ _ _ _ _ way3 tt3 _ _ _ _ ttx _ _ xL dxL pbL stL dsL rdL ccL ceL lfL k1 k2 k3 k4 tl twL nL kp kl yl ods ost ord occ ocell ps hod hcls hdict hfd hread hlts _ _ dx5 _ _ _ _ _ _ hcR hcs0 _ _ _ ys9 kD tl9 ln9 n9 kl9 yl9 _ _ _ hcs3 tn dT hts htn htm _ _ _ _ tv0 kp2 LG hll hLG _ _ _ _ _ hq1 hq2 hq3 hq4 _ tk' g' Dp wp kp3 hbk _ _ _ D h' tk kd F N1
    k_fill

    unfold Stop
    have hn1 : p1 ≠ 46 := row_nodot p1 hp1
    have hn2 : p2 ≠ 46 := row_nodot p2 hp2
    obtain ⟨hpl1, hpl2⟩ := law2_plain hp12 hcr htm
    refine' Ct.use (laps_ct _ _ _ _ _ cs _ (by lia  ) (by lia  )) ?B ?F ?X ?N ?T ?K ?d ?u ?_
    case B => exact KA
    case F => k_asm
    case X => k_asm
    case N => k_asm
    case T => k_asm
    case K => first | exact rfl | assumption
    case d => first | decide +kernel | lia  
    case u => first | decide +kernel | lia  

    rintro v' n' h' tk' g9 ⟨rfl, Dl, wl, kl2, rfl, rfl, hwl, hlp⟩ F' N'
    have hDl : LT.lt (α := Nat) pbL Dl := hlp (pbL, _) (.head _)
    clear N1 F hlp
    dsimp only
    k_steps
    unfold Stop
    rename News _ _ _ _ => N1
    have N2 := steps_order N1
    clear N1
    refine' Ct.use (steps_ct _ _ _ _ _ xL dxL pbL stL k1 k2 k3 k4 _ twL _ _ _ p1 p2 cs _ _ hn1 hn2 (nodot_pair hp1 hp2 hcr) (by lia  ) (by lia  ) (neN (by lia  )) (neN (by lia  )) (neN (by lia  )) ?hpb) ?B ?F ?X ?N ?T ?K ?d ?u ?_
    case B => exact KA
    case F => k_asm
    case X => k_asm
    case N => k_asm
    case T => k_asm
    case K => first | exact rfl | assumption
    case d => first | decide +kernel | lia  
    case u => first | decide +kernel | lia  

    case hpb => exact pb_ne2 l0 hDl hlts
    rintro v' n' h' tk' g9 ⟨rfl, Ds, wst, kd, kp4, rfl, hws, rfl⟩ F' N'
    rw [hpl1] at hws
    clear N2
    dsimp only
    k_steps
    unfold Stop
    refine ke_ne_ints (isList_of N' (.head _)) (isList_of N' (by k_mem)) hws hwl (Nat.le_of_ble_eq_true rfl) ?_
    rw [decide_eq_true rfl]
    (try dsimp only [Bool.not_true])
    have N1 := drop1 N'
    clear N' hws
    k_steps
    rename_i u1 u2 u3 u4 u5 u6 u7 u8 u9 u10 u11 u12 u13 u14 u15 u16 u17 u18 u19 u20 u21 u22 u23 u24 u25 u26 u27 u28 u29 u30 u31 u32 u33 u34 u35 u36 u37 u38 u39 u40 u41 u42 u43 u44 u45 u46 u47 u48 u49 u50 u51 u52 u53 u54 u55 u56 u57 u58 u59 u60 u61 u62 u63 u64 u65 u66 u67 u68 u69 u70 u71 u72 u73 u74 u75 u76
    revert w s₀ s₁ mg mb fa o pm cd doc hg ns wa wb sc vs wc h1 tk1 o4 o3 o2 o1 d4 d3 d2 d1 hn63 G0 XA TA KA codeHd LL l0 qk ek lS hA1 l1 u1 u2 a b ta tb kS ha hb hS o1' dS hT tkT oT u3 u4 size u5 u6 u7 u8 u9 u10 u11 u12 u13 u14 u15 u16 p1 p2 hp1 hp2 hp12 tp dQ wh tw hs36 hSp2 u17 u18 u19 ys u20 cs hcl hcr hcm u21 u22 hword u23 u24 u25 hcl6 u26 u27 way1 tt1 u28 u29 u30 way2 tt2 u31 u32 u33 u34 u35 way3 tt3 u36 u37 u38 u39 ttx u40 u41 xL dxL pbL stL dsL rdL ccL ceL lfL k1 k2 k3 k4 tl twL nL kp kl yl ods ost ord occ ocell ps hod hcls hdict hfd hread hlts u42 u43 dx5 u44 u45 u46 u47 u48 u49 hcR hcs0 u50 u51 u52 ys9 kD tl9 ln9 n9 kl9 yl9 u53 u54 u55 hcs3 tn dT hts htn htm u56 u57 u58 u59 tv0 kp2 LG hll hLG u60 u61 u62 u63 u64 hq1 hq2 hq3 hq4 u65 u66 Dp wp kp3 u67 u68 u69 D u70 u71 u72 hn1 hn2 hpl1 hpl2 u73 u74 Dl wl kl2 hwl hDl u75 u76 tk h' tk' g9 hbk Ds wst kd kp4 F' N1
    exact hP.un
end
section
local macro_rules | `(tactic| walk_at "compareOp NotEq ref ref") => `(tactic| (refine stop_here ?_))
local macro_rules | `(tactic| walk_at "compareOp Eq ref ref") => `(tactic| (refine stop_here ?_))
local macro_rules | `(tactic| walk_at "pyIter ref") => `(tactic| (refine stop_here ?_))
theorem st10 : st9.1 := by
  w_top on
  w_on
  intro w s₀ s₁ mg mb fa o pm cd doc hg ns wa wb sc vs wc h1 tk1 o4 o3 o2 o1 d4 d3 d2 d1 hn63 G0 XA TA KA codeHd LL l0 qk ek lS hA1 l1 _ _ a b ta tb kS ha hb hS o1' dS hT tkT oT _ _ size _ _ _ _ _ _ _ _ _ _ _ _ p1 p2 hp1 hp2 hp12 tp dQ wh tw hs36 hSp2 _ _ _ ys _ cs hcl hcr hcm _ _ hword _ _ _ hcl6 _ _ way1 tt1 _ _ _ way2 tt2 _ _ _ _ _ way3 tt3 _ _ _ _ ttx _ _ xL dxL pbL stL dsL rdL ccL ceL lfL k1 k2 k3 k4 tl twL nL kp kl yl ods ost ord occ ocell ps hod hcls hdict hfd hread hlts _ _ dx5 _ _ _ _ _ _ hcR hcs0 _ _ _ ys9 kD tl9 ln9 n9 kl9 yl9 _ _ _ hcs3 tn dT hts htn htm _ _ _ _ tv0 kp2 LG hll hLG _ _ _ _ _ hq1 hq2 hq3 hq4 _ _ Dp wp kp3 _ _ _ D _ _ _ hn1 hn2 hpl1 hpl2 _ _ Dl wl kl2 hwl hDl _ _ tk h' tk' g9 hbk Ds wst kd kp4 F' N1
  k_fill

  unfold Stop
  refine' Ct.use (steps_ct _ _ _ _ _ xL dxL pbL stL k1 k2 k3 k4 _ twL _ _ _ p1 p2 LG _ _ hn1 hn2 (by rw [hLG]; exact nodot_pair hp1 hp2 (led_mem hcr tn)) (by lia  ) (by lia  ) (neN (by lia  )) (neN (by lia  )) (neN (by lia  )) ?hpb) ?B ?F ?X ?N ?T ?K ?d ?u ?_
  case B => exact KA
  case F => k_asm
  case X => k_asm
  case N => k_asm
  case T => k_asm
  case K => first | exact rfl | assumption
  case d => first | decide +kernel | lia  
  case u => first | decide +kernel | lia  

  case hpb => exact pb_ne2 l0 hDl hlts
  rintro v' n' h' tk' g9 ⟨rfl, Ds, wst, kd, kp5, rfl, hws, rfl⟩ F' N'
  rw [hLG, hpl2] at hws
  have hlen := laps_len cs
  clear N1
  dsimp only
  k_steps
  unfold Stop
  rename Fr _ _ _ _ => F1
  rename News _ _ _ _ => N1
  revert F1 N1
  repeat (rename Fr _ _ _ _ => Fz; clear Fz)
  repeat (rename News _ _ _ _ => Nz; clear Nz)
  intro F1 N1
  rename IntsAre wl _ => hwl
  rename IntsAre wst _ => hws
  refine' citer_list (fun _ _ => true) (fun i ys news' g => BkE _ _ (IntsAre ys (((lapsF cs).take i).map fun s => ((s * 2 ^ tn : Nat) : Int))) news' g) rfl F1 N1 (by k_mem) (by rw [hwl.length, List.length_map]; lia  ) (.mk .nil) (fun _ _ _ _ _ _ h => absurd h (by decide)) ?tests ?elt ?done
  case tests => intro C D I i v ys news₁ h tk g own mC _ _ _ _ _ _ _ F N _ _ E'; exact wpAny_pure ⟨rfl, _, _, rfl, F, N⟩
  case elt =>
    rintro C D I2 j v ys news₂ h tk g own2 mC hC hD hI2 hv _ ⟨hJ⟩ hoff2 hown2 F N hn hmC E'
    obtain ⟨z, tz, rfl, hz⟩ := ints_item hwl hv
    obtain ⟨s9, hs9, rfl⟩ := laps_get hz
    have cE := InElt.start h
    clear F1 N1
    dsimp only
    k_steps
    rw [pow_nat]
    have hmo : IntMulOk (Int.ofNat s9) ((2 ^ tn : Nat) : Int) := mul_ok htn
    k_steps
    exact ⟨_, _, _, _, rfl, by k_asm, by k_asm, hoff2, .mk (laps_next hs9 hJ (by simp) _)⟩
  case done =>
    rintro D h' tk g news' ys kd hD F N hoff2 ⟨hJ⟩
    have hwll : wl.length = (lapsF cs).length := by rw [hwl.length, List.length_map]
    rw [hwll, List.take_length, ← laps_twice] at hJ
    clear F1 N1
    (try dsimp only)
    k_steps
    unfold Stop
    refine ke_eq_ints (isList_of N (by k_mem)) (isList_of N (.head _)) hws hJ (Nat.le_of_ble_eq_true rfl) ?_
    rw [decide_eq_true rfl]

    exact ⟨rfl, F.keep, rfl, hbk (by rw [hg]; exact AllBare.empty), GrownAt.of N (by k_mem), trivial⟩
end
theorem law_1 : PySem.Challenge.rw_re0036_02.Holds := st0.2 ⟨st1.2 ⟨st2.2 ⟨st3.2 ⟨st4.2 ⟨st5.2 ⟨st6.2 ⟨st7.2 ⟨st8.2 ⟨st9.2 ⟨st10⟩⟩⟩⟩⟩⟩⟩⟩⟩⟩
end
end
end Mine
end
theorem PySem.Challenge.cw_re0036_02_holds : PySem.Challenge.rw_re0036_02.Holds := by
  exact Mine.law_1
